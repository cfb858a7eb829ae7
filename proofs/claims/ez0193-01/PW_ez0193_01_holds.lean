import PyProof.Rows.All
import Wide.All
import OpenK.AllK
import Wide.FinOn
import Lean
import PySem.Challenge.RW_ez0193_01
set_option Elab.async false
section H1
open PySem PySem.W PyProof.Rows PySem.Calls PySem.Spec
set_option maxRecDepth 100000
set_option maxHeartbeats 8000000
namespace Mine
abbrev Γ₀ : PySem.Ctx := ⟨.builtin "claim.caller" {}, none, none, [], none⟩
abbrev WalkG (q : Program) (loose : List Str) (XP : (Str → Option Value) → Heap → Prop) (YP : World → Heap → Prop) (r : RowW) (d : DefRec) (kwd : List (Str × Expr)) (run : Value → List Value → Sem Value) : Prop :=
  ∀ (w : World) (s₀ s₁ : Shared) (mg mb : Str → Option Value), Ground q loose r.records XP w s₀ mg mb s₁.heap → YP w s₁.heap → ∀ (a : Addr) (o : Obj) (pm cd doc dV kV : Value), s₁.heap.get? a = some o →
    o.data = .func { docDef d.name d.params d.body d.scope pm cd doc with defaults := dV, kwdefaults := kV } → s₁.heap.CodeRec cd d.name → Dflts mg s₁.heap d.params kwd dV kV → mg d.name = some (.ref a) → s₁.gens = #[] →
    ∀ (args : List WData) (vals : List Value) (as : List Addr), r.claim.pre args = true → WData.layableAll args = true → ReadsAllW r.records (classAt s₀.heap) s₁.heap vals args as → WellAll w.params s₁.heap vals args → (∀ a ∈ as, (a == sysModules) = false) →
      ∀ p, Sem.wp (model r.prog w) Γ₀ (run (.ref a) vals) (fun v _ s' => GoodWG r.claim (classAt s₀.heap) (ExcName.means s₀.heap) args s₁ (.ok (.ret v)) s')
        (fun e _ s' => GoodWG r.claim (classAt s₀.heap) (ExcName.means s₀.heap) args s₁ (.error e) s') p s₁

theorem caller_ends {prog : Program} {w : World} {t : Sem Fin} {s : Shared} {R : Result → Shared → Prop} (hreg : s.asleep)
    (h : Sem.wp (model prog w) Γ₀ t (fun fin _ s' => ∃ f, fin = .done f ∧ R (.ok f) s' ∧ AllBare s'.gens) (fun e _ s' => R (.error e) s' ∧ AllBare s'.gens) default s) :
    ∃ n r s' s'', runN (denote table) prog w n s ⟨t, .builtin "claim.caller" {}, default, []⟩ = .halted (outcomeOf r) s' ∧
      schedN (denote table) prog w n (.single s ⟨t, .builtin "claim.caller" {}, default, []⟩) = .halted (outcomeOf r) s' ∧ s'.forget = s''.forget ∧ R r s'' := by
  have h2 : Sem.wp (model prog w) Γ₀ t (Sem.finPost (model prog w) Γ₀ fun r s' => R r s' ∧ leftWithCleanup s'.gens = false) (fun e _ s' => R (.error e) s' ∧ leftWithCleanup s'.gens = false) default s := by
    refine Sem.wp_mono _ _ _ ?_ ?_ _ _ h
    · rintro fin p' s' ⟨f, rfl, h1, h2⟩
      exact ⟨h1, leftWithCleanup_false_of_bare h2⟩
    · rintro e p' s' ⟨h1, h2⟩
      exact ⟨h1, leftWithCleanup_false_of_bare h2⟩
  obtain ⟨n, r, s₁, s₂, hs, hn, hfo, hR⟩ := wp_halts_full (M := model prog w) (R := R) hreg h2
  exact ⟨n, r, s₂, s₁, hn, hs, hfo, hR⟩

theorem from_caller {c : ClaimW} {tree : List Value → Sem Fin} {w : World} {s : Shared} {free : Addr → Prop} {gens : Prop} {kept : Heap → Prop} (hz : s.asleep) (hgens : s.gens = #[])
    (hspec : ∀ args, c.pre args = true → WData.layableAll args = true → ∀ ord : List DictEntry → List DictEntry, (∀ l, (ord l).Perm l) →
      ∃ vs s₁, layAllW c.records (classAt s.heap) w.params ord args s = some (vs, s₁) ∧
        Sem.wp (model c.prog w) Γ₀ (tree vs) (fun fin _ s' => ∃ f, fin = .done f ∧ (c.Ends s args vs s₁ (.ok f) s' ∧ s'.os = s.os ∧ kept s'.heap) ∧ AllBare s'.gens)
          (fun e _ s' => (c.Ends s args vs s₁ (.error e) s' ∧ s'.os = s.os ∧ kept s'.heap) ∧ AllBare s'.gens) default s₁) :
    c.CallFrom (fun vs => ⟨tree vs, .builtin "claim.caller" {}, default, []⟩) w free gens kept s := by
  intro args hpre hlay ord hord
  obtain ⟨vs, s₁, hlaid, hcode⟩ := hspec args hpre hlay ord hord
  have hal := layAllW_rest _ _ _ hlaid
  obtain ⟨k, r, s', s'', hrun, hsched, hfo, hcase, hos, hkp⟩ := caller_ends (R := fun r s' => c.Ends s args vs s₁ r s' ∧ s'.os = s.os ∧ kept s'.heap) (Shared.asleep_of_life hal.2.2.2 hz) hcode
  obtain ⟨eh, _, _, eo, _⟩ := Shared.forget_eq hfo
  have hcase := hcase.congr eh
  rw [← eh] at hkp
  rw [← eo] at hos
  have hlife : s'.heap.life = s.heap.life := (runN_life _ _ _ hrun).trans hal.2.2.2
  refine ⟨vs, s₁, hlaid, k, _, s', hsched, ?_, (fun _ i x hx => by rw [hgens] at hx; simp at hx), hkp, by rw [hlife], Shared.rest_eq hos⟩
  rcases hcase with ⟨v, rfl, d1, d2, d3, d4, d5⟩ | ⟨e, ob, cls, rfl, d1, d2, d3, d4, d5⟩
  · exact .inl ⟨v, rfl, d1, d2, d3, fun b o y _ => d4 b o y, d5⟩
  · exact .inr ⟨e, ob, cls, rfl, d1, d2, d3, d4, fun b o y _ => d5 b o y⟩

theorem PySem.W.holds_open {r : OpenRow} {q : Program} {loose : List Str} {Xt : Shared → Bool} {XP : (Str → Option Value) → Heap → Prop} {α : Type} {Yf : Shared → α} {Ya : World → α} {YP : World → Heap → Prop} {d : DefRec} {kwd : List (Str × Expr)} {N : Nat}
    (left : LeftO r.prog q loose Xt Yf Ya N) (hY : ∀ w s, Yf s = Ya w → YP w s.heap) (hYk : ∀ w h h', YP w h → (∀ b o, h.get? b = some o → h'.get? b = some o) → YP w h')
    (hX : ∀ s, Xt s = true → XP (s.heap.nsMap mainGlobals) s.heap) (hXk : ∀ mg h h', XP mg h → (∀ b o, h.get? b = some o → h'.get? b = some o) → XP mg h')
    (hdef : defOf q r.name = some (d, kwd)) (hp : r.prog.theDef r.name = some (d.params, d.body, d.scope)) (hk : kwWritten? d.params.kwonlyargs d.params.kw_defaults = some kwd) (hRf : ∀ s, Xt s = true → RecFacts r.records s.heap) (hwr : (!r.writes || r.records.isEmpty) = true)
    (k1 : r.wellSaid = true) (ok : (chainsOk q && opensWell r.prog && (frees r.toRowW && r.within.isEmpty)) = true) (hb : r.prog.bare) (hw : r.toRowW.promised)
    (call : WalkG q loose XP YP r.toRowW d kwd fun f vs => PySem.call f vs) : r.Holds := by
  obtain ⟨ok, k5⟩ := Bool.and_eq_true_iff.mp ok
  obtain ⟨hch, o1⟩ := Bool.and_eq_true_iff.mp ok
  obtain ⟨k5, k6⟩ := Bool.and_eq_true_iff.mp k5
  obtain ⟨hsame, hu, ha, hap, hm⟩ := frees_parts k5
  refine ⟨k1, hw, ⟨hb, o1, by show r.makers.map _ = []; rw [hm]; rfl⟩, hw.witness, fun w => ⟨(left.behind hX hch w).1, fun s' hs' => ?_⟩⟩
  obtain ⟨s₀, hf, hg0, s, hT, hz, hgens, hg, G00, y⟩ := (left.behind (XP := fun mg h => XP mg h ∧ RecFacts r.records h) (fun s hs => ⟨hX s hs, hRf s hs⟩) hch w).2 s' hs'
  have G0 : Ground q loose [] XP w s (s.heap.nsMap mainGlobals) (s.heap.nsMap builtinsNs) s.heap := ⟨G00.T, G00.B, G00.D, G00.TE, G00.TD, G00.W, G00.X.1, G00.cls, G00.has, G00.apart, G00.once, G00.K⟩
  have RF := G00.X.2
  have hT' := hT
  refine ⟨s₀, hf, hg0, s, hT, ?_, RF.1, RF.2.1, ?_⟩
  · intro n hn
    obtain rfl : n = r.name := by split at hn <;> simp_all
    exact pinned_of_view hg G0 hdef hp hk
  have hgens : s.gens = #[] := Array.eq_empty_of_size_eq_zero (beq_iff_eq.mp hgens)
  have G : Ground q loose r.records XP w s _ _ s.heap := RF.ground G0
  refine from_caller (c := r.claim) hz hgens fun args hpre hlay ord hord => ?_
  obtain ⟨⟨vs, s₁⟩, hlaid⟩ := Option.isSome_iff_exists.mp (layAllW_isSome (P := w.params) (ord := ord) G.has args r.args s (pre_splitW hpre).1)
  have keeps := layAllW_keeps _ _ _ hlaid
  have hal := layAllW_rest _ _ _ hlaid
  obtain ⟨as, hrd, hin, hold⟩ := reads_layAllW hord _ _ _ hlaid hlay s₁.heap (fun _ _ e => e)
  have L : Laid r.records w s s₁ args vs as := ⟨⟨ord, hord, hlaid⟩, hrd, hin, hold, keeps, hal.1.trans hgens, hal.2.2.1⟩
  have G₁ := G.keeps hXk keeps
  obtain ⟨a, o, pm, cd, doc, dV, kV, h1, h2, h3, h4, h5⟩ := G₁.fn hdef
  have hnm : d.name = r.name := defOf_name hdef
  have hi := ident_freeW hu ha hap
  have hwi : r.claim.within = [] := List.isEmpty_iff.mp k6
  refine ⟨vs, s₁, hlaid, ?_⟩
  have hwalk := call w s s₁ _ _ G₁ (hYk _ _ _ (hY w s y) keeps) a o pm cd doc dV kV h2 h3 h4 h5 (hnm ▸ h1) L.gens args vs as hpre hlay L.reads L.well (L.low G.low)
  have hget : Sem.wp (model r.prog w) Γ₀ (nsGet mainNs r.name) (fun v _ s' => v = some (Value.ref a) ∧ s' = s₁) (fun _ _ _ => False) default s₁ :=
    wpAny_nsGet (M := model r.prog w) (A := callerA) (Q := fun v s' => v = some (Value.ref a) ∧ s' = s₁) G₁.T.g (by rw [h1]; exact ⟨rfl, rfl⟩) Γ₀ default caller_in
  show Sem.wp _ Γ₀ (nsGet mainNs r.name >>= fun x => match x with | some f => do ret (← PySem.call f vs) | none => unsupported "claim.caller:no-such-global") _ _ _ _
  rw [Sem.wp_bind']
  refine Sem.wp_mono _ _ _ (fun v p' s' h' => ?_) (fun _ _ _ h' => h'.elim) _ _ hget
  obtain ⟨rfl, rfl⟩ := h'
  show Sem.wp _ Γ₀ (PySem.call (.ref a) vs >>= fun v => ret v) _ _ _ _
  rw [Sem.wp_bind']
  refine Sem.wp_mono _ _ _ (fun v p' s' g => ?_) (fun e p' s' g => ?_) _ _ (hwalk p')
  · have z := g.laid (c := r.claim) hsame hwi hi L
    show ∃ f, Fin.done (Flow.ret v) = .done f ∧ _
    exact ⟨_, rfl, ⟨z.1, z.2.1, fun q => ⟨namesKept_of hT' hg _ keeps g.2.1.old, noTable hwr q⟩⟩, z.2.2⟩
  · have z := g.laid (c := r.claim) hsame hwi hi L
    exact ⟨⟨z.1, z.2.1, fun q => ⟨namesKept_of hT' hg _ keeps g.2.1.old, noTable hwr q⟩⟩, z.2.2⟩
end Mine
end H1
section HdK
open PySem PySem.W PyProof.Rows
set_option maxRecDepth 100000
set_option maxHeartbeats 8000000
namespace Mine
local macro_rules | `(tactic| o_head ($f:ident $k $a $e)) => `(tactic| o_head (kmHook $k $a $e [671, 647, 255]))
open_top hd for PySem.Challenge.rw_ez0193_01
end Mine
end HdK
section PL2
set_option maxRecDepth 100000
set_option maxHeartbeats 8000000
namespace Mine
def usedOf (cs : List Nat) : Nat := cs.foldl (fun a c => max a (c + 1)) 0
def freeOf (adj : Nat → Nat → Bool) (most : Nat) (cs : List Nat) (here : Nat) : List Nat :=
  (List.range' here (min most (usedOf cs + 1) - here)).filter fun c => !((List.range cs.length).any fun k => adj cs.length k && cs[k]! == c)
def fitsRun (n : Nat) (adj : Nat → Nat → Bool) (most : Nat) : Nat → List Nat → Nat → Option Bool
  | 0, _, _ => none
  | f + 1, cs, here => if cs.length < n then
      match freeOf adj most cs here with
      | c :: _ => fitsRun n adj most f (cs ++ [c]) 0
      | [] => if cs = [] then some false else fitsRun n adj most f cs.dropLast (cs.getLastD 0 + 1)
    else some true
def mycB (n : Nat) (adj : Nat → Nat → Bool) (i k : Nat) : Bool :=
  if i < n then (if k < n then adj i k else (decide (k < 2 * n) && adj i (k - n)))
  else if i < 2 * n then (if k < n then adj (i - n) k else k == 2 * n)
  else (i == 2 * n && decide (n ≤ k) && decide (k < 2 * n))
def adj6 (n : Nat) (b01 b02 b12 b03 b13 b23 : Bool) (i k : Nat) : Bool :=
  decide (i < n) && decide (k < n) && (match min i k, max i k with
    | 0, 1 => b01
    | 0, 2 => b02
    | 1, 2 => b12
    | 0, 3 => b03
    | 1, 3 => b13
    | 2, 3 => b23
    | _, _ => false)
def degs (n : Nat) (adj : Nat → Nat → Bool) : Nat := ((List.range n).map fun i => (List.range n).countP (adj i)).sum
def threes (n : Nat) (adj : Nat → Nat → Bool) : Nat :=
  ((List.range n).map fun a => ((List.range n).map fun b => if adj a b && decide (a < b) then (List.range n).countP fun c => adj b c && (decide (b < c) && adj a c) else 0).sum).sum
def leastOf (n : Nat) (adj : Nat → Nat → Bool) (fuel : Nat) : Option Nat := (List.range (n + 1)).find? fun m => fitsRun n adj m fuel [] 0 == some true
end Mine
end PL2
section B0
open PySem PySem.W PyProof.Rows PySem.Calls PySem.Spec
set_option maxRecDepth 100000
set_option maxHeartbeats 8000000
namespace Mine

noncomputable abbrev KH (w : World) : Frag := hd.heap_39 w.params

def Ext (F : List Nat) (h h' : Heap) : Prop := ∀ b o, b ∉ F → h.get? b = some o → h'.get? b = some o
theorem Ext.refl (h : Heap) : Ext [] h h := fun _ _ _ e => e
theorem Ext.of_keep {h h' : Heap} (k : ∀ b o, h.get? b = some o → h'.get? b = some o) (F : List Nat) : Ext F h h' := fun b o _ e => k b o e
theorem Ext.keep {h h' : Heap} (x : Ext [] h h') : ∀ b o, h.get? b = some o → h'.get? b = some o := fun b o e => x b o (by simp) e
theorem Ext.of_same {a : Addr} {h h' : Heap} (x : Heap.SameBut a h h') : Ext [a] h h' := fun b o n e => (x.2 b (by simpa using n)).trans e
theorem Ext.of_extBut {a : Addr} {h h' : Heap} (x : Heap.ExtBut a h h') : Ext [a] h h' := fun b o n e => x b o (by simpa using n) e
theorem Ext.push (h : Heap) (o : Obj) : Ext [] h (h.push o) := fun _ _ _ e => Heap.get?_push_of_some o e
theorem Ext.trans {F F' : List Nat} {h h' h'' : Heap} (x : Ext F h h') (y : Ext F' h' h'') : Ext (F ++ F') h h'' := fun b o n e =>
  y b o (fun q => n (List.mem_append_right _ q)) (x b o (fun q => n (List.mem_append_left _ q)) e)
theorem Ext.mono {F F' : List Nat} {h h' : Heap} (x : Ext F h h') (s : ∀ a ∈ F, a ∈ F') : Ext F' h h' := fun b o n e => x b o (fun q => n (s b q)) e
theorem Ext.app {F : List Nat} {h h' h'' : Heap} (x : Ext F h h') (y : Ext F h' h'') : Ext F h h'' := fun b o n e => y b o n (x b o n e)

theorem get?_size (h : Heap) : h.get? h.objs.size = none := by
  cases e : h.get? h.objs.size with
  | none => rfl
  | some o => exact absurd (Heap.lt_size e) (Nat.lt_irrefl _)
def pools : List Nat := [671, 647, 255]
structure Gl (w : World) (h : Heap) : Prop where
  X : (KH w).In h
  b : ∃ mb, h.Ns builtinsNs mb ∧ ∀ x : Str, x ≠ "__name__" → mb x = bootBuiltins x
  lim : h.NoLimit
  pool : ∀ P ∈ pools, ∃ ps, h.get? P = some (tabObj ps) ∧ TriplesOk ps.toList
  mod : ∃ mg ob, BMod h mainGlobals mg 4 ob

theorem low_K (w : World) : ∀ a o, (KH w).lookup a = some o → a < 709 := by
  have e : ((KH w).all fun p => Nat.blt p.1 709) = true := by kernel_rfl
  intro a o h
  have hm : (a, o) ∈ KH w := by
    have : ∀ (l : List (Addr × Obj)), l.lookup a = some o → (a, o) ∈ l := by
      intro l
      induction l with
      | nil => intro h; cases h
      | cons p r ih =>
        obtain ⟨b, x⟩ := p
        intro h
        simp only [List.lookup] at h
        split at h
        · rename_i q
          cases h
          rw [beq_iff_eq.mp q]
          exact .head _
        · exact .tail _ (ih h)
    exact this _ h
  have := List.all_eq_true.mp e _ hm
  exact Nat.le_of_ble_eq_true this
theorem Gl.big {w : World} {h : Heap} (G : Gl w h) : 709 ≤ h.objs.size := by
  have : ((KH w).lookup 708).isSome = true := by kernel_rfl
  obtain ⟨o, ho⟩ := Option.isSome_iff_exists.mp this
  exact Heap.lt_size (G.X _ _ ho)
theorem Gl.ext {w : World} {h h' : Heap} {F : List Nat} (G : Gl w h) (x : Ext F h h') (hF : ∀ a ∈ F, (709 : Nat) ≤ a) : Gl w h' := by
  have off : ∀ b, b < 709 → b ∉ F := fun b hb q => absurd (hF b q) (Nat.not_le_of_lt hb)
  refine ⟨fun a o e => x a o (off a (low_K w a o e)) (G.X a o e), ?_, ?_, ?_, ?_⟩
  · obtain ⟨mb, ⟨o, es, ep, ho, r⟩, q⟩ := G.b
    exact ⟨mb, ⟨o, es, ep, x _ _ (off _ (by decide)) ho, r⟩, q⟩
  · obtain ⟨mc, ⟨o, es, ep, ho, r⟩, q⟩ := G.lim
    exact ⟨mc, ⟨o, es, ep, x _ _ (off _ (by decide)) ho, r⟩, q⟩
  · intro P hP
    obtain ⟨ps, h1, h2⟩ := G.pool P hP
    refine ⟨ps, x _ _ (off _ ?_) h1, h2⟩
    simp only [pools, List.mem_cons, List.not_mem_nil, or_false] at hP
    rcases hP with rfl | rfl | rfl <;> decide
  · obtain ⟨mg, ob, ⟨⟨o, es, ep, ho, r⟩, q2, q3, q4, q5, q6, q7⟩⟩ := G.mod
    exact ⟨mg, ob, ⟨⟨o, es, ep, x _ _ (off _ (by decide)) ho, r⟩, q2, q3, x _ _ (off _ (by decide)) q4, q5, q6, q7⟩⟩
theorem Gl.keep {w : World} {h h' : Heap} (G : Gl w h) (k : ∀ b o, h.get? b = some o → h'.get? b = some o) : Gl w h' := G.ext (Ext.of_keep k []) (fun _ h => nomatch h)

theorem Gl.tab {w : World} {h h' : Heap} {P : Nat} {ps : Array Value} (G : Gl w h) (x : Ext [P] h h') (hP : P ∈ pools) (e : h'.get? P = some (tabObj ps)) (t : TriplesOk ps.toList) : Gl w h' := by
  have off : ∀ b, b ≠ P → b ∉ ([P] : List Nat) := fun b n q => n (List.mem_singleton.mp q)
  have hK : (KH w).lookup P = none := by
    simp only [pools, List.mem_cons, List.not_mem_nil, or_false] at hP
    rcases hP with rfl | rfl | rfl <;> rfl
  have hPs : builtinsNs ≠ P ∧ cStatics ≠ P ∧ mainGlobals ≠ P ∧ (4 : Nat) ≠ P := by
    simp only [pools, List.mem_cons, List.not_mem_nil, or_false] at hP
    rcases hP with rfl | rfl | rfl <;> decide
  refine ⟨fun a o q => x a o (off a fun r => by rw [r, hK] at q; cases q) (G.X a o q), ?_, ?_, fun P' hP' => ?_, ?_⟩
  · obtain ⟨mb, ⟨o, es, ep, ho, r⟩, q⟩ := G.b
    exact ⟨mb, ⟨o, es, ep, x _ _ (off _ hPs.1) ho, r⟩, q⟩
  · obtain ⟨mc, ⟨o, es, ep, ho, r⟩, q⟩ := G.lim
    exact ⟨mc, ⟨o, es, ep, x _ _ (off _ hPs.2.1) ho, r⟩, q⟩
  · by_cases q : P' = P
    · exact ⟨ps, q ▸ e, t⟩
    · obtain ⟨ps', h1, h2⟩ := G.pool P' hP'
      exact ⟨ps', x _ _ (off _ q) h1, h2⟩
  · obtain ⟨mg, ob, ⟨⟨o, es, ep, ho, r⟩, q2, q3, q4, q5, q6, q7⟩⟩ := G.mod
    exact ⟨mg, ob, ⟨⟨o, es, ep, x _ _ (off _ hPs.2.2.1) ho, r⟩, q2, q3, x _ _ (off _ hPs.2.2.2) q4, q5, q6, q7⟩⟩

structure Fv (hot : List Nat) (H h : Heap) : Prop where
  keep : ∀ b o, H.get? b = some o → h.get? b = some o
  off : ∀ a ∈ hot, H.get? a = none
def hides (h : Heap) (l : List Nat) : Heap := hideAll h l
section
variable {hot : List Nat} {H h h' : Heap} {a : Nat}
theorem Fv.same (F : Fv hot H h) (hs : Heap.SameBut a h h') (ha : a ∈ hot) : Fv hot H h' :=
  ⟨fun b o e => hs.extBut b o (fun q => by subst q; rw [F.off _ ha] at e; cases e) (F.keep b o e), F.off⟩
theorem Fv.kept (F : Fv hot H h) (k : ∀ b o, h.get? b = some o → h'.get? b = some o) : Fv hot H h' := ⟨fun b o e => k b o (F.keep b o e), F.off⟩
theorem Fv.now (hot : List Nat) (h : Heap) : Fv hot (hides h hot) h := ⟨fun _ _ e => of_hideAll hot e, fun _ ha => hideAll_none hot ha⟩
theorem Fv.up (F : Fv hot H h) {Fs : List Nat} (e : Ext Fs h h') : Ext Fs H (hides h' hot) := fun b o n q =>
  hideAll_get hot (e b o n (F.keep b o q)) fun m => by rw [F.off b m] at q; cases q
theorem Fv.up' (F : Fv hot H h) (k : ∀ b o, h.get? b = some o → h'.get? b = some o) : ∀ b o, H.get? b = some o → (hides h' hot).get? b = some o := fun b o q =>
  hideAll_get hot (k b o (F.keep b o q)) fun m => by rw [F.off b m] at q; cases q
theorem hides_get {o : Obj} (e : h.get? a = some o) (n : a ∉ hot) : (hides h hot).get? a = some o := hideAll_get hot e n
end
section
variable {prog : Program} {w : World} {A : Around} {E : Value → Shared → Prop} {s : Shared} {env : Env} {m : Str → Option Value} {x : Str} {pos : Pos} {v : Value} {Q : Value → Shared → Prop}

theorem nmL {M : Model} (hn : s.heap.Ns env.locals m) (hl : env.kindOf x = some .local) (hv : m x = some v) (h : Q v s) (hk : env.scope.kind = .function := by rfl) (hd : (x == ("__debug__" : Str)) = false := by kernel_rfl) :
    wpAny M A (eval (.Name x pos) env) Q E s := wpAny_Name (wpAny_loadName_local hk hl hn hv h) hd
theorem stL {M : Model} {Q : Unit → Shared → Prop} (hn : s.heap.Ns env.locals m) (hl : env.kindOf x = some .local)
    (h : ∀ h', h'.Ns env.locals (fun y => if y = x then some v else m y) → Heap.SameBut env.locals s.heap h' → Q () { s with heap := h', toks := s.toks + 1 })
    (hp : (env.scope.kind == .class || (env.scope.kind == .module && env.locals != env.globals)) = false := by rfl) : wpAny M A (storeName env x v) Q E s := wpAny_storeName_local hl hn h hp
theorem nmG {M : Model} (G : Gl w s.heap) (e : nsIn (KH w) mainGlobals x = some (some v)) (hl : env.kindOf x = some .globalImplicit) (h : Q v s) (hk : env.scope.kind = .function := by rfl) (hg : env.globals = mainGlobals := by rfl)
    (hd : (x == ("__debug__" : Str)) = false := by kernel_rfl) : wpAny M A (eval (.Name x pos) env) Q E s := by
  refine wpAny_Name ?_ hd
  unfold loadName
  simp only [Env.blockKind, hk, hl, ScopeKind.isAnnotationScope, Bool.false_and, Bool.false_eq_true, if_false]
  unfold loadGlobal
  rw [hg]
  exact wpAny_bind ((looks_nsIn G.X e).here (wpAny_pure h))
theorem nmB {M : Model} (G : Gl w s.heap) (e : nsIn (KH w) mainGlobals x = some none) (hl : env.kindOf x = some .globalImplicit) (hv : bootBuiltins x = some v) (hn : x ≠ "__name__") (h : Q v s) (hk : env.scope.kind = .function := by rfl)
    (hg : env.globals = mainGlobals := by rfl) (hb : env.builtins = builtinsNs := by rfl) (hd : (x == ("__debug__" : Str)) = false := by kernel_rfl) : wpAny M A (eval (.Name x pos) env) Q E s := by
  refine wpAny_Name ?_ hd
  unfold loadName
  simp only [Env.blockKind, hk, hl, ScopeKind.isAnnotationScope, Bool.false_and, Bool.false_eq_true, if_false]
  unfold loadGlobal
  rw [hg, hb]
  obtain ⟨mb, hmb, hq⟩ := G.b
  exact wpAny_bind ((looks_nsIn G.X e).here (wpAny_bind (wpAny_nsGet hmb (by rw [hq x hn, hv]; exact wpAny_pure h))))
theorem nmC {M : Model} {c : Addr} (hc : s.heap.IsCell c (some v)) (hl : env.kindOf x = some .cell) (hcl : env.cells.lookup x = some c) (h : Q v s) (hk : env.scope.kind = .function := by rfl)
    (hd : (x == ("__debug__" : Str)) = false := by kernel_rfl) : wpAny M A (eval (.Name x pos) env) Q E s := wpAny_Name (wpAny_loadName_cell hk hl hcl hc h) hd
theorem nmF {M : Model} {c : Addr} (hc : s.heap.IsCell c (some v)) (hl : env.kindOf x = some .free) (hcl : env.cells.lookup x = some c) (hx : (x == ("__classdict__" : Str)) = false) (h : Q v s) (hk : env.scope.kind = .function := by rfl)
    (hd : (x == ("__debug__" : Str)) = false := by kernel_rfl) : wpAny M A (eval (.Name x pos) env) Q E s := wpAny_Name (wpAny_loadName_free hk hl hcl hc h hx) hd
theorem stC {M : Model} {Q : Unit → Shared → Prop} {c : Addr} {v₀ : Option Value} (hc : s.heap.IsCell c v₀) (hl : env.kindOf x = some .cell) (hcl : env.cells.lookup x = some c)
    (h : ∀ h', h'.IsCell c (some v) → Heap.SameBut c s.heap h' → Q () { s with heap := h' }) (hk : env.scope.kind = .function := by rfl) : wpAny M A (storeName env x v) Q E s := wpAny_storeName_cell hk hl hcl hc h

theorem enter {f : Addr} {args : List Value} {kw : List (Str × Value)} {name qual : Str} {params : Arguments} {body : List Stmt} {scope : Scope} {dV kV doc pm cdv ct oc : Value} {an od : Option Addr} {osl : Array (Option Value)} {binds : List (Str × Value)}
    (G : Gl w s.heap) (hroom : A.depth < recursionLimit) (ho : (KH w).lookup f = some ⟨oc, od, .func (fnOf name qual params body scope dV kV doc pm an cdv ct), osl⟩) (hcd : codeIn (KH w) cdv qual = true)
    (hb : peek (KH w) ⟨prog, w.params⟩ (bindArgs (fnOf name qual params body scope dV kV doc pm an cdv ct) ⟨args, kw⟩) = some binds)
    (hcell : (scope.names.all fun y => match y.2 with | .cell => false | _ => true) = true) (hloc : (binds.all fun y => match scope.names.lookup y.1 with | some .local => true | _ => false) = true)
    (hfl : (scope.isCoroutine, scope.isGenerator) = (false, false)) (hk : scope.kind = .function)
    (h : ∀ L h₁, Fv [L] s.heap h₁ → h₁.Ns L (fun y => binds.reverse.lookup y) →
      wpAny (model prog w) (A.deeper (envX qual scope L f cdv [])) (execs body (envX qual scope L f cdv [])) (fun fl s' => Q (match fl with | .ret v => v | _ => .none) s') (fun _ _ => False) { s with heap := h₁, toks := s.toks + binds.length }) :
    wpAny (model prog w) A (call (.ref f) args kw) Q E s := by
  injection hfl with hco hgen
  have hcell' : ∀ y ∈ scope.names, y.2 ≠ .cell := fun y hy e => by
    have := List.all_eq_true.mp hcell y hy
    rw [e] at this; cases this
  have hloc' : ∀ y ∈ binds, scope.names.lookup y.1 = some .local := fun y hy => by
    have := List.all_eq_true.mp hloc y hy
    split at this
    · assumption
    · cases this
  refine wpAny_call (codeAny_call_function (fd := fnOf name qual params body scope dV kV doc pm an cdv ct) hroom (G.X _ _ ho) rfl hco hgen rfl (codeRec_of G.X hcd) ?_)
  refine (Looks.of_peek (M := model prog w) G.X hb).here ?_
  refine wpAny_newFunctionEnv hcell' hloc' (fun h₀ hns₀ hsb₀ => ⟨G.lim.fresh _ hsb₀, codeAny_func (wpAny_mono (h _ h₀ ⟨fun b o e => ?_, fun a ha => ?_⟩ hns₀) (fun _ _ x => x) fun _ _ x => x.elim)⟩) hk
  · exact hsb₀.extBut b o (Nat.ne_of_lt (Heap.lt_size e)) (Heap.get?_push_of_some _ e)
  · rw [List.mem_singleton.mp ha]; exact get?_size _

def peekB {α : Type} (K : Frag) (S : Setting) : Sem α → Addr → Option (Obj × α)
  | .rule _ k, d => peekB K S (k ()) d
  | .point _ k, d => peekB K S (k ()) d
  | .ask k, d => peekB K S (k S) d
  | .load a _ k, d => (match K.lookup a with
      | some o => peekB K S (k o) d
      | none => none)
  | .alloc o k, d => (peek K S (k d)).map fun x => (o, x)
  | _, _ => none
theorem wp_of_peekB {α : Type} {K : Frag} {M : Model} {A : Around} {Q : α → Shared → Prop} {E : Value → Shared → Prop} {s : Shared} (x : K.In s.heap) {o : Obj} {a : α} (q : Q a { s with heap := s.heap.push o }) :
    ∀ t : Sem α, peekB K ⟨M.prog, M.w.params⟩ t s.heap.objs.size = some (o, a) → wpAny M A t Q E s := by
  intro t
  induction t with
  | rule _ k ih => intro e; exact nd_rule (ih () e)
  | point _ k ih => intro e; exact nd_point (ih () e)
  | ask k ih => intro e; exact nd_ask (ih _ e)
  | load a _ k ih =>
    intro e
    simp only [peekB] at e
    split at e
    · rename_i o' ho; exact nd_load (x _ _ ho) (ih o' e)
    · cases e
  | alloc o' k ih =>
    intro e
    simp only [peekB] at e
    obtain ⟨a', h1, h2⟩ := Option.map_eq_some_iff.mp e
    cases h2
    exact nd_alloc ((Looks.of_peek (M := M) (h := s.heap.push o) (x.keeps fun _ _ e => Heap.get?_push_of_some _ e) h1).here q)
  | _ => intro e; cases e

theorem enterA {f : Addr} {args : List Value} {kw : List (Str × Value)} {name qual : Str} {params : Arguments} {body : List Stmt} {scope : Scope} {dV kV doc pm cdv ct oc : Value} {an od : Option Addr} {osl : Array (Option Value)} {binds : Addr → List (Str × Value)} {o : Obj}
    (G : Gl w s.heap) (hroom : A.depth < recursionLimit) (ho : (KH w).lookup f = some ⟨oc, od, .func (fnOf name qual params body scope dV kV doc pm an cdv ct), osl⟩) (hcd : codeIn (KH w) cdv qual = true)
    (hb : ∀ d, peekB (KH w) ⟨prog, w.params⟩ (bindArgs (fnOf name qual params body scope dV kV doc pm an cdv ct) ⟨args, kw⟩) d = some (o, binds d)) (hf : o.isFreed = false)
    (hcell : (scope.names.all fun y => match y.2 with | .cell => false | _ => true) = true) (hloc : ∀ d, ((binds d).all fun y => match scope.names.lookup y.1 with | some .local => true | _ => false) = true)
    (hfl : (scope.isCoroutine, scope.isGenerator) = (false, false)) (hk : scope.kind = .function)
    (h : ∀ d L H h₁ tk, Fv [L] H h₁ → h₁.Ns L (fun y => (binds d).reverse.lookup y) → (∀ b o, s.heap.get? b = some o → H.get? b = some o) → H.get? d = some o → s.heap.get? d = none ∧ 709 ≤ d →
      wpAny (model prog w) (A.deeper (envX qual scope L f cdv [])) (execs body (envX qual scope L f cdv [])) (fun fl s' => Q (match fl with | .ret v => v | _ => .none) s') (fun _ _ => False) { s with heap := h₁, toks := tk }) :
    wpAny (model prog w) A (call (.ref f) args kw) Q E s := by
  injection hfl with hco hgen
  have hcell' : ∀ y ∈ scope.names, y.2 ≠ .cell := fun y hy e => by
    have := List.all_eq_true.mp hcell y hy
    rw [e] at this; cases this
  have hloc' : ∀ d, ∀ y ∈ binds d, scope.names.lookup y.1 = some .local := fun d y hy => by
    have := List.all_eq_true.mp (hloc d) y hy
    split at this
    · assumption
    · cases this
  refine wpAny_call (codeAny_call_function (fd := fnOf name qual params body scope dV kV doc pm an cdv ct) hroom (G.X _ _ ho) rfl hco hgen rfl (codeRec_of G.X hcd) ?_)
  refine wp_of_peekB (M := model prog w) G.X ?_ _ (hb _)
  have G' : Gl w (s.heap.push o) := G.keep fun _ _ e => Heap.get?_push_of_some _ e
  refine wpAny_newFunctionEnv (s := { s with heap := s.heap.push o }) hcell' (hloc' _) (fun h₀ hns₀ hsb₀ => ⟨G'.lim.fresh _ hsb₀, codeAny_func (wpAny_mono (h _ _ (s.heap.push o) h₀ _ ⟨fun b o' e => ?_, fun a ha => ?_⟩ hns₀ (fun _ _ e => Heap.get?_push_of_some _ e) (Heap.get?_push_size _ hf) ⟨get?_size _, G.big⟩) (fun _ _ x => x) fun _ _ x => x.elim)⟩) hk
  · exact hsb₀.extBut _ _ (Nat.ne_of_lt (Heap.lt_size e)) (Heap.get?_push_of_some _ e)
  · rw [List.mem_singleton.mp ha]; exact get?_size _
end
end Mine
end B0
section G1
open PySem PySem.W PyProof.Rows PySem.Calls PySem.Spec
set_option maxRecDepth 100000
set_option maxHeartbeats 8000000
namespace Mine

structure Row where
  n : Int
  at_ : Nat
  b : Nat
  es : List (Int × Nat)
structure Gr where
  g : Nat
  gd : Nat
  nd : Nat
  ad : Nat
  gr : Nat
  more : List (Str × Value)
  vs : List Nat
  rows : List Row
def Gr.attrs (G : Gr) : List (Str × Value) := ("graph", .ref G.gr) :: ("_node", .ref G.nd) :: ("_adj", .ref G.ad) :: G.more
def Gr.muts (G : Gr) : List Nat := G.gd :: G.nd :: G.ad :: G.rows.map (·.b)
def Gr.fixed (G : Gr) : List Nat := G.g :: G.gr :: (G.vs ++ G.rows.flatMap fun r => r.at_ :: r.es.map (·.2))
theorem Gr.fixed_iff {G : Gr} {a : Nat} : a ∈ G.fixed ↔ a = G.g ∨ a = G.gr ∨ a ∈ G.vs ∨ ∃ r ∈ G.rows, a = r.at_ ∨ ∃ e ∈ r.es, e.2 = a := by
  simp only [Gr.fixed, List.mem_cons, List.mem_append, List.mem_flatMap, List.mem_map]
theorem Gr.muts_iff {G : Gr} {a : Nat} : a ∈ G.muts ↔ a = G.gd ∨ a = G.nd ∨ a = G.ad ∨ ∃ r ∈ G.rows, r.b = a := by
  simp only [Gr.muts, List.mem_cons, List.mem_map]
def Gr.all (G : Gr) : List Nat := G.muts ++ G.fixed
def Gr.nodes (G : Gr) : List (Int × Value) := G.rows.map fun r => (r.n, .ref r.at_)
def Gr.adjs (G : Gr) : List (Int × Value) := G.rows.map fun r => (r.n, .ref r.b)
def Row.nbrs (r : Row) : List (Int × Value) := r.es.map fun e => (e.1, .ref e.2)
def RawD (prog : Program) (w : World) (h : Heap) (a : Nat) (kvs : List (Str × Value)) : Prop :=
  ∃ o es ep, h.get? a = some o ∧ (o.cls = .type "dict" ∧ o.dict = none) ∧ o.data = .dict es ep ∧ KeysOf (strKind prog w) es ∧ Pairs (strKind prog w) es.toList kvs ∧ (kvs.map (·.1)).Nodup
theorem RawD.of {prog : Program} {w : World} {h : Heap} {a : Nat} {kvs : List (Str × Value)} (x : h.DictOf (strKind prog w) a kvs) : RawD prog w h a kvs :=
  let ⟨o, es, ep, ho, hx, r⟩ := x; ⟨o, es, ep, ho, ⟨hx.1, hx.2.1⟩, r⟩
theorem RawD.ext {prog : Program} {w : World} {h h' : Heap} {F : List Nat} {a : Nat} {kvs : List (Str × Value)} (x : RawD prog w h a kvs) (e : Ext F h h') (n : a ∉ F) : RawD prog w h' a kvs := let ⟨o, es, ep, ho, r⟩ := x; ⟨o, es, ep, e _ _ n ho, r⟩
theorem RawD.live {prog : Program} {w : World} {h : Heap} {a : Nat} {kvs : List (Str × Value)} (x : RawD prog w h a kvs) : ∃ o, h.get? a = some o := let ⟨o, _, _, ho, _⟩ := x; ⟨o, ho⟩
def MoreAt (prog : Program) (w : World) (h : Heap) (G : Gr) (kv : Str × Value) : Prop := (kv.1 = "adj" ∧ kv.2 = .ref G.ad) ∨
  (kv.1 = "edges" ∧ ∃ ev dv, kv.2 = .ref ev ∧ h.get? ev = some (instObj 277 dv) ∧ h.DictOf (strKind prog w) dv [("_adjdict", .ref G.ad)] ∧ ev ∈ G.vs ∧ dv ∈ G.vs)
structure GraphAt (prog : Program) (w : World) (h : Heap) (G : Gr) : Prop where
  inst : h.get? G.g = some (instObj 617 G.gd)
  dict : RawD prog w h G.gd G.attrs
  graph : h.DictOf (strKind prog w) G.gr []
  node : h.DictOf (intKind prog w) G.nd G.nodes
  adj : h.DictOf (intKind prog w) G.ad G.adjs
  attr : ∀ r ∈ G.rows, h.DictOf (strKind prog w) r.at_ []
  nbr : ∀ r ∈ G.rows, h.DictOf (intKind prog w) r.b r.nbrs
  dd : ∀ r ∈ G.rows, ∀ e ∈ r.es, h.DictOf (strKind prog w) e.2 []
  more : ∀ kv ∈ G.more, MoreAt prog w h G kv
  vsl : ∀ a ∈ G.vs, ∃ o, h.get? a = some o
  nod : G.muts.Nodup
  fix : ∀ a ∈ G.fixed, a ∉ G.muts
  own : ∀ a ∈ G.all, 709 ≤ a

section
variable {prog : Program} {w : World} {h h' : Heap} {G : Gr}
theorem DictOf.ext {K : Type} [DecidableEq K] {knd : KeyKind prog w K} {a : Addr} {kvs : List (K × Value)} {F : List Addr} (x : h.DictOf knd a kvs) (e : Ext F h h') (ha : a ∉ F) : h'.DictOf knd a kvs := x.at fun o ho => e a o ha ho
theorem MoreAt.ext {F : List Addr} {kv : Str × Value} (x : MoreAt prog w h G kv) (e : Ext F h h') (hf : ∀ a ∈ G.vs, a ∉ F) : MoreAt prog w h' G kv :=
  x.imp id fun ⟨a, ev, dv, b, c, d, f, g⟩ => ⟨a, ev, dv, b, e _ _ (hf _ f) c, DictOf.ext d e (hf _ g), f, g⟩
theorem GraphAt.ext {F : List Addr} (x : GraphAt prog w h G) (e : Ext F h h') (hm : ∀ a ∈ G.muts, a ∉ F) (hf : ∀ a ∈ G.fixed, a ∉ F) : GraphAt prog w h' G where
  inst := e _ _ (hf _ (Gr.fixed_iff.mpr (.inl rfl))) x.inst
  dict := RawD.ext x.dict e (hm _ (Gr.muts_iff.mpr (.inl rfl)))
  graph := DictOf.ext x.graph e (hf _ (Gr.fixed_iff.mpr (.inr (.inl rfl))))
  node := DictOf.ext x.node e (hm _ (Gr.muts_iff.mpr (.inr (.inl rfl))))
  adj := DictOf.ext x.adj e (hm _ (Gr.muts_iff.mpr (.inr (.inr (.inl rfl)))))
  attr := fun r hr => DictOf.ext (x.attr r hr) e (hf _ (Gr.fixed_iff.mpr (.inr (.inr (.inr ⟨r, hr, .inl rfl⟩)))))
  nbr := fun r hr => DictOf.ext (x.nbr r hr) e (hm _ (Gr.muts_iff.mpr (.inr (.inr (.inr ⟨r, hr, rfl⟩)))))
  dd := fun r hr d hd => DictOf.ext (x.dd r hr d hd) e (hf _ (Gr.fixed_iff.mpr (.inr (.inr (.inr ⟨r, hr, .inr ⟨d, hd, rfl⟩⟩)))))
  more := fun kv hkv => (x.more kv hkv).ext e fun a ha => hf a (Gr.fixed_iff.mpr (.inr (.inr (.inl ha))))
  vsl := fun a ha => let ⟨o, ho⟩ := x.vsl a ha; ⟨o, e _ _ (hf _ (Gr.fixed_iff.mpr (.inr (.inr (.inl ha))))) ho⟩
  nod := x.nod
  fix := x.fix
  own := x.own
theorem GraphAt.keep (x : GraphAt prog w h G) (k : ∀ b o, h.get? b = some o → h'.get? b = some o) : GraphAt prog w h' G := x.ext (Ext.of_keep k []) (fun _ _ h => nomatch h) fun _ _ h => nomatch h

theorem lookIn_raw {od : Obj} {kvs : List (Str × Value)} {es : Array DictEntry} {ep : Nat} (hdat : od.data = .dict es ep) (hp : Pairs (strKind prog w) es.toList kvs) (name : Str) : lookIn name od = some (valueAt kvs name) := by
  unfold lookIn
  rw [hdat]
  dsimp only
  have key : ∀ (l : List DictEntry) (kvs : List (Str × Value)), Pairs (strKind prog w) l kvs →
      (l.find? (fun e => e.key.isStr name)).map (·.val) = valueAt kvs name ∧ l.any (·.refKey) = false := by
    intro l kvs h
    induction h with
    | nil => exact ⟨rfl, rfl⟩
    | cons hk hv _ ih =>
      rename_i e kv es kvs _
      obtain ⟨t, ht⟩ := Value.isStrOf_shape hk
      unfold valueAt at ih ⊢
      rw [List.find?_cons, List.find?_cons, List.any_cons, ih.2]
      have : e.key.isStr name = decide (kv.1 = name) := by
        rw [ht]
        show (kv.1 == name) = _
        rfl
      refine ⟨?_, by simp [DictEntry.refKey, ht]⟩
      rw [this]
      by_cases q : kv.1 = name
      · simp [q, hv]
      · simp [q, ih.1]
  obtain ⟨a, b⟩ := key _ _ hp
  split
  · rename_i e he
    rw [he] at a
    rw [← a]; rfl
  · rename_i he
    rw [he] at a
    rw [if_neg (by rw [b]; exact Bool.false_ne_true), ← a]; rfl

theorem lookIn_of {od : Obj} {kvs : List (Str × Value)} (hd : od.IsDictOf (strKind prog w) kvs) (name : Str) : lookIn name od = some (valueAt kvs name) := by
  obtain ⟨es, ep, _, hdat, _, hp, _⟩ := hd
  exact lookIn_raw hdat hp name
theorem GraphAt.instAt (I : GraphAt prog w h G) : ∃ od, InstAt h G.g (instObj 617 G.gd) 617 (some od) ∧ ∀ name, lookIn name od = some (valueAt G.attrs name) := by
  obtain ⟨od, es, ep, ho, _, hdat, _, hp, _⟩ := I.dict
  exact ⟨od, ⟨I.inst, rfl, rfl, ho⟩, lookIn_raw hdat hp⟩
end

def preFind (K : Frag) (C : Addr) (name : Str) : Bool := match clsIn K C with
  | some cd => cd.hasDict && (match findIn K (.ref C) name with
    | some none => true
    | some (some a) => (match specialIn K a "__get__" with
      | some none => true
      | some (some _) => (match takesIn K a with | some false => true | _ => false)
      | none => false)
    | none => false)
  | none => false
theorem findObj_val {K : Frag} {C : Addr} {name : Str} {od : Obj} {v : Value} (hp : preFind K C name = true) (hl : lookIn name od = some (some v)) : findObj K C (some od) name = some (.value v) := by
  unfold preFind at hp
  split at hp
  · rename_i cd hc
    obtain ⟨hd, hp⟩ := Bool.and_eq_true_iff.mp hp
    have ho : PySem.W.ownOf cd (some od) name = some (some v) := by unfold PySem.W.ownOf; rw [if_pos hd]; exact hl
    unfold findObj
    rw [hc, Option.bind_some]
    split at hp
    · rename_i e; rw [e]; simp [ho]
    · rename_i a e
      rw [e]
      split at hp
      · rename_i e2; simp [e2, ho]
      · rename_i g e2
        split at hp
        · rename_i e3; simp [e2, e3, ho]
        · cases hp
      · cases hp
    · cases hp
  · cases hp

def preBind (K : Frag) (C : Addr) (name : Str) (g a : Value) : Bool := match clsIn K C with
  | some cd => cd.hasDict && (match findIn K (.ref C) name with
    | some (some a') => (a' == a) && (match specialIn K a "__get__" with
      | some (some g') => (g' == g) && (match takesIn K a with | some false => true | _ => false)
      | _ => false)
    | _ => false) && !copiedNames.contains name
  | none => false
theorem findObj_bindg {K : Frag} {C : Addr} {name : Str} {od : Obj} {g a : Value} (hp : preBind K C name g a = true) (hl : lookIn name od = some none) : findObj K C (some od) name = some (.bind g a) := by
  unfold preBind at hp
  split at hp
  · rename_i cd hc
    obtain ⟨hp, hcp⟩ := Bool.and_eq_true_iff.mp hp
    obtain ⟨hd, hp⟩ := Bool.and_eq_true_iff.mp hp
    have ho : PySem.W.ownOf cd (some od) name = some none := by unfold PySem.W.ownOf; rw [if_pos hd]; exact hl
    have hcp' : name ∉ copiedNames := by simpa using hcp
    unfold findObj
    rw [hc, Option.bind_some]
    split at hp
    · rename_i a' e
      obtain ⟨e1, hp⟩ := Bool.and_eq_true_iff.mp hp
      have e1' := eq_of_beq e1
      subst e1'
      rw [e]
      split at hp
      · rename_i g' e2
        obtain ⟨e3, hp⟩ := Bool.and_eq_true_iff.mp hp
        have e3' := eq_of_beq e3
        subst e3'
        split at hp
        · rename_i e4; simp [e2, e4, ho, hcp']
        · simp at hp
      · simp at hp
    · cases hp
  · cases hp

section
variable {prog : Program} {w : World} {A : Around} {E : Value → Shared → Prop} {s : Shared} {G : Gr} {name : Str} {v : Value} {Q : Value → Shared → Prop}
theorem ga_get (Z : Gl w s.heap) (I : GraphAt prog w s.heap G) (hp : preFind (KH w) 617 name = true) (hv : valueAt G.attrs name = some v) (hh : handedIn v = true) (h : Q v { s with toks := s.toks + 1 }) {expr : Bool} :
    wpAny (model prog w) A (getAttr (.ref G.g) name expr) Q E s := by
  obtain ⟨od, J, hl⟩ := I.instAt
  exact get_value Z.X J (by kernel_rfl) (findObj_val hp (by rw [hl, hv])) hh h
theorem ga_meth {Q : Value × List Value → Shared → Prop} {pl : Sem Bool} {f : Addr} (Z : Gl w s.heap) (I : GraphAt prog w s.heap G) (hf : findIn (KH w) (.ref 617) name = some (some (.ref f))) (ht : typeIn (KH w) (.ref f) = some (.type "function"))
    (hv : valueAt G.attrs name = none) (h : Q (.ref f, [.ref G.g]) s) : wpAny (model prog w) A (getMethod (.ref G.g) name pl) Q E s := by
  obtain ⟨od, J, hl⟩ := I.instAt
  exact method_fn Z.X J (by kernel_rfl) (by kernel_rfl) hf ht (by show (lookIn name od).map (·.isSome) = _; rw [hl, hv]; rfl) h
end
end Mine
end G1
section B1
open PySem PySem.W PyProof.Rows PySem.Calls PySem.Spec
set_option maxRecDepth 100000
set_option maxHeartbeats 8000000
namespace Mine
section
variable {prog : Program} {w : World} {A : Around} {E : Value → Shared → Prop} {s : Shared} {env : Env} {pos : Pos}
theorem cwB {M : Model} {id : String} {first : List Value} {e : Expr} {rest : List Expr} {Q : Value → Shared → Prop}
    (h : wpAny M A (spliced (backTo pos (starEach (e :: rest) env))) (fun vs s₁ => wpAny M A (call (.builtin id) (first ++ vs)) Q E s₁) E s)
    (he : starEach (e :: rest) env = (false, eval e env) :: starEach rest env := by rfl) (hp : (backTo pos (starEach rest env)).any (·.1) = false := by rfl) :
    wpAny M A (callWith pos (.builtin id) first (backTo pos (starEach (e :: rest) env)) []) Q E s := by
  rw [he] at h ⊢
  exact callWith_builtin (by show (false || (backTo pos (starEach rest env)).any (·.1)) = false; rw [hp]; rfl) (evalArgs_plain h)
theorem cwB0 {M : Model} {id : String} {first : List Value} {Q : Value → Shared → Prop} (h : wpAny M A (call (.builtin id) first) Q E s) :
    wpAny M A (callWith pos (.builtin id) first (backTo pos (starEach [] env)) []) Q E s :=
  callWith_builtin rfl (PySem.evalArgs_none (by rw [List.append_nil]; exact h))
theorem cwT {M : Model} {T : String} {e : Expr} {rest : List Expr} {Q : Value → Shared → Prop}
    (h : wpAny M A (spliced (backTo pos (starEach (e :: rest) env))) (fun vs s₁ => wpAny M A (call (.type T) vs) Q E s₁) E s)
    (he : starEach (e :: rest) env = (false, eval e env) :: starEach rest env := by rfl) (hp : (backTo pos (starEach rest env)).any (·.1) = false := by rfl) :
    wpAny M A (callWith pos (.type T) [] (backTo pos (starEach (e :: rest) env)) []) Q E s := Pv.callWith_type1 h he hp
theorem cwF {M : Model} {f : Value} {first : List Value} {e : Expr} {rest : List Expr} {Q : Value → Shared → Prop} (hk : keepIn (KH w) f = true)
    (h : wpAny M A (spliced (backTo pos (starEach (e :: rest) env))) (fun vs s₁ => Gl w s₁.heap ∧ wpAny M A (call f (first ++ vs)) Q E s₁) E s)
    (he : starEach (e :: rest) env = (false, eval e env) :: starEach rest env := by rfl) (hp : (backTo pos (starEach rest env)).any (·.1) = false := by rfl) :
    wpAny M A (callWith pos f first (backTo pos (starEach (e :: rest) env)) []) Q E s := by
  rw [he] at h ⊢
  exact callWith_of (P := Gl w) (by show ((false || (backTo pos (starEach rest env)).any (·.1)) || false) = false; rw [hp]; rfl) (fun h G => keeps_K hk h G.X) (evalArgs_plain h)
theorem cwF0 {M : Model} {f : Value} {first : List Value} {Q : Value → Shared → Prop} (Z : Gl w s.heap) (hk : keepIn (KH w) f = true) (h : wpAny M A (call f first) Q E s) :
    wpAny M A (callWith pos f first (backTo pos (starEach [] env)) []) Q E s :=
  callWith_of (P := Gl w) rfl (fun h G => keeps_K hk h G.X) (PySem.evalArgs_none ⟨Z, by rw [List.append_nil]; exact h⟩)
theorem gmB {M : Model} {a : Addr} {T : String} {name : Str} {id : String} {pl : Sem Bool} {Q : Value × List Value → Shared → Prop} {o : Obj} (ho : s.heap.get? a = some o) (hc : o.cls = .type T) (hd : o.dict = none) (pa : PlainAttrs T) (slot : Slot T name id)
    (hty : typeOf (.builtin id) = pure (.type "method_descriptor")) (h : Q (.builtin id, [.ref a]) s) : wpAny M A (getMethod (.ref a) name pl) Q E s :=
  getMethod_builtin ⟨o, ho, hc⟩ pa slot hty (fun b e => by injection e with e; subst e; exact ⟨o, ho, hd⟩) h
theorem gmD {M : Model} {K : Type} [DecidableEq K] {knd : KeyKind prog w K} {a : Addr} {kvs : List (K × Value)} {name : Str} {id : String} {pl : Sem Bool} {Q : Value × List Value → Shared → Prop} (hd : s.heap.DictOf knd a kvs) (slot : Slot "dict" name id)
    (hty : typeOf (.builtin id) = pure (.type "method_descriptor")) (h : Q (.builtin id, [.ref a]) s) : wpAny M A (getMethod (.ref a) name pl) Q E s :=
  getMethod_builtin hd.typeIs F.plainAttrs_dict slot hty hd.mapOf.noDict h
theorem notMods {a : Nat} (ha : 709 ≤ a) : (a == sysModules) = false := by
  have : a ≠ 1 := by omega
  simpa [sysModules] using this
end
end Mine
end B1
section D1
open PySem PySem.W PyProof.Rows PySem.Calls PySem.Spec
set_option maxRecDepth 100000
set_option maxHeartbeats 8000000
namespace Mine
section
variable {prog : Program} {w : World} {A : Around} {E : Value → Shared → Prop} {s : Shared} {env : Env} {pos : Pos} {K : Type} [DecidableEq K] {knd : KeyKind prog w K} {d : Nat} {kvs : List (K × Value)} {k : K} {key v : Value}
theorem dictOf_empty {h : Heap} {d : Addr} {kd : KeyKind prog w K} (e : h.get? d = some { cls := .type "dict", data := .dict #[] }) : h.DictOf kd d [] :=
  ⟨_, #[], 0, e, ⟨rfl, rfl, rfl⟩, rfl, fun _ he => by simp at he, .nil, .nil⟩
theorem nodup_inj {α β : Type} {f : α → β} : ∀ {l : List α}, (l.map f).Nodup → ∀ {a b : α}, a ∈ l → b ∈ l → f a = f b → a = b
  | [], _, _, _, h, _, _ => nomatch h
  | x :: l, hn, a, b, ha, hb, e => by
    rw [List.map_cons, List.nodup_cons] at hn
    rcases List.mem_cons.mp ha with rfl | ha' <;> rcases List.mem_cons.mp hb with rfl | hb'
    · rfl
    · exact absurd (e ▸ List.mem_map_of_mem hb') hn.1
    · exact absurd (e.symm ▸ List.mem_map_of_mem ha') hn.1
    · exact nodup_inj hn.2 ha' hb' e
theorem valueAt_mem {kvs : List (K × Value)} (hn : (kvs.map (·.1)).Nodup) {k : K} {v : Value} (h : (k, v) ∈ kvs) : valueAt kvs k = some v := by
  unfold valueAt
  cases e : kvs.find? (fun kv => decide (kv.1 = k)) with
  | none => exact absurd (List.find?_eq_none.mp e _ h) (by simp)
  | some y =>
    have h1 := List.find?_some e
    have h2 := List.mem_of_find?_eq_some e
    have := nodup_inj hn h2 h (by simpa using h1)
    subst this; rfl

theorem dget2 {dflt : Value} {Q : Value → Shared → Prop} (lo : (d == sysModules) = false) (hm : s.heap.DictOf knd d kvs) (hkey : knd.is k key = true) (h : Q ((valueAt kvs k).getD dflt) { s with toks := s.toks + 1 }) :
    wpAny (model prog w) A (call (.builtin "dict.get") [.ref d, key, dflt]) Q E s :=
  call_meetsIn PySem.F.slot_dict_get hm.typeIs PySem.F.entry_dict_get (PySem.F.args_dict_get_3 _ _ _) (meets_dict_get_default knd d hkey lo dflt) ⟨_, hm.mapOf, h⟩
theorem ditems {Q : Value → Shared → Prop} (lo : (d == sysModules) = false) (hm : s.heap.DictOf knd d kvs) (h : Q (.ref s.heap.objs.size) { s with heap := s.heap.push { cls := .type "dict_items", data := .fields #[.ref d] } }) :
    wpAny (model prog w) A (call (.builtin "dict.items") [.ref d]) Q E s :=
  call_meetsIn PySem.F.slot_dict_items hm.typeIs PySem.F.entry_dict_items (PySem.F.args_dict_items_1 _) (meets_dict_items knd d lo) ⟨⟨kvs, hm⟩, h⟩
theorem dcopy {Q : Value → Shared → Prop} (lo : (d == sysModules) = false) (hm : s.heap.DictOf knd d kvs) (hz : kvs.length ≤ 1000) (h : ∀ h', h'.DictOf knd s.heap.objs.size kvs → (∀ b o, s.heap.get? b = some o → h'.get? b = some o) → Q (.ref s.heap.objs.size) { s with heap := h' }) :
    wpAny (model prog w) A (call (.builtin "dict.copy") [.ref d]) Q E s :=
  call_meetsIn PySem.F.slot_dict_copy hm.typeIs PySem.F.entry_dict_copy (PySem.F.args_dict_copy_1 _) (meets_dict_copy knd d lo) ⟨kvs, hm, Nat.le_trans hz (Nat.le_of_ble_eq_true rfl), fun h' a _ k => h h' a k⟩
theorem dupd {o : Nat} {Q : Value → Shared → Prop} (hdo : d ≠ o) (lo : (o == sysModules) = false) (hm : s.heap.DictOf knd d kvs) (hz : kvs.length ≤ 1000) (ho : s.heap.DictOf knd o []) (h : ∀ h', h'.DictOf knd d kvs → Heap.SameBut d s.heap h' → Q .none { s with heap := h' }) :
    wpAny (model prog w) A (call (.builtin "dict.update") [.ref d, .ref o]) Q E s :=
  call_meetsIn PySem.F.slot_dict_update hm.typeIs PySem.F.entry_dict_update (PySem.F.args_dict_update_2 _ _) (meets_dict_update knd d o hdo lo) ⟨kvs, [], hm, ho, Nat.le_trans hz (Nat.le_of_ble_eq_true rfl), fun h' a _ k => h h' a k⟩
theorem subD {value slice : Expr} {Q : Value → Shared → Prop} (hm : s.heap.DictOf knd d kvs) (hkey : knd.is k key = true) (hv : valueAt kvs k = some v) (h : Q v { s with toks := s.toks + 1 })
    (hs : subscripted slice false (.ref d) key = operate [.ref d, key] (getItem (.ref d) key) := by with_unfolding_all rfl) : wpAny (model prog w) A (subscriptTail value slice (.ref d) key) Q E s :=
  tail_any hm.typeIs PySem.F.slot_dict_getitem.lookup (wpAny_getItem_of hkey hm.mapOf hv h) hs
end
def stE (es : List (Int × Nat)) (k : Int) (d : Nat) : List (Int × Nat) := if es.any (fun e => e.1 = k) then es.map (fun e => if e.1 = k then (e.1, d) else e) else es ++ [(k, d)]
theorem stE_stored (es : List (Int × Nat)) (k : Int) (d : Nat) : stored (es.map fun e => ((e.1, .ref e.2) : Int × Value)) k (.ref d) = (stE es k d).map fun e => (e.1, .ref e.2) := by
  unfold stored stE
  have : (es.map fun e => ((e.1, .ref e.2) : Int × Value)).any (fun kv => decide (kv.1 = k)) = es.any (fun e => decide (e.1 = k)) := by
    rw [List.any_map]; rfl
  rw [this]
  split
  · rw [List.map_map, List.map_map]
    apply List.map_congr_left
    intro e _
    simp only [Function.comp]
    by_cases q : e.1 = k <;> simp [q]
  · simp
theorem stE_mem {es : List (Int × Nat)} {k : Int} {d : Nat} {e : Int × Nat} (h : e ∈ stE es k d) : e ∈ es ∨ e.2 = d := by
  unfold stE at h
  split at h
  · obtain ⟨x, hx, rfl⟩ := List.mem_map.mp h
    split
    · exact .inr rfl
    · exact .inl hx
  · rcases List.mem_append.mp h with q | q
    · exact .inl q
    · rw [List.mem_singleton.mp q]; exact .inr rfl
def Row.setE (r : Row) (k : Int) (d : Nat) : Row := { r with es := stE r.es k d }
def Gr.setE (G : Gr) (n k : Int) (d : Nat) : Gr := { G with rows := G.rows.map fun r => if r.n = n then r.setE k d else r }
theorem setE_b (r : Row) (n k : Int) (d : Nat) : (if r.n = n then r.setE k d else r).b = r.b := by split <;> rfl
theorem setE_n (r : Row) (n k : Int) (d : Nat) : (if r.n = n then r.setE k d else r).n = r.n := by split <;> rfl
theorem setE_at (r : Row) (n k : Int) (d : Nat) : (if r.n = n then r.setE k d else r).at_ = r.at_ := by split <;> rfl
theorem Gr.setE_muts (G : Gr) (n k : Int) (d : Nat) : (G.setE n k d).muts = G.muts := by
  simp only [Gr.muts, Gr.setE, List.map_map]
  congr 3
  apply List.map_congr_left
  intro r _; exact setE_b r n k d
theorem Gr.setE_nodes (G : Gr) (n k : Int) (d : Nat) : (G.setE n k d).nodes = G.nodes := by
  simp only [Gr.nodes, Gr.setE, List.map_map]
  apply List.map_congr_left
  intro r _; simp only [Function.comp]; rw [setE_n, setE_at]
theorem Gr.setE_adjs (G : Gr) (n k : Int) (d : Nat) : (G.setE n k d).adjs = G.adjs := by
  simp only [Gr.adjs, Gr.setE, List.map_map]
  apply List.map_congr_left
  intro r _; simp only [Function.comp]; rw [setE_n, setE_b]
theorem Gr.setE_fixed {G : Gr} {n k : Int} {d a : Nat} (h : a ∈ (G.setE n k d).fixed) : a ∈ G.fixed ∨ a = d := by
  rw [Gr.fixed_iff] at h ⊢
  rcases h with h | h | h | ⟨r, hr₁, h⟩
  · exact .inl (.inl h)
  · exact .inl (.inr (.inl h))
  · exact .inl (.inr (.inr (.inl h)))
  · obtain ⟨r₀, hr, rfl⟩ := List.mem_map.mp hr₁
    rcases h with h | ⟨e, he, rfl⟩
    · rw [setE_at] at h
      exact .inl (.inr (.inr (.inr ⟨r₀, hr, .inl h⟩)))
    · split at he
      · rcases stE_mem he with q | q
        · exact .inl (.inr (.inr (.inr ⟨r₀, hr, .inr ⟨e, q, rfl⟩⟩)))
        · exact .inr q
      · exact .inl (.inr (.inr (.inr ⟨r₀, hr, .inr ⟨e, he, rfl⟩⟩)))
section
variable {prog : Program} {w : World} {h h' : Heap} {G : Gr}
theorem GraphAt.ns (I : GraphAt prog w h G) : (G.rows.map (·.n)).Nodup := by
  obtain ⟨ep, o, es, _, _, _, _, _, hn⟩ := I.adj.dictAt
  simpa [Gr.adjs, Function.comp_def] using hn
theorem GraphAt.bs (I : GraphAt prog w h G) : (G.rows.map (·.b)).Nodup := (List.nodup_cons.mp (List.nodup_cons.mp (List.nodup_cons.mp I.nod).2).2).2
theorem dictLive {K : Type} [DecidableEq K] {knd : KeyKind prog w K} {a : Addr} {kvs : List (K × Value)} (x : h.DictOf knd a kvs) : ∃ o, h.get? a = some o := let ⟨o, _, _, e, _⟩ := x; ⟨o, e⟩
theorem GraphAt.live (I : GraphAt prog w h G) {a : Nat} (ha : a ∈ G.muts ∨ a ∈ G.fixed) : ∃ o, h.get? a = some o := by
  rcases ha with ha | ha
  · rcases Gr.muts_iff.mp ha with rfl | rfl | rfl | ⟨r, hr, rfl⟩
    · exact I.dict.live
    · exact dictLive I.node
    · exact dictLive I.adj
    · exact dictLive (I.nbr r hr)
  · rcases Gr.fixed_iff.mp ha with rfl | rfl | ha | ⟨r, hr, rfl | ⟨e, he, rfl⟩⟩
    · exact ⟨_, I.inst⟩
    · exact dictLive I.graph
    · exact I.vsl a ha
    · exact dictLive (I.attr r hr)
    · exact dictLive (I.dd r hr e he)
theorem GraphAt.new (I : GraphAt prog w h G) {a : Nat} (ha : h.get? a = none) : a ∉ G.muts ∧ a ∉ G.fixed :=
  ⟨(fun q => let ⟨_, e⟩ := I.live (.inl q); nomatch ha.symm.trans e), (fun q => let ⟨_, e⟩ := I.live (.inr q); nomatch ha.symm.trans e)⟩
theorem GraphAt.setE (I : GraphAt prog w h G) {r : Row} (hr : r ∈ G.rows) {k : Int} {d : Nat} (hd : h.DictOf (strKind prog w) d []) (hf : d ∉ G.muts) (hlo : 709 ≤ d) (e : Ext [r.b] h h') (hb : h'.DictOf (intKind prog w) r.b (stored r.nbrs k (.ref d))) :
    GraphAt prog w h' (G.setE r.n k d) := by
  have hrm : r.b ∈ G.muts := Gr.muts_iff.mpr (.inr (.inr (.inr ⟨r, hr, rfl⟩)))
  have off : ∀ a, a ≠ r.b → a ∉ ([r.b] : List Nat) := fun a n q => n (List.mem_singleton.mp q)
  have nfix : ∀ a ∈ G.fixed, a ≠ r.b := fun a ha q => I.fix a ha (q ▸ hrm)
  have nod := I.nod
  simp only [Gr.muts, List.nodup_cons, List.mem_cons, not_or, List.mem_map, not_exists, not_and] at nod
  obtain ⟨⟨n1, n2, n3⟩, ⟨n4, n5⟩, n6, n7⟩ := nod
  have inf : ∀ {a}, a = G.g ∨ a = G.gr ∨ a ∈ G.vs ∨ (∃ r ∈ G.rows, a = r.at_ ∨ ∃ e ∈ r.es, e.2 = a) → a ∈ G.fixed := Gr.fixed_iff.mpr
  refine ⟨e _ _ (off _ (nfix _ (inf (.inl rfl)))) I.inst, RawD.ext I.dict e (off _ fun q => n3 r hr q.symm), DictOf.ext I.graph e (off _ (nfix _ (inf (.inr (.inl rfl))))), ?_, ?_, ?_, ?_, ?_, ?_, ?_, ?_, ?_, ?_⟩
  · rw [Gr.setE_nodes]; exact DictOf.ext I.node e (off _ fun q => n5 r hr q.symm)
  · rw [Gr.setE_adjs]; exact DictOf.ext I.adj e (off _ fun q => n6 r hr q.symm)
  · intro x hx
    obtain ⟨y, hy, rfl⟩ := List.mem_map.mp hx
    rw [setE_at]
    exact DictOf.ext (I.attr y hy) e (off _ (nfix _ (inf (.inr (.inr (.inr ⟨y, hy, .inl rfl⟩))))))
  · intro x hx
    obtain ⟨y, hy, rfl⟩ := List.mem_map.mp hx
    by_cases q : y.n = r.n
    · obtain rfl := nodup_inj I.ns hy hr q
      simp only [if_pos]
      rw [show (y.setE k d).nbrs = stored y.nbrs k (.ref d) from (stE_stored y.es k d).symm]
      exact hb
    · simp only [if_neg q]
      exact DictOf.ext (I.nbr y hy) e (off _ fun q' => q (by rw [nodup_inj I.bs hy hr q']))
  · intro x hx
    obtain ⟨y, hy, rfl⟩ := List.mem_map.mp hx
    intro ed hed
    split at hed
    · rcases stE_mem hed with q | q
      · exact DictOf.ext (I.dd y hy ed q) e (off _ (nfix _ (inf (.inr (.inr (.inr ⟨y, hy, .inr ⟨ed, q, rfl⟩⟩))))))
      · rw [q]; exact DictOf.ext hd e (off _ fun q' => hf (q' ▸ hrm))
    · exact DictOf.ext (I.dd y hy ed hed) e (off _ (nfix _ (inf (.inr (.inr (.inr ⟨y, hy, .inr ⟨ed, hed, rfl⟩⟩))))))
  · exact fun kv hkv => (I.more kv hkv).ext e fun a ha => off _ (nfix _ (inf (.inr (.inr (.inl ha)))))
  · exact fun a ha => let ⟨o, ho⟩ := I.vsl a ha; ⟨o, e _ _ (off _ (nfix _ (inf (.inr (.inr (.inl ha)))))) ho⟩
  · rw [Gr.setE_muts]; exact I.nod
  · intro a ha
    rw [Gr.setE_muts]
    rcases Gr.setE_fixed ha with q | q
    · exact I.fix a q
    · rw [q]; exact hf
  · intro a ha
    rcases List.mem_append.mp ha with q | q
    · rw [Gr.setE_muts] at q; exact I.own a (List.mem_append_left _ q)
    · rcases Gr.setE_fixed q with q | q
      · exact I.own a (List.mem_append_right _ q)
      · rw [q]; exact hlo
end
end Mine
end D1
section D2
open PySem PySem.W PyProof.Rows PySem.Calls PySem.Spec
set_option maxRecDepth 100000
set_option maxHeartbeats 8000000
namespace Mine
section
variable {F F' : List Nat} {h h' h'' : Heap}
theorem Ext.up (x : Ext [] h h') : Ext F h h' := x.mono fun _ h => nomatch h
theorem Ext.shed (x : Ext F h h') (hF : ∀ a ∈ F, a ∈ F' ∨ h.get? a = none) : Ext F' h h' := fun b o n e => x b o (fun q => (hF b q).elim n fun q' => nomatch q'.symm.trans e) e
theorem Ext.loc (x : Ext F h h') {L : Nat} (n : h.get? L = none) (e : Heap.SameBut L h' h'') : Ext F h h'' := fun b o nb q => e.extBut b o (fun r => by rw [r, n] at q; cases q) (x b o nb q)
structure GM (Gs : List Nat) (g g' : Array GenState) : Prop where
  at_ : ∀ k x, k ∉ Gs → g[k]? = some x → g'[k]? = some x
  bare : AllBare g → AllBare g'
theorem GM.refl (g : Array GenState) : GM [] g g := ⟨fun _ _ _ e => e, fun b => b⟩
theorem GM.trans {Gs : List Nat} {g g' g'' : Array GenState} (x : GM Gs g g') (y : GM Gs g' g'') : GM Gs g g'' := ⟨fun k v n e => y.at_ k v n (x.at_ k v n e), fun b => y.bare (x.bare b)⟩
theorem GM.mono {Gs Gs' : List Nat} {g g' : Array GenState} (x : GM Gs g g') (h : ∀ a ∈ Gs, a ∈ Gs') : GM Gs' g g' := ⟨fun k v n e => x.at_ k v (fun q => n (h k q)) e, x.bare⟩
end
section
variable {M : Model} {A : Around} {E : Value → Shared → Prop} {α : Type} {m : Sem α} {Q : α → Shared → Prop}
theorem at_ {s : Shared} (h : Heap) (g : Array GenState) (d : Drawn) (o : OsState) (n : ∀ t, wpAny M A m Q E ⟨h, g, d, t, o⟩) (e : s = ⟨h, g, d, s.toks, o⟩ := by rfl) : wpAny M A m Q E s := by rw [e]; exact n _
theorem Q_at {s : Shared} {Q : Shared → Prop} (h : Heap) (g : Array GenState) (d : Drawn) (o : OsState) (n : ∀ t, Q ⟨h, g, d, t, o⟩) (e : s = ⟨h, g, d, s.toks, o⟩ := by rfl) : Q s := by rw [e]; exact n _
end
def New (h : Heap) (a : Nat) : Prop := h.get? a = none ∧ 709 ≤ a
theorem dead {H h : Heap} (k : ∀ b o, H.get? b = some o → h.get? b = some o) {a : Addr} (e : h.get? a = none) : H.get? a = none := by
  cases q : H.get? a with
  | none => rfl
  | some o => rw [k _ _ q] at e; cases e
theorem New.back {H h : Heap} {a : Nat} (n : New h a) (k : ∀ b o, H.get? b = some o → h.get? b = some o) : New H a := ⟨dead k n.1, n.2⟩
theorem New.ne {h : Heap} {a b : Nat} {o : Obj} (n : New h a) (e : h.get? b = some o) : a ≠ b := fun q => by rw [q] at n; rw [n.1] at e; cases e
section
variable {prog : Program} {w : World} {A : Around} {E : Value → Shared → Prop} {s : Shared} {Q : Value → Shared → Prop}
theorem New.pos (Z : Gl w s.heap) : New s.heap s.heap.objs.size := ⟨get?_size _, Z.big⟩
theorem enter' {f : Addr} {args : List Value} {kw : List (Str × Value)} {name qual : Str} {params : Arguments} {body : List Stmt} {scope : Scope} {dV kV doc pm cdv ct oc : Value} {an od : Option Addr} {osl : Array (Option Value)} {binds : List (Str × Value)}
    (G : Gl w s.heap) (hroom : A.depth < recursionLimit) (ho : (KH w).lookup f = some ⟨oc, od, .func (fnOf name qual params body scope dV kV doc pm an cdv ct), osl⟩) (hcd : codeIn (KH w) cdv qual = true)
    (hb : peek (KH w) ⟨prog, w.params⟩ (bindArgs (fnOf name qual params body scope dV kV doc pm an cdv ct) ⟨args, kw⟩) = some binds)
    (hcell : (scope.names.all fun y => match y.2 with | .cell => false | _ => true) = true) (hloc : (binds.all fun y => match scope.names.lookup y.1 with | some .local => true | _ => false) = true)
    (hfl : (scope.isCoroutine, scope.isGenerator) = (false, false)) (hk : scope.kind = .function)
    (h : ∀ L h₁ tk, Ext [] s.heap h₁ → s.heap.get? L = none → h₁.Ns L (fun y => binds.reverse.lookup y) →
      wpAny (model prog w) (A.deeper (envX qual scope L f cdv [])) (execs body (envX qual scope L f cdv [])) (fun fl s' => Q (match fl with | .ret v => v | _ => .none) s') (fun _ _ => False) { s with heap := h₁, toks := tk }) :
    wpAny (model prog w) A (call (.ref f) args kw) Q E s :=
  enter G hroom ho hcd hb hcell hloc hfl hk fun L h₁ F n => h L _ _ (Ext.of_keep F.keep []) (F.off _ (.head _)) n
theorem enterA' {f : Addr} {args : List Value} {kw : List (Str × Value)} {name qual : Str} {params : Arguments} {body : List Stmt} {scope : Scope} {dV kV doc pm cdv ct oc : Value} {an od : Option Addr} {osl : Array (Option Value)} {binds : Addr → List (Str × Value)} {o : Obj}
    (G : Gl w s.heap) (hroom : A.depth < recursionLimit) (ho : (KH w).lookup f = some ⟨oc, od, .func (fnOf name qual params body scope dV kV doc pm an cdv ct), osl⟩) (hcd : codeIn (KH w) cdv qual = true)
    (hb : ∀ d, peekB (KH w) ⟨prog, w.params⟩ (bindArgs (fnOf name qual params body scope dV kV doc pm an cdv ct) ⟨args, kw⟩) d = some (o, binds d)) (hf : o.isFreed = false)
    (hcell : (scope.names.all fun y => match y.2 with | .cell => false | _ => true) = true) (hloc : ∀ d, ((binds d).all fun y => match scope.names.lookup y.1 with | some .local => true | _ => false) = true)
    (hfl : (scope.isCoroutine, scope.isGenerator) = (false, false)) (hk : scope.kind = .function)
    (h : ∀ d L h₁ tk, Ext [] s.heap h₁ → s.heap.get? L = none → New s.heap d → d ≠ L → h₁.get? d = some o → h₁.Ns L (fun y => (binds d).reverse.lookup y) →
      wpAny (model prog w) (A.deeper (envX qual scope L f cdv [])) (execs body (envX qual scope L f cdv [])) (fun fl s' => Q (match fl with | .ret v => v | _ => .none) s') (fun _ _ => False) { s with heap := h₁, toks := tk }) :
    wpAny (model prog w) A (call (.ref f) args kw) Q E s :=
  enterA G hroom ho hcd hb hf hcell hloc hfl hk fun d L H h₁ tk F n hk hd hnew => h d L _ _ (Ext.of_keep (fun b o e => F.keep b o (hk b o e)) []) (dead hk (F.off _ (.head _))) hnew
    (fun q => by rw [q, F.off _ (.head _)] at hd; cases hd) (F.keep _ _ hd) n
end
def Gr.ids (G : Gr) : List Int := G.rows.map (·.n)
def Gr.sh (G : Gr) : Nat × Nat × Nat × Nat × Nat × List (Str × Value) × List Nat × List (Int × Nat × Nat) := (G.g, G.gd, G.nd, G.ad, G.gr, G.more, G.vs, G.rows.map fun r => (r.n, r.at_, r.b))
def Gr.has (G : Gr) (a b : Int) : Prop := ∃ r ∈ G.rows, r.n = a ∧ ∃ e ∈ r.es, e.1 = b
structure Gi (G : Gr) : Prop where
  few : G.rows.length ≤ 100
  keys : ∀ r ∈ G.rows, ∀ e ∈ r.es, e.1 ∈ G.ids
theorem nodup_len {α : Type} [DecidableEq α] : ∀ {l m : List α}, l.Nodup → (∀ a ∈ l, a ∈ m) → l.length ≤ m.length
  | [], _, _, _ => Nat.zero_le _
  | a :: l, m, hn, hs => by
    have ha := hs a (.head _)
    have := nodup_len (l := l) (m := m.erase a) (List.nodup_cons.mp hn).2 fun b hb => by
      have : b ≠ a := fun e => (List.nodup_cons.mp hn).1 (e ▸ hb)
      exact (List.mem_erase_of_ne this).mpr (hs b (.tail _ hb))
    have h2 := List.length_erase_of_mem ha
    have h3 : 0 < m.length := List.length_pos_of_mem ha
    simp only [List.length_cons]
    omega
section
variable {prog : Program} {w : World} {h h' : Heap} {G G' : Gr}
def Grow (h : Heap) (G G' : Gr) : Prop := ∀ a ∈ G'.all, a ∈ G.all ∨ h.get? a = none
theorem Grow.off {h : Heap} {G G' : Gr} (g : Grow h G G') {a : Nat} {o : Obj} (e : h.get? a = some o) (n : a ∉ G.all) : a ∉ G'.all := fun q => (g a q).elim n fun q' => nomatch q'.symm.trans e
theorem Grow.trans {h h' : Heap} {G G' G'' : Gr} (g : Grow h G G') (g' : Grow h' G' G'') (k : ∀ a, h'.get? a = none → h.get? a = none ∨ a ∈ G.all) : Grow h G G'' := fun a ha => (g' a ha).elim (g a) fun q => (k a q).symm
theorem dictNodup {K : Type} [DecidableEq K] {knd : KeyKind prog w K} {a : Addr} {kvs : List (K × Value)} (x : h.DictOf knd a kvs) : (kvs.map (·.1)).Nodup := let ⟨_, _, _, _, _, _, _, _, hn⟩ := x.dictAt; hn
theorem GraphAt.keysNodup (I : GraphAt prog w h G) {r : Row} (hr : r ∈ G.rows) : (r.es.map (·.1)).Nodup := by simpa [Row.nbrs, Function.comp_def] using dictNodup (I.nbr r hr)
theorem GraphAt.short (I : GraphAt prog w h G) (J : Gi G) {r : Row} (hr : r ∈ G.rows) : r.es.length ≤ 100 := by
  have := nodup_len (I.keysNodup hr) (m := G.ids) fun a ha => by
    obtain ⟨e, he, rfl⟩ := List.mem_map.mp ha
    exact J.keys r hr e he
  simp only [List.length_map, Gr.ids] at this
  exact Nat.le_trans this J.few
theorem sh_rows (e : G'.sh = G.sh) : (G'.rows.map fun r => (r.n, r.at_, r.b)) = G.rows.map fun r => (r.n, r.at_, r.b) := by simp only [Gr.sh, Prod.mk.injEq] at e; exact e.2.2.2.2.2.2.2
theorem sh_of {β : Type} (f : Int × Nat × Nat → β) (e : G'.sh = G.sh) : (G'.rows.map fun r => f (r.n, r.at_, r.b)) = G.rows.map fun r => f (r.n, r.at_, r.b) := by
  have := congrArg (List.map f) (sh_rows e); simpa [Function.comp_def] using this
theorem sh_ids (e : G'.sh = G.sh) : G'.ids = G.ids := sh_of (·.1) e
theorem sh_g (e : G'.sh = G.sh) : G'.g = G.g := by simp only [Gr.sh, Prod.mk.injEq] at e; exact e.1
theorem sh_muts (e : G'.sh = G.sh) : G'.muts = G.muts := by
  have := sh_of (·.2.2) e
  simp only [Gr.sh, Prod.mk.injEq] at e
  simp only [Gr.muts, e, this]
theorem setE_sh (G : Gr) (n k : Int) (d : Nat) : (G.setE n k d).sh = G.sh := by
  simp only [Gr.sh, Gr.setE, List.map_map]
  congr 7
  apply List.map_congr_left
  intro r _
  simp only [Function.comp, setE_n, setE_at, setE_b]
theorem setE_has (hn : n ∈ G.ids) (hs : G.ids.Nodup) {k : Int} {d : Nat} (a b : Int) : (G.setE n k d).has a b ↔ G.has a b ∨ (a = n ∧ b = k) := by
  have stm : ∀ {es : List (Int × Nat)}, (∃ e ∈ stE es k d, e.1 = b) ↔ (∃ e ∈ es, e.1 = b) ∨ b = k := by
    intro es
    unfold stE
    split
    · rename_i q
      obtain ⟨x, hx, hk⟩ := List.any_eq_true.mp q
      have hk := of_decide_eq_true hk
      constructor
      · rintro ⟨e, he, rfl⟩
        obtain ⟨y, hy, rfl⟩ := List.mem_map.mp he
        split
        · rename_i q'; exact .inr q'
        · exact .inl ⟨y, hy, rfl⟩
      · rintro (⟨e, he, rfl⟩ | rfl)
        · refine ⟨_, List.mem_map.mpr ⟨e, he, rfl⟩, ?_⟩
          split <;> rfl
        · refine ⟨_, List.mem_map.mpr ⟨x, hx, rfl⟩, ?_⟩
          rw [if_pos hk]; exact hk
    · constructor
      · rintro ⟨e, he, rfl⟩
        rcases List.mem_append.mp he with q | q
        · exact .inl ⟨e, q, rfl⟩
        · rw [List.mem_singleton.mp q]; exact .inr rfl
      · rintro (⟨e, he, rfl⟩ | rfl)
        · exact ⟨e, List.mem_append_left _ he, rfl⟩
        · exact ⟨_, List.mem_append_right _ (.head _), rfl⟩
  unfold Gr.has Gr.setE
  constructor
  · rintro ⟨r₁, hr₁, rfl, he⟩
    obtain ⟨r, hr, rfl⟩ := List.mem_map.mp hr₁
    rw [setE_n]
    split at he
    · rename_i q
      rcases stm.mp he with q' | q'
      · exact .inl ⟨r, hr, rfl, q'⟩
      · exact .inr ⟨q, q'⟩
    · exact .inl ⟨r, hr, rfl, he⟩
  · rintro (⟨r, hr, rfl, he⟩ | ⟨rfl, rfl⟩)
    · refine ⟨_, List.mem_map.mpr ⟨r, hr, rfl⟩, setE_n .., ?_⟩
      split
      · exact stm.mpr (.inl he)
      · exact he
    · obtain ⟨r, hr, rfl⟩ := List.mem_map.mp hn
      refine ⟨_, List.mem_map.mpr ⟨r, hr, rfl⟩, setE_n .., ?_⟩
      rw [if_pos rfl]
      exact stm.mpr (.inr rfl)
theorem Gi.setE (J : Gi G) {n k : Int} {d : Nat} (hk : k ∈ G.ids) : Gi (G.setE n k d) := by
  refine ⟨by simpa [Gr.setE] using J.few, fun r₁ hr₁ e he => ?_⟩
  rw [sh_ids (setE_sh G n k d)]
  obtain ⟨r, hr, rfl⟩ := List.mem_map.mp hr₁
  split at he
  · simp only [Row.setE, stE] at he
    split at he
    · obtain ⟨y, hy, rfl⟩ := List.mem_map.mp he
      split
      · exact J.keys r hr y hy
      · exact J.keys r hr y hy
    · rcases List.mem_append.mp he with q | q
      · exact J.keys r hr e q
      · rw [List.mem_singleton.mp q]; exact hk
  · exact J.keys r hr e he
theorem GraphAt.upd (I : GraphAt prog w h G) {a : Nat} (ha : a ∉ G.muts) (h0 : h.DictOf (strKind prog w) a []) (e : Ext [a] h h') (hd : h'.DictOf (strKind prog w) a []) : GraphAt prog w h' G := by
  have off : ∀ b ∈ G.muts, b ∉ ([a] : List Nat) := fun b hb q => ha (List.mem_singleton.mp q ▸ hb)
  have em : ∀ b, h.DictOf (strKind prog w) b [] → h'.DictOf (strKind prog w) b [] := fun b hb => by
    by_cases q : b = a
    · rw [q]; exact hd
    · exact DictOf.ext hb e fun q' => q (List.mem_singleton.mp q')
  have ni : ∀ {b : Nat} {C dv : Nat}, h.get? b = some (instObj C dv) → b ∉ ([a] : List Nat) := fun hb q => by
    rw [List.mem_singleton.mp q] at hb
    obtain ⟨o, es, ep, ho, hc, _⟩ := h0
    rw [hb] at ho
    injection ho with ho
    rw [← ho] at hc
    cases hc.1
  have nv : ∀ {b : Nat} {k : Str} {v : Value}, h.DictOf (strKind prog w) b [(k, v)] → b ∉ ([a] : List Nat) := fun hb q => by
    rw [List.mem_singleton.mp q] at hb
    obtain ⟨ep, o, es, ho, _, hd, _, hp, _⟩ := h0.dictAt
    obtain ⟨ep', o', es', ho', _, hd', _, hp', _⟩ := hb.dictAt
    rw [ho] at ho'
    injection ho' with ho'
    subst ho'
    rw [hd] at hd'
    injection hd' with hd'
    subst hd'
    generalize hl : es.toList = l at *
    cases hp
    cases hp'
  have vsl : ∀ b, (∃ o, h.get? b = some o) → ∃ o, h'.get? b = some o := fun b ⟨o, ho⟩ => by
    by_cases q : b = a
    · rw [q]; exact dictLive hd
    · exact ⟨o, e _ _ (fun q' => q (List.mem_singleton.mp q')) ho⟩
  exact ⟨e _ _ (ni I.inst) I.inst, RawD.ext I.dict e (off _ (Gr.muts_iff.mpr (.inl rfl))), em _ I.graph, DictOf.ext I.node e (off _ (Gr.muts_iff.mpr (.inr (.inl rfl)))), DictOf.ext I.adj e (off _ (Gr.muts_iff.mpr (.inr (.inr (.inl rfl))))),
    fun r hr => em _ (I.attr r hr), fun r hr => DictOf.ext (I.nbr r hr) e (off _ (Gr.muts_iff.mpr (.inr (.inr (.inr ⟨r, hr, rfl⟩))))), fun r hr d hdd => em _ (I.dd r hr d hdd),
    fun kv hkv => (I.more kv hkv).imp id fun ⟨a, ev, dv, b, c, d, f, g⟩ => ⟨a, ev, dv, b, e _ _ (ni c) c, DictOf.ext d e (nv d), f, g⟩, fun b hb => vsl b (I.vsl b hb), I.nod, I.fix, I.own⟩
theorem GraphAt.bare (I : GraphAt prog w h G) {x : Str} (hx : ¬ x = "graph" ∧ ¬ x = "_node" ∧ ¬ x = "_adj" ∧ ¬ x = "adj" ∧ ¬ x = "edges") : valueAt G.attrs x = none := by
  unfold valueAt
  have : G.attrs.find? (fun kv => decide (kv.1 = x)) = none := by
    refine List.find?_eq_none.mpr fun kv hkv => ?_
    simp only [decide_eq_true_eq]
    intro q
    rcases List.mem_cons.mp hkv with rfl | hkv
    · exact hx.1 q.symm
    rcases List.mem_cons.mp hkv with rfl | hkv
    · exact hx.2.1 q.symm
    rcases List.mem_cons.mp hkv with rfl | hkv
    · exact hx.2.2.1 q.symm
    rcases I.more kv hkv with ⟨e, _⟩ | ⟨e, _⟩
    · exact hx.2.2.2.1 (q.symm.trans e)
    · exact hx.2.2.2.2 (q.symm.trans e)
  rw [this]; rfl
theorem GraphAt.to {F : List Nat} (I : GraphAt prog w h G) (x : Ext F h h') (hF : ∀ a ∈ G.all, a ∉ F) : GraphAt prog w h' G :=
  I.ext x (fun a ha => hF a (List.mem_append_left _ ha)) fun a ha => hF a (List.mem_append_right _ ha)
theorem GraphAt.k (I : GraphAt prog w h G) (x : Ext [] h h') : GraphAt prog w h' G := I.to x fun _ _ h => nomatch h
theorem Gl.k (Z : Gl w h) (x : Ext [] h h') : Gl w h' := Z.ext x fun _ h => nomatch h
theorem GraphAt.all_live (I : GraphAt prog w h G) {a : Nat} (ha : a ∈ G.all) : ∃ o, h.get? a = some o := I.live (List.mem_append.mp ha)
theorem GraphAt.all_new (I : GraphAt prog w h G) {a : Nat} (e : h.get? a = none) : a ∉ G.all := fun q => let ⟨_, q'⟩ := I.all_live q; nomatch e.symm.trans q'
end
end Mine
end D2
section S1
open PySem PySem.W PyProof.Rows PySem.Calls PySem.Spec
set_option maxRecDepth 100000
set_option maxHeartbeats 8000000
namespace Mine
section
variable {prog : Program} {w : World} {A : Around} {E : Value → Shared → Prop} {s : Shared} {env : Env} {pos : Pos}
theorem swap2 {e1 e2 tx ty : Expr} {x y : Str} {k k' : Nat} {p p' : Pos} {Q : Flow → Shared → Prop} (hh : A.handled = none)
    (h : wpAny (model prog w) A (eval e1 env) (fun v1 s1 => wpAny (model prog w) A (eval e2 env) (fun v2 s2 => ∀ h', (∀ b o, s2.heap.get? b = some o → h'.get? b = some o) →
      wpAny (model prog w) A (storeName env y v2) (fun _ s3 => wpAny (model prog w) A (storeName env x v1) (fun _ => Q .next) E s3) E { s2 with heap := h' }) E s1) E s)
    (hs : swapsWithSole [.Tuple [tx, ty] k p] (.Tuple [e1, e2] k' p') pos.line env = pure false := by rfl) (hw : swappedStores [.Tuple [tx, ty] k p] (.Tuple [e1, e2] k' p') env = pure (some [x, y]) := by rfl)
    (he : starEach [e1, e2] env = [(false, eval e1 env), (false, eval e2 env)] := by rfl) :
    wpAny (model prog w) A (exec (.Assign [.Tuple [tx, ty] k p] (.Tuple [e1, e2] k' p') pos) env) Q E s := by
  have he2 : starEach [e2] env = [(false, eval e2 env)] := by
    have : ∃ b, starEach [e1, e2] env = (b, if b then starEach [e1, e2] env |>.head?.map (·.2) |>.getD (pure .none) else eval e1 env) :: starEach [e2] env := by
      cases e1 <;> exact ⟨_, rfl⟩
    obtain ⟨b, hb⟩ := this
    rw [he] at hb
    exact (List.cons.inj hb).2.symm
  refine Assign_Tuple_swapped (names := [x, y]) (wpAny_Tuple (wpAny_items_cons (wpAny_mono h (fun v1 s1 h1 => wpAny_items_cons (wpAny_mono h1 (fun v2 s2 h2 => wpAny_items_nil ⟨Nat.le_of_ble_eq_true rfl, ?_⟩) (fun _ _ x => x)) (by rw [he2]; rfl)) (fun _ _ x => x)) (by rw [he, he2]))) hs hw
  refine wpAny_unpackItems_tuple (items := #[v1, v2]) hh ⟨_, Heap.get?_push_size _ rfl, rfl, 0, rfl⟩ fun h' hx => ?_
  refine wpAny_assignInOrder_more (wpAny_bindName (wpAny_mono (h2 h' fun b o e => ?_) (fun _ s3 h3 => wpAny_assignInOrder_more (wpAny_bindName (wpAny_mono h3 (fun _ s4 h4 => wpAny_assignInOrder_none h4) fun _ _ x => x))) fun _ _ x => x))
  refine hx b o ?_ (Heap.get?_push_of_some _ e)
  have := Heap.lt_size e
  simp only [Heap.size_push]
  exact Nat.ne_of_lt (Nat.lt_succ_of_lt this)
end
section
variable {prog : Program} {w : World} {A : Around} {E : Value → Shared → Prop} {s : Shared} {G : Gr} {Q : Value → Shared → Prop}
theorem sp_dict (Z : Gl w s.heap) {env : Env} {pos : Pos} (h : ∀ d h' tk, Ext [] s.heap h' → New s.heap d → h'.get? d = some { cls := .type "dict", data := .dict #[] } → Q (.ref d) { s with heap := h', toks := tk }) : wpAny (model prog w) A (eval (.Dict [] [] pos) env) Q E s :=
  wpAny_Dict_empty (h _ _ s.toks (Ext.push _ _) (.pos Z) (Heap.get?_push_size _ rfl))
theorem sp_node_dict (Z : Gl w s.heap) (hroom : A.depth < recursionLimit) {g : Value} (h : ∀ d h' tk, Ext [] s.heap h' → New s.heap d → h'.get? d = some { cls := .type "dict", data := .dict #[] } → Q (.ref d) { s with heap := h', toks := tk }) : wpAny (model prog w) A (call (.ref 338) [g]) Q E s := by
  refine enter' Z hroom (by rfl) (by kernel_rfl) (binds := [("self", g)]) (by kernel_rfl) (by kernel_rfl) (by kernel_rfl) (by rfl) (by rfl) ?_
  exact fun L h₁ tk m hL n => wpAny_execs_cons (wpAny_Return_some (sp_dict (Z.k m) fun d h' tk' m' hn hd => h d h' tk' (m.app m') (hn.back m.keep) hd))
theorem sp_node_attr (Z : Gl w s.heap) (hroom : A.depth < recursionLimit) {g : Value} (h : ∀ d h' tk, Ext [] s.heap h' → New s.heap d → h'.get? d = some { cls := .type "dict", data := .dict #[] } → Q (.ref d) { s with heap := h', toks := tk }) : wpAny (model prog w) A (call (.ref 345) [g]) Q E s := by
  refine enter' Z hroom (by rfl) (by kernel_rfl) (binds := [("self", g)]) (by kernel_rfl) (by kernel_rfl) (by kernel_rfl) (by rfl) (by rfl) ?_
  exact fun L h₁ tk m hL n => wpAny_execs_cons (wpAny_Return_some (sp_dict (Z.k m) fun d h' tk' m' hn hd => h d h' tk' (m.app m') (hn.back m.keep) hd))
theorem sp_outer (Z : Gl w s.heap) (hroom : A.depth < recursionLimit) {g : Value} (h : ∀ d h' tk, Ext [] s.heap h' → New s.heap d → h'.get? d = some { cls := .type "dict", data := .dict #[] } → Q (.ref d) { s with heap := h', toks := tk }) : wpAny (model prog w) A (call (.ref 352) [g]) Q E s := by
  refine enter' Z hroom (by rfl) (by kernel_rfl) (binds := [("self", g)]) (by kernel_rfl) (by kernel_rfl) (by kernel_rfl) (by rfl) (by rfl) ?_
  exact fun L h₁ tk m hL n => wpAny_execs_cons (wpAny_Return_some (sp_dict (Z.k m) fun d h' tk' m' hn hd => h d h' tk' (m.app m') (hn.back m.keep) hd))
theorem sp_inner (Z : Gl w s.heap) (hroom : A.depth < recursionLimit) {g : Value} (h : ∀ d h' tk, Ext [] s.heap h' → New s.heap d → h'.get? d = some { cls := .type "dict", data := .dict #[] } → Q (.ref d) { s with heap := h', toks := tk }) : wpAny (model prog w) A (call (.ref 359) [g]) Q E s := by
  refine enter' Z hroom (by rfl) (by kernel_rfl) (binds := [("self", g)]) (by kernel_rfl) (by kernel_rfl) (by kernel_rfl) (by rfl) (by rfl) ?_
  exact fun L h₁ tk m hL n => wpAny_execs_cons (wpAny_Return_some (sp_dict (Z.k m) fun d h' tk' m' hn hd => h d h' tk' (m.app m') (hn.back m.keep) hd))
theorem sp_edge_factory (Z : Gl w s.heap) (hroom : A.depth < recursionLimit) {g : Value} (h : ∀ d h' tk, Ext [] s.heap h' → New s.heap d → h'.get? d = some { cls := .type "dict", data := .dict #[] } → Q (.ref d) { s with heap := h', toks := tk }) : wpAny (model prog w) A (call (.ref 366) [g]) Q E s := by
  refine enter' Z hroom (by rfl) (by kernel_rfl) (binds := [("self", g)]) (by kernel_rfl) (by kernel_rfl) (by kernel_rfl) (by rfl) (by rfl) ?_
  exact fun L h₁ tk m hL n => wpAny_execs_cons (wpAny_Return_some (sp_dict (Z.k m) fun d h' tk' m' hn hd => h d h' tk' (m.app m') (hn.back m.keep) hd))
theorem sp_graph_attr (Z : Gl w s.heap) (hroom : A.depth < recursionLimit) {g : Value} (h : ∀ d h' tk, Ext [] s.heap h' → New s.heap d → h'.get? d = some { cls := .type "dict", data := .dict #[] } → Q (.ref d) { s with heap := h', toks := tk }) : wpAny (model prog w) A (call (.ref 373) [g]) Q E s := by
  refine enter' Z hroom (by rfl) (by kernel_rfl) (binds := [("self", g)]) (by kernel_rfl) (by kernel_rfl) (by kernel_rfl) (by rfl) (by rfl) ?_
  exact fun L h₁ tk m hL n => wpAny_execs_cons (wpAny_Return_some (sp_dict (Z.k m) fun d h' tk' m' hn hd => h d h' tk' (m.app m') (hn.back m.keep) hd))
end
end Mine
end S1
section S2
open PySem PySem.W PyProof.Rows PySem.Calls PySem.Spec
set_option maxRecDepth 100000
set_option maxHeartbeats 8000000
namespace Mine
section
variable {prog : Program} {w : World} {A : Around} {E : Value → Shared → Prop} {s : Shared} {G : Gr} {Q : Value → Shared → Prop}
theorem mem_b {r : Row} (h : r ∈ G.rows) : r.b ∈ G.all := List.mem_append_left _ (Gr.muts_iff.mpr (.inr (.inr (.inr ⟨r, h, rfl⟩))))
theorem mem_nd : G.nd ∈ G.all := List.mem_append_left _ (Gr.muts_iff.mpr (.inr (.inl rfl)))
theorem mem_ad : G.ad ∈ G.all := List.mem_append_left _ (Gr.muts_iff.mpr (.inr (.inr (.inl rfl))))
theorem mem_gd : G.gd ∈ G.all := List.mem_append_left _ (Gr.muts_iff.mpr (.inl rfl))
theorem mem_g : G.g ∈ G.all := List.mem_append_right _ (Gr.fixed_iff.mpr (.inl rfl))
theorem mem_gr : G.gr ∈ G.all := List.mem_append_right _ (Gr.fixed_iff.mpr (.inr (.inl rfl)))
theorem mem_at {r : Row} (h : r ∈ G.rows) : r.at_ ∈ G.all := List.mem_append_right _ (Gr.fixed_iff.mpr (.inr (.inr (.inr ⟨r, h, .inl rfl⟩))))
theorem mem_dd {r : Row} (h : r ∈ G.rows) {e : Int × Nat} (he : e ∈ r.es) : e.2 ∈ G.all := List.mem_append_right _ (Gr.fixed_iff.mpr (.inr (.inr (.inr ⟨r, h, .inr ⟨e, he, rfl⟩⟩))))
theorem nsLive {h : Heap} {L : Nat} {m : Str → Option Value} (n : h.Ns L m) : ∃ o, h.get? L = some o := let ⟨o, _, _, e, _⟩ := n; ⟨o, e⟩
theorem GraphAt.adjOf {h : Heap} (I : GraphAt prog w h G) {r : Row} (hr : r ∈ G.rows) : valueAt G.adjs r.n = some (.ref r.b) := valueAt_mem (by simpa [Gr.adjs, Function.comp_def] using I.ns) (List.mem_map.mpr ⟨r, hr, rfl⟩)
theorem GraphAt.nodeOf {h : Heap} (I : GraphAt prog w h G) {r : Row} (hr : r ∈ G.rows) : valueAt G.nodes r.n = some (.ref r.at_) := valueAt_mem (by simpa [Gr.nodes, Function.comp_def] using I.ns) (List.mem_map.mpr ⟨r, hr, rfl⟩)
theorem GraphAt.lo {h : Heap} (I : GraphAt prog w h G) {a : Nat} (ha : a ∈ G.all) : (a == sysModules) = false := notMods (I.own a ha)
theorem st_nbr (I : GraphAt prog w s.heap G) (J : Gi G) {r : Row} (hr : r ∈ G.rows) {k : Int} {t : Tok} {d : Nat} (hk : k ∈ G.ids) (hd : s.heap.DictOf (strKind prog w) d []) (hf : d ∉ G.muts) (hlo : 709 ≤ d) {Q : Unit → Shared → Prop}
    (h : ∀ h' tk, Ext [r.b] s.heap h' → GraphAt prog w h' (G.setE r.n k d) → Gi (G.setE r.n k d) → h'.DictOf (strKind prog w) d [] → Q () { s with heap := h', toks := tk }) : wpAny (model prog w) A (setItem (.ref r.b) (.int k t) (.ref d)) Q E s :=
  wpAny_setItem_pairs (knd := intKind prog w) (k := k) (intKind_is _ _ _ _) (I.nbr _ hr) (fun h' hd' hs => h _ _ (Ext.of_same hs) (I.setE hr hd hf hlo (Ext.of_same hs) hd') (J.setE hk)
    (DictOf.ext hd (Ext.of_same hs) fun q => hf (List.mem_singleton.mp q ▸ (Gr.muts_iff.mpr (.inr (.inr (.inr ⟨r, hr, rfl⟩))))))) (by simp only [Row.nbrs, List.length_map]; exact Nat.le_trans (I.short J hr) (Nat.le_of_ble_eq_true rfl))

variable {env : Env} {m : Str → Option Value} {pos : Pos}
theorem gA {x name : Str} {p : Pos} (n : s.heap.Ns env.locals m) (Z : Gl w s.heap) (I : GraphAt prog w s.heap G) (v : Value) (h : ∀ tk, Q v { s with toks := tk }) (hv : valueAt G.attrs name = some v := by rfl) (hl : env.kindOf x = some .local := by rfl) (hm : m x = some (.ref G.g) := by rfl)
    (hp : preFind (KH w) 617 name = true := by kernel_rfl) (hh : handedIn v = true := by rfl) (hk : env.scope.kind = .function := by rfl) (hd : (x == ("__debug__" : Str)) = false := by kernel_rfl) : wpAny (model prog w) A (eval (.Attribute (.Name x p) name pos) env) Q E s :=
  Attribute_Name_ (nmL n hl hm (ga_get Z I hp hv hh (h _)) hk hd)
theorem inN {k : Int} {t : Tok} {kvs : List (Int × Value)} {a : Nat} (lo : (a == sysModules) = false) (hd : s.heap.DictOf (intKind prog w) a kvs) {b : Bool} (hb : (valueAt kvs k).isSome = b) {Q : Value → Shared → Prop} (h : ∀ tk, Q (.bool (!b)) { s with toks := tk }) :
    wpAny (model prog w) A (compareOp .NotIn (.int k t) (.ref a)) Q E s := wpAny_notIn_of (intKind_is _ _ _ _) lo hd.mapOf (by rw [hb]; exact h _)

theorem sp_add_edge (Z : Gl w s.heap) (I : GraphAt prog w s.heap G) (J : Gi G) (hroom : A.depth + 1 < recursionLimit) (hh : A.handled = none) {u v : Int} (hu : u ∈ G.ids) (hv : v ∈ G.ids) (hne : u ≠ v) (tu tv : Tok)
  (h : ∀ h' tk G', Ext G.all s.heap h' → GraphAt prog w h' G' → Gi G' → G'.sh = G.sh → Grow s.heap G G' → (∀ a b, G'.has a b ↔ G.has a b ∨ (a = u ∧ b = v) ∨ (a = v ∧ b = u)) → Q .none { s with heap := h', toks := tk }) :
  wpAny (model prog w) A (call (.ref 485) [.ref G.g, .int u tu, .int v tv]) Q E s := by
  obtain ⟨ru, hru, rfl⟩ := List.mem_map.mp hu
  obtain ⟨rv, hrv, rfl⟩ := List.mem_map.mp hv
  refine enterA' Z (Nat.lt_of_succ_lt hroom) (by rfl) (by kernel_rfl) (o := { cls := .type "dict", data := .dict #[] }) (binds := fun d => [("self", .ref G.g), ("u_of_edge", .int ru.n tu), ("v_of_edge", .int rv.n tv), ("attr", .ref d)]) (by intro d; kernel_rfl) (by rfl) (by kernel_rfl) (by intro d; kernel_rfl) (by rfl) (by rfl) ?_
  intro d L x tk m hL hd hdL hx hn
  refine wpAny_execs_cons (swap2 hh (x := "u") (y := "v") (nmL hn rfl rfl (nmL hn rfl rfl fun h₂ k₂ => stL (hn.keeps k₂) rfl fun h₃ n₃ s₃ => stL n₃ rfl fun h₄ n₄ s₄ => ?_)))
  refine at_ h₄ s.gens s.drawn s.os fun t₄ => ?_
  have m₄ : Ext [] s.heap h₄ := ((m.app (Ext.of_keep k₂ [])).loc hL s₃).loc hL s₄
  have d₄ : h₄.get? d = some { cls := .type "dict", data := .dict #[] } := s₄.extBut _ _ hdL (s₃.extBut _ _ hdL (k₂ _ _ hx))
  clear s₄ s₃ k₂ n₃
  have Z₄ := Z.k m₄
  have I₄ := I.k m₄
  refine wpAny_execs_cons <| wpAny_If <| wpAny_isTrue_Compare1 <| nmL n₄ rfl rfl <| gA n₄ Z₄ I₄ (.ref G.nd) fun t₅ => inN (I.lo mem_nd) I₄.node (b := true) (by rw [I.nodeOf hru]; rfl) fun t₆ => wpAny_truthy_bool <| ite_neg (by simp) <| wpAny_execs_nil ?_
  refine wpAny_execs_cons <| wpAny_If <| wpAny_isTrue_Compare1 <| nmL n₄ rfl rfl <| gA n₄ Z₄ I₄ (.ref G.nd) fun t₅ => inN (I.lo mem_nd) I₄.node (b := true) (by rw [I.nodeOf hrv]; rfl) fun t₆ => wpAny_truthy_bool <| ite_neg (by simp) <| wpAny_execs_nil ?_
  refine wpAny_execs_cons <| wpAny_Assign_Name <| MethodCall_ <| Subscript_ <| gA n₄ Z₄ I₄ (.ref G.ad) fun t₅ => nmL n₄ rfl rfl <| subD I₄.adj (intKind_is _ _ _ _) (I.adjOf hru) <| gmD (I₄.nbr _ hru) PySem.F.slot_dict_get PySem.F.type_dict_get <|
    cwB <| wpAny_items_cons <| nmL n₄ rfl rfl <| wpAny_items_cons <| MethodCall_ <| nmL n₄ rfl rfl <| ga_meth Z₄ I₄ (f := 366) (by kernel_rfl) (by kernel_rfl) (I.bare (by decide)) <| cwF0 Z₄ (by kernel_rfl) <| sp_edge_factory Z₄ hroom fun d₂ h₅ t₅ m₅ new₅ hd₂ => wpAny_items_nil <| dget2 (I.lo (mem_b hru)) ((I₄.k m₅).nbr _ hru) (intKind_is _ _ _ _) ?_
  replace m₅ : Ext [] h₄ h₅ := m₅
  replace new₅ : New h₄ d₂ := new₅
  have I₅ := I₄.k m₅
  obtain ⟨dd, edd, hdd, dlo, dm, dL, ddd, dor⟩ : ∃ dd, (valueAt ru.nbrs rv.n).getD (.ref d₂) = .ref dd ∧ h₅.DictOf (strKind prog w) dd [] ∧ 709 ≤ dd ∧ dd ∉ G.muts ∧ dd ≠ L ∧ dd ≠ d ∧ (dd ∈ G.all ∨ dd = d₂) := by
    cases q : valueAt ru.nbrs rv.n with
    | none => exact ⟨d₂, rfl, dictOf_empty hd₂, new₅.2, fun q => (I₄.new new₅.1).1 q, (let ⟨_, e⟩ := nsLive n₄; new₅.ne e), new₅.ne d₄, .inr rfl⟩
    | some y =>
      obtain ⟨e, he, rfl⟩ : ∃ e ∈ ru.es, Value.ref e.2 = y := by
        unfold valueAt at q
        cases q' : ru.nbrs.find? (fun kv => decide (kv.1 = rv.n)) with
        | none => rw [q'] at q; cases q
        | some z =>
          rw [q'] at q; cases q
          obtain ⟨e, he, e'⟩ := List.mem_map.mp (List.mem_of_find?_eq_some q')
          exact ⟨e, he, by rw [← e']⟩
      have ha := mem_dd hru he
      have al := fun b (q : s.heap.get? b = none) (e' : e.2 = b) => I.all_new q (e' ▸ ha)
      exact ⟨e.2, rfl, I₅.dd _ hru _ he, I.own _ ha, I.fix _ (Gr.fixed_iff.mpr (.inr (.inr (.inr ⟨ru, hru, .inr ⟨e, he, rfl⟩⟩)))), al L hL, al d hd.1, .inl ha⟩
  rw [edd]
  refine stL (n₄.keeps m₅.keep) rfl fun h₆ n₆ s₆ => ?_
  refine at_ h₆ s.gens s.drawn s.os fun t₆ => ?_
  have m₆ : Ext [] s.heap h₆ := (m₄.app m₅).loc hL s₆
  have Z₆ := Z.k m₆
  have I₆ := I.k m₆
  have hdd₆ : h₆.DictOf (strKind prog w) dd [] := hdd.at fun o e => s₆.extBut _ _ dL e
  have hat : h₆.DictOf (strKind prog w) d [] := dictOf_empty (s₆.extBut _ _ hdL (m₅.keep _ _ d₄))
  refine wpAny_execs_cons <| wpAny_Expr_any <| MethodCall_ <| nmL n₆ rfl rfl <| gmD hdd₆ PySem.F.slot_dict_update PySem.F.type_dict_update <| cwB <| wpAny_items_cons <| nmL n₆ rfl rfl <| wpAny_items_nil <| dupd (by exact ddd) (notMods hd.2) hdd₆ (Nat.zero_le _) hat fun h₇ hdd₇ s₇ => ?_
  refine at_ h₇ s.gens s.drawn s.os fun t₇ => ?_
  replace s₇ : Heap.SameBut dd h₆ h₇ := s₇
  have e₇ := Ext.of_same s₇
  have n₇ : h₇.Ns L _ := n₆.at' fun o e => s₇.extBut _ _ (fun q => dL q.symm) e
  have I₇ := I₆.upd dm hdd₆ e₇ hdd₇
  have Z₇ := Z₆.ext e₇ (by intro a ha; rw [List.mem_singleton.mp ha]; exact dlo)
  refine wpAny_execs_cons <| wpAny_Assign_Subscript <| nmL n₇ rfl rfl <| Subscript_ <| gA n₇ Z₇ I₇ (.ref G.ad) fun t₅ => nmL n₇ rfl rfl <| subD I₇.adj (intKind_is _ _ _ _) (I.adjOf hru) <| nmL n₇ rfl rfl <| st_nbr I₇ J hru hv hdd₇ dm dlo fun h₈ t₈ m₈ I₈ J₈ hdd₈ => ?_
  refine at_ h₈ s.gens s.drawn s.os fun t₈ => ?_
  replace m₈ : Ext [ru.b] h₇ h₈ := m₈
  have Lb : ∀ r ∈ G.rows, L ∉ ([r.b] : List Nat) := fun r hr q => I.all_new hL (List.mem_singleton.mp q ▸ mem_b hr)
  have n₈ : h₈.Ns L _ := n₇.at' fun o e => m₈ _ _ (Lb _ hru) e
  have Z₈ := Z₇.ext m₈ (by intro a ha; rw [List.mem_singleton.mp ha]; exact I.own _ (mem_b hru))
  have hrv₈ : rv ∈ (G.setE ru.n rv.n dd).rows := List.mem_map.mpr ⟨rv, hrv, if_neg fun q => hne q.symm⟩
  have sh₈ := setE_sh G ru.n rv.n dd
  refine wpAny_execs_cons <| wpAny_Assign_Subscript <| nmL n₈ rfl rfl <| Subscript_ <| gA n₈ Z₈ I₈ (.ref G.ad) fun t₅ => nmL n₈ rfl rfl <| subD I₈.adj (intKind_is _ _ _ _) (I₈.adjOf hrv₈) <| nmL n₈ rfl rfl <| st_nbr I₈ J₈ hrv₈ (by rw [sh_ids sh₈]; exact hu) hdd₈ (by rw [sh_muts sh₈]; exact dm) dlo fun h₉ t₉ m₉ I₉ J₉ hdd₉ => wpAny_execs_nil ?_
  replace m₉ : Ext [rv.b] h₈ h₉ := m₉
  refine h _ _ _ (Ext.shed (F := [dd] ++ [ru.b] ++ [rv.b]) ?_ ?_) I₉ J₉ ((setE_sh ..).trans sh₈) ?_ fun a b => ?_
  · exact ((m₆.trans e₇).trans m₈).trans m₉
  · intro a ha
    simp only [List.mem_append, List.mem_singleton] at ha
    rcases ha with (rfl | rfl) | rfl
    · exact dor.imp id fun q => by subst q; exact dead m₄.keep new₅.1
    · exact .inl (mem_b hru)
    · exact .inl (mem_b hrv)
  · intro a ha
    have fx : a = dd → a ∈ G.all ∨ s.heap.get? a = none := fun q => by rw [q]; exact dor.imp id fun q => by subst q; exact dead m₄.keep new₅.1
    rcases List.mem_append.mp ha with q | q
    · rw [sh_muts ((setE_sh ..).trans sh₈)] at q; exact .inl (List.mem_append_left _ q)
    · rcases Gr.setE_fixed q with q | q
      · rcases Gr.setE_fixed q with q | q
        · exact .inl (List.mem_append_right _ q)
        · exact fx q
      · exact fx q
  · rw [setE_has (by rw [sh_ids sh₈]; exact hv) (by rw [sh_ids sh₈]; exact I.ns), setE_has hu I.ns, or_assoc]
end
end Mine
end S2
section I1
open PySem PySem.W PyProof.Rows PySem.Calls PySem.Spec
set_option maxRecDepth 100000
set_option maxHeartbeats 8000000
namespace Mine
def Agr (F : List Nat) (h h' : Heap) : Prop := ∀ b ∈ F, ∀ o, h.get? b = some o → h'.get? b = some o
theorem Agr.of {F F' : List Nat} {h h' : Heap} (e : Ext F' h h') (n : ∀ b ∈ F, b ∉ F') : Agr F h h' := fun b hb o q => e b o (n b hb) q
theorem Agr.trans {F : List Nat} {h h' h'' : Heap} (x : Agr F h h') (y : Agr F h' h'') : Agr F h h'' := fun b hb o q => y b hb o (x b hb o q)
theorem Agr.mono {F F' : List Nat} {h h' : Heap} (x : Agr F h h') (n : ∀ b ∈ F', b ∈ F) : Agr F' h h' := fun b hb o q => x b (n b hb) o q
def Agg (Gs : List Nat) (g g' : Array GenState) : Prop := ∀ k ∈ Gs, ∀ x, g[k]? = some x → g'[k]? = some x
structure Itm (dep : List Nat) (h : Heap) (P : Value → Heap → Prop) (v : Value) (h' : Heap) (fv : List Nat) : Prop where
  is : ∀ h'', Agr fv h' h'' → P v h''
  old : ∀ b ∈ fv, b ∈ dep ∨ h.get? b = none
structure Itr (prog : Program) (w : World) (A : Around) (it : Value) (own dep Gs : List Nat) (tgt : Expr) (N : Nat) (P : Nat → Value → Heap → Prop) (St : Nat → Heap → Array GenState → Prop) : Prop where
  sub : ∀ b ∈ own, b ∈ dep
  frame : ∀ i h g h' g', St i h g → Agr dep h h' → Agg Gs g g' → St i h' g'
  next : ∀ (E : Value → Shared → Prop) (Q : Value → Shared → Prop) (s : Shared) i, i < N → St i s.heap s.gens →
    (∀ v h' g' tk fv, Itm dep s.heap (P i) v h' fv → St (i + 1) h' g' → Ext own s.heap h' → GM Gs s.gens g' → Q v { s with heap := h', gens := g', toks := tk }) →
    wpAny (model prog w) A (pyNext it) (fun r s₁ => match r with | none => False | some v => wpAny (model prog w) A (letOwnedTupleGo tgt it v) (fun _ => Q v) E s₁) E s
  done : ∀ (E : Value → Shared → Prop) (Q : Shared → Prop) (s : Shared), St N s.heap s.gens →
    (∀ h' g' tk, Ext own s.heap h' → GM Gs s.gens g' → Q { s with heap := h', gens := g', toks := tk }) →
    wpAny (model prog w) A (pyNext it) (fun r s₁ => match r with | none => Q s₁ | some _ => False) E s
  live : ∀ i h g, St i h g → ∀ b ∈ own, ∃ o, h.get? b = some o
  self : ∀ (E : Value → Shared → Prop) (Q : Value → Shared → Prop) (s : Shared) i, St i s.heap s.gens → Q it s → wpAny (model prog w) A (pyIter it) Q E s
section
variable {prog : Program} {w : World} {A : Around} {E : Value → Shared → Prop} {s : Shared} {env : Env}
theorem for_itr {it : Value} {own dep Gs : List Nat} {tgt : Expr} {N : Nat} {P : Nat → Value → Heap → Prop} {St : Nat → Heap → Array GenState → Prop} {body : List Stmt} {R : Result → Shared → Prop} (W : Itr prog w A it own dep Gs tgt N P St)
    (Inv : Nat → Heap → Array GenState → Prop)
    (step : ∀ i h g tk v h₁ g₁ fv, i < N → Inv i h g → Itm dep h (P i) v h₁ fv → St (i + 1) h₁ g₁ → Ext own h h₁ → GM Gs g g₁ → ∀ E' : Value → Shared → Prop,
      wpAny (model prog w) A (assign tgt env v) (fun _ s₂ => wpAny (model prog w) A (execs body env) (fun f s₃ => f = .next ∧ ∃ h' g' tk', s₃ = { s with heap := h', gens := g', toks := tk' } ∧ Inv (i + 1) h' g' ∧ St (i + 1) h' g') E' s₂) E'
        { s with heap := h₁, gens := g₁, toks := tk })
    (hR : ∀ h g tk h₁ g₁, Inv N h g → Ext own h h₁ → GM Gs g g₁ → R (.ok .next) { s with heap := h₁, gens := g₁, toks := tk })
    (st : St 0 s.heap s.gens) (inv : Inv 0 s.heap s.gens) : codeAny (model prog w) A (.forLoop tgt it body [] env) R s := by
  refine codeAny_forLoop_any (fun n s' => ∃ i h g tk, s' = { s with heap := h, gens := g, toks := tk } ∧ i ≤ N ∧ n = N - i ∧ St i h g ∧ Inv i h g) ?_ N ⟨0, s.heap, s.gens, s.toks, rfl, Nat.zero_le _, rfl, st, inv⟩
  rintro n s' ⟨i, h, g, tk, rfl, hi, rfl, hst, hinv⟩
  rcases Nat.lt_or_ge i N with hlt | hge
  · refine wpAny_mono (W.next _ _ _ i hlt hst fun v h' g' tk' fv hP hst' he hg => step i h g tk' v h' g' fv hlt hinv hP hst' he hg (notedBy (model prog w) A env fun e s' => R (.error e) s')) (fun r s₁ hr => ?_) fun _ _ x => x
    cases r with
    | none => exact hr.elim
    | some v =>
      refine wpAny_mono hr (fun _ s₂ h₂ => wpAny_mono h₂ (fun _ s₃ h₃ => wpAny_mono h₃ (fun f s₄ h₄ => ?_) fun _ _ x => x) fun _ _ x => x) fun _ _ x => x
      obtain ⟨rfl, h', g', tk', rfl, hinv', hst'⟩ := h₄
      exact ⟨N - (i + 1), by omega, i + 1, h', g', tk', rfl, hlt, rfl, hst', hinv'⟩
  · obtain rfl : i = N := Nat.le_antisymm hi hge
    refine wpAny_mono (W.done (notedBy (model prog w) A env fun e s' => R (.error e) s') (fun s₁ => wpAny (model prog w) A (execs [] env) (fun f s₃ => R (.ok f) s₃) (notedBy (model prog w) A env fun e s' => R (.error e) s') s₁) _ hst fun h' g' tk' he hg => wpAny_execs_nil (hR h g tk' h' g' hinv he hg)) (fun r s₁ hr => ?_) fun _ _ x => x
    cases r with
    | none => exact hr
    | some v => exact hr.elim
end
def Since (F : List Nat) (s₀ s : Shared) : Prop := ∃ h' g' tk, s = { s₀ with heap := h', gens := g', toks := tk } ∧ Ext F s₀.heap h' ∧ GM [] s₀.gens g'
theorem Since.refl (F : List Nat) (s : Shared) : Since F s s := ⟨s.heap, s.gens, s.toks, rfl, fun _ _ _ e => e, .refl _⟩
theorem Since.step {F : List Nat} {s₀ s : Shared} (x : Since F s₀ s) {h' : Heap} {g' : Array GenState} {tk : Nat} (e : Ext F s.heap h') (eg : GM [] s.gens g') : Since F s₀ { s with heap := h', gens := g', toks := tk } := by
  obtain ⟨h₁, g₁, tk₁, rfl, hk₁, hg₁⟩ := x
  exact ⟨h', g', tk, rfl, hk₁.app e, hg₁.trans eg⟩
theorem Since.dead {F : List Nat} {s₀ s : Shared} (x : Since F s₀ s) {b : Nat} (n : b ∉ F) (e : s.heap.get? b = none) : s₀.heap.get? b = none := by
  obtain ⟨h₁, g₁, tk₁, rfl, hk₁, _⟩ := x
  cases q : s₀.heap.get? b with
  | none => rfl
  | some o => rw [hk₁ b o n q] at e; cases e
theorem Itm.back {dep F : List Nat} {h₀ h h' : Heap} {P : Value → Heap → Prop} {v : Value} {fv : List Nat} (x : Itm dep h P v h' fv) (e : Ext F h₀ h) (s : ∀ b ∈ F, b ∈ dep ∨ h₀.get? b = none ∨ b ∉ fv) : Itm dep h₀ P v h' fv :=
  ⟨x.is, fun b hb => (x.old b hb).elim .inl fun q => by
    by_cases m : b ∈ F
    · exact (s b m).elim .inl fun q' => q'.elim .inr fun q'' => absurd hb q''
    · cases q' : h₀.get? b with
      | none => exact .inr rfl
      | some o => rw [e b o m q'] at q; cases q⟩
def gY (C : Nat) (own dep : List Nat) (N : Nat) (P : Nat → Value → Heap → Prop) : Protocol := fun m s₀ v s kap =>
  m < N ∧ (∃ fv, Itm dep s₀.heap (P (N - 1 - m)) v s.heap fv) ∧ Since (C :: own) s₀ s ∧ (∀ b ∈ C :: own, ∃ o, s.heap.get? b = some o) ∧ ∀ s'' : Shared, Agr (C :: dep) s.heap s''.heap → kap (.send .none) s''
abbrev gR (C : Nat) (own : List Nat) : GenEnd := fun n s₀ r s₁ => r = .ok .next ∧ (n = 0 ∧ Since (C :: own) s₀ s₁)
def GenBody (prog : Program) (w : World) (cenv : Env) (tgt elt : Expr) (dep : List Nat) (N : Nat) (P₀ P : Nat → Value → Heap → Prop) (B : Heap → Prop) : Prop :=
  ∀ (A' : Around) (E' : Value → Shared → Prop) i v (s₁ : Shared) m fv, A'.handled = none → i < N → (∀ h', Agr fv s₁.heap h' → P₀ i v h') → cenv.locals ∉ fv → cenv.locals ∉ dep → B s₁.heap → s₁.heap.Ns cenv.locals m →
    wpAny (model prog w) A' (assign tgt cenv v) (fun _ s₂ => wpAny (model prog w) A' (eval elt cenv) (fun y s₃ => ∃ h' tk m' fy, s₃ = { s₁ with heap := h', toks := tk } ∧ Itm dep s₁.heap (P i) y h' fy ∧ Ext [cenv.locals] s₁.heap h' ∧ h'.Ns cenv.locals m') E' s₂) E' s₁
section
variable {prog : Program} {w : World} {A : Around}
theorem seg_gen {elt iter tgt : Expr} {scope : Scope} {pos : Pos} {it : Value} {own dep : List Nat} {N : Nat} {P₀ P : Nat → Value → Heap → Prop} {St₀ : Nat → Heap → Array GenState → Prop} {cenv : Env} (B : Heap → Prop)
    (hh : A.handled = none) (W₀ : ∀ A' : Around, A'.handled = none → Itr prog w A' it own dep [] tgt N P₀ St₀) (hco : cenv.scope.isCoroutine = false) (hC : cenv.locals ∉ dep)
    (hB : ∀ h h', B h → (∀ b ∈ dep, b ∉ own → ∀ o, h.get? b = some o → h'.get? b = some o) → B h')
    (hb : GenBody prog w cenv tgt elt dep N P₀ P B) :
    ∀ (k i : Nat) (s₀ s : Shared) (m : Str → Option Value), N - i = k → i ≤ N → St₀ i s.heap s.gens → s.heap.Ns cenv.locals m → Since (cenv.locals :: own) s₀ s → B s.heap →
      Seg (model prog w) A (gR cenv.locals own) (gY cenv.locals own dep N P) (N - i) s₀ (.compLoop (.GeneratorExp elt [⟨tgt, iter, [], 0⟩] scope pos) 0 it .none cenv)
        ((model prog w).den (.compLoop (.GeneratorExp elt [⟨tgt, iter, [], 0⟩] scope pos) 0 it .none cenv)) [] s := by
  have hh' : (A.over (.compLoop (.GeneratorExp elt [⟨tgt, iter, [], 0⟩] scope pos) 0 it .none cenv) []).handled = none := hh
  have hCo : cenv.locals ∉ own := fun h => hC ((W₀ A hh).sub _ h)
  intro k
  induction k with
  | zero =>
    intro i s₀ s m hk hi hst hn hsince hBs
    obtain rfl : i = N := by omega
    show Seg _ A _ _ _ s₀ _ ((compTurn (.GeneratorExp elt [⟨tgt, iter, [], 0⟩] scope pos) 0 it .none cenv).onRaise (leaving cenv)) [] s
    rw [compTurn_gen, Sem.onRaise_eq_wrap]
    refine seg_bind_wrap (wpAny_standAt ?_)
    refine seg_bind_wrap (wpAny_mono ((W₀ _ hh').done _ (fun s' => Since (cenv.locals :: own) s₀ s') s hst fun h' g' tk he hg => hsince.step (he.mono fun a ha => .tail _ ha) hg) (fun r s' hr => ?_) fun _ _ x => x)
    cases r with
    | none => exact seg_end (.ok .next) ⟨rfl, by omega, hr⟩
    | some v => exact hr.elim
  | succ k ih =>
    intro i s₀ s m hk hi hst hn hsince hBs
    have hlt : i < N := by omega
    rw [show N - i = (N - (i + 1)) + 1 by omega]
    show Seg _ A _ _ _ s₀ _ ((compTurn (.GeneratorExp elt [⟨tgt, iter, [], 0⟩] scope pos) 0 it .none cenv).onRaise (leaving cenv)) [] s
    rw [compTurn_gen, Sem.onRaise_eq_wrap]
    refine seg_bind_wrap (wpAny_standAt ?_)
    refine seg_bind_wrap (wpAny_mono ((W₀ _ hh').next _ (fun v s' => ∃ h' g' tk fv, s' = { s with heap := h', gens := g', toks := tk } ∧ Itm dep s.heap (P₀ i) v h' fv ∧ St₀ (i + 1) h' g' ∧ Ext own s.heap h' ∧ GM [] s.gens g') s i hlt hst
      fun v h' g' tk fv hP hst' he hg => ⟨h', g', tk, fv, rfl, hP, hst', he, hg⟩) (fun r s' hr => ?_) fun _ _ x => x)
    cases r with
    | none => exact hr.elim
    | some v =>
    refine seg_bind_wrap (wpAny_mono hr (fun _ s' hr' => ?_) fun _ _ x => x)
    obtain ⟨h₁, g₁, tk₁, fv, rfl, hP, hst₁, he₁, hg₁⟩ := hr'
    obtain ⟨oC, hoC⟩ := nsLive hn
    have hn₁ : h₁.Ns cenv.locals m := hn.at' fun o e => he₁ _ _ hCo e
    have hCfv : cenv.locals ∉ fv := fun q => (hP.old _ q).elim hC fun q' => by rw [hoC] at q'; cases q'
    have hB₁ : B h₁ := hB _ _ hBs fun b _ hbo o e => he₁ b o hbo e
    refine seg_bind_wrap (wpAny_mono (hb _ _ i v { s with heap := h₁, gens := g₁, toks := tk₁ } m fv hh' hlt hP.is hCfv hC hB₁ hn₁) (fun _ s₂ h₂ => ?_) fun _ _ x => x)
    refine seg_bind_wrap (wpAny_of_eq (rfl : (forIn ([] : List Expr) true fun c r => if r = true then do let ok ← isTrue c cenv (eval c cenv); pure (ForInStep.yield ok) else pure (ForInStep.yield r)) = pure true) ?_)
    simp only [if_true]
    have hy : ∀ v, yieldOut cenv v = yieldValue v := fun v => by simp only [yieldOut, hco, Bool.false_eq_true, if_false]
    simp only [hy]
    rw [Sem.bind_eq_wrap', Sem.bind_eq_wrap', Sem.wrap_wrap, Sem.wrap_wrap]
    refine seg_wrap (wpAny_mono h₂ (fun y s₃ h₃ => ?_) fun _ _ x => x)
    obtain ⟨h₃, tk₃, m₃, fy, rfl, hPy, he₃, hn₃⟩ := h₃
    have hs₁ : Since (cenv.locals :: own) s₀ { s with heap := h₁, gens := g₁, toks := tk₁ } := hsince.step (he₁.mono fun a ha => .tail _ ha) hg₁
    have hs₃ : Since (cenv.locals :: own) s₀ { s with heap := h₃, gens := g₁, toks := tk₃ } := hsince.step ((he₁.mono fun a ha => .tail _ ha).app (he₃.mono fun a ha => by rw [List.mem_singleton.mp ha]; exact .head _)) hg₁
    refine seg_at (seg_yield rfl rfl rfl ⟨by omega, ⟨fy, ?_⟩, hs₃, ?_, fun s'' hal => ?_⟩)
    · rw [show N - 1 - (N - (i + 1)) = i by omega]
      obtain ⟨h₁', g₁', tk₁', e₁', hk₁', _⟩ := hs₁
      have e₂ : h₁ = h₁' := congrArg Shared.heap e₁'
      subst e₂
      refine hPy.back hk₁' fun b hb => ?_
      rcases List.mem_cons.mp hb with rfl | hb
      · refine .inr (.inr fun q => (hPy.old _ q).elim hC fun q' => ?_)
        obtain ⟨o, ho⟩ := nsLive hn₁
        exact nomatch ho.symm.trans q'
      · exact .inl ((W₀ A hh).sub _ hb)
    · intro b hb
      rcases List.mem_cons.mp hb with rfl | hb
      · exact nsLive hn₃
      · obtain ⟨o, ho⟩ := (W₀ A hh).live _ _ _ hst₁ b hb
        exact ⟨o, he₃ b o (fun q => hC (List.mem_singleton.mp q ▸ (W₀ A hh).sub _ hb)) ho⟩
    · have hn'' : s''.heap.Ns cenv.locals m₃ := hn₃.at' fun o e => hal _ (.head _) o e
      have hal' : Agr dep h₁ s''.heap := fun b hb o e => hal b (.tail _ hb) o (he₃ b o (fun q => hC (List.mem_singleton.mp q ▸ hb)) e)
      refine seg_again rfl (ih (i + 1) s'' s'' m₃ (by omega) hlt ((W₀ A hh).frame _ _ _ _ _ hst₁ hal' (fun _ h => nomatch h)) hn'' (.refl _ _) (hB _ _ hB₁ fun b hb _ o e => hal' b hb o e))
theorem seg_start {elt iter tgt : Expr} {scope : Scope} {pos : Pos} {it : Value} {own dep : List Nat} {N : Nat} {P₀ P : Nat → Value → Heap → Prop} {St₀ : Nat → Heap → Array GenState → Prop} {cenv : Env} (B : Heap → Prop)
    (hh : A.handled = none) (W₀ : ∀ A' : Around, A'.handled = none → Itr prog w A' it own dep [] tgt N P₀ St₀) (hco : cenv.scope.isCoroutine = false) (hC : cenv.locals ∉ dep)
    (hB : ∀ h h', B h → (∀ b ∈ dep, b ∉ own → ∀ o, h.get? b = some o → h'.get? b = some o) → B h') (hb : GenBody prog w cenv tgt elt dep N P₀ P B)
    (s : Shared) (m : Str → Option Value) (hst : St₀ 0 s.heap s.gens) (hn : s.heap.Ns cenv.locals m) (hBs : B s.heap) :
    Seg (model prog w) A (gR cenv.locals own) (gY cenv.locals own dep N P) N s (.compStart (.GeneratorExp elt [⟨tgt, iter, [], 0⟩] scope pos) 0 it .none cenv)
        ((model prog w).den (.compStart (.GeneratorExp elt [⟨tgt, iter, [], 0⟩] scope pos) 0 it .none cenv)) [] s := by
  have loop := seg_gen (iter := iter) (scope := scope) (pos := pos) (A := A) B hh W₀ hco hC hB hb N 0 s s m rfl (Nat.zero_le _) hst hn (.refl _ _) hBs
  rw [Nat.sub_zero] at loop
  have hh' : (A.over (.compStart (.GeneratorExp elt [⟨tgt, iter, [], 0⟩] scope pos) 0 it .none cenv) []).handled = none := hh
  show Seg _ A _ _ _ s _ ((compStart (.GeneratorExp elt [⟨tgt, iter, [], 0⟩] scope pos) 0 it .none cenv).onRaise (leaving cenv)) [] s
  unfold compStart
  rw [Sem.onRaise_eq_wrap]
  show Seg _ A _ _ _ s _ ((ask >>= _).wrap _ _ _ _) [] s
  refine seg_bind_wrap (wpAny_askSetting ?_)
  split
  · exact seg_again rfl loop
  · refine seg_bind_wrap (wpAny_rule ?_)
    show Seg _ A _ _ _ s _ ((standAt iter.pos >>= _).wrap _ _ _ _) [] s
    exact seg_bind_wrap (wpAny_standAt (seg_bind_wrap ((W₀ _ hh').self _ _ s 0 hst (seg_again rfl loop))))
end
end Mine
end I1
section I2
open PySem PySem.W PyProof.Rows PySem.Calls PySem.Spec
set_option maxRecDepth 100000
set_option maxHeartbeats 8000000
namespace Mine
theorem setIfInBounds_mem {α : Type} {a : Array α} {k : Nat} {x y : α} (h : y ∈ a.setIfInBounds k x) : y ∈ a ∨ y = x := by
  obtain ⟨i, hi, rfl⟩ := Array.mem_iff_getElem.mp h
  rw [Array.getElem_setIfInBounds]
  · split
    · exact .inr rfl
    · exact .inl (Array.getElem_mem _)
  · simpa using hi
theorem GM.set {g : Array GenState} {k : Nat} {x : GenState} (hx : x.bare = true) : GM [k] g (g.setIfInBounds k x) :=
  ⟨fun j y n e => by
    have : k ≠ j := fun q => n (by rw [q]; exact .head _)
    rw [Array.getElem?_setIfInBounds_ne this]; exact e,
   fun b y hy => (setIfInBounds_mem hy).elim (b y) fun q => q ▸ hx⟩
def genSt (prog : Program) (w : World) (A : Around) (a k C : Nat) (own dep : List Nat) (N : Nat) (P : Nat → Value → Heap → Prop) : Nat → Heap → Array GenState → Prop := fun i h g =>
  h.IsGen a k ∧ h.NoLimit ∧ (∀ b ∈ C :: own, ∃ o, h.get? b = some o) ∧ ∃ gs, g[k]? = some gs ∧ ∀ s'' : Shared, Agr (C :: dep) h s''.heap → gs.Goes (model prog w) A.in1 (gR C own) (gY C own dep N P) (N - i) (.send .none) s''
section
variable {prog : Program} {w : World} {A : Around}
theorem gen_itr {a k C N : Nat} {own dep : List Nat} {P : Nat → Value → Heap → Prop} (hh : A.handled = none) (hroom : A.depth < recursionLimit) (hsub : ∀ b ∈ own, b ∈ dep) (haC : a ≠ C) (had : a ∉ dep) (hsC : cStatics ≠ C) (hso : cStatics ∉ own) (x : Str) (p : Pos) :
    Itr prog w A (.ref a) (C :: own) (a :: cStatics :: C :: dep) [k] (.Name x p) N P (genSt prog w A a k C own dep N P) where
  sub := fun b hb => by
    rcases List.mem_cons.mp hb with rfl | hb
    · exact .tail _ (.tail _ (.head _))
    · exact .tail _ (.tail _ (.tail _ (hsub b hb)))
  frame := fun i h g h' g' st agr agg => by
    obtain ⟨⟨o, nm, qn, ho, r⟩, ⟨mc, hns, hnn⟩, hlv, gs, hgs, hgo⟩ := st
    exact ⟨⟨o, nm, qn, agr _ (.head _) _ ho, r⟩, ⟨mc, hns.at' fun o e => agr _ (.tail _ (.head _)) o e, hnn⟩, (fun b hb => let ⟨o, ho⟩ := hlv b hb; ⟨o, agr b (.tail _ (.tail _ ((List.mem_cons.mp hb).elim (fun q => q ▸ .head _) fun q => .tail _ (hsub _ q)))) o ho⟩), gs, agg k (.head _) _ hgs, fun s'' hal => hgo s'' ((agr.mono fun b hb => .tail _ (.tail _ hb)).trans hal)⟩
  next := fun E Q s i hi st hQ => by
    obtain ⟨hg, hl, hlv, gs, hgs, hgo⟩ := st
    obtain ⟨m, hm⟩ : ∃ m, N - i = m + 1 := ⟨N - i - 1, by omega⟩
    rw [hm] at hgo
    have hao : a ∉ own := fun q => had (hsub _ q)
    refine wpAny_mono (wpAny_pyNext_genexpQ (P := fun n s₀ s₁ => n = 0 ∧ Since (C :: own) s₀ s₁) (Q := fun r s₁ => match r with | none => False | some v => Q v s₁) hh hl hroom hg hgs (hgo _ fun _ _ _ e => e) (fun v s₁ gs' hb hv => ?_) (fun s₁ hp h' hk => ?_)) (fun r s₁ hr => ?_) fun _ _ e => e
    · obtain ⟨_, ⟨fv, hitm⟩, ⟨h₁, g₁, tk₁, rfl, he, hg₁⟩, hlv₁, hkap⟩ := hv
      rw [show N - 1 - (m + 1 - 1) = i by omega] at hitm
      have hlen : k < s.gens.size := (Array.getElem?_eq_some_iff.mp hgs).1
      have hrun : (s.setGen k .running).gens[k]? = some .running := by simp [Shared.setGen, hlen]
      have hg₁k : g₁[k]? = some .running := hg₁.at_ k _ (fun h => nomatch h) hrun
      have hlen₁ : k < g₁.size := (Array.getElem?_eq_some_iff.mp hg₁k).1
      refine hQ v h₁ (g₁.setIfInBounds k gs') tk₁ fv ⟨hitm.is, fun b hb => (hitm.old b hb).imp (fun q => .tail _ (.tail _ (.tail _ q))) id⟩ ⟨?_, ?_, hlv₁, gs', by simp [hlen₁], fun s'' hal => ?_⟩ he ((GM.set rfl).trans ((hg₁.mono fun _ h => nomatch h).trans (GM.set hb)))
      · obtain ⟨o, nm, qn, ho, r⟩ := hg
        exact ⟨o, nm, qn, he _ _ (fun q => (List.mem_cons.mp q).elim haC hao) ho, r⟩
      · obtain ⟨mc, hns, hnn⟩ := hl
        exact ⟨mc, hns.at' fun o e => he _ _ (fun q => (List.mem_cons.mp q).elim hsC hso) e, hnn⟩
      · rw [show N - (i + 1) = m by omega]
        exact hkap s'' hal
    · exact absurd hp.1 (Nat.succ_ne_zero m)
    · cases r with
      | none => exact hr
      | some v => exact wpAny_of_eq (rfl : letOwnedTupleGo (.Name x p) (.ref a) v = pure ()) hr
  done := fun E Q s st hQ => by
    obtain ⟨hg, hl, hlv, gs, hgs, hgo⟩ := st
    rw [Nat.sub_self] at hgo
    refine wpAny_mono (wpAny_pyNext_genexpQ (P := fun n s₀ s₁ => n = 0 ∧ Since (C :: own) s₀ s₁) (Q := fun r s₁ => match r with | none => Q s₁ | some v => False) hh hl hroom hg hgs (hgo _ fun _ _ _ e => e) (fun v s₁ gs' hb hv => ?_) (fun s₁ hp h' hk => ?_)) (fun r s₁ hr => ?_) fun _ _ e => e
    · obtain ⟨_, _, _, _, hkap⟩ := hv
      exact hkap s₁ fun _ _ _ e => e
    · obtain ⟨_, h₁, g₁, tk₁, rfl, he, hg₁⟩ := hp
      exact hQ h' (g₁.setIfInBounds k .finished) tk₁ (he.app (Ext.of_keep hk _)) ((GM.set rfl).trans ((hg₁.mono fun _ h => nomatch h).trans (GM.set rfl)))
    · cases r with
      | none => exact hr
      | some v => exact hr.elim
  live := fun i h g st => st.2.2.1
  self := fun E Q s i st h => wpAny_pyIter_gen st.1 h
variable {E : Value → Shared → Prop} {s : Shared} {env : Env}
theorem gcode {c Pl : Addr} {pos : Pos} {q : Str} {scope : Scope} {Q : Value → Shared → Prop} (hc : env.code = .ref c) (hcd : codeHdIn (KH w) c Pl = true) (hP : Pl ∈ pools) (Z : Gl w s.heap)
    (h : ∀ code h' tk, Ext [Pl] s.heap h' → Gl w h' → Q code { s with heap := h', toks := tk }) : wpAny (model prog w) A (genexprCode env pos q scope) Q E s := by
  obtain ⟨ps, hps, ht⟩ := Z.pool Pl hP
  have C := codeHd_of_K Z.X hcd
  cases e : codeAmong pos ps.toList with
  | some c' => exact wpAny_genexprCode_hit hc (C.code hps ht) e (h c' s.heap s.toks (fun _ _ _ e => e) Z)
  | none =>
    refine wpAny_genexprCodeX hc (C.code hps ht) (C.tab hps) e fun c' h' tk he _ _ hcode _ htab _ => h _ _ _ (Ext.of_extBut he) (Z.tab (Ext.of_extBut he) hP htab.2 ?_)
    obtain ⟨_, _, _, _, _, _, _, _, _, op, _, _, _, _, _, _, _, h1, h2, h3, _⟩ := hcode
    exact h3
theorem gen_make {elt target iter : Expr} {scope : Scope} {cl : List (Str × Addr)} {pos : Pos} {c Pl : Addr} {Q : Value → Shared → Prop}
    (hcode : env.code = .ref c) (hcd : codeHdIn (KH w) c Pl = true) (hP : Pl ∈ pools) (hg : env.globals = mainGlobals) (hbi : env.builtins = builtinsNs)
    (hco : scope.isCoroutine = false) (hclos : closureFor scope env = pure cl) (hcell : (scope.names.all fun y => match y.2 with | .cell => false | _ => true) = true) (h0 : scope.names.lookup (".0" : Str) = some NameKind.local)
    (hkind : scope.kind = .function) (hroom : A.depth < recursionLimit) (hs : ∀ x, genFold iter env x = pure x)
    (h : wpAny (model prog w) A (eval iter env) (fun xv s₁ => wpAny (model prog w) A (pyIter xv) (fun it s₂ => Gl w s₂.heap ∧ ∀ h₃ code, Ext [Pl] s₂.heap h₃ → Gl w h₃ →
      ∃ own dep N P₀ P St₀ B, (∀ A' : Around, A'.handled = none → Itr prog w A' it own dep [] target N P₀ St₀) ∧ St₀ 0 h₃ s₂.gens ∧ B h₃ ∧ (∀ b ∈ dep, ∃ o, h₃.get? b = some o) ∧ cStatics ∉ own ∧
        (∀ h h', B h → (∀ b ∈ dep, b ∉ own → ∀ o, h.get? b = some o → h'.get? b = some o) → B h') ∧ (∀ C, GenBody prog w (genEnv scope cl C code builtinsNs env) target elt dep N P₀ P B) ∧
        ∀ a k C h' g' tk, Ext [] h₃ h' → GM [] s₂.gens g' → New h₃ C → New h₃ a → s₂.gens[k]? = none → (∀ A' : Around, A'.handled = none → A'.depth < recursionLimit → ∀ x p,
          Itr prog w A' (.ref a) (C :: own) (a :: cStatics :: C :: dep) [k] (.Name x p) N P (genSt prog w A' a k C own dep N P) ∧ genSt prog w A' a k C own dep N P 0 h' g') → (∀ b ∈ a :: cStatics :: C :: dep, ∃ o, h'.get? b = some o) →
          Q (.ref a) { s₂ with heap := h', gens := g', toks := tk }) E s₁) E s) :
    wpAny (model prog w) A (eval (.GeneratorExp elt [⟨target, iter, [], 0⟩] scope pos) env) Q E s := by
  have hcell' : ∀ y ∈ scope.names, y.2 ≠ .cell := fun y hy e => by
    have := List.all_eq_true.mp hcell y hy
    rw [e] at this; cases this
  refine wpAny_GeneratorExp_make hco hclos hcell' h0 hkind hroom (wpAny_mono h (fun xv s₁ h₁ => wpAny_mono h₁ (fun it s₂ h₂ => ⟨h₂.1.lim, gcode hcode hcd hP h₂.1 fun code h₃ tk₃ e₃ Z₃ => ?_⟩) fun _ _ e => e) fun _ _ e => e) hs
  obtain ⟨mg, ob, M⟩ := Z₃.mod
  refine wpAny_builtinsFor (by rw [hg]; exact M.ns) M.name M.ne M.obj M.cls M.dict M.data ?_
  intro h₄ n₄ s₄
  obtain ⟨own, dep, N, P₀, P, St₀, B, W₀, hst, hB, hlive, hso, hBk, hbody, hQ⟩ := h₂.2 h₃ code e₃ Z₃
  have n₄' : h₄.Ns h₃.objs.size (fun y => if y = ".0" then some it else none) := n₄
  have s₄' : Heap.SameBut h₃.objs.size (h₃.push { cls := .type "frame", data := .dict #[] }) h₄ := s₄
  have hsz : h₄.objs.size = h₃.objs.size + 1 := by rw [s₄'.1, Heap.size_push]
  have e₄ : Ext [] h₃ h₄ := fun b o _ e => s₄'.extBut b o (Nat.ne_of_lt (Heap.lt_size e)) (Heap.get?_push_of_some _ e)
  have hlt : ∀ b ∈ dep, b < h₃.objs.size := fun b hb => let ⟨_, ho⟩ := hlive b hb; Heap.lt_size ho
  have hgs : s₂.gens[s₂.gens.size]? = none := Array.getElem?_eq_none (Nat.le_refl _)
  have hCd : h₃.objs.size ∉ dep := fun q => Nat.lt_irrefl _ (hlt _ q)
  have hst' : cStatics < h₃.objs.size := let ⟨_, hn, _⟩ := Z₃.lim; hn.lt
  have dead₄ : h₃.get? h₄.objs.size = none := by
    cases q : h₃.get? h₄.objs.size with
    | none => rfl
    | some o => exact absurd (Heap.lt_size q) (by rw [hsz]; exact Nat.not_lt.mpr (Nat.le_succ _))
  have keep₅ : ∀ o, Ext [] h₃ (h₄.push o) := fun o => e₄.app (Ext.push _ _)
  refine hQ h₄.objs.size s₂.gens.size h₃.objs.size _ _ _ (keep₅ _) ⟨fun k x _ e => ?_, fun b => b.push rfl⟩ ⟨get?_size _, Z₃.big⟩ ⟨dead₄, by rw [hsz]; exact Nat.le_succ_of_le Z₃.big⟩ hgs (fun A' hh' hr' x p => ⟨gen_itr hh' hr' (W₀ A' hh').sub (by rw [hsz]; exact Nat.succ_ne_self _) (fun q => absurd (hlt _ q) (by rw [hsz]; exact Nat.not_lt.mpr (Nat.le_succ _))) (Nat.ne_of_lt hst') hso x p, ?_⟩) ?_
  · obtain ⟨hk, e'⟩ := Array.getElem?_eq_some_iff.mp e
    rw [Array.getElem?_push_lt hk, e']
  · refine ⟨⟨_, _, _, Heap.get?_push_size _ rfl, rfl, rfl, rfl⟩, (Z₃.k (keep₅ _)).lim, fun b hb => ?_, _, Array.getElem?_push_size .., fun s'' hal => ⟨rfl, ?_⟩⟩
    · rcases List.mem_cons.mp hb with rfl | hb
      · obtain ⟨o, ho⟩ := nsLive n₄'
        exact ⟨o, Heap.get?_push_of_some _ ho⟩
      · obtain ⟨o, ho⟩ := hlive b ((W₀ A' hh').sub _ hb)
        exact ⟨o, keep₅ _ b o (fun h => nomatch h) ho⟩
    refine seg_start (A := A'.in1) (cenv := genEnv scope cl h₃.objs.size code builtinsNs env) B hh' W₀ hco hCd hBk (hbody _) s'' (fun y => if y = ".0" then some it else none) ?_ ?_ ?_
    · exact (W₀ A' hh').frame _ _ _ _ _ hst (fun b hb o e => hal b (.tail _ hb) o (keep₅ _ b o (fun h => nomatch h) e)) fun _ h => nomatch h
    · exact n₄'.at' fun o e => hal _ (.head _) o (Heap.get?_push_of_some _ e)
    · exact hBk _ _ hB fun b hb _ o e => hal b (.tail _ hb) o (keep₅ _ b o (fun h => nomatch h) e)
  · intro b hb
    rcases List.mem_cons.mp hb with rfl | hb
    · exact ⟨_, Heap.get?_push_size _ rfl⟩
    · have live : ∀ b, (∃ o, h₃.get? b = some o) → ∃ o, (h₄.push { cls := .type "generator", data := .fields #[.int s₂.gens.size 0, .str "<genexpr>" (tk₃ + 1), .str (env.qual ++ "<genexpr>") (tk₃ + 1 + 1)] }).get? b = some o := fun b ⟨o, ho⟩ => ⟨o, keep₅ _ b o (fun h => nomatch h) ho⟩
      rcases List.mem_cons.mp hb with rfl | hb
      · obtain ⟨_, ⟨o, _, _, ho, _⟩, _⟩ := Z₃.lim
        exact live _ ⟨o, ho⟩
      · rcases List.mem_cons.mp hb with rfl | hb
        · obtain ⟨o, ho⟩ := nsLive n₄'
          exact ⟨o, Heap.get?_push_of_some _ ho⟩
        · exact live _ (hlive b hb)
end
end Mine
end I2
section I3
open PySem PySem.W PyProof.Rows PySem.Calls PySem.Spec
set_option maxRecDepth 100000
set_option maxHeartbeats 8000000
namespace Mine
section
variable {prog : Program} {w : World} {A : Around}
theorem Itr.wide {it : Value} {own dep dep' Gs : List Nat} {tgt : Expr} {N : Nat} {P : Nat → Value → Heap → Prop} {St : Nat → Heap → Array GenState → Prop} (W : Itr prog w A it own dep Gs tgt N P St) (h : ∀ b ∈ dep, b ∈ dep') : Itr prog w A it own dep' Gs tgt N P St where
  sub := fun b hb => h b (W.sub b hb)
  frame := fun i h₁ g h' g' st a b => W.frame i h₁ g h' g' st (a.mono h) b
  next := fun E Q s i hi st hQ => W.next E Q s i hi st fun v h' g' tk fv itm => hQ v h' g' tk fv ⟨itm.is, fun b hb => (itm.old b hb).imp (h b) id⟩
  done := W.done
  live := W.live
  self := W.self
theorem Itr.ofWalks {I : Addr} {fp wr : List Addr} {n : Nat} {P : Nat → Value → Prop} {St : Nat → Heap → Prop} (W : Walks prog w A I fp wr n P St) (hl : ∀ i h, St i h → ∀ b ∈ wr, ∃ o, h.get? b = some o) (x : Str) (p : Pos) : Itr prog w A (.ref I) wr fp [] (.Name x p) n (fun i v _ => P i v) (fun i h _ => St i h) where
  sub := W.sub
  frame := fun i h g h' g' st a _ => W.frame i h h' st a
  next := fun E Q s i hi st hQ => wpAny_mono (W.item i s (fun r s₁ => match r with | none => False | some v => Q v s₁) E hi st fun v h' tk hP st' k => hQ v h' s.gens tk [] ⟨fun _ _ => hP, fun _ h => nomatch h⟩ st' k (.refl _)) (fun r s₁ hr => by
    cases r with
    | none => exact hr
    | some v => exact wpAny_of_eq (rfl : letOwnedTupleGo (.Name x p) (.ref I) v = pure ()) hr) fun _ _ e => e
  done := fun E Q s st hQ => W.done s (fun r s₁ => match r with | none => Q s₁ | some _ => False) E st fun h' tk k => hQ h' s.gens tk k (.refl _)
  live := fun i h _ st => hl i h st
  self := fun E Q s i st h => W.self i s Q E st h
theorem Itr.onto {it : Value} {own dep Gs : List Nat} {tgt : Expr} {N : Nat} {P P' : Nat → Value → Heap → Prop} {St : Nat → Heap → Array GenState → Prop} (W : Itr prog w A it own dep Gs tgt N P St) {dep₀ : List Nat} (h₀ : Heap) (hd : ∀ b ∈ dep₀, b ∈ dep) (ho : ∀ b ∈ dep₀, b ∉ own)
    (hP : ∀ i v h h', i < N → P i v h → Agr dep₀ h₀ h' → P' i v h') : Itr prog w A it own dep Gs tgt N P' (fun i h g => St i h g ∧ Agr dep₀ h₀ h) where
  sub := W.sub
  frame := fun i h g h' g' st a b => ⟨W.frame i h g h' g' st.1 a b, st.2.trans (a.mono hd)⟩
  next := fun E Q s i hi st hQ => W.next E Q s i hi st.1 fun v h' g' tk fv itm st' e => by
    have a' : Agr dep₀ h₀ h' := st.2.trans (Agr.of e ho)
    exact hQ v h' g' tk (fv ++ dep₀) ⟨fun h'' a => hP i v h'' h'' hi (itm.is h'' (a.mono fun b hb => List.mem_append_left _ hb)) (a'.trans (a.mono fun b hb => List.mem_append_right _ hb)),
      fun b hb => (List.mem_append.mp hb).elim (itm.old b) fun q => .inl (hd b q)⟩ ⟨st', a'⟩ e
  done := fun E Q s st hQ => W.done E Q s st.1 hQ
  live := fun i h g st => W.live i h g st.1
  self := fun E Q s i st h => W.self E Q s i st.1 h
theorem Itr.listT (hh : A.handled = none) (I l : Addr) (hne : I ≠ l) (items : Array Value) (ht : ∀ (i : Nat) v, items[i]? = some v → ∃ T, v = .ref T) (elts : List Expr) (k : Nat) (p : Pos) :
    Itr prog w A (.ref I) [I] [I, l] [] (.Tuple elts k p) items.size (fun i v _ => items[i]? = some v) (fun i h _ => h.IsListIter I l i ∧ h.IsList l items) where
  sub := fun b hb => by rw [List.mem_singleton.mp hb]; exact .head _
  frame := fun i h g h' g' st a _ => ⟨st.1.at fun o e => a _ (.head _) o e, st.2.at fun o e => a _ (.tail _ (.head _)) o e⟩
  next := fun E Q s i hi st hQ => by
    have hx : items[i]? = some items[i] := Array.getElem?_eq_getElem hi
    refine wpAny_pyNext_list_item st.1 st.2 hx fun h' hit hs => ?_
    obtain ⟨T, hT⟩ := ht i _ hx
    show wpAny _ _ (letOwnedTupleGo _ _ items[i]) _ _ _
    have := hQ items[i] h' s.gens s.toks [] ⟨fun _ _ => hx, fun _ h => nomatch h⟩ ⟨hit, st.2.extBut hs.extBut (Ne.symm hne)⟩ (Ext.of_same hs) (.refl _)
    rw [hT] at this ⊢
    exact wpAny_letOwnedTupleGo_listiter hit this
  done := fun E Q s st hQ => wpAny_pyNext_list_end hh st.1 st.2 (Array.getElem?_eq_none (Nat.le_refl _)) fun h' he => hQ h' s.gens s.toks (Ext.of_extBut he) (.refl _)
  live := fun i h g st b hb => let ⟨o, ho, _⟩ := st.1; ⟨o, by rw [List.mem_singleton.mp hb]; exact ho⟩
  self := fun E Q s i st h => wpAny_pyIter_listiter st.1 h
variable {K : Type} [DecidableEq K] {knd : KeyKind prog w K}
def PairIs (knd : KeyKind prog w K) (kvs : List (K × Value)) (i : Nat) (v : Value) (h : Heap) : Prop := ∃ T k x key, v = .ref T ∧ kvs[i]? = some (k, x) ∧ knd.is k key = true ∧ h.IsTuple T #[key, x]
theorem Itr.items (hh : A.handled = none) (I d : Addr) (hne : d ≠ I) (kvs : List (K × Value)) (ep : Nat) (elts : List Expr) (k : Nat) (p : Pos) :
    Itr prog w A (.ref I) [I] [I, d] [] (.Tuple elts k p) kvs.length (PairIs knd kvs) (fun i h _ => (∃ ok ov, IsItemIter h I d i kvs.length ep ok ov) ∧ h.DictAt knd d kvs ep) where
  sub := fun b hb => by rw [List.mem_singleton.mp hb]; exact .head _
  frame := fun i h g h' g' st a _ => ⟨let ⟨ok, ov, e⟩ := st.1; ⟨ok, ov, a _ (.head _) _ e⟩, st.2.at' fun o e => a _ (.tail _ (.head _)) o e⟩
  next := fun E Q s i hi st hQ => by
    obtain ⟨⟨ok, ov, hit⟩, hm⟩ := st
    obtain ⟨kk, x, hx⟩ : ∃ kk x, kvs[i]? = some (kk, x) := ⟨kvs[i].1, kvs[i].2, List.getElem?_eq_getElem hi⟩
    refine wpAny_pyNext_items_item hit hm hx fun key h' hk hout hT hsz hkeep => ?_
    show wpAny _ _ (letOwnedTupleGo _ _ _) _ _ _
    refine wpAny_letOwnedTupleGo_items hout fun h'' hit'' hs'' => ?_
    have hs₂ : Heap.SameBut I h' h'' := hs''
    have nI : s.heap.objs.size ≠ I := fun q => by have := Heap.lt_size hit; rw [q] at this; exact Nat.lt_irrefl _ this
    have hT'' : h''.get? s.heap.objs.size = some { cls := .type "tuple", data := .seq #[key, x] } := hs₂.extBut _ _ nI hT
    refine hQ (.ref s.heap.objs.size) h'' s.gens s.toks [s.heap.objs.size] ⟨fun h₃ a => ⟨_, kk, x, key, rfl, hx, hk, _, a _ (.head _) _ hT'', rfl, 0, rfl⟩, fun b hb => .inr (by rw [List.mem_singleton.mp hb]; exact get?_size _)⟩
      ⟨⟨_, _, hit''⟩, hm.at' fun o e => hs₂.extBut _ _ hne (hkeep _ _ hne e)⟩ (fun b o nb e => hs₂.extBut b o (fun q => nb (List.mem_singleton.mpr q)) (hkeep b o (fun q => nb (List.mem_singleton.mpr q)) e)) (.refl _)
  done := fun E Q s st hQ => let ⟨⟨ok, ov, hit⟩, hm⟩ := st; wpAny_pyNext_items_end hh hit hm (List.getElem?_eq_none (Nat.le_refl _)) fun h' he => hQ h' s.gens s.toks (Ext.of_extBut he) (.refl _)
  live := fun i h g st b hb => by
    obtain ⟨⟨ok, ov, e⟩, _⟩ := st
    rw [List.mem_singleton.mp hb]; exact ⟨_, e⟩
  self := fun E Q s i st h => by
    obtain ⟨⟨ok, ov, hit⟩, hm⟩ := st
    have hT : s.TypeIs (.ref I) "dict_itemiterator" := ⟨_, hit, rfl⟩
    refine wpAny_pyIter_slot hT PySem.F.slot_dict_itemiterator_iter (wpAny_call_entry PySem.F.slot_dict_itemiterator_iter hT (b := Builtin.«dict_keyiterator.__iter__») (entryFor_alias (id' := "dict_keyiterator.__iter__") (by kernel_rfl) rfl (by decide +kernel) (by kernel_rfl)) ?_ (PySem.F.args_dict_itemiterator_iter_1 _))
    show wpAny _ _ (ret (.ref I)) _ _ s
    exact wpAny_pure ⟨_, rfl, "dict_itemiterator", _, hT, PySem.F.slot_dict_itemiterator_next.lookup, h⟩
end
end Mine
end I3
section A1
open PySem PySem.W PyProof.Rows PySem.Calls PySem.Spec
set_option maxRecDepth 100000
set_option maxHeartbeats 8000000
namespace Mine
def Src (prog : Program) (w : World) (xv : Value) (own dep Gs : List Nat) (N : Nat) (P : Nat → Value → Heap → Prop) (h : Heap) (g : Array GenState) : Prop :=
  ∀ (A : Around) (E : Value → Shared → Prop) (Q : Value → Shared → Prop) (s : Shared), A.handled = none → A.depth < recursionLimit → Agr dep h s.heap → Agg Gs g s.gens →
    (∀ it own' dep' h' tk St, (∀ x p, Itr prog w A it own' dep' Gs (.Name x p) N P St) → St 0 h' s.gens → Ext [] s.heap h' → (∀ b ∈ own', b ∈ own ∨ s.heap.get? b = none) → (∀ b ∈ own, b ∈ own') → (∀ b ∈ dep', b ∈ dep ∨ s.heap.get? b = none) → (∀ b ∈ dep', ∃ o, h'.get? b = some o) → Q it { s with heap := h', toks := tk }) →
    wpAny (model prog w) A (pyIter xv) Q E s
abbrev Tup (h : Heap) (T : Nat) (vs : Array Value) : Prop := h.get? T = some { cls := .type "tuple", data := .seq vs }
def EdgeIs (prog : Program) (w : World) (u v : Nat → Int) (i : Nat) (x : Value) (h : Heap) : Prop := ∃ T tu tv, x = .ref T ∧ (Tup h T #[.int (u i) tu, .int (v i) tv] ∨ ∃ d, Tup h T #[.int (u i) tu, .int (v i) tv, .ref d] ∧ h.DictOf (strKind prog w) d [] ∧ 709 ≤ d)
theorem edge_fv {prog : Program} {w : World} {u v : Nat → Int} {i : Nat} {x : Value} {dep fv : List Nat} {h h' : Heap} (I : Itm dep h (EdgeIs prog w u v i) x h' fv) :
    ∃ T tu tv, x = .ref T ∧ T ∈ fv ∧ (Tup h' T #[.int (u i) tu, .int (v i) tv] ∨ ∃ d, d ∈ fv ∧ Tup h' T #[.int (u i) tu, .int (v i) tv, .ref d] ∧ h'.DictOf (strKind prog w) d [] ∧ 709 ≤ d) := by
  obtain ⟨T, tu, tv, rfl, hT⟩ := I.is h' fun _ _ _ e => e
  let nul : Obj → Obj := fun _ => { cls := .none, data := .plain }
  have other : ∀ a, a ∉ fv → Agr fv h' (h'.update a nul) := fun a n b hb o e => (Heap.get?_update_other h' nul (fun q => n (by rw [q]; exact hb))).trans e
  have Tfv : T ∈ fv := Classical.byContradiction fun n => by
    obtain ⟨T', tu', tv', eT, hT'⟩ := I.is _ (other T n)
    cases eT
    have : ∃ o, h'.get? T = some o := by rcases hT with q | ⟨d, q, _⟩ <;> exact ⟨_, q⟩
    obtain ⟨o, ho⟩ := this
    have e := Heap.get?_update_self nul ho rfl
    rcases hT' with q | ⟨d, q, _⟩ <;> (have z := e.symm.trans q; simp [nul] at z)
  refine ⟨T, tu, tv, rfl, Tfv, ?_⟩
  rcases hT with q | ⟨d, q, hd, hlo⟩
  · exact .inl q
  · refine .inr ⟨d, Classical.byContradiction fun n => ?_, q, hd, hlo⟩
    obtain ⟨od, hod⟩ := dictLive hd
    have nT : d ≠ T := fun r => n (r ▸ Tfv)
    obtain ⟨T', tu', tv', eT, hT'⟩ := I.is _ (other d n)
    cases eT
    have eT2 : (h'.update d nul).get? T = h'.get? T := Heap.get?_update_other _ _ nT
    rcases hT' with r | ⟨d', r, hd', _⟩
    · have z := (eT2.symm.trans r).symm.trans q; simp at z
    · have z := q.symm.trans (eT2.symm.trans r)
      simp only [Option.some.injEq, Obj.mk.injEq, Data.seq.injEq, true_and, and_true] at z
      have z2 := congrArg Array.toList z
      simp only [List.cons.injEq, Value.ref.injEq, and_true] at z2
      obtain ⟨_, _, rfl⟩ := z2
      obtain ⟨o, es, ep, ho, hc, _⟩ := hd'
      rw [Heap.get?_update_self nul hod rfl] at ho
      cases ho
      exact absurd hc.1 (by simp [nul])
section
variable {prog : Program} {w : World} {A : Around} {E : Value → Shared → Prop} {s : Shared} {G : Gr} {Q : Value → Shared → Prop} {env : Env}
theorem lenT {T : Nat} {vs : Array Value} {Q : Value → Shared → Prop} (ht : Tup s.heap T vs) (hz : (vs.size : Int) < 2 ^ 63) (h : ∀ t tk, Q (.int vs.size t) { s with toks := tk }) : wpAny (model prog w) A (call (.builtin "len") [.ref T]) Q E s :=
  len_tuple ⟨_, ht, rfl, 0, rfl⟩ hz (h _ _)
theorem unp2 {T : Nat} {a b : Value} {x y : Str} {px py p : Pos} {k : Nat} {m : Str → Option Value} {Q : Unit → Shared → Prop} (hh : A.handled = none) (ht : Tup s.heap T #[a, b]) (n : s.heap.Ns env.locals m) (hx : env.kindOf x = some .local) (hy : env.kindOf y = some .local) (hp : env.scope.kind = .function)
    (h : ∀ h' tk, Ext [env.locals] s.heap h' → h'.Ns env.locals (fun z => if z = y then some b else if z = x then some a else m z) → Q () { s with heap := h', toks := tk }) : wpAny (model prog w) A (assign (.Tuple [.Name x px, .Name y py] k p) env (.ref T)) Q E s := by
  have hp' : (env.scope.kind == .class || (env.scope.kind == .module && env.locals != env.globals)) = false := by rw [hp]; rfl
  refine wpAny_assign_Tuple hh ⟨_, ht, rfl, 0, rfl⟩ rfl rfl fun h₁ e₁ => ?_
  have k₁ : ∀ b o, s.heap.get? b = some o → h₁.get? b = some o := fun b o q => e₁ b o (Nat.ne_of_lt (Heap.lt_size q)) q
  show wpAny _ _ (do holding [b] (assign (.Name x px) env a); do holding [] (assign (.Name y py) env b); pure ()) _ _ _
  refine wpAny_bind (wpAny_holding (wpAny_assign_Name (stL (n.keeps k₁) hx (fun h₂ n₂ s₂ => ?_) hp')))
  refine wpAny_bind (wpAny_holding (wpAny_assign_Name (stL n₂ hy (fun h₃ n₃ s₃ => wpAny_pure ?_) hp')))
  exact h _ _ (((Ext.of_keep k₁ _).app (Ext.of_same s₂)).app (Ext.of_same s₃)) n₃
theorem unp3 {T : Nat} {a b c : Value} {x y z : Str} {px py pz p : Pos} {k : Nat} {m : Str → Option Value} {Q : Unit → Shared → Prop} (hh : A.handled = none) (ht : Tup s.heap T #[a, b, c]) (n : s.heap.Ns env.locals m) (hx : env.kindOf x = some .local) (hy : env.kindOf y = some .local) (hz : env.kindOf z = some .local) (hp : env.scope.kind = .function)
    (h : ∀ h' tk, Ext [env.locals] s.heap h' → h'.Ns env.locals (fun q => if q = z then some c else if q = y then some b else if q = x then some a else m q) → Q () { s with heap := h', toks := tk }) : wpAny (model prog w) A (assign (.Tuple [.Name x px, .Name y py, .Name z pz] k p) env (.ref T)) Q E s := by
  have hp' : (env.scope.kind == .class || (env.scope.kind == .module && env.locals != env.globals)) = false := by rw [hp]; rfl
  refine wpAny_assign_Tuple hh ⟨_, ht, rfl, 0, rfl⟩ rfl rfl fun h₁ e₁ => ?_
  have k₁ : ∀ b o, s.heap.get? b = some o → h₁.get? b = some o := fun b o q => e₁ b o (Nat.ne_of_lt (Heap.lt_size q)) q
  show wpAny _ _ (do holding [b, c] (assign (.Name x px) env a); do holding [c] (assign (.Name y py) env b); do holding [] (assign (.Name z pz) env c); pure ()) _ _ _
  refine wpAny_bind (wpAny_holding (wpAny_assign_Name (stL (n.keeps k₁) hx (fun h₂ n₂ s₂ => ?_) hp')))
  refine wpAny_bind (wpAny_holding (wpAny_assign_Name (stL n₂ hy (fun h₃ n₃ s₃ => ?_) hp')))
  refine wpAny_bind (wpAny_holding (wpAny_assign_Name (stL n₃ hz (fun h₄ n₄ s₄ => wpAny_pure ?_) hp')))
  exact h _ _ ((((Ext.of_keep k₁ _).app (Ext.of_same s₂)).app (Ext.of_same s₃)).app (Ext.of_same s₄)) n₄
theorem Ext.app' {F F' : List Nat} {h h' h'' : Heap} (x : Ext F h h') (y : Ext F' h' h'') (d : ∀ b ∈ F', b ∈ F ∨ h.get? b = none) : Ext F h h'' := fun b o n e =>
  y b o (fun q => (d b q).elim n fun q' => nomatch q'.symm.trans e) (x b o n e)
structure Added (prog : Program) (w : World) (G : Gr) (u v : Nat → Int) (h₀ : Heap) (i : Nat) (h : Heap) (G' : Gr) : Prop where
  I : GraphAt prog w h G'
  J : Gi G'
  sh : G'.sh = G.sh
  gr : Grow h₀ G G'
  has : ∀ a b, G'.has a b ↔ G.has a b ∨ ∃ j, j < i ∧ ((a = u j ∧ b = v j) ∨ (a = v j ∧ b = u j))

theorem sp_add_edges_from (Z : Gl w s.heap) (I : GraphAt prog w s.heap G) (J : Gi G) (hroom : A.depth + 1 < recursionLimit) (hh : A.handled = none) {xv : Value} {own dep Gs : List Nat} {N : Nat} {u v : Nat → Int} (X : Src prog w xv own dep Gs N (EdgeIs prog w u v) s.heap s.gens)
    (hlive : ∀ b ∈ dep, ∃ o, s.heap.get? b = some o) (hoff : ∀ b ∈ dep, b ∉ G.all) (hod : ∀ b ∈ own, b ∈ dep) (hown : ∀ b ∈ own, 709 ≤ b) (hu : ∀ i, i < N → u i ∈ G.ids) (hv : ∀ i, i < N → v i ∈ G.ids) (hne : ∀ i, i < N → u i ≠ v i)
    (h : ∀ h' g' tk G', Ext (own ++ G.all) s.heap h' → GM Gs s.gens g' → Added prog w G u v s.heap N h' G' → Q .none { s with heap := h', gens := g', toks := tk }) :
    wpAny (model prog w) A (call (.ref 492) [.ref G.g, xv]) Q E s := by
  refine enterA' Z (Nat.lt_of_succ_lt hroom) (by rfl) (by kernel_rfl) (o := { cls := .type "dict", data := .dict #[] }) (binds := fun d => [("self", .ref G.g), ("ebunch_to_add", xv), ("attr", .ref d)]) (by intro d; kernel_rfl) (by rfl) (by kernel_rfl) (by intro d; kernel_rfl) (by rfl) (by rfl) ?_
  intro d L x tk m hL hd hdL hx hn
  have Lx : ∃ o, x.get? L = some o := nsLive hn
  refine wpAny_execs_cons <| wpAny_For <| nmL hn rfl rfl <| X _ _ _ { s with heap := x, toks := tk } hh hroom (fun b hb o e => m.keep b o e) (fun _ _ _ e => e) fun it own' dep' h₁ tk₁ St W st e₁ ho' hoo hd' hl' => ?_
  replace e₁ : Ext [] x h₁ := e₁
  replace ho' : ∀ b ∈ own', b ∈ own ∨ x.get? b = none := ho'
  replace hd' : ∀ b ∈ dep', b ∈ dep ∨ x.get? b = none := hd'
  refine for_itr (W _ _) (fun i hp g => ∃ G' mm, Added prog w G u v s.heap i hp G' ∧ Ext (own ++ G.all) s.heap hp ∧ GM Gs s.gens g ∧ (∀ a ∈ G'.all, a ∉ dep' ∧ a ≠ L ∧ a ≠ d) ∧ (∀ b ∈ dep', ∃ o, hp.get? b = some o) ∧ hp.Ns L mm ∧ mm "self" = some (.ref G.g) ∧ mm "attr" = some (.ref d) ∧ hp.DictOf (strKind prog w) d [] ∧ d ∉ dep') ?_ ?_ st ?_
  · rintro i hp g tk₂ vx h₂ g₂ fv hi ⟨G', mm, AD, eE, eg, off, live, nn, n1, n2, da, dd⟩ itm st₂ e₂ eg₂ E'
    have od : ∀ b ∈ own', b ∈ dep' := (W "e" default).sub
    obtain ⟨oL, hoL⟩ := nsLive nn
    have Ldep : L ∉ dep' := fun q => (hd' L q).elim (fun q' => let ⟨_, e⟩ := hlive L q'; nomatch hL.symm.trans e) fun q' => let ⟨_, e⟩ := Lx; nomatch q'.symm.trans e
    have Lfv : L ∉ fv := fun q => (itm.old L q).elim Ldep fun q' => nomatch q'.symm.trans hoL
    have eE₂ : Ext (own ++ G.all) s.heap h₂ := eE.app' e₂ fun b hb => (ho' b hb).imp (List.mem_append_left _) (dead m.keep)
    have I₂ : GraphAt prog w h₂ G' := AD.I.to e₂ fun a ha q => (off a ha).1 (od a q)
    have n₂ : h₂.Ns L mm := nn.at' fun o e => e₂ _ _ (fun q => Ldep (od _ q)) e
    have da₂ : h₂.DictOf (strKind prog w) d [] := da.at fun o e => e₂ _ _ (fun q => dd (od _ q)) e
    have live₂ : ∀ b ∈ dep', ∃ o, h₂.get? b = some o := fun b hb => by
      by_cases q : b ∈ own'
      · exact (W "e" default).live _ _ _ st₂ b q
      · obtain ⟨o, ho⟩ := live b hb; exact ⟨o, e₂ _ _ q ho⟩
    refine wpAny_assign_Name (stL n₂ rfl fun h₃ n₃ s₃ => ?_)
    refine at_ h₃ g₂ s.drawn s.os fun t₃ => ?_
    replace s₃ : Heap.SameBut L h₂ h₃ := s₃
    have e₃ : Ext [L] h₂ h₃ := Ext.of_same s₃
    obtain ⟨T, tu, tv, rfl, Tfv, hT⟩ := edge_fv itm
    have nfv : ∀ b ∈ fv, b ∉ ([L] : List Nat) := fun b hb q => Lfv (List.mem_singleton.mp q ▸ hb)
    have offv : ∀ a ∈ G'.all, a ∉ fv := fun a ha q => (itm.old a q).elim (off a ha).1 fun q' => AD.I.all_new q' ha
    have dfv : d ∉ fv := fun q => (itm.old d q).elim dd fun q' => let ⟨_, e⟩ := dictLive da; nomatch q'.symm.trans e
    have offL : ∀ a ∈ G'.all, a ∉ ([L] : List Nat) := fun a ha q => (off a ha).2.1 (List.mem_singleton.mp q)
    have hT₃ : Tup h₃ T #[.int (u i) tu, .int (v i) tv] ∨ ∃ d, d ∈ fv ∧ Tup h₃ T #[.int (u i) tu, .int (v i) tv, .ref d] ∧ h₃.DictOf (strKind prog w) d [] ∧ 709 ≤ d :=
      hT.imp (e₃ _ _ (nfv _ Tfv)) fun ⟨d', q1, q2, q3, q4⟩ => ⟨d', q1, e₃ _ _ (nfv _ Tfv) q2, DictOf.ext q3 e₃ (nfv _ q1), q4⟩
    have big' : ∀ a ∈ own ++ G.all, (709 : Nat) ≤ a := fun a ha => (List.mem_append.mp ha).elim (hown a) (I.own a)
    have eE₃ : Ext (own ++ G.all) s.heap h₃ := eE₂.loc hL s₃
    have Z₃ : Gl w h₃ := Z.ext eE₃ big'
    have I₃ : GraphAt prog w h₃ G' := I₂.to e₃ offL
    have da₃ : h₃.DictOf (strKind prog w) d [] := DictOf.ext da₂ e₃ fun q => hdL (List.mem_singleton.mp q)
    clear hT
    refine wpAny_execs_cons (wpAny_mono (Q := fun f s' => f = .next ∧ ∃ h₄ tk n tn m₄, s' = ⟨h₄, g₂, s.drawn, tk, s.os⟩ ∧ Heap.SameBut L h₃ h₄ ∧ h₄.Ns L m₄ ∧ m₄ "self" = some (.ref G.g) ∧ m₄ "attr" = some (.ref d) ∧ m₄ "e" = some (.ref T) ∧ m₄ "ne" = some (.int n tn) ∧
      ((n = 2 ∧ Tup h₃ T #[.int (u i) tu, .int (v i) tv]) ∨ (n = 3 ∧ ∃ d, d ∈ fv ∧ Tup h₃ T #[.int (u i) tu, .int (v i) tv, .ref d] ∧ h₃.DictOf (strKind prog w) d [] ∧ 709 ≤ d))) ?_ (fun f s' hf => ?_) fun _ _ e => e)
    · refine wpAny_Assign_Name <| Call_ <| nmB Z₃ (by kernel_rfl) (by rfl) boot_len (by decide) <| cwB <| wpAny_items_cons <| nmL n₃ rfl rfl <| wpAny_items_nil ?_
      rcases hT₃ with q | ⟨d', q1, q2, q3, q4⟩
      · refine lenT q (by show (2 : Int) < 2 ^ 63; decide) fun t tk => stL n₃ rfl fun h₄ n₄ s₄ => ⟨rfl, h₄, _, _, _, _, rfl, s₄, n₄, n1, n2, rfl, rfl, .inl ⟨rfl, q⟩⟩
      · refine lenT q2 (by show (3 : Int) < 2 ^ 63; decide) fun t tk => stL n₃ rfl fun h₄ n₄ s₄ => ⟨rfl, h₄, _, _, _, _, rfl, s₄, n₄, n1, n2, rfl, rfl, .inr ⟨rfl, d', q1, q2, q3, q4⟩⟩
    obtain ⟨rfl, h₄, t₄, n, tn, m₄, rfl, s₄, n₄, m41, m42, m43, m44, hn₄⟩ := hf
    have e₄ : Ext [L] h₃ h₄ := Ext.of_same s₄
    have eE₄ : Ext (own ++ G.all) s.heap h₄ := eE₃.loc hL s₄
    have Z₄ : Gl w h₄ := Z.ext eE₄ big'
    have I₄ : GraphAt prog w h₄ G' := I₃.to e₄ offL
    have da₄ : h₄.DictOf (strKind prog w) d [] := DictOf.ext da₃ e₄ fun q => hdL (List.mem_singleton.mp q)
    refine wpAny_execs_cons (wpAny_mono (Q := fun f s' => f = .next ∧ ∃ h₅ tk dv m₅, s' = ⟨h₅, g₂, s.drawn, tk, s.os⟩ ∧ Ext [L] h₄ h₅ ∧ h₅.Ns L m₅ ∧ m₅ "self" = some (.ref G.g) ∧ m₅ "attr" = some (.ref d) ∧ m₅ "u" = some (.int (u i) tu) ∧ m₅ "v" = some (.int (v i) tv) ∧ m₅ "dd" = some (.ref dv) ∧
      h₅.DictOf (strKind prog w) dv [] ∧ (dv ∈ fv ∨ h₄.get? dv = none) ∧ 709 ≤ dv) ?_ (fun f s' hf => ?_) fun _ _ e => e)
    · refine wpAny_If <| wpAny_isTrue_Compare1 <| nmL n₄ rfl m44 <| wpAny_Constant_int <| PyProof.Rows.eq_int <| wpAny_truthy_bool ?_
      rcases hn₄ with ⟨rfl, q⟩ | ⟨rfl, d', q1, q2, q3, q4⟩
      · refine ite_neg (by decide) <| wpAny_execs_cons <| wpAny_If <| wpAny_isTrue_Compare1 <| nmL n₄ rfl m44 <| wpAny_Constant_int <| PyProof.Rows.eq_int <| wpAny_truthy_bool <| ite_pos (by decide) ?_
        refine wpAny_execs_cons <| Assign_Tuple <| nmL n₄ rfl m43 <| unp2 hh (e₄ _ _ (nfv _ Tfv) q) n₄ rfl rfl rfl fun h₅ t₅ e₅ n₅ => ?_
        refine at_ h₅ g₂ s.drawn s.os fun t₅ => ?_
        replace e₅ : Ext [L] h₄ h₅ := e₅
        have eE₅ : Ext (own ++ G.all) s.heap h₅ := eE₄.app' e₅ fun b hb => .inr (List.mem_singleton.mp hb ▸ hL)
        refine wpAny_execs_cons <| wpAny_Assign_Name <| sp_dict (Z.ext eE₅ big') fun dv h₆ t₆ e₆ new₆ hd₆ => stL (n₅.keeps e₆.keep) rfl fun h₇ n₇ s₇ => wpAny_execs_nil <| wpAny_execs_nil ?_
        replace e₆ : Ext [] h₅ h₆ := e₆
        replace s₇ : Heap.SameBut L h₆ h₇ := s₇
        have dvL : dv ≠ L := let ⟨_, e⟩ := nsLive n₅; new₆.ne e
        refine ⟨rfl, h₇, _, dv, _, rfl, (e₅.app' e₆ fun _ h => nomatch h).app (Ext.of_same s₇), n₇, m41, m42, rfl, rfl, rfl, dictOf_empty (s₇.extBut _ _ dvL hd₆), .inr ?_, new₆.2⟩
        cases q' : h₄.get? dv with
        | none => rfl
        | some o => exact absurd (e₅ _ _ (fun r => dvL (List.mem_singleton.mp r)) q') (by rw [show h₅.get? dv = none from new₆.1]; simp)
      · refine ite_pos (by decide) ?_
        refine wpAny_execs_cons <| Assign_Tuple <| nmL n₄ rfl m43 <| unp3 hh (e₄ _ _ (nfv _ Tfv) q2) n₄ rfl rfl rfl rfl fun h₅ t₅ e₅ n₅ => wpAny_execs_nil ?_
        exact ⟨rfl, h₅, _, d', _, rfl, e₅, n₅, m41, m42, rfl, rfl, rfl, DictOf.ext (DictOf.ext q3 e₄ (nfv _ q1)) e₅ (nfv _ q1), .inl q1, q4⟩
    obtain ⟨rfl, h₅, t₅, dv, m₅, rfl, e₅, n₅, m51, m52, m53, m54, m55, dv₅, dvo, dvlo⟩ := hf
    have eE₅ : Ext (own ++ G.all) s.heap h₅ := eE₄.app' e₅ fun b hb => .inr (List.mem_singleton.mp hb ▸ hL)
    have Z₅ : Gl w h₅ := Z.ext eE₅ big'
    have I₅ : GraphAt prog w h₅ G' := I₄.to e₅ offL
    have da₅ : h₅.DictOf (strKind prog w) d [] := DictOf.ext da₄ e₅ fun q => hdL (List.mem_singleton.mp q)
    have eT : Ext [L] h₂ h₅ := (e₃.app e₄).app e₅
    have ids' := sh_ids AD.sh
    have gg := sh_g AD.sh
    obtain ⟨ru, hru, eru⟩ := List.mem_map.mp (show u i ∈ G'.ids by rw [ids']; exact hu i hi)
    obtain ⟨rv, hrv, erv⟩ := List.mem_map.mp (show v i ∈ G'.ids by rw [ids']; exact hv i hi)
    rw [← eru] at m53
    rw [← erv] at m54
    rw [← gg] at m51
    have dvG : dv ∉ G'.all := fun q => dvo.elim (offv dv q) fun q' => I₄.all_new q' q
    have dvL : dv ≠ L := fun q => dvo.elim (fun q' => Lfv (q ▸ q')) fun q' => let ⟨_, e⟩ := nsLive n₄; nomatch (q ▸ q').symm.trans e
    refine wpAny_execs_cons <| wpAny_If <| wpAny_isTrue_Compare1 <| nmL n₅ rfl m53 <| gA n₅ Z₅ I₅ (.ref G'.nd) (hm := m51) fun t₅ => inN (I₅.lo mem_nd) I₅.node (b := true) (by rw [I₅.nodeOf hru]; rfl) fun t₆ => wpAny_truthy_bool <| ite_neg (by simp) <| wpAny_execs_nil ?_
    refine wpAny_execs_cons <| wpAny_If <| wpAny_isTrue_Compare1 <| nmL n₅ rfl m54 <| gA n₅ Z₅ I₅ (.ref G'.nd) (hm := m51) fun t₅ => inN (I₅.lo mem_nd) I₅.node (b := true) (by rw [I₅.nodeOf hrv]; rfl) fun t₆ => wpAny_truthy_bool <| ite_neg (by simp) <| wpAny_execs_nil ?_
    refine wpAny_execs_cons <| wpAny_Assign_Name <| MethodCall_ <| Subscript_ <| gA n₅ Z₅ I₅ (.ref G'.ad) (hm := m51) fun t₅ => nmL n₅ rfl m53 <| subD I₅.adj (intKind_is _ _ _ _) (I₅.adjOf hru) <| gmD (I₅.nbr _ hru) PySem.F.slot_dict_get PySem.F.type_dict_get <|
      cwB <| wpAny_items_cons <| nmL n₅ rfl m54 <| wpAny_items_cons <| MethodCall_ <| nmL n₅ rfl m51 <| ga_meth Z₅ I₅ (f := 366) (by kernel_rfl) (by kernel_rfl) (I₅.bare (by decide)) <| cwF0 Z₅ (by kernel_rfl) <| sp_edge_factory Z₅ hroom fun d₂ h₆ t₆ e₆ new₆ hd₂ => wpAny_items_nil <| dget2 (I₅.lo (mem_b hru)) ((I₅.k e₆).nbr _ hru) (intKind_is _ _ _ _) ?_
    replace e₆ : Ext [] h₅ h₆ := e₆
    replace new₆ : New h₅ d₂ := new₆
    have I₆ := I₅.k e₆
    obtain ⟨de, ede, hde, dlo, dmu, deL, ded, dev, dor⟩ : ∃ de, (valueAt ru.nbrs rv.n).getD (.ref d₂) = .ref de ∧ h₆.DictOf (strKind prog w) de [] ∧ 709 ≤ de ∧ de ∉ G'.muts ∧ de ≠ L ∧ de ≠ d ∧ de ≠ dv ∧ (de ∈ G'.all ∨ de = d₂) := by
      cases q : valueAt ru.nbrs rv.n with
      | none => exact ⟨d₂, rfl, dictOf_empty hd₂, new₆.2, fun q => (I₅.new new₆.1).1 q, (let ⟨_, e⟩ := nsLive n₅; new₆.ne e), (let ⟨_, e⟩ := dictLive da₅; new₆.ne e), (let ⟨_, e⟩ := dictLive dv₅; new₆.ne e), .inr rfl⟩
      | some y =>
        obtain ⟨e, he, rfl⟩ : ∃ e ∈ ru.es, Value.ref e.2 = y := by
          unfold valueAt at q
          cases q' : ru.nbrs.find? (fun kv => decide (kv.1 = rv.n)) with
          | none => rw [q'] at q; cases q
          | some z =>
            rw [q'] at q; cases q
            obtain ⟨e, he, e'⟩ := List.mem_map.mp (List.mem_of_find?_eq_some q')
            exact ⟨e, he, by rw [← e']⟩
        have ha := mem_dd hru he
        exact ⟨e.2, rfl, I₆.dd _ hru _ he, I₅.own _ ha, I₅.fix _ (Gr.fixed_iff.mpr (.inr (.inr (.inr ⟨ru, hru, .inr ⟨e, he, rfl⟩⟩)))), (off _ ha).2.1, (off _ ha).2.2, fun q => dvG (q ▸ ha), .inl ha⟩
    rw [ede]
    refine stL (n₅.keeps e₆.keep) rfl fun h₇ n₇ s₇ => ?_
    refine at_ h₇ g₂ s.drawn s.os fun t₇ => ?_
    replace s₇ : Heap.SameBut L h₆ h₇ := s₇
    have eT₇ : Ext [L] h₂ h₇ := (eT.app' e₆ fun _ h => nomatch h).app (Ext.of_same s₇)
    have e₇ : Ext [L] h₆ h₇ := Ext.of_same s₇
    have eE₇ : Ext (own ++ G.all) s.heap h₇ := (eE₅.app' e₆ fun _ h => nomatch h).loc hL s₇
    have Z₇ : Gl w h₇ := Z.ext eE₇ big'
    have I₇ := I₆.to e₇ offL
    have hde₇ : h₇.DictOf (strKind prog w) de [] := DictOf.ext hde e₇ fun q => deL (List.mem_singleton.mp q)
    have da₇ : h₇.DictOf (strKind prog w) d [] := DictOf.ext (DictOf.ext da₅ e₆ fun h => nomatch h) e₇ fun q => hdL (List.mem_singleton.mp q)
    have dv₇ : h₇.DictOf (strKind prog w) dv [] := DictOf.ext (DictOf.ext dv₅ e₆ fun h => nomatch h) e₇ fun q => dvL (List.mem_singleton.mp q)
    refine wpAny_execs_cons <| wpAny_Expr_any <| MethodCall_ <| nmL n₇ rfl rfl <| gmD hde₇ PySem.F.slot_dict_update PySem.F.type_dict_update <| cwB <| wpAny_items_cons <| nmL n₇ rfl m52 <| wpAny_items_nil <| dupd (by exact ded) (notMods hd.2) hde₇ (Nat.zero_le _) da₇ fun h₈ hde₈ s₈ => ?_
    refine at_ h₈ g₂ s.drawn s.os fun t₈ => ?_
    replace s₈ : Heap.SameBut de h₇ h₈ := s₈
    have e₈ := Ext.of_same s₈
    have n₈ : h₈.Ns L _ := n₇.at' fun o e => s₈.extBut _ _ (fun q => deL q.symm) e
    have I₈ := I₇.upd dmu hde₇ e₈ hde₈
    have dv₈ : h₈.DictOf (strKind prog w) dv [] := DictOf.ext dv₇ e₈ fun q => dev (List.mem_singleton.mp q).symm
    refine wpAny_execs_cons <| wpAny_Expr_any <| MethodCall_ <| nmL n₈ rfl rfl <| gmD hde₈ PySem.F.slot_dict_update PySem.F.type_dict_update <| cwB <| wpAny_items_cons <| nmL n₈ rfl m55 <| wpAny_items_nil <| dupd (by exact dev) (notMods dvlo) hde₈ (Nat.zero_le _) dv₈ fun h₉ hde₉ s₉ => ?_
    refine at_ h₉ g₂ s.drawn s.os fun t₉ => ?_
    replace s₉ : Heap.SameBut de h₈ h₉ := s₉
    have e₉ : Ext [de] h₇ h₉ := e₈.app (Ext.of_same s₉)
    have n₉ : h₉.Ns L _ := n₈.at' fun o e => s₉.extBut _ _ (fun q => deL q.symm) e
    have I₉ := I₈.upd dmu hde₈ (Ext.of_same s₉) hde₉
    have Z₉ := Z₇.ext e₉ (by intro a ha; rw [List.mem_singleton.mp ha]; exact dlo)
    have neR : ru.n ≠ rv.n := by rw [show ru.n = u i from eru, show rv.n = v i from erv]; exact hne i hi
    refine wpAny_execs_cons <| wpAny_Assign_Subscript <| nmL n₉ rfl rfl <| Subscript_ <| gA n₉ Z₉ I₉ (.ref G'.ad) (hm := m51) fun t₅ => nmL n₉ rfl m53 <| subD I₉.adj (intKind_is _ _ _ _) (I₉.adjOf hru) <| nmL n₉ rfl m54 <| st_nbr I₉ AD.J hru (List.mem_map.mpr ⟨rv, hrv, rfl⟩) hde₉ dmu dlo fun h₁₀ t₁₀ e₁₀ I₁₀ J₁₀ hd₁₀ => ?_
    refine at_ h₁₀ g₂ s.drawn s.os fun t₁₀ => ?_
    replace e₁₀ : Ext [ru.b] h₉ h₁₀ := e₁₀
    have Lb : ∀ r ∈ G'.rows, L ∉ ([r.b] : List Nat) := fun r hr q => offL _ (mem_b hr) (List.mem_singleton.mp q ▸ .head _)
    have n₁₀ : h₁₀.Ns L _ := n₉.at' fun o e => e₁₀ _ _ (Lb _ hru) e
    have Z₁₀ := Z₉.ext e₁₀ (by intro a ha; rw [List.mem_singleton.mp ha]; exact I₉.own _ (mem_b hru))
    have hrv₁₀ : rv ∈ (G'.setE ru.n rv.n de).rows := List.mem_map.mpr ⟨rv, hrv, if_neg fun q => neR q.symm⟩
    have sh₁₀ := setE_sh G' ru.n rv.n de
    have sh₁₁ := (setE_sh (G'.setE ru.n rv.n de) rv.n ru.n de).trans sh₁₀
    refine wpAny_execs_cons <| wpAny_Assign_Subscript <| nmL n₁₀ rfl rfl <| Subscript_ <| gA n₁₀ Z₁₀ I₁₀ (.ref G'.ad) (hm := m51) fun t₅ => nmL n₁₀ rfl m54 <| subD I₁₀.adj (intKind_is _ _ _ _) (I₁₀.adjOf hrv₁₀) <| nmL n₁₀ rfl m53 <| st_nbr I₁₀ J₁₀ hrv₁₀ (by rw [sh_ids sh₁₀]; exact List.mem_map.mpr ⟨ru, hru, rfl⟩) hd₁₀ (by rw [sh_muts sh₁₀]; exact dmu) dlo fun h₁₁ t₁₁ e₁₁ I₁₁ J₁₁ hd₁₁ => wpAny_execs_nil ?_
    replace e₁₁ : Ext [rv.b] h₁₀ h₁₁ := e₁₁
    have eF : Ext ([de] ++ [ru.b] ++ [rv.b]) h₇ h₁₁ := (e₉.trans e₁₀).trans e₁₁
    have old : ∀ a, a ∈ G'.all → a ∈ own ++ G.all ∨ s.heap.get? a = none := fun a ha => (AD.gr a ha).imp (List.mem_append_right _) id
    have dep_de : de ∉ dep' := dor.elim (fun q => (off _ q).1) fun q r => by
      obtain ⟨o, ho⟩ := live₂ de r
      have := eT _ _ (fun q' => Ldep (List.mem_singleton.mp q' ▸ r)) ho
      rw [q] at this
      exact nomatch this.symm.trans new₆.1
    have dorS : de ∈ G.all ∨ s.heap.get? de = none := dor.elim (AD.gr _) fun q => by
      cases q' : s.heap.get? d₂ with
      | none => exact .inr (q ▸ q')
      | some o =>
        by_cases r : d₂ ∈ own ++ G.all
        · rcases List.mem_append.mp r with r | r
          · exact absurd (od _ (hoo _ r)) (q ▸ dep_de)
          · exact .inl (q ▸ r)
        · exact absurd (eE₅ _ _ r q') (by rw [show h₅.get? d₂ = none from new₆.1]; simp)
    have inF : ∀ b ∈ [de] ++ [ru.b] ++ [rv.b], b ∈ own ++ G.all ∨ s.heap.get? b = none := fun b hb => by
      simp only [List.mem_append, List.mem_singleton] at hb
      rcases hb with (rfl | rfl) | rfl
      · exact dorS.imp (List.mem_append_right _) id
      · exact old _ (mem_b hru)
      · exact old _ (mem_b hrv)
    have eE₁₁ : Ext (own ++ G.all) s.heap h₁₁ := fun b o n e => eF b o (fun q => (inF b q).elim n fun q' => nomatch q'.symm.trans e) (eE₇ b o n e)
    have dep_F : ∀ b ∈ dep', b ∉ [L] ++ ([de] ++ [ru.b] ++ [rv.b]) := fun b hb q => by
      simp only [List.mem_append, List.mem_singleton] at q
      rcases q with rfl | (rfl | rfl) | rfl
      · exact Ldep hb
      · exact dep_de hb
      · exact (off _ (mem_b hru)).1 hb
      · exact (off _ (mem_b hrv)).1 hb
    have eAll : Ext ([L] ++ ([de] ++ [ru.b] ++ [rv.b])) h₂ h₁₁ := eT₇.trans eF
    refine ⟨rfl, h₁₁, g₂, _, rfl, ⟨_, (fun y => if y = "datadict" then some (.ref de) else m₅ y), ⟨I₁₁, J₁₁, sh₁₁.trans AD.sh, ?_, ?_⟩, eE₁₁, eg.trans eg₂, ?_, ?_, ?_, ?_, m52, ?_, dd⟩, ?_⟩
    · intro a ha
      have fx : a = de → a ∈ G.all ∨ s.heap.get? a = none := fun q => by rw [q]; exact dorS
      rcases List.mem_append.mp ha with q | q
      · rw [sh_muts sh₁₁] at q; exact AD.gr a (List.mem_append_left _ q)
      · rcases Gr.setE_fixed q with q | q
        · rcases Gr.setE_fixed q with q | q
          · exact AD.gr a (List.mem_append_right _ q)
          · exact fx q
        · exact fx q
    · intro a b
      rw [setE_has (by rw [sh_ids sh₁₀]; exact List.mem_map.mpr ⟨rv, hrv, rfl⟩) (by rw [sh_ids sh₁₀]; exact AD.I.ns), setE_has (List.mem_map.mpr ⟨ru, hru, rfl⟩) AD.I.ns, AD.has, show ru.n = u i from eru, show rv.n = v i from erv]
      constructor
      · rintro (((q | ⟨j, hj, q⟩) | q) | q)
        · exact .inl q
        · exact .inr ⟨j, Nat.lt_succ_of_lt hj, q⟩
        · exact .inr ⟨i, Nat.lt_succ_self i, .inl q⟩
        · exact .inr ⟨i, Nat.lt_succ_self i, .inr q⟩
      · rintro (q | ⟨j, hj, q⟩)
        · exact .inl (.inl (.inl q))
        · rcases Nat.lt_or_ge j i with r | r
          · exact .inl (.inl (.inr ⟨j, r, q⟩))
          · obtain rfl : j = i := by omega
            exact q.elim (fun q => .inl (.inr q)) .inr
    · intro a ha
      have fx : a = de → a ∉ dep' ∧ a ≠ L ∧ a ≠ d := fun q => by rw [q]; exact ⟨dep_de, deL, ded⟩
      rcases List.mem_append.mp ha with q | q
      · rw [sh_muts sh₁₁] at q; exact off a (List.mem_append_left _ q)
      · rcases Gr.setE_fixed q with q | q
        · rcases Gr.setE_fixed q with q | q
          · exact off a (List.mem_append_right _ q)
          · exact fx q
        · exact fx q
    · intro b hb
      obtain ⟨o, ho⟩ := live₂ b hb
      exact ⟨o, eAll _ _ (dep_F b hb) ho⟩
    · exact n₁₀.at' fun o e => e₁₁ _ _ (Lb _ hrv) e
    · show m₅ "self" = _; rw [← gg]; exact m51
    · have nd : d ∉ [de] ++ [ru.b] ++ [rv.b] := fun q => by
        simp only [List.mem_append, List.mem_singleton] at q
        rcases q with (q | q) | q
        · exact ded q.symm
        · exact (off _ (mem_b hru)).2.2 q.symm
        · exact (off _ (mem_b hrv)).2.2 q.symm
      exact DictOf.ext da₇ eF nd
    · exact (W "e" default).frame _ _ _ _ _ st₂ (Agr.of eAll dep_F) fun _ _ _ e => e
  · rintro hp g tk₂ h₂ g₂ ⟨G', mm, AD, eE, eg, off, live, nn, n1, n2, da, dd⟩ e₂ eg₂
    refine wpAny_execs_nil ?_
    have od : ∀ b ∈ own', b ∈ dep' := (W "e" default).sub
    refine h h₂ g₂ tk₂ G' (eE.app' e₂ fun b hb => (ho' b hb).imp (List.mem_append_left _) (dead m.keep)) (eg.trans eg₂) ⟨AD.I.to e₂ fun a ha q => (off a ha).1 (od a q), AD.J, AD.sh, AD.gr, AD.has⟩
  · exact ⟨G, _, ⟨(I.k m).k e₁, J, rfl, fun a ha => .inl ha, fun a b => ⟨.inl, fun q => q.elim id fun ⟨j, hj, _⟩ => absurd hj (Nat.not_lt_zero _)⟩⟩, (m.app e₁).up, (.mono (.refl _) fun _ h => nomatch h),
      fun a ha => ⟨fun q => (hd' a q).elim (fun q' => hoff a q' ha) fun q' => (I.k m).all_new q' ha, fun q => I.all_new hL (q ▸ ha), fun q => I.all_new hd.1 (q ▸ ha)⟩,
      hl',
      hn.keeps e₁.keep, rfl, rfl, dictOf_empty (e₁.keep _ _ hx), fun q => (hd' d q).elim (fun q' => let ⟨_, e⟩ := hlive d q'; nomatch hd.1.symm.trans e) fun q' => nomatch q'.symm.trans hx⟩
end
end Mine
end A1
section E1
open PySem PySem.W PyProof.Rows PySem.Calls PySem.Spec
set_option maxRecDepth 100000
set_option maxHeartbeats 8000000
namespace Mine
section
variable {prog : Program} {w : World} {A : Around} {E : Value → Shared → Prop} {s : Shared} {env : Env}
theorem dict_unhash : typeLookup (.type "dict") "__hash__" = pure (some .none) := by kernel_rfl
theorem typeNameD {d : Nat} {Q : String → Shared → Prop} (hT : s.TypeIs (.ref d) "dict") (h : Q "dict" s) : wpAny (model prog w) A (PySem.typeNameOf (.ref d)) Q E s := by
  unfold PySem.typeNameOf shownTypeOf
  refine wpAny_bind (wpAny_bind (wpAny_typeOf hT ?_))
  simp only [show (Value.type "dict" == Value.type "builtin_function_or_method") = false by decide, Bool.false_eq_true, if_false]
  refine wpAny_pure ?_
  have e : typeName (.type "dict") = pure "dict" := by unfold typeName; rw [find?_eq_fast]; kernel_rfl
  rw [e]; exact wpAny_pure h
theorem hashD {d : Nat} {Q : Int → Shared → Prop} (hh : A.handled = none) (hu : A.units < cLine) (hT : s.TypeIs (.ref d) "dict") (h : ∀ h' tk e, Heap.NewExc s.heap h' e "TypeError" → E (.ref e) { s with heap := h', toks := tk }) :
    wpAny (model prog w) A (pyHash (.ref d)) Q E s := by
  unfold pyHash
  unfold pyHashByItsType
  refine wpAny_bind (wpAny_cRoomFor_or (.inr hu) ?_)
  refine wpAny_bind (wpAny_specialOf hT dict_unhash ?_)
  show wpAny _ _ (if (some Value.none == some Value.none) = true then _ else _) Q E s
  rw [if_pos (by decide)]
  refine wpAny_bind (wpAny_rule ?_)
  refine wpAny_bind (typeNameD hT ?_)
  exact wpAny_bind (wpAny_raiseErrorMade plainExc_TypeError hh h (by decide))
theorem hashT {T d : Nat} {k : Int} {t : Tok} {Q : Int → Shared → Prop} (hh : A.handled = none) (hu : A.units + 1 < cLine) (ht : Tup s.heap T #[.int k t, .ref d]) (hd : s.TypeIs (.ref d) "dict") (h : ∀ h' tk e, Heap.NewExc s.heap h' e "TypeError" → E (.ref e) { s with heap := h', toks := tk }) :
    wpAny (model prog w) A (pyHash (.ref T)) Q E s := by
  have hT : s.TypeIs (.ref T) "tuple" := ⟨_, ht, rfl⟩
  unfold pyHash
  unfold pyHashByItsType
  refine wpAny_bind (wpAny_cRoomFor_or (.inr (Nat.lt_of_succ_lt hu)) ?_)
  refine wpAny_bind (wpAny_specialOf hT PySem.F.slot_tuple_hash.lookup ?_)
  show wpAny _ _ (if (some (Value.builtin "tuple.__hash__") == some Value.none) = true then _ else _) Q E s
  rw [if_neg (by rw [beq_builtin_none]; exact Bool.false_ne_true)]
  refine wpAny_bind (wpAny_specialOf hT PySem.F.slot_tuple_hash.lookup ?_)
  show wpAny _ _ (callSpecialIfBoundUnlessNone? (.ref T) "__hash__" _ >>= _) Q E s
  refine wpAny_bind (wpAny_callSpecialIfBoundUnlessNone?_slot hT PySem.F.slot_tuple_hash (wpAny_call_entry PySem.F.slot_tuple_hash hT PySem.F.entry_tuple_hash ?_ (PySem.F.args_tuple_hash_1 _)))
  show wpAny _ _ (Builtin.Tuple.tupleItemsOf (.ref T) >>= _) _ _ s
  refine wpAny_bind (wpAny_tupleItemsOf ht rfl ?_)
  refine wpAny_bind ?_
  rw [← Array.forIn_toList]
  show wpAny _ _ (forIn [Value.int k t, Value.ref d] _ _) _ _ _
  simp only [List.forIn_cons]
  refine wpAny_bind ?_
  refine wpAny_bind ((intKind prog w).pyHash (k := k) (intKind_is _ _ _ _) ?_)
  refine wpAny_pure ?_
  dsimp only
  exact wpAny_bind (wpAny_bind (hashD (s := { s with toks := s.toks + 1 }) hh hu hd h))
theorem notInT {a T d : Nat} {kvs : List (Int × Value)} {k : Int} {t : Tok} {Q : Value → Shared → Prop} (hh : A.handled = none) (hu : A.units + 2 < cLine) (hm : s.heap.DictOf (intKind prog w) a kvs) (ht : Tup s.heap T #[.int k t, .ref d]) (hd : s.TypeIs (.ref d) "dict")
    (h : ∀ h' tk e, Heap.NewExc s.heap h' e "TypeError" → E (.ref e) { s with heap := h', toks := tk }) : wpAny (model prog w) A (compareOp .NotIn (.ref T) (.ref a)) Q E s := by
  show wpAny _ _ (do return .bool (!(← contains (.ref a) (.ref T)))) Q E s
  refine wpAny_bind ?_
  unfold contains
  refine wpAny_holding ?_
  refine wpAny_bind (wpAny_specialOf hm.typeIs PySem.F.slot_dict_contains.lookup ?_)
  show wpAny _ _ (if (some (Value.builtin "dict.__contains__") == some Value.none) = true then _ else _) _ E s
  rw [if_neg (by rw [beq_builtin_none]; exact Bool.false_ne_true)]
  refine wpAny_bind (wpAny_callSpecialUnlessNone?_slot (name := Str.ofString "__contains__") hm.typeIs PySem.F.slot_dict_contains
    (wpAny_call_entry PySem.F.slot_dict_contains hm.typeIs PySem.F.entry_dict_contains ?_ (PySem.F.args_dict_contains_2 _ _)))
  show wpAny _ _ (dictGet a (.ref T) >>= _) _ _ s
  refine wpAny_bind ?_
  unfold dictGet
  refine wpAny_holding ?_
  exact wpAny_bind (hashT hh hu ht hd h)
end
end Mine
end E1
section E2
open PySem PySem.W PyProof.Rows PySem.Calls PySem.Spec
set_option maxRecDepth 100000
set_option maxHeartbeats 8000000
namespace Mine
abbrev frs (l : List Env) : List Nat := l.filterMap (·.frame)
section
variable {prog : Program} {w : World} {M : Model} {A : Around} {E : Value → Shared → Prop} {s : Shared} {env : Env}
theorem mapFields_cls (f : Array Value → Array Value) (o : Obj) : (Obj.mapFields f o).cls = o.cls := by
  unfold Obj.mapFields; split <;> rfl
theorem note_first {base : Heap} {outer : List Env} {L e : Nat} {oe : Obj} {t : Value} {Q : Unit → Shared → Prop} (hfr : A.frames = some (env :: outer)) (hl : s.heap.FunFrames base (env :: outer)) (hf : env.frame = some L)
    (he : s.heap.get? e = some oe) (hd : oe.data = .fields #[t, .none, .none, .none, .bool false, .none])
    (h : ∀ h' T oT ts oe', Ext (frs (env :: outer) ++ [e]) s.heap h' → (∀ b o, b ∈ frs (env :: outer) → s.heap.get? b = some o → ∃ sl, h'.get? b = some { o with slots := sl }) → h'.get? e = some oe' → oe'.cls = oe.cls → oe'.data = .fields #[t, .ref T, .none, .none, .bool false, .none] →
      h'.get? T = some oT → oT.data = .fields ts → 3 < ts.size → T ≠ e → s.heap.get? T = none → Q () { s with heap := h' }) : wpAny M A (noteFrame (.ref e) env) Q E s := by
  have hene : e ∉ frs (env :: outer) := fun hm => by
    obtain ⟨_, o, ho, hnf⟩ := hl.mem hm
    rw [he] at ho; injection ho with ho; subst ho; exact hnf _ hd
  unfold noteFrame
  rw [hf]
  show wpAny _ _ (field (.ref e) 1 >>= _) _ _ _
  refine wpAny_bind (wpAny_field he hd (x := .none) rfl ?_)
  show wpAny _ _ (do let a ← frameOf env; let pl ← entryPlaceOf L false; let b ← EntryCells.newEntry .none a .none (rawInt L) .none pl; setField (.ref e) 1 b) _ _ _
  refine wpAny_bind (wpAny_frameOf_fun hfr hl hf fun h₁ hs₁ => ?_)
  refine wpAny_bind (wpAny_entryPlaceOf fun pl hpl => ?_)
  unfold EntryCells.newEntry newFields
  refine wpAny_bind (wpAny_newObj_type ?_ (hpl.sizeOk5 _ _ _ _ _))
  have he₁ : h₁.get? e = some oe := (hs₁.2.1 e hene).trans he
  have he₂ := Heap.get?_push_of_some (h := h₁) { cls := .type "traceback", dict := none, data := .fields ([Value.none, .ref L, .none, rawInt L, .none] ++ (if pl.isEmpty then List.replicate 6 Value.none else pl)).toArray } he₁
  refine wpAny_setField he₂ hd (by show 1 < 6; decide) ?_
  have hTe : h₁.objs.size ≠ e := Nat.ne_of_gt (Heap.lt_size he₁)
  have hd₃ := Obj.data_mapFields hd (·.setIfInBounds 1 (Value.ref h₁.objs.size))
  refine h _ h₁.objs.size _ _ _ ?_ ?_ (Heap.get?_update_self (Obj.mapFields (·.setIfInBounds 1 (Value.ref h₁.objs.size))) he₂ (Obj.isFreed_of_fields hd₃)) ?_ hd₃ ((Heap.get?_update_other _ _ (Ne.symm hTe)).trans (Heap.get?_push_size h₁ rfl)) rfl ?_ hTe ?_
  · intro b o n q
    have n1 : b ∉ frs (env :: outer) := fun r => n (List.mem_append_left _ r)
    have n2 : e ≠ b := fun r => n (List.mem_append_right _ (r ▸ .head _))
    rw [Heap.get?_update_other _ _ n2]
    exact Heap.get?_push_of_some _ ((hs₁.2.1 b n1).trans q)
  · intro b o hb q
    obtain ⟨sl, h2⟩ := hs₁.2.2 b o q
    refine ⟨sl, ?_⟩
    rw [Heap.get?_update_other _ _ (fun r => hene (by rw [r]; exact hb))]
    exact Heap.get?_push_of_some _ h2
  · exact mapFields_cls _ _
  · simp only [List.size_toArray, List.length_append, List.length_cons, List.length_nil]; omega
  · have := hs₁.1
    rw [this]; exact get?_size _
theorem flight_none {e T : Nat} {oe oT : Obj} {vs ts : Array Value} {Q : Unit → Shared → Prop} (he : s.heap.get? e = some oe) (hd : oe.data = .fields vs) (h1 : vs[1]? = some (.ref T)) (hT : s.heap.get? T = some oT) (hdT : oT.data = .fields ts) (hz : 3 < ts.size)
    (h : ∀ h' oT' ts', Heap.SameBut T s.heap h' → h'.get? T = some oT' → oT'.data = .fields ts' → 3 < ts'.size → Q () { s with heap := h' }) : wpAny M A (setFlight (.ref e) none) Q E s := by
  have hd₃ := Obj.data_mapFields hdT (·.setIfInBounds 3 Value.none)
  exact wpAny_setFlight_none he hd h1 hT hdT hz (h _ _ _ (Heap.SameBut.update ..) (Heap.get?_update_self _ hT (Obj.isFreed_of_fields hd₃)) hd₃ (by simpa using hz))
theorem raise_behind {α : Type} {a x : Nat} {oa ox : Obj} {va vx : Array Value} {Q : α → Shared → Prop} (hh : A.handled = some (.ref x)) (hne : x ≠ a) (ha : s.heap.get? a = some oa) (hda : oa.data = .fields va) (h2 : 2 < va.size) (hx : s.heap.get? x = some ox) (hdx : ox.data = .fields vx) (hc : vx[2]? = some .none)
    (h : ∀ h', Heap.SameBut a s.heap h' → (∃ oa', h'.get? a = some oa' ∧ oa'.cls = oa.cls) → E (.ref a) { s with heap := h' }) : wpAny (model prog w) A (raiseNew (.ref a) : Sem α) Q E s := by
  unfold raiseNew
  refine wpAny_bind (wpAny_bind (wpAny_handled ?_))
  rw [hh]
  refine wpAny_pure ?_
  show wpAny _ _ (if (Value.ref x != Value.ref a) = true then _ else _) _ _ _
  rw [if_pos (by simpa using hne)]
  refine wpAny_bind (wpAny_holding (runValue_entry (b := Builtin.«proto.unchain») (entryFor_of_tree (by kernel_rfl)) ?_))
  show wpAny _ _ (field (.ref x) 2 >>= _) _ _ _
  refine wpAny_bind (wpAny_field hx hdx (x := .none) hc ?_)
  refine wpAny_pure ⟨_, rfl, ?_⟩
  unfold updateField
  refine wpAny_bind (wpAny_bind (wpAny_load ha ?_))
  rw [hda]
  show wpAny _ _ (if 2 < va.size then _ else _) _ _ _
  rw [if_pos h2]
  refine wpAny_update ha (wpAny_throw ?_)
  have hd₃ := Obj.data_mapFields hda (·.setIfInBounds 2 (Value.ref x))
  exact h _ (Heap.SameBut.update ..) ⟨_, Heap.get?_update_self _ ha (Obj.isFreed_of_fields hd₃), mapFields_cls _ _⟩
theorem tupEndH {it T i x : Nat} {items : Array Value} {ox : Obj} {vx : Array Value} {Q : Option Value → Shared → Prop} (hh : A.handled = some (.ref x)) (hit : s.heap.IsTupleIter it T i) (ht : s.heap.IsTuple T items) (hend : items[i]? = none)
    (hx : s.heap.get? x = some ox) (hdx : ox.data = .fields vx) (hc : vx[2]? = some .none) (hxi : it ≠ x) (hQ : ∀ h', Ext [it] s.heap h' → Q none { s with heap := h' }) : wpAny (model prog w) A (pyNext (.ref it)) Q E s := by
  obtain ⟨o, ho, hc', hd⟩ := id hit
  obtain ⟨ol, hol, _, nl, hdl⟩ := ht
  unfold pyNext
  refine wpAny_bind (wpAny_attempt (wpAny_callSpecial?_slot (name := Str.ofString "__next__") hit.typeIs PySem.F.slot_tuple_iterator_next
    (wpAny_call_entry PySem.F.slot_tuple_iterator_next hit.typeIs PySem.F.entry_tuple_iterator_next ?_ (PySem.F.args_tuple_iterator_next_1 _))))
  show wpAny _ _ (field (.ref it) 0 >>= _) _ _ s
  refine wpAny_bind (wpAny_field ho hd (x := .ref T) rfl ?_)
  show wpAny _ _ (if (Value.ref T == Value.none) = true then _ else _) _ _ s
  rw [if_neg (show ¬ ((Value.ref T == Value.none) = true) from Bool.false_ne_true)]
  show wpAny _ _ (field (.ref it) 1 >>= _) _ _ s
  refine wpAny_bind (wpAny_field ho hd (x := .int i 0) rfl ?_)
  show wpAny _ _ (seqItems? (.ref T) >>= _) _ _ s
  refine wpAny_bind (wpAny_seqItems hol hdl ?_)
  simp only [Int.toNat_natCast, hend]
  refine wpAny_bind (wpAny_rule (wpAny_bind (wpAny_setField ho hd (by simp) ?_)))
  show wpAny _ _ (newExc (.type "StopIteration") [] >>= _) _ _ _
  refine wpAny_bind ?_
  simp only [newExc, newTuple]
  refine wpAny_bind (wpAny_newObj_type ?_ (by size_fits))
  refine wpAny_bind (m := firstArgMember _ _) (wpAny_of_eq (a := Value.none) (by first | rfl | (simp only [firstArgMember]; rfl)) ?_)
  refine wpAny_newObj_type ?_ (by size_fits)
  have hx₁ : (s.heap.update it (Obj.mapFields (·.setIfInBounds 0 Value.none))).get? x = some ox := (Heap.get?_update_other _ _ hxi).trans hx
  refine raise_behind (x := x) hh ?_ (Heap.get?_push_size _ rfl) rfl (by simp; omega) (Heap.get?_push_of_some _ (Heap.get?_push_of_some _ hx₁)) hdx hc fun h' hs' ⟨oa', ha', hca'⟩ => ?_
  · exact Nat.ne_of_lt (Heap.lt_size (Heap.get?_push_of_some _ hx₁))
  · refine wpAny_bind (wpAny_isInstance (T := "StopIteration") (b := true) ⟨_, ha', hca'⟩ isSubtype_stop ?_)
    refine wpAny_pure (hQ _ fun b o n e => ?_)
    have e1 : (s.heap.update it (Obj.mapFields (·.setIfInBounds 0 Value.none))).get? b = some o := (Heap.get?_update_other _ _ (fun q => n (by rw [q]; exact .head _))).trans e
    have e2 := Heap.get?_push_of_some (h := s.heap.update it (Obj.mapFields (·.setIfInBounds 0 Value.none))) { cls := .type "tuple", data := .seq #[] } e1
    exact hs'.extBut b o (Nat.ne_of_lt (Heap.lt_size e2)) (Heap.get?_push_of_some _ e2)
theorem unp2H {T x : Nat} {a b : Value} {xa xb : Str} {px py p : Pos} {k : Nat} {m : Str → Option Value} {ox : Obj} {vx : Array Value} {Q : Unit → Shared → Prop} (hh : A.handled = some (.ref x)) (ht : Tup s.heap T #[a, b]) (hx : s.heap.get? x = some ox) (hdx : ox.data = .fields vx) (hc : vx[2]? = some .none)
    (n : s.heap.Ns env.locals m) (ha : env.kindOf xa = some .local) (hb : env.kindOf xb = some .local) (hp : env.scope.kind = .function)
    (h : ∀ h' tk, Ext [env.locals] s.heap h' → h'.Ns env.locals (fun z => if z = xb then some b else if z = xa then some a else m z) → Q () { s with heap := h', toks := tk }) : wpAny (model prog w) A (assign (.Tuple [.Name xa px, .Name xb py] k p) env (.ref T)) Q E s := by
  have hp' : (env.scope.kind == .class || (env.scope.kind == .module && env.locals != env.globals)) = false := by rw [hp]; rfl
  have hT : s.heap.IsTuple T #[a, b] := ⟨_, ht, rfl, 0, rfl⟩
  have hlt : T ≠ s.heap.objs.size := Nat.ne_of_lt (Heap.lt_size ht)
  have hxI : s.heap.objs.size ≠ x := Nat.ne_of_gt (Heap.lt_size hx)
  rw [arm_assign_Tuple]
  refine wpAny_bind (wpAny_standAt ?_)
  unfold unpack
  refine wpAny_bind (wpAny_holding ?_)
  show wpAny _ _ (unpackItems (.ref T) 2 none) _ _ _
  unfold unpackItems
  refine wpAny_bind ?_
  unfold notIterableAtAll
  refine wpAny_bind (wpAny_specialOf hT.typeIs PySem.F.slot_tuple_iter.lookup ?_)
  refine wpAny_pure ?_
  simp only [Bool.false_eq_true, if_false]
  refine wpAny_bind (wpAny_holding (wpAny_pyIter_tuple hT ?_))
  refine wpAny_bind (wpAny_holding (wpAny_draw_tuple hlt 2 0 _ _ ⟨_, Heap.get?_push_size _ rfl, rfl, rfl⟩ (hT.push _) (by show 0 + 2 ≤ 2; decide) fun h₁ hit₁ hs₁ => ?_))
  have hT₁ : h₁.IsTuple T #[a, b] := (hT.push _).extBut hs₁.extBut hlt
  have hx₁ : h₁.get? x = some ox := hs₁.extBut _ _ hxI.symm (Heap.get?_push_of_some _ hx)
  show wpAny _ _ (if _ then _ else _) _ _ _
  rw [if_neg (by simp)]
  refine wpAny_bind (wpAny_holding (tupEndH (x := x) hh hit₁ hT₁ rfl hx₁ hdx hc hxI fun h₂ e₂ => ?_))
  simp only [Option.isSome_none, Bool.false_eq_true, if_false]
  refine wpAny_pure ?_
  have k₂ : ∀ b o, s.heap.get? b = some o → h₂.get? b = some o := fun b o e => e₂ b o (fun q => Nat.ne_of_lt (Heap.lt_size e) (List.mem_singleton.mp q)) (hs₁.extBut b o (Nat.ne_of_lt (Heap.lt_size e)) (Heap.get?_push_of_some _ e))
  show wpAny _ _ (do holding [b] (assign (.Name xa px) env a); do holding [] (assign (.Name xb py) env b); pure ()) _ _ _
  refine wpAny_bind (wpAny_holding (wpAny_assign_Name (stL (n.keeps k₂) ha (fun h₃ n₃ s₃ => ?_) hp')))
  refine wpAny_bind (wpAny_holding (wpAny_assign_Name (stL n₃ hb (fun h₄ n₄ s₄ => wpAny_pure ?_) hp')))
  exact h _ _ (((Ext.of_keep k₂ _).app (Ext.of_same s₃)).app (Ext.of_same s₄)) n₄
end
end Mine
end E2
section A2
open PySem PySem.W PyProof.Rows PySem.Calls PySem.Spec
set_option maxRecDepth 100000
set_option maxHeartbeats 8000000
namespace Mine
def Gr.addN (G : Gr) (k : Int) (a b : Nat) : Gr := { G with rows := G.rows ++ [⟨k, a, b, []⟩] }
theorem addN_muts {G : Gr} {k : Int} {a b x : Nat} : x ∈ (G.addN k a b).muts ↔ x ∈ G.muts ∨ x = b := by
  simp only [Gr.muts_iff, Gr.addN, List.mem_append, List.mem_singleton]
  constructor
  · rintro (h | h | h | ⟨r, (hr | rfl), h⟩)
    · exact .inl (.inl h)
    · exact .inl (.inr (.inl h))
    · exact .inl (.inr (.inr (.inl h)))
    · exact .inl (.inr (.inr (.inr ⟨r, hr, h⟩)))
    · exact .inr h.symm
  · rintro ((h | h | h | ⟨r, hr, h⟩) | rfl)
    · exact .inl h
    · exact .inr (.inl h)
    · exact .inr (.inr (.inl h))
    · exact .inr (.inr (.inr ⟨r, .inl hr, h⟩))
    · exact .inr (.inr (.inr ⟨_, .inr rfl, rfl⟩))
theorem addN_fixed {G : Gr} {k : Int} {a b x : Nat} : x ∈ (G.addN k a b).fixed ↔ x ∈ G.fixed ∨ x = a := by
  simp only [Gr.fixed_iff, Gr.addN, List.mem_append, List.mem_singleton]
  constructor
  · rintro (h | h | h | ⟨r, (hr | rfl), h⟩)
    · exact .inl (.inl h)
    · exact .inl (.inr (.inl h))
    · exact .inl (.inr (.inr (.inl h)))
    · exact .inl (.inr (.inr (.inr ⟨r, hr, h⟩)))
    · rcases h with h | ⟨e, he, _⟩
      · exact .inr h
      · cases he
  · rintro ((h | h | h | ⟨r, hr, h⟩) | rfl)
    · exact .inl h
    · exact .inr (.inl h)
    · exact .inr (.inr (.inl h))
    · exact .inr (.inr (.inr ⟨r, .inl hr, h⟩))
    · exact .inr (.inr (.inr ⟨_, .inr rfl, .inl rfl⟩))
theorem addN_all {G : Gr} {k : Int} {a b x : Nat} (h : x ∈ (G.addN k a b).all) : x ∈ G.all ∨ x = a ∨ x = b := by
  rcases List.mem_append.mp h with h | h
  · exact (addN_muts.mp h).imp (List.mem_append_left _) .inr
  · exact (addN_fixed.mp h).imp (List.mem_append_right _) .inl
theorem addN_ids (G : Gr) (k : Int) (a b : Nat) : (G.addN k a b).ids = G.ids ++ [k] := by simp [Gr.addN, Gr.ids]
theorem addN_has (G : Gr) (k : Int) (a b : Nat) (x y : Int) : (G.addN k a b).has x y ↔ G.has x y := by
  unfold Gr.has Gr.addN
  constructor
  · rintro ⟨r, hr, h1, e, he, h2⟩
    rcases List.mem_append.mp hr with hr | hr
    · exact ⟨r, hr, h1, e, he, h2⟩
    · rw [List.mem_singleton.mp hr] at he; cases he
  · rintro ⟨r, hr, h⟩
    exact ⟨r, List.mem_append_left _ hr, h⟩
section
variable {prog : Program} {w : World} {h h' : Heap} {G : Gr}
theorem GraphAt.addN (I : GraphAt prog w h G) {k : Int} {a b : Nat} (e : Ext [G.ad, G.nd] h h') (ha : h'.DictOf (intKind prog w) G.ad (G.adjs ++ [(k, .ref b)])) (hn : h'.DictOf (intKind prog w) G.nd (G.nodes ++ [(k, .ref a)]))
    (hb : h'.DictOf (intKind prog w) b []) (hat : h'.DictOf (strKind prog w) a []) (nb : b ∉ G.all) (na : a ∉ G.all) (hab : a ≠ b) (blo : 709 ≤ b) (alo : 709 ≤ a) : GraphAt prog w h' (G.addN k a b) := by
  have nod := I.nod
  simp only [Gr.muts, List.nodup_cons, List.mem_cons, not_or, List.mem_map, not_exists, not_and] at nod
  obtain ⟨⟨n1, n2, n3⟩, ⟨n4, n5⟩, n6, n7⟩ := nod
  have off : ∀ x, x ≠ G.ad → x ≠ G.nd → x ∉ ([G.ad, G.nd] : List Nat) := fun x p q r => by
    rcases List.mem_cons.mp r with r | r
    · exact p r
    · exact q (List.mem_singleton.mp r)
  have fx : ∀ x ∈ G.fixed, x ∉ ([G.ad, G.nd] : List Nat) := fun x hx => off x (fun q => I.fix x hx (q ▸ Gr.muts_iff.mpr (.inr (.inr (.inl rfl))))) (fun q => I.fix x hx (q ▸ Gr.muts_iff.mpr (.inr (.inl rfl))))
  have inf : ∀ {x}, x = G.g ∨ x = G.gr ∨ x ∈ G.vs ∨ (∃ r ∈ G.rows, x = r.at_ ∨ ∃ e ∈ r.es, e.2 = x) → x ∈ G.fixed := Gr.fixed_iff.mpr
  have rowcase : ∀ {P : Row → Prop}, (∀ r ∈ G.rows, P r) → P ⟨k, a, b, []⟩ → ∀ r ∈ (G.addN k a b).rows, P r := fun h1 h2 r hr => by
    rcases List.mem_append.mp hr with hr | hr
    · exact h1 r hr
    · rw [List.mem_singleton.mp hr]; exact h2
  refine ⟨e _ _ (fx _ (inf (.inl rfl))) I.inst, RawD.ext I.dict e (off _ n2 n1), DictOf.ext I.graph e (fx _ (inf (.inr (.inl rfl)))), ?_, ?_, ?_, ?_, ?_, ?_, ?_, ?_, ?_, ?_⟩
  · have : (G.addN k a b).nodes = G.nodes ++ [(k, .ref a)] := by simp [Gr.nodes, Gr.addN]
    rw [this]; exact hn
  · have : (G.addN k a b).adjs = G.adjs ++ [(k, .ref b)] := by simp [Gr.adjs, Gr.addN]
    rw [this]; exact ha
  · exact rowcase (fun r hr => DictOf.ext (I.attr r hr) e (fx _ (inf (.inr (.inr (.inr ⟨r, hr, .inl rfl⟩)))))) hat
  · exact rowcase (fun r hr => DictOf.ext (I.nbr r hr) e (off _ (fun q => n6 r hr q) (fun q => n5 r hr q))) hb
  · exact rowcase (fun r hr d hd => DictOf.ext (I.dd r hr d hd) e (fx _ (inf (.inr (.inr (.inr ⟨r, hr, .inr ⟨d, hd, rfl⟩⟩)))))) (fun _ h => nomatch h)
  · exact fun kv hkv => (I.more kv hkv).ext e fun x hx => fx x (inf (.inr (.inr (.inl hx))))
  · exact fun x hx => let ⟨o, ho⟩ := I.vsl x hx; ⟨o, e _ _ (fx x (inf (.inr (.inr (.inl hx))))) ho⟩
  · have : (G.addN k a b).muts = G.muts ++ [b] := by simp [Gr.muts, Gr.addN]
    rw [this, List.nodup_append]
    exact ⟨I.nod, by simp, fun x hx y hy q => nb (List.mem_append_left _ (by rw [← List.mem_singleton.mp hy, ← q]; exact hx))⟩
  · intro x hx q
    rcases addN_fixed.mp hx with hx | rfl <;> rcases addN_muts.mp q with q | q
    · exact I.fix x hx q
    · exact nb (List.mem_append_right _ (q ▸ hx))
    · exact na (List.mem_append_left _ q)
    · exact hab q
  · intro x hx
    rcases addN_all hx with hx | rfl | rfl
    · exact I.own x hx
    · exact alo
    · exact blo
theorem stored_new {kvs : List (Int × Value)} {k : Int} {v : Value} (n : k ∉ kvs.map (·.1)) : stored kvs k v = kvs ++ [(k, v)] := by
  unfold stored
  rw [if_neg]
  intro q
  obtain ⟨x, hx, e⟩ := List.any_eq_true.mp q
  exact n (List.mem_map.mpr ⟨x, hx, of_decide_eq_true e⟩)
theorem valueAt_none {kvs : List (Int × Value)} {k : Int} (n : k ∉ kvs.map (·.1)) : valueAt kvs k = none := by
  unfold valueAt
  have : kvs.find? (fun kv => decide (kv.1 = k)) = none := List.find?_eq_none.mpr fun x hx q => n (List.mem_map.mpr ⟨x, hx, of_decide_eq_true q⟩)
  rw [this]; rfl
end
end Mine
end A2
section A3
open PySem PySem.W PyProof.Rows PySem.Calls PySem.Spec
set_option maxRecDepth 100000
set_option maxHeartbeats 8000000
namespace Mine
def Gr.hd (G : Gr) : Nat × Nat × Nat × Nat × Nat × List (Str × Value) × List Nat := (G.g, G.gd, G.nd, G.ad, G.gr, G.more, G.vs)
def NodeIs (prog : Program) (w : World) (tup : Bool) (k : Nat → Int) (i : Nat) (x : Value) (h : Heap) : Prop :=
  if tup then ∃ T t d, x = .ref T ∧ Tup h T #[.int (k i) t, .ref d] ∧ h.DictOf (strKind prog w) d [] ∧ 709 ≤ d else ∃ t, x = .int (k i) t
def Slots (S : List Nat) (h h' : Heap) : Prop := ∀ b ∈ S, ∀ o, h.get? b = some o → ∃ sl, h'.get? b = some { o with slots := sl }
theorem Slots.nil (h h' : Heap) : Slots [] h h' := fun _ h => nomatch h
theorem Slots.of {S F : List Nat} {h h' : Heap} (e : Ext F h h') (n : ∀ b ∈ S, b ∉ F) : Slots S h h' := fun b hb o q => ⟨o.slots, e b o (n b hb) q⟩
theorem Slots.trans {S : List Nat} {h h' h'' : Heap} (x : Slots S h h') (y : Slots S h' h'') : Slots S h h'' := fun b hb o q => by
  obtain ⟨sl, q1⟩ := x b hb o q
  obtain ⟨sl', q2⟩ := y b hb _ q1
  exact ⟨sl', q2⟩
theorem Slots.mono {S S' : List Nat} {h h' : Heap} (x : Slots S h h') (n : ∀ b ∈ S', b ∈ S) : Slots S' h h' := fun b hb => x b (n b hb)
theorem Slots.frames {l : List Env} {h h' : Heap} (x : Slots (frs l) h h') (f : h.FunFrames {} l) : h'.FunFrames {} l := by
  induction l with
  | nil => trivial
  | cons env rest ih =>
    obtain ⟨hk, ⟨L, o, hf, hn, ho, hd⟩, hr⟩ := f
    have e : frs (env :: rest) = L :: frs rest := by simp [frs, List.filterMap_cons, hf]
    obtain ⟨sl, q⟩ := x L (by rw [e]; exact .head _) o ho
    exact ⟨hk, ⟨L, _, hf, hn, q, hd⟩, ih (x.mono fun b hb => by rw [e]; exact .tail _ hb) hr⟩
theorem nsSlots {h h' : Heap} {L : Nat} {m : Str → Option Value} (n : h.Ns L m) (x : ∀ o, h.get? L = some o → ∃ sl, h'.get? L = some { o with slots := sl }) : h'.Ns L m := by
  obtain ⟨o, es, ep, ho, r⟩ := n
  obtain ⟨sl, q⟩ := x o ho
  exact ⟨_, es, ep, q, r⟩
theorem node_fv {prog : Program} {w : World} {k : Nat → Int} {i : Nat} {x : Value} {dep fv : List Nat} {h h' : Heap} (I : Itm dep h (NodeIs prog w true k i) x h' fv) :
    ∃ T t d, x = .ref T ∧ T ∈ fv ∧ d ∈ fv ∧ Tup h' T #[.int (k i) t, .ref d] ∧ h'.DictOf (strKind prog w) d [] ∧ 709 ≤ d := by
  obtain ⟨T, t, d, rfl, q, hd, hlo⟩ := I.is h' fun _ _ _ e => e
  let nul : Obj → Obj := fun _ => { cls := .none, data := .plain }
  have other : ∀ a, a ∉ fv → Agr fv h' (h'.update a nul) := fun a n b hb o e => (Heap.get?_update_other h' nul (fun q => n (by rw [q]; exact hb))).trans e
  have Tfv : T ∈ fv := Classical.byContradiction fun n => by
    obtain ⟨T', t', d', eT, hT', _⟩ := I.is _ (other T n)
    cases eT
    have z := (Heap.get?_update_self nul q rfl).symm.trans hT'
    simp [nul] at z
  refine ⟨T, t, d, rfl, Tfv, Classical.byContradiction fun n => ?_, q, hd, hlo⟩
  obtain ⟨od, hod⟩ := dictLive hd
  have nT : d ≠ T := fun r => n (r ▸ Tfv)
  obtain ⟨T', t', d', eT, hT', hd', _⟩ := I.is _ (other d n)
  cases eT
  have eT2 : (h'.update d nul).get? T = h'.get? T := Heap.get?_update_other _ _ nT
  have z := q.symm.trans (eT2.symm.trans hT')
  simp only [Option.some.injEq, Obj.mk.injEq, Data.seq.injEq, true_and, and_true] at z
  have z2 := congrArg Array.toList z
  simp only [List.cons.injEq, Value.ref.injEq, and_true] at z2
  obtain ⟨_, rfl⟩ := z2
  obtain ⟨o, es, ep, ho, hc, _⟩ := hd'
  rw [Heap.get?_update_self nul hod rfl] at ho
  cases ho
  exact absurd hc.1 (by simp [nul])
structure NAdded (prog : Program) (w : World) (G : Gr) (k : Nat → Int) (h₀ : Heap) (i : Nat) (h : Heap) (G' : Gr) : Prop where
  I : GraphAt prog w h G'
  J : ∀ r ∈ G'.rows, ∀ e ∈ r.es, e.1 ∈ G'.ids
  len : G'.rows.length = G.rows.length + i
  hd : G'.hd = G.hd
  ids : G'.ids = G.ids ++ (List.range i).map k
  gr : Grow h₀ G G'
  has : ∀ a b, G'.has a b ↔ G.has a b
  sub : ∀ a ∈ G.all, a ∈ G'.all
section
variable {prog : Program} {w : World} {A : Around} {E : Value → Shared → Prop} {s : Shared} {G : Gr} {Q : Value → Shared → Prop} {env : Env}
structure GB (prog : Program) (w : World) (h : Heap) (G : Gr) : Prop where
  inst : h.get? G.g = some (instObj 617 G.gd)
  dict : RawD prog w h G.gd G.attrs
theorem GraphAt.gb {h : Heap} (I : GraphAt prog w h G) : GB prog w h G := ⟨I.inst, I.dict⟩
theorem GB.ext {h h' : Heap} {F : List Nat} (I : GB prog w h G) (e : Ext F h h') (n1 : G.g ∉ F) (n2 : G.gd ∉ F) : GB prog w h' G := ⟨e _ _ n1 I.inst, RawD.ext I.dict e n2⟩
theorem GB.instAt {h : Heap} (I : GB prog w h G) : ∃ od, InstAt h G.g (instObj 617 G.gd) 617 (some od) ∧ ∀ name, lookIn name od = some (valueAt G.attrs name) := by
  obtain ⟨od, es, ep, ho, _, hdat, _, hp, _⟩ := I.dict
  exact ⟨od, ⟨I.inst, rfl, rfl, ho⟩, lookIn_raw hdat hp⟩
theorem gb_meth {name : Str} {Q : Value × List Value → Shared → Prop} {pl : Sem Bool} {f : Addr} (Z : Gl w s.heap) (I : GB prog w s.heap G) (hf : findIn (KH w) (.ref 617) name = some (some (.ref f))) (ht : typeIn (KH w) (.ref f) = some (.type "function"))
    (hv : valueAt G.attrs name = none) (h : Q (.ref f, [.ref G.g]) s) : wpAny (model prog w) A (getMethod (.ref G.g) name pl) Q E s := by
  obtain ⟨od, J, hl⟩ := I.instAt
  exact method_fn Z.X J (by kernel_rfl) (by kernel_rfl) hf ht (by show (lookIn name od).map (·.isSome) = _; rw [hl, hv]; rfl) h
theorem gB {m : Str → Option Value} {pos : Pos} {x name : Str} {p : Pos} (n : s.heap.Ns env.locals m) (Z : Gl w s.heap) (I : GB prog w s.heap G) (v : Value) (h : ∀ tk, Q v { s with toks := tk }) (hv : valueAt G.attrs name = some v := by rfl) (hl : env.kindOf x = some .local := by rfl) (hm : m x = some (.ref G.g) := by rfl)
    (hp : preFind (KH w) 617 name = true := by kernel_rfl) (hh : handedIn v = true := by rfl) (hk : env.scope.kind = .function := by rfl) (hd : (x == ("__debug__" : Str)) = false := by kernel_rfl) : wpAny (model prog w) A (eval (.Attribute (.Name x p) name pos) env) Q E s := by
  refine Attribute_Name_ (nmL n hl hm ?_ hk hd)
  obtain ⟨od, J, hl⟩ := I.instAt
  exact get_value Z.X J (by kernel_rfl) (findObj_val hp (by rw [hl, hv])) hh (h _)
theorem Gl.loc {s₀ h h' : Heap} {F : List Nat} {L : Nat} (Z : Gl w s₀) (e : Ext F s₀ h) (hF : ∀ a ∈ F, 709 ≤ a) (n : s₀.get? L = none) (e' : Ext [L] h h') : Gl w h' := Z.ext (e.app' e' fun b hb => .inr (List.mem_singleton.mp hb ▸ n)) hF
theorem sp_add_nodes_from (tup : Bool) (outer : List Env) (S : List Nat) (hS : S = if tup then frs outer else []) (Sk : tup = true → A.frames = some outer ∧ s.heap.FunFrames {} outer ∧ A.units + 10 < cLine)
    (Z : Gl w s.heap) (I : GraphAt prog w s.heap G) (J : Gi G) (hroom : A.depth + 1 < recursionLimit) (hh : A.handled = none) {xv : Value} {own dep Gs : List Nat} {N : Nat} {k : Nat → Int} (X : Src prog w xv own dep Gs N (NodeIs prog w tup k) s.heap s.gens)
    (hlive : ∀ b ∈ dep, ∃ o, s.heap.get? b = some o) (hoff : ∀ b ∈ dep, b ∉ G.all) (hod : ∀ b ∈ own, b ∈ dep) (hown : ∀ b ∈ own, 709 ≤ b) (hlen : G.rows.length + N ≤ 100)
    (hSd : ∀ b ∈ S, b ∉ dep ∧ b ∉ G.all ∧ 709 ≤ b) (hknew : ∀ i, i < N → k i ∉ G.ids) (hkinj : ∀ i j, i < N → j < N → k i = k j → i = j)
    (h : ∀ h' g' tk G', Ext (own ++ G.all ++ S) s.heap h' → Slots S s.heap h' → GM Gs s.gens g' → NAdded prog w G k s.heap N h' G' → Q .none { s with heap := h', gens := g', toks := tk }) :
    wpAny (model prog w) A (call (.ref 433) [.ref G.g, xv]) Q E s := by
  have hSl : ∀ b ∈ S, ∃ o, s.heap.get? b = some o := fun b hb => by
    cases tup with
    | false => rw [hS] at hb; cases hb
    | true =>
      rw [hS] at hb
      obtain ⟨_, o, ho, _⟩ := (Sk rfl).2.1.mem hb
      exact ⟨o, ho⟩
  refine enterA' Z (Nat.lt_of_succ_lt hroom) (by rfl) (by kernel_rfl) (o := { cls := .type "dict", data := .dict #[] }) (binds := fun d => [("self", .ref G.g), ("nodes_for_adding", xv), ("attr", .ref d)]) (by intro d; kernel_rfl) (by rfl) (by kernel_rfl) (by intro d; kernel_rfl) (by rfl) (by rfl) ?_
  intro d L x tk m hL hd hdL hx hn
  have Lx : ∃ o, x.get? L = some o := nsLive hn
  refine wpAny_execs_cons <| wpAny_For <| nmL hn rfl rfl <| X _ _ _ { s with heap := x, toks := tk } hh hroom (fun b hb o e => m.keep b o e) (fun _ _ _ e => e) fun it own' dep' h₁ tk₁ St W st e₁ ho' hoo hd' hl' => ?_
  replace e₁ : Ext [] x h₁ := e₁
  replace ho' : ∀ b ∈ own', b ∈ own ∨ x.get? b = none := ho'
  replace hd' : ∀ b ∈ dep', b ∈ dep ∨ x.get? b = none := hd'
  have od : ∀ b ∈ own', b ∈ dep' := (W "e" default).sub
  refine for_itr (W _ _) (fun i hp g => ∃ G' mm, NAdded prog w G k s.heap i hp G' ∧ Ext (own ++ G.all ++ S) s.heap hp ∧ Slots S s.heap hp ∧ GM Gs s.gens g ∧ (∀ a ∈ G'.all, a ∉ dep' ∧ a ≠ L ∧ a ≠ d ∧ a ∉ S) ∧ (∀ b ∈ dep', ∃ o, hp.get? b = some o) ∧ hp.Ns L mm ∧ mm "self" = some (.ref G.g) ∧ mm "attr" = some (.ref d) ∧ hp.DictOf (strKind prog w) d [] ∧ d ∉ dep') ?_ ?_ st ?_
  · rintro i hp g tk₂ vx h₂ g₂ fv hi ⟨G', mm, AD, eE, eS, eg, off, live, nn, n1, n2, da, dd⟩ itm st₂ e₂ eg₂ E'
    obtain ⟨oL, hoL⟩ := nsLive nn
    have Ldep : L ∉ dep' := fun q => (hd' L q).elim (fun q' => let ⟨_, e⟩ := hlive L q'; nomatch hL.symm.trans e) fun q' => let ⟨_, e⟩ := Lx; nomatch q'.symm.trans e
    have Lfv : L ∉ fv := fun q => (itm.old L q).elim Ldep fun q' => nomatch q'.symm.trans hoL
    have LS : L ∉ S := fun q => let ⟨_, e⟩ := hSl L q; nomatch hL.symm.trans e
    have dS : d ∉ S := fun q => let ⟨_, e⟩ := hSl d q; nomatch hd.1.symm.trans e
    have Sdep : ∀ b ∈ S, b ∉ dep' := fun b hb q => (hd' b q).elim (hSd b hb).1 fun q' => let ⟨_, e⟩ := hSl b hb; nomatch q'.symm.trans (m.keep _ _ e)
    have eE₂ : Ext (own ++ G.all ++ S) s.heap h₂ := eE.app' e₂ fun b hb => (ho' b hb).imp (fun q => List.mem_append_left _ (List.mem_append_left _ q)) (dead m.keep)
    have eS₂ : Slots S s.heap h₂ := eS.trans (Slots.of e₂ fun b hb q => Sdep b hb (od b q))
    have I₂ : GraphAt prog w h₂ G' := AD.I.to e₂ fun a ha q => (off a ha).1 (od a q)
    have n₂ : h₂.Ns L mm := nn.at' fun o e => e₂ _ _ (fun q => Ldep (od _ q)) e
    have da₂ : h₂.DictOf (strKind prog w) d [] := da.at fun o e => e₂ _ _ (fun q => dd (od _ q)) e
    have live₂ : ∀ b ∈ dep', ∃ o, h₂.get? b = some o := fun b hb => by
      by_cases q : b ∈ own'
      · exact (W "e" default).live _ _ _ st₂ b q
      · obtain ⟨o, ho⟩ := live b hb; exact ⟨o, e₂ _ _ q ho⟩
    have big' : ∀ a ∈ own ++ G.all ++ S, (709 : Nat) ≤ a := fun a ha => (List.mem_append.mp ha).elim (fun ha => (List.mem_append.mp ha).elim (hown a) (I.own a)) fun q => (hSd a q).2.2
    have nfv : ∀ b ∈ fv, b ∉ ([L] : List Nat) := fun b hb q => Lfv (List.mem_singleton.mp q ▸ hb)
    have offv : ∀ a ∈ G'.all, a ∉ fv := fun a ha q => (itm.old a q).elim (off a ha).1 fun q' => AD.I.all_new q' ha
    have dfv : d ∉ fv := fun q => (itm.old d q).elim dd fun q' => let ⟨_, e⟩ := dictLive da; nomatch q'.symm.trans e
    have Sfv : ∀ b ∈ S, b ∉ fv := fun b hb q => (itm.old b q).elim (Sdep b hb) fun q' => let ⟨o, e⟩ := hSl b hb; let ⟨_, e'⟩ := eS b hb o e; nomatch q'.symm.trans e'
    have offL : ∀ a ∈ G'.all, a ∉ ([L] : List Nat) := fun a ha q => (off a ha).2.1 (List.mem_singleton.mp q)
    have gg : G'.g = G.g := by have := AD.hd; simp only [Gr.hd, Prod.mk.injEq] at this; exact this.1
    have nid : k i ∉ G'.ids := fun q => by
      rw [AD.ids] at q
      rcases List.mem_append.mp q with q | q
      · exact hknew i hi q
      · obtain ⟨j, hj, e⟩ := List.mem_map.mp q
        have hj := List.mem_range.mp hj
        exact Nat.ne_of_lt hj (hkinj j i (Nat.lt_trans hj hi) hi e)
    have nnodes : (valueAt G'.nodes (k i)).isSome = false := by
      rw [valueAt_none (by simpa [Gr.nodes, Function.comp_def, Gr.ids] using nid)]; rfl
    refine wpAny_assign_Name (stL n₂ rfl fun h₃ n₃ s₃ => ?_)
    refine at_ h₃ g₂ s.drawn s.os fun t₃ => ?_
    replace s₃ : Heap.SameBut L h₂ h₃ := s₃
    have e₃ : Ext [L] h₂ h₃ := Ext.of_same s₃
    have eE₃ : Ext (own ++ G.all ++ S) s.heap h₃ := eE₂.loc hL s₃
    have eS₃ : Slots S s.heap h₃ := eS₂.trans (Slots.of e₃ fun b hb q => LS (List.mem_singleton.mp q ▸ hb))
    have Z₃ : Gl w h₃ := Z.ext eE₃ big'
    have I₃ : GraphAt prog w h₃ G' := I₂.to e₃ offL
    have da₃ : h₃.DictOf (strKind prog w) d [] := DictOf.ext da₂ e₃ fun q => hdL (List.mem_singleton.mp q)
    rw [← gg] at n1
    refine wpAny_execs_cons (wpAny_mono (Q := fun f s' => f = .next ∧ ∃ h₄ tk t nv m₄, s' = ⟨h₄, g₂, s.drawn, tk, s.os⟩ ∧ Ext ([L] ++ S) h₃ h₄ ∧ Slots S h₃ h₄ ∧ h₄.Ns L m₄ ∧ m₄ "self" = some (.ref G'.g) ∧ m₄ "attr" = some (.ref d) ∧ m₄ "n" = some (.int (k i) t) ∧ m₄ "newnode" = some (.bool true) ∧ m₄ "newdict" = some (.ref nv) ∧
      h₄.DictOf (strKind prog w) nv [] ∧ (nv = d ∨ h₃.get? nv = none) ∧ nv ≠ L ∧ 709 ≤ nv) ?_ (fun f s' hf => ?_) fun _ _ e => e)
    · refine wpAny_Try_except ?_
      cases tup with
      | false =>
        obtain ⟨t, rfl⟩ : ∃ t, vx = .int (k i) t := by simpa [NodeIs] using itm.is h₂ fun _ _ _ e => e
        refine wpAny_execs_cons <| wpAny_Assign_Name <| wpAny_Compare1 <| nmL n₃ rfl rfl <| gA n₃ Z₃ I₃ (.ref G'.nd) (hm := n1) fun t₅ => inN (I₃.lo mem_nd) I₃.node (b := false) nnodes fun t₆ => stL n₃ rfl fun h₄ n₄ s₄ => ?_
        refine wpAny_execs_cons <| wpAny_Assign_Name <| nmL n₄ rfl n2 <| stL n₄ rfl fun h₅ n₅ s₅ => wpAny_execs_nil <| wpAny_execs_nil ?_
        replace s₄ : Heap.SameBut L h₃ h₄ := s₄
        replace s₅ : Heap.SameBut L h₄ h₅ := s₅
        have e₅ : Ext [L] h₃ h₅ := (Ext.of_same s₄).app (Ext.of_same s₅)
        exact ⟨rfl, h₅, _, t, d, _, rfl, e₅.mono fun a ha => List.mem_append_left _ ha, Slots.of e₅ fun b hb q => LS (List.mem_singleton.mp q ▸ hb), n₅, n1, n2, rfl, rfl, rfl, DictOf.ext da₃ e₅ fun q => hdL (List.mem_singleton.mp q), .inl rfl, hdL, hd.2⟩
      | true =>
        obtain ⟨T, t, dn, rfl, Tfv, dnfv, hT, hdn, dnlo⟩ := node_fv itm
        obtain ⟨hfr, hl, hun⟩ := Sk rfl
        have hS' : S = frs outer := hS
        have hT₃ : Tup h₃ T #[.int (k i) t, .ref dn] := e₃ _ _ (nfv _ Tfv) hT
        have hdn₃ : h₃.DictOf (strKind prog w) dn [] := DictOf.ext hdn e₃ (nfv _ dnfv)
        refine wpAny_execs_cons <| wpAny_Assign_Name <| wpAny_Compare1 <| nmL n₃ rfl rfl <| gA n₃ Z₃ I₃ (.ref G'.nd) (hm := n1) fun t₅ => notInT hh (by show A.units + 3 + 2 < cLine; omega) I₃.node hT₃ hdn₃.typeIs fun h₄ t₄ e NE => ?_
        refine at_ h₄ g₂ s.drawn s.os fun t₄ => ?_
        replace NE : Heap.NewExc h₃ h₄ e "TypeError" := NE
        obtain ⟨ob, tx, hob, hcl, hdat⟩ := NE.there
        have e₄ : Ext [] h₃ h₄ := Ext.of_keep NE.keeps []
        have fl₄ : h₄.FunFrames {} outer := by
          refine Slots.frames ?_ hl
          rw [← hS']
          exact eS₃.trans (Slots.of e₄ (fun _ _ h => nomatch h))
        have n₄ := n₃.keeps NE.keeps
        refine note_first (base := {}) (outer := outer) (L := L) (by show A.frames.map _ = _; rw [hfr]; rfl) (Heap.FunFrames.cons (by intro q; cases q) rfl n₄ (by rfl) fl₄) rfl hob hdat fun h₅ T' oT ts oe' e₅ sl₅ he₅ hc₅ hd₅ hT₅ hts hz hTe hTn => ?_
        refine at_ h₅ g₂ s.drawn s.os fun t₅ => ?_
        replace e₅ : Ext ([L] ++ S ++ [e]) h₄ h₅ := by rw [hS']; exact e₅
        replace sl₅ : Slots ([L] ++ S) h₄ h₅ := by rw [hS']; exact fun b hb o q => sl₅ b o hb q
        have hTn₃ : h₃.get? T' = none := dead NE.keeps hTn
        refine flight_none he₅ hd₅ rfl hT₅ hts hz fun h₆ oT₆ ts₆ s₆ hT₆ hts₆ hz₆ => ?_
        refine at_ h₆ g₂ s.drawn s.os fun t₆ => ?_
        replace s₆ : Heap.SameBut T' h₅ h₆ := s₆
        have eLe : e ≠ L := fun q => by obtain ⟨_, z⟩ := nsLive n₃; exact nomatch (q ▸ NE.new : h₃.get? L = none).symm.trans z
        have he₆ : h₆.get? e = some oe' := s₆.extBut _ _ (Ne.symm hTe) he₅
        have all₆ : Ext ([L] ++ S ++ [e] ++ [T']) h₃ h₆ := fun b o n q => s₆.extBut b o (fun r => n (List.mem_append_right _ (r ▸ .head _))) (e₅ b o (fun r => n (List.mem_append_left _ r)) (NE.keeps b o q))
        have e₆ : Ext ([L] ++ S) h₃ h₆ := all₆.shed fun a ha => by
          rcases List.mem_append.mp ha with ha | ha
          · rcases List.mem_append.mp ha with ha | ha
            · exact .inl ha
            · rw [List.mem_singleton.mp ha]; exact .inr NE.new
          · rw [List.mem_singleton.mp ha]; exact .inr hTn₃
        have TLS : ∀ b ∈ [L] ++ S, b ≠ T' := fun b hb q => by
          have : ∃ o, h₄.get? b = some o := by
            rcases List.mem_append.mp hb with hb | hb
            · rw [List.mem_singleton.mp hb]; exact nsLive n₄
            · obtain ⟨o, ho⟩ := hSl b hb
              obtain ⟨_, z⟩ := eS₃ b hb o ho
              exact ⟨_, NE.keeps _ _ z⟩
          obtain ⟨_, z⟩ := this
          exact nomatch (q ▸ hTn : h₄.get? b = none).symm.trans z
        have sl₆ : Slots ([L] ++ S) h₃ h₆ := (Slots.of e₄ (fun _ _ h => nomatch h)).trans (sl₅.trans (Slots.of (Ext.of_same s₆) fun b hb q => TLS b hb (List.mem_singleton.mp q)))
        have n₆ : h₆.Ns L _ := nsSlots n₃ (sl₆ L (.head _))
        have F₆ : ∀ b ∈ [L] ++ S, b ∈ own ++ G.all ++ S ∨ s.heap.get? b = none := fun b hb => (List.mem_append.mp hb).elim (fun q => .inr (List.mem_singleton.mp q ▸ hL)) fun q => .inl (List.mem_append_right _ q)
        have eE₆ := eE₃.app' e₆ F₆
        have Z₆ : Gl w h₆ := Z.ext eE₆ big'
        have offLS : ∀ a ∈ G'.all, a ∉ [L] ++ S := fun a ha q => (List.mem_append.mp q).elim (offL a ha) (off a ha).2.2.2
        have I₆ := I₃.to e₆ offLS
        have da₆ : h₆.DictOf (strKind prog w) d [] := DictOf.ext da₃ e₆ fun q => (List.mem_append.mp q).elim (fun q => hdL (List.mem_singleton.mp q)) dS
        have LSfv : ∀ b ∈ fv, b ∉ [L] ++ S := fun b hb q => (List.mem_append.mp q).elim (nfv b hb) fun q => Sfv b q hb
        have hT₆' : Tup h₆ T #[.int (k i) t, .ref dn] := e₆ _ _ (LSfv _ Tfv) hT₃
        have hdn₆ : h₆.DictOf (strKind prog w) dn [] := DictOf.ext hdn₃ e₆ (LSfv _ dnfv)
        refine wpAny_handleBy_builtin (X := "TypeError") (T := "TypeError") (b := true) (by rw [isSubtype_type]; kernel_rfl) (by rw [isSubtype_type]; kernel_rfl) (by rw [isSubtype_type]; kernel_rfl) ?_
        refine nmB Z₆ (by kernel_rfl) (by rfl) (v := .type "TypeError") (by with_unfolding_all rfl) (by decide) ⟨rfl, ⟨oe', he₆, hc₅.trans hcl⟩, ?_⟩
        rw [if_pos rfl]
        refine flight_none he₆ hd₅ rfl hT₆ hts₆ hz₆ fun h₇ oT₇ ts₇ s₇ hT₇ hts₇ hz₇ => ?_
        refine at_ h₇ g₂ s.drawn s.os fun t₇ => ?_
        replace s₇ : Heap.SameBut T' h₆ h₇ := s₇
        have he₇ : h₇.get? e = some oe' := s₇.extBut _ _ (Ne.symm hTe) he₆
        have e₇ : Ext ([L] ++ S) h₃ h₇ := e₆.app' (Ext.of_same s₇) fun b hb => .inr (List.mem_singleton.mp hb ▸ hTn₃)
        have sl₇ : Slots ([L] ++ S) h₃ h₇ := sl₆.trans (Slots.of (Ext.of_same s₇) fun b hb q => TLS b hb (List.mem_singleton.mp q))
        have n₇ : h₇.Ns L _ := nsSlots n₃ (sl₇ L (.head _))
        have eE₇ := eE₃.app' e₇ F₆
        have Z₇ : Gl w h₇ := Z.ext eE₇ big'
        have I₇ := I₃.to e₇ offLS
        have da₇ : h₇.DictOf (strKind prog w) d [] := DictOf.ext da₃ e₇ fun q => (List.mem_append.mp q).elim (fun q => hdL (List.mem_singleton.mp q)) dS
        have hT₇' : Tup h₇ T #[.int (k i) t, .ref dn] := e₇ _ _ (LSfv _ Tfv) hT₃
        have hdn₇ : h₇.DictOf (strKind prog w) dn [] := DictOf.ext hdn₃ e₇ (LSfv _ dnfv)
        refine wpAny_execs_cons <| Assign_Tuple <| nmL n₇ rfl rfl <| unp2H (x := e) (vx := #[tx, .ref T', .none, .none, .bool false, .none]) rfl hT₇' he₇ hd₅ rfl n₇ rfl rfl rfl fun h₈ t₈ e₈ n₈ => ?_
        refine at_ h₈ g₂ s.drawn s.os fun t₈ => ?_
        replace e₈ : Ext [L] h₇ h₈ := e₈
        have offL' := offL
        have Z₈ : Gl w h₈ := Z.ext (eE₇.app' e₈ fun b hb => .inr (List.mem_singleton.mp hb ▸ hL)) big'
        have I₈ := I₇.to e₈ offL
        have da₈ : h₈.DictOf (strKind prog w) d [] := DictOf.ext da₇ e₈ fun q => hdL (List.mem_singleton.mp q)
        have hdn₈ : h₈.DictOf (strKind prog w) dn [] := DictOf.ext hdn₇ e₈ (nfv _ dnfv)
        refine wpAny_execs_cons <| wpAny_Assign_Name <| wpAny_Compare1 <| nmL n₈ rfl rfl <| gA n₈ Z₈ I₈ (.ref G'.nd) (hm := n1) fun t₅ => inN (I₈.lo mem_nd) I₈.node (b := false) nnodes fun t₆ => stL n₈ rfl fun h₉ n₉ s₉ => ?_
        refine at_ h₉ g₂ s.drawn s.os fun t₉ => ?_
        replace s₉ : Heap.SameBut L h₈ h₉ := s₉
        have e₉ : Ext [L] h₈ h₉ := Ext.of_same s₉
        have da₉ : h₉.DictOf (strKind prog w) d [] := DictOf.ext da₈ e₉ fun q => hdL (List.mem_singleton.mp q)
        have hdn₉ : h₉.DictOf (strKind prog w) dn [] := DictOf.ext hdn₈ e₉ (nfv _ dnfv)
        refine wpAny_execs_cons <| wpAny_Assign_Name <| MethodCall_ <| nmL n₉ rfl n2 <| gmD da₉ PySem.F.slot_dict_copy PySem.F.type_dict_copy <| cwB0 <| dcopy (notMods hd.2) da₉ (Nat.zero_le _) fun h₁₀ hc₁₀ k₁₀ => ?_
        replace hc₁₀ : h₁₀.DictOf (strKind prog w) h₉.objs.size [] := hc₁₀
        replace k₁₀ : ∀ b o, h₉.get? b = some o → h₁₀.get? b = some o := k₁₀
        have nvL : h₉.objs.size ≠ L := fun q => by obtain ⟨_, z⟩ := nsLive n₉; exact nomatch (q ▸ get?_size h₉ : h₉.get? L = none).symm.trans z
        refine stL (n₉.keeps k₁₀) rfl fun h₁₁ n₁₁ s₁₁ => ?_
        refine at_ h₁₁ g₂ s.drawn s.os fun t₁₁ => ?_
        replace s₁₁ : Heap.SameBut L h₁₀ h₁₁ := s₁₁
        have hc₁₁ : h₁₁.DictOf (strKind prog w) h₉.objs.size [] := hc₁₀.at fun o z => s₁₁.extBut _ _ nvL z
        have hdn₁₁ : h₁₁.DictOf (strKind prog w) dn [] := hdn₉.at fun o z => s₁₁.extBut _ _ (fun q => nfv _ dnfv (List.mem_singleton.mpr q)) (k₁₀ _ _ z)
        have nvdn : h₉.objs.size ≠ dn := let ⟨_, z⟩ := dictLive hdn₉; fun q => nomatch (q ▸ get?_size h₉ : h₉.get? dn = none).symm.trans z
        refine wpAny_execs_cons <| wpAny_Expr_any <| MethodCall_ <| nmL n₁₁ rfl rfl <| gmD hc₁₁ PySem.F.slot_dict_update PySem.F.type_dict_update <| cwB <| wpAny_items_cons <| nmL n₁₁ rfl rfl <| wpAny_items_nil <| dupd (by exact nvdn) (notMods dnlo) hc₁₁ (Nat.zero_le _) hdn₁₁ fun h₁₂ hc₁₂ s₁₂ => wpAny_execs_nil ?_
        replace s₁₂ : Heap.SameBut h₉.objs.size h₁₁ h₁₂ := s₁₂
        have e₁₂ : Ext ([L] ++ [h₉.objs.size]) h₇ h₁₂ := fun b o n q => s₁₂.extBut b o (fun r => n (List.mem_append_right _ (r ▸ .head _))) (s₁₁.extBut b o (fun r => n (List.mem_append_left _ (r ▸ .head _))) (k₁₀ _ _ (e₉ b o (fun r => n (List.mem_append_left _ r)) (e₈ b o (fun r => n (List.mem_append_left _ r)) q))))
        have dead₉ : ∀ c, h₉.get? c = none → h₃.get? c = none := fun c z => by
          cases q : h₃.get? c with
          | none => rfl
          | some o =>
            have : ∃ o, h₇.get? c = some o := by
              by_cases r : c ∈ [L] ++ S
              · obtain ⟨_, z⟩ := sl₇ c r o q; exact ⟨_, z⟩
              · exact ⟨_, e₇ _ _ r q⟩
            obtain ⟨o', z'⟩ := this
            by_cases r : c = L
            · subst r; obtain ⟨_, z''⟩ := nsLive n₉; exact nomatch z.symm.trans z''
            · exact nomatch z.symm.trans (e₉ _ _ (fun x => r (List.mem_singleton.mp x)) (e₈ _ _ (fun x => r (List.mem_singleton.mp x)) z'))
        have nvd := dead₉ _ (get?_size h₉)
        have nvS : ∀ b ∈ S, b ∉ [L] ++ [h₉.objs.size] := fun b hb q => (List.mem_append.mp q).elim (fun q => LS (List.mem_singleton.mp q ▸ hb)) fun q => by
          obtain ⟨o, ho⟩ := hSl b hb
          obtain ⟨_, z⟩ := eS₃ b hb o ho
          rw [List.mem_singleton.mp q] at z
          exact nomatch nvd.symm.trans z
        have Z₉ : Gl w h₉ := Z.loc (eE₇.app' e₈ fun b hb => .inr (List.mem_singleton.mp hb ▸ hL)) big' hL e₉
        refine ⟨rfl, h₁₂, _, t, h₉.objs.size, _, rfl, e₇.app' e₁₂ (fun b hb => (List.mem_append.mp hb).elim (fun q => .inl (List.mem_append_left _ q)) fun q => .inr (List.mem_singleton.mp q ▸ nvd)), (sl₇.mono fun b hb => List.mem_append_right _ hb).trans (Slots.of e₁₂ nvS), n₁₁.at' (fun o z => s₁₂.extBut _ _ (fun q => nvL q.symm) z), n1, n2, rfl, rfl, rfl, hc₁₂, .inr nvd, nvL, Z₉.big⟩
    obtain ⟨rfl, h₄, t₄, t, nv, m₄, rfl, e₄, eS₄, n₄, m41, m42, m43, m44, m45, nv₄, nvo, nvL, nvlo⟩ := hf
    have offLS : ∀ a ∈ G'.all, a ∉ [L] ++ S := fun a ha q => (List.mem_append.mp q).elim (offL a ha) (off a ha).2.2.2
    have eE₄ : Ext (own ++ G.all ++ S) s.heap h₄ := eE₃.app' e₄ fun b hb => (List.mem_append.mp hb).elim (fun q => .inr (List.mem_singleton.mp q ▸ hL)) fun q => .inl (List.mem_append_right _ q)
    have eS₄' : Slots S s.heap h₄ := eS₃.trans eS₄
    have Z₄ : Gl w h₄ := Z.ext eE₄ big'
    have I₄ : GraphAt prog w h₄ G' := I₃.to e₄ offLS
    have da₄ : h₄.DictOf (strKind prog w) d [] := DictOf.ext da₃ e₄ fun q => (List.mem_append.mp q).elim (fun q => hdL (List.mem_singleton.mp q)) dS
    have nvG : nv ∉ G'.all := fun q => nvo.elim (fun r => (off nv q).2.2.1 r) fun r => I₃.all_new r q
    have rid : G'.rows.length ≤ 100 := by rw [AD.len]; omega
    refine wpAny_execs_cons (wpAny_mono (Q := fun f s' => f = .next ∧ ∃ h₅ tk a b, s' = ⟨h₅, g₂, s.drawn, tk, s.os⟩ ∧ Ext [G'.ad, G'.nd] h₄ h₅ ∧ New h₄ a ∧ New h₄ b ∧ GraphAt prog w h₅ (G'.addN (k i) a b)) ?_ (fun f s' hf => ?_) fun _ _ e => e)
    · refine wpAny_If <| wpAny_isTrue_value (nmL n₄ rfl m44 <| wpAny_truthy_bool <| ite_pos rfl ?_)
      refine wpAny_execs_cons <| wpAny_If <| wpAny_isTrue_Compare1 <| nmL n₄ rfl m43 <| wpAny_Constant_none <| wpAny_of_eq (a := Value.bool false) rfl <| wpAny_truthy_bool <| ite_neg (by decide) <| wpAny_execs_nil ?_
      refine wpAny_execs_cons <| wpAny_Assign_Subscript <| MethodCall_ <| nmL n₄ rfl m41 <| ga_meth Z₄ I₄ (f := 359) (by kernel_rfl) (by kernel_rfl) (I₄.bare (by decide)) <| cwF0 Z₄ (by kernel_rfl) <| sp_inner Z₄ hroom fun b h₅ t₅ e₅ newb hb₅ => ?_
      refine at_ h₅ g₂ s.drawn s.os fun t₅ => ?_
      replace e₅ : Ext [] h₄ h₅ := e₅
      replace newb : New h₄ b := newb
      have Z₅ := Z₄.k e₅
      have I₅ := I₄.k e₅
      have n₅ := n₄.keeps e₅.keep
      refine gA n₅ Z₅ I₅ (.ref G'.ad) (hm := m41) fun t₆ => nmL n₅ rfl m43 <| wpAny_setItem_pairs (knd := intKind prog w) (k := k i) (intKind_is _ _ _ _) I₅.adj (fun h₆ ha₆ s₆ => ?_) (by simp only [Gr.adjs, List.length_map]; exact Nat.le_trans rid (Nat.le_of_ble_eq_true rfl))
      refine at_ h₆ g₂ s.drawn s.os fun t₆ => ?_
      replace s₆ : Heap.SameBut G'.ad h₅ h₆ := s₆
      have e₆ : Ext [G'.ad] h₅ h₆ := Ext.of_same s₆
      have nodm := AD.I.nod
      simp only [Gr.muts, List.nodup_cons, List.mem_cons, not_or, List.mem_map, not_exists, not_and] at nodm
      obtain ⟨⟨q1, q2, q3⟩, ⟨q4, q5⟩, q6, q7⟩ := nodm
      have gad : G'.g ≠ G'.ad := fun q => AD.I.fix G'.g (Gr.fixed_iff.mpr (.inl rfl)) (Gr.muts_iff.mpr (.inr (.inr (.inl q))))
      have B₆ : GB prog w h₆ G' := I₅.gb.ext e₆ (fun q => gad (List.mem_singleton.mp q)) (fun q => q2 (List.mem_singleton.mp q))
      have Z₆ : Gl w h₆ := Z₅.ext e₆ (by intro a ha; rw [List.mem_singleton.mp ha]; exact AD.I.own _ mem_ad)
      have n₆ : h₆.Ns L m₄ := n₅.at' fun o e => e₆ _ _ (fun q => offL _ mem_ad (List.mem_singleton.mp q ▸ .head _)) e
      refine wpAny_execs_cons <| wpAny_Assign_Subscript <| MethodCall_ <| nmL n₆ rfl m41 <| gb_meth Z₆ B₆ (f := 345) (by kernel_rfl) (by kernel_rfl) (I₄.bare (by decide)) <| cwF0 Z₆ (by kernel_rfl) <| sp_node_attr Z₆ hroom fun a h₇ t₇ e₇ newa ha₇ => ?_
      refine at_ h₇ g₂ s.drawn s.os fun t₇ => ?_
      replace e₇ : Ext [] h₆ h₇ := e₇
      replace newa : New h₆ a := newa
      have n₇ := n₆.keeps e₇.keep
      have hnd₇ : h₇.DictOf (intKind prog w) G'.nd G'.nodes := DictOf.ext (DictOf.ext I₅.node e₆ fun q => q4 (List.mem_singleton.mp q)) e₇ (fun h => nomatch h)
      refine gB n₇ (Z₆.k e₇) (B₆.ext e₇ (fun h => nomatch h) (fun h => nomatch h)) (.ref G'.nd) (hm := m41) fun t₆ => nmL n₇ rfl m43 <| wpAny_setItem_pairs (knd := intKind prog w) (k := k i) (intKind_is _ _ _ _) hnd₇ (fun h₈ hn₈ s₈ => wpAny_execs_nil ?_) (by simp only [Gr.nodes, List.length_map]; exact Nat.le_trans rid (Nat.le_of_ble_eq_true rfl))
      replace s₈ : Heap.SameBut G'.nd h₇ h₈ := s₈
      have e₈ : Ext [G'.nd] h₇ h₈ := Ext.of_same s₈
      have eAll : Ext [G'.ad, G'.nd] h₄ h₈ := fun b o n e => e₈ b o (fun q => n (.tail _ q)) (e₇.keep _ _ (e₆ b o (fun q => n (by rw [List.mem_singleton.mp q]; exact .head _)) (e₅.keep _ _ e)))
      have bG : b ∉ G'.all := I₄.all_new newb.1
      have liveA : ∀ c o, h₄.get? c = some o → ∃ o, h₆.get? c = some o := fun c o e => by
        by_cases q : c = G'.ad
        · rw [q]; exact dictLive ha₆
        · exact ⟨o, e₆ _ _ (fun r => q (List.mem_singleton.mp r)) (e₅.keep _ _ e)⟩
      have dead₄ : h₄.get? a = none := by
        cases q : h₄.get? a with
        | none => rfl
        | some o =>
          obtain ⟨_, e⟩ := liveA a o q
          exact nomatch newa.1.symm.trans e
      have newa₄ : New h₄ a := ⟨dead₄, newa.2⟩
      have hab : a ≠ b := fun q => by
        have : h₆.get? b = some _ := e₆ _ _ (fun r => bG (List.mem_singleton.mp r ▸ mem_ad)) hb₅
        rw [← q] at this
        exact nomatch newa.1.symm.trans this
      have nkA : k i ∉ (G'.adjs.map (·.1)) := by simpa [Gr.adjs, Function.comp_def, Gr.ids] using nid
      have nkN : k i ∉ (G'.nodes.map (·.1)) := by simpa [Gr.nodes, Function.comp_def, Gr.ids] using nid
      rw [stored_new nkA] at ha₆
      rw [stored_new nkN] at hn₈
      refine ⟨rfl, h₈, _, a, b, rfl, eAll, newa₄, newb, I₄.addN eAll (DictOf.ext (DictOf.ext ha₆ e₇ (fun h => nomatch h)) e₈ fun q => q4 (List.mem_singleton.mp q).symm) hn₈ ?_ (DictOf.ext (dictOf_empty ha₇) e₈ fun q => I₄.all_new newa₄.1 (List.mem_singleton.mp q ▸ mem_nd)) bG (I₄.all_new newa₄.1) hab newb.2 newa.2⟩
      exact DictOf.ext (DictOf.ext (DictOf.ext (dictOf_empty hb₅) e₆ fun q => bG (List.mem_singleton.mp q ▸ mem_ad)) e₇ (fun h => nomatch h)) e₈ fun q => bG (List.mem_singleton.mp q ▸ mem_nd)
    obtain ⟨rfl, h₅, t₅, a, b, rfl, e₅, newa, newb, I₅⟩ := hf
    have adnd : ∀ x ∈ ([G'.ad, G'.nd] : List Nat), x ∈ G'.all := fun x hx => by
      rcases List.mem_cons.mp hx with rfl | hx
      · exact mem_ad
      · rw [List.mem_singleton.mp hx]; exact mem_nd
    have nvo5 : nv ∉ ([G'.ad, G'.nd] : List Nat) := fun q => nvG (adnd _ q)
    have n₅ : h₅.Ns L m₄ := n₄.at' fun o e => e₅ _ _ (fun q => offL _ (adnd _ q) (.head _)) e
    have nv₅ : h₅.DictOf (strKind prog w) nv [] := DictOf.ext nv₄ e₅ nvo5
    have Z₅ : Gl w h₅ := Z₄.ext e₅ fun x hx => AD.I.own x (adnd x hx)
    have hro : (⟨k i, a, b, []⟩ : Row) ∈ (G'.addN (k i) a b).rows := List.mem_append_right _ (.head _)
    have anv : a ≠ nv := let ⟨_, e⟩ := dictLive nv₄; newa.ne e
    refine wpAny_execs_cons <| wpAny_Expr_any <| MethodCall_ <| Subscript_ <| gA n₅ Z₅ I₅ (.ref G'.nd) (hm := m41) fun t₆ => nmL n₅ rfl m43 <| subD I₅.node (intKind_is _ _ _ _) (I₅.nodeOf hro) <| gmD (I₅.attr _ hro) PySem.F.slot_dict_update PySem.F.type_dict_update <| cwB <| wpAny_items_cons <| nmL n₅ rfl m45 <| wpAny_items_nil <| dupd (by exact anv) (notMods nvlo) (I₅.attr _ hro) (Nat.zero_le _) nv₅ fun h₆ ha₆ s₆ => wpAny_execs_nil ?_
    replace s₆ : Heap.SameBut a h₅ h₆ := s₆
    have e₆ : Ext [a] h₅ h₆ := Ext.of_same s₆
    have amu : a ∉ (G'.addN (k i) a b).muts := I₅.fix a (addN_fixed.mpr (.inr rfl))
    have I₆ := I₅.upd amu (I₅.attr _ hro) e₆ ha₆
    have e₄₆ : Ext ([G'.ad, G'.nd] ++ [a]) h₄ h₆ := e₅.trans e₆
    have aG : a ∉ G'.all := I₄.all_new newa.1
    have new₀ : ∀ c, h₄.get? c = none → s.heap.get? c = none ∨ c ∈ own ++ G.all ++ S := fun c q => by
      by_cases r : c ∈ own ++ G.all ++ S
      · exact .inr r
      · cases q' : s.heap.get? c with
        | none => exact .inl rfl
        | some o => exact absurd (eE₄ _ _ r q') (by rw [q]; simp)
    have fresh : ∀ c, h₄.get? c = none → s.heap.get? c = none ∧ c ∉ dep' ∧ c ≠ L ∧ c ≠ d ∧ c ∉ S := fun c q => by
      have e₂₄ : Ext ([L] ++ S) h₂ h₄ := (e₃.mono fun a ha => List.mem_append_left _ ha).app e₄
      have cd : c ∉ dep' := fun r => by
        obtain ⟨o, ho⟩ := live₂ c r
        exact nomatch q.symm.trans (e₂₄ _ _ (fun z => (List.mem_append.mp z).elim (fun z => Ldep (List.mem_singleton.mp z ▸ r)) fun z => Sdep c z r) ho)
      have cS : c ∉ S := fun r => by
        obtain ⟨o, ho⟩ := hSl c r
        obtain ⟨_, e⟩ := eS₄' c r o ho
        exact nomatch q.symm.trans e
      refine ⟨?_, cd, (fun r => ?_), (fun r => ?_), cS⟩
      · rcases new₀ c q with r | r
        · exact r
        · exfalso
          rcases List.mem_append.mp r with r | r
          · rcases List.mem_append.mp r with r | r
            · exact cd (od _ (hoo c r))
            · exact I₄.all_new q (AD.sub c r)
          · exact cS r
      · obtain ⟨_, e⟩ := nsLive n₄
        subst r
        exact nomatch q.symm.trans e
      · obtain ⟨_, e⟩ := dictLive da₄
        subst r
        exact nomatch q.symm.trans e
    have fa := fresh a newa.1
    have fb := fresh b newb.1
    have LF : L ∉ [G'.ad, G'.nd] ++ [a] := fun q => (List.mem_append.mp q).elim (fun q => offL _ (adnd _ q) (.head _)) fun q => fa.2.2.1 (List.mem_singleton.mp q).symm
    have dF : d ∉ [G'.ad, G'.nd] ++ [a] := fun q => (List.mem_append.mp q).elim (fun q => (off _ (adnd _ q)).2.2.1 rfl) fun q => fa.2.2.2.1 (List.mem_singleton.mp q).symm
    have depF : ∀ b ∈ dep', b ∉ [G'.ad, G'.nd] ++ [a] := fun b hb q => (List.mem_append.mp q).elim (fun q => (off _ (adnd _ q)).1 hb) fun q => fa.2.1 (List.mem_singleton.mp q ▸ hb)
    have SF : ∀ b ∈ S, b ∉ [G'.ad, G'.nd] ++ [a] := fun b hb q => (List.mem_append.mp q).elim (fun q => (off _ (adnd _ q)).2.2.2 hb) fun q => fa.2.2.2.2 (List.mem_singleton.mp q ▸ hb)
    have eE₆ : Ext (own ++ G.all ++ S) s.heap h₆ := eE₄.app' e₄₆ fun c hc => by
      rcases List.mem_append.mp hc with hc | hc
      · rcases AD.gr c (adnd c hc) with q | q
        · exact .inl (List.mem_append_left _ (List.mem_append_right _ q))
        · exact .inr q
      · rw [List.mem_singleton.mp hc]; exact .inr fa.1
    refine ⟨rfl, h₆, g₂, _, rfl, ⟨G'.addN (k i) a b, m₄, ⟨I₆, ?_, ?_, ?_, ?_, ?_, ?_, ?_⟩, eE₆, eS₄'.trans (Slots.of e₄₆ SF), eg.trans eg₂, ?_, ?_, n₅.at' (fun o e => e₆ _ _ (fun q => fa.2.2.1 (List.mem_singleton.mp q).symm) e), by rw [← gg]; exact m41, m42, DictOf.ext da₄ e₄₆ dF, dd⟩, ?_⟩
    · intro r hr e he
      rw [addN_ids]
      rcases List.mem_append.mp hr with hr | hr
      · exact List.mem_append_left _ (AD.J r hr e he)
      · rw [List.mem_singleton.mp hr] at he; cases he
    · simp only [Gr.addN, List.length_append, List.length_singleton, AD.len]; omega
    · exact AD.hd
    · rw [addN_ids, AD.ids, List.range_succ, List.map_append, List.append_assoc]; rfl
    · intro c hc
      rcases addN_all hc with q | rfl | rfl
      · exact AD.gr c q
      · exact .inr fa.1
      · exact .inr fb.1
    · intro x y; rw [addN_has, AD.has]
    · intro c hc
      rcases List.mem_append.mp (AD.sub c hc) with q | q
      · exact List.mem_append_left _ (addN_muts.mpr (.inl q))
      · exact List.mem_append_right _ (addN_fixed.mpr (.inl q))
    · intro c hc
      rcases addN_all hc with q | rfl | rfl
      · exact off c q
      · exact fa.2
      · exact fb.2
    · intro c hc
      obtain ⟨o, ho⟩ := live₂ c hc
      exact ⟨o, e₄₆ _ _ (depF c hc) (e₄ _ _ (fun z => (List.mem_append.mp z).elim (fun z => Ldep (List.mem_singleton.mp z ▸ hc)) fun z => Sdep c z hc) (e₃ _ _ (fun q => Ldep (List.mem_singleton.mp q ▸ hc)) ho))⟩
    · refine (W "e" default).frame _ _ _ _ _ st₂ (fun c hc o e => e₄₆ _ _ (depF c hc) (e₄ _ _ (fun z => (List.mem_append.mp z).elim (fun z => Ldep (List.mem_singleton.mp z ▸ hc)) fun z => Sdep c z hc) (e₃ _ _ (fun q => Ldep (List.mem_singleton.mp q ▸ hc)) e))) fun _ _ _ e => e
  · rintro hp g tk₂ h₂ g₂ ⟨G', mm, AD, eE, eS, eg, off, live, nn, n1, n2, da, dd⟩ e₂ eg₂
    refine wpAny_execs_nil ?_
    refine h h₂ g₂ tk₂ G' (eE.app' e₂ fun b hb => (ho' b hb).imp (fun q => List.mem_append_left _ (List.mem_append_left _ q)) (dead m.keep)) (eS.trans (Slots.of e₂ fun b hb q => ?_)) (eg.trans eg₂) ⟨AD.I.to e₂ fun a ha q => (off a ha).1 (od a q), AD.J, AD.len, AD.hd, AD.ids, AD.gr, AD.has, AD.sub⟩
    exact (ho' b q).elim (fun q' => (hSd b hb).1 (hod b q')) fun q' => let ⟨o, e⟩ := hSl b hb; nomatch q'.symm.trans (m.keep _ _ e)
  · exact ⟨G, _, ⟨(I.k m).k e₁, J.keys, rfl, rfl, by simp, fun a ha => .inl ha, fun a b => .rfl, fun _ h => h⟩, (m.app e₁).up, Slots.of (m.app e₁) (fun _ _ h => nomatch h), (.mono (.refl _) fun _ h => nomatch h),
      fun a ha => ⟨fun q => (hd' a q).elim (fun q' => hoff a q' ha) fun q' => (I.k m).all_new q' ha, fun q => I.all_new hL (q ▸ ha), fun q => I.all_new hd.1 (q ▸ ha), fun q => (hSd a q).2.1 ha⟩,
      hl', hn.keeps e₁.keep, rfl, rfl, dictOf_empty (e₁.keep _ _ hx), fun q => (hd' d q).elim (fun q' => let ⟨_, e⟩ := hlive d q'; nomatch hd.1.symm.trans e) fun q' => nomatch q'.symm.trans hx⟩
end
end Mine
end A3
section C1
open PySem PySem.W PyProof.Rows PySem.Calls PySem.Spec
set_option maxRecDepth 100000
set_option maxHeartbeats 8000000
namespace Mine
section
variable {prog : Program} {w : World} {A : Around} {E : Value → Shared → Prop} {s : Shared} {env : Env}
theorem isDictOf_put {od : Obj} {kvs : List (Str × Value)} {name : Str} {v : Value} {tk : Tok} (I : od.IsDictOf (strKind prog w) kvs) (n : name ∉ kvs.map (·.1)) : (Obj.putName name (PyData.keyHash w.params name) (.str name tk) v od).IsDictOf (strKind prog w) (kvs ++ [(name, v)]) := by
  obtain ⟨es, ep, hx, hd, hk, hp, hn⟩ := I
  obtain ⟨oc, odi, oda, osl⟩ := od
  obtain ⟨h1, h2, h3⟩ := hx
  dsimp only at h1 h2 h3 hd
  subst h1 h2 h3 hd
  have miss : ∀ {l : List DictEntry} {kvs : List (Str × Value)}, Pairs (strKind prog w) l kvs → name ∉ kvs.map (·.1) → l.any (·.key.isStr name) = false := by
    intro l kvs h
    induction h with
    | nil => intro _; rfl
    | @cons e kv es kvs h1 _ _ ih =>
      intro n
      obtain ⟨t, ht⟩ := Value.isStrOf_shape h1
      rw [List.any_cons, ih (fun q => n (.tail _ q)), Bool.or_false, ht]
      show (kv.1 == name) = false
      exact beq_eq_false_iff_ne.mpr fun q => n (q ▸ .head _)
  have ms := miss hp n
  have hl : es = es.toList.toArray := by simp
  rw [hl, putName_eq, ms]
  have hput : PySem.putIn (fun e => e.key.isStr name) (fun e => { e with val := v }) ⟨PyData.keyHash w.params name, .str name tk, v⟩ es.toList = es.toList ++ [⟨PyData.keyHash w.params name, .str name tk, v⟩] := by
    unfold PySem.putIn
    have : es.toList.findIdx? (fun e => e.key.isStr name) = none := by
      rw [List.findIdx?_eq_none_iff]
      intro x hx
      exact Bool.eq_false_iff.mpr fun q => by
        have : es.toList.any (·.key.isStr name) = true := List.any_eq_true.mpr ⟨x, hx, q⟩
        rw [ms] at this; cases this
    rw [this]
  rw [hput]
  refine ⟨_, _, ⟨rfl, rfl, rfl⟩, rfl, ?_, ?_, ?_⟩
  · intro e he
    have he' : e ∈ es.toList ++ [⟨PyData.keyHash w.params name, .str name tk, v⟩] := by simpa using he
    rcases List.mem_append.mp he' with q | q
    · exact hk e (by simpa using q)
    · rw [List.mem_singleton.mp q]
      exact ⟨name, show (PySem.strKind prog w).is name (Value.str name tk) = true from beq_self_eq_true name, rfl⟩
  · have app : ∀ {l : List DictEntry} {kvs : List (Str × Value)}, Pairs (strKind prog w) l kvs → Pairs (strKind prog w) (l ++ [⟨PyData.keyHash w.params name, .str name tk, v⟩]) (kvs ++ [(name, v)]) := by
      intro l kvs h
      induction h with
      | nil => exact .cons (show (PySem.strKind prog w).is name (Value.str name tk) = true from beq_self_eq_true name) rfl .nil
      | cons h1 h2 _ ih => exact .cons h1 h2 ih
    simpa using app hp
  · rw [List.map_append, List.nodup_append]
    exact ⟨hn, by simp, fun a ha b hb q => n (by simp at hb; rw [← hb, ← q]; exact ha)⟩
theorem valueAt_none' {kvs : List (Str × Value)} {k : Str} (n : k ∉ kvs.map (·.1)) : valueAt kvs k = none := by
  unfold valueAt
  have : kvs.find? (fun kv => decide (kv.1 = k)) = none := List.find?_eq_none.mpr fun x hx q => n (List.mem_map.mpr ⟨x, hx, of_decide_eq_true q⟩)
  rw [this]; rfl
theorem set_own {C x dx : Nat} {kvs : List (Str × Value)} {name : Str} {v : Value} {Q : Unit → Shared → Prop} (Z : Gl w s.heap) (hx : s.heap.get? x = some (instObj C dx)) (hd : s.heap.DictOf (strKind prog w) dx kvs) (n : name ∉ kvs.map (·.1)) (hz : kvs.length ≤ 900)
    (hs : findIn (KH w) (.ref C) "__setattr__" = some (some (.builtin "object.__setattr__"))) (hp : plainOver (KH w) C = true) (ht : takerIn (KH w) C name = some none) (hh : (clsIn (KH w) C).any (·.hasDict) = true)
    (h : ∀ h' tk, Heap.SameBut dx s.heap h' → h'.DictOf (strKind prog w) dx (kvs ++ [(name, v)]) → Q () { s with heap := h', toks := tk }) : wpAny (model prog w) A (setAttr (.ref x) name v) Q E s := by
  obtain ⟨od, D, I₀⟩ := Heap.dictOf_iff.mp hd
  have J : InstAt s.heap x (instObj C dx) C (some od) := ⟨hx, rfl, rfl, D⟩
  refine set_plain Z.X J hs ?_
  refine osa_open (s := { s with toks := s.toks + 1 }) Z.X J hp ht fun b => ?_
  obtain ⟨cd, hc, hd'⟩ := any_some hh
  have nl : lookIn name od = some none := by rw [lookIn_of I₀, valueAt_none' n]
  obtain ⟨es, ep, hex, hdat, hkeys, hpairs, hnod⟩ := id I₀
  refine wpAny_bind (wpAny_pure (wpAny_bind (wpAny_bind (wpAny_loadPart (o := instObj C dx) hx (wpAny_bind (Looks.here (s := { s with toks := s.toks + 1 }) (looks_clsIn Z.X hc) ?_))))))
  rw [hd']
  refine wpAny_pure (a := some dx) (wpAny_bind (wpAny_pure (wpAny_bind ?_)))
  unfold nsSet
  refine wpAny_bind (wpAny_bind (wpAny_askSetting (wpAny_pure (wpAny_bind (wpAny_mkText (wpAny_bind (wpAny_loadPart (o := od) D ?_)))))))
  rw [hdat]
  dsimp only
  have c : (!es.any (·.key.isStr name) && es.any (·.refKey)) = false := by
    have r : es.any (·.refKey) = false := by
      rw [← Array.any_toList]
      have key : ∀ {l : List DictEntry} {kvs : List (Str × Value)}, Pairs (PySem.strKind prog w) l kvs → l.any (·.refKey) = false := by
        intro l kvs h
        induction h with
        | nil => rfl
        | cons h1 _ _ ih =>
          obtain ⟨t, ht⟩ := Value.isStrOf_shape h1
          rw [List.any_cons, ih, Bool.or_false]
          simp [DictEntry.refKey, ht]
      exact key hpairs
    rw [r, Bool.and_false]
  rw [aRefKeyMayBeTheName_at, c]
  refine wpAny_updatePart (o := od) D ?_
  have I' := isDictOf_put (v := v) (tk := s.toks + 1) I₀ n
  obtain ⟨es', ep', hex', hdat', hk', hp', hn'⟩ := id I'
  have hfr : (Obj.putName name (PyData.keyHash w.params name) (.str name (s.toks + 1)) v od).isFreed = false := by
    generalize Obj.putName name (PyData.keyHash w.params name) (.str name (s.toks + 1)) v od = o at hdat'
    obtain ⟨_, _, _, _⟩ := o
    cases hdat'
    rfl
  have D' := Heap.get?_update_self (Obj.putName name (PyData.keyHash w.params name) (.str name (s.toks + 1)) v) D hfr
  have hsz : es'.size = kvs.length + 1 := by
    have len : ∀ {l : List DictEntry} {kvs : List (Str × Value)}, Pairs (PySem.strKind prog w) l kvs → l.length = kvs.length := by
      intro l kvs h
      induction h with
      | nil => rfl
      | cons _ _ _ ih => simp [ih]
    have := len hp'
    simpa using this
  refine wpAny_bind (wpAny_lookBehind D' (by rw [hdat']; exact pastItsLine_dict (by rw [hsz, sizeLine_eq]; omega)) ?_)
  exact wpAny_pure (h _ _ (Heap.SameBut.update ..) ⟨_, es', ep', D', hex', hdat', hk', hp', hn'⟩)
end
end Mine
end C1
section C2
open PySem PySem.W PyProof.Rows PySem.Calls PySem.Spec
set_option maxRecDepth 100000
set_option maxHeartbeats 8000000
namespace Mine
structure IB (prog : Program) (w : World) (h : Heap) (C x dx : Nat) (kvs : List (Str × Value)) : Prop where
  inst : h.get? x = some (instObj C dx)
  dict : h.DictOf (strKind prog w) dx kvs
section
variable {prog : Program} {w : World} {A : Around} {E : Value → Shared → Prop} {s : Shared} {env : Env} {C x dx : Nat} {kvs : List (Str × Value)}
theorem IB.ext {h h' : Heap} {F : List Nat} (I : IB prog w h C x dx kvs) (e : Ext F h h') (n1 : x ∉ F) (n2 : dx ∉ F) : IB prog w h' C x dx kvs := ⟨e _ _ n1 I.inst, DictOf.ext I.dict e n2⟩
theorem IB.k {h h' : Heap} (I : IB prog w h C x dx kvs) (e : Ext [] h h') : IB prog w h' C x dx kvs := I.ext e (fun h => nomatch h) fun h => nomatch h
theorem IB.instAt {h : Heap} (I : IB prog w h C x dx kvs) : ∃ od, InstAt h x (instObj C dx) C (some od) ∧ ∀ name, lookIn name od = some (valueAt kvs name) := by
  obtain ⟨od, ho, hd⟩ := Heap.dictOf_iff.mp I.dict
  exact ⟨od, ⟨I.inst, rfl, rfl, ho⟩, lookIn_of hd⟩
theorem ib_meth {name : Str} {Q : Value × List Value → Shared → Prop} {pl : Sem Bool} {f : Addr} (Z : Gl w s.heap) (I : IB prog w s.heap C x dx kvs) (h1 : findIn (KH w) (.ref C) "__getattribute__" = some (some (.builtin "object.__getattribute__"))) (h2 : findIn (KH w) (.ref C) "__getattr__" = some none)
    (hf : findIn (KH w) (.ref C) name = some (some (.ref f))) (ht : typeIn (KH w) (.ref f) = some (.type "function")) (hv : valueAt kvs name = none) (h : Q (.ref f, [.ref x]) s) : wpAny (model prog w) A (getMethod (.ref x) name pl) Q E s := by
  obtain ⟨od, J, hl⟩ := I.instAt
  exact method_fn Z.X J h1 h2 hf ht (by show (lookIn name od).map (·.isSome) = _; rw [hl, hv]; rfl) h
theorem ib_get {name : Str} {v : Value} {Q : Value → Shared → Prop} {ex : Bool} (Z : Gl w s.heap) (I : IB prog w s.heap C x dx kvs) (h1 : findIn (KH w) (.ref C) "__getattribute__" = some (some (.builtin "object.__getattribute__"))) (hp : preFind (KH w) C name = true)
    (hv : valueAt kvs name = some v) (hh : handedIn v = true) (h : ∀ tk, Q v { s with toks := tk }) : wpAny (model prog w) A (getAttr (.ref x) name ex) Q E s := by
  obtain ⟨od, J, hl⟩ := I.instAt
  exact get_value Z.X J h1 (findObj_val hp (by rw [hl, hv])) hh (h _)
theorem dpop_none {d : Nat} {k : Str} {t : Tok} {dflt : Value} {Q : Value → Shared → Prop} (lo : (d == sysModules) = false) (hd : s.heap.DictOf (strKind prog w) d []) (h : ∀ tk, Q dflt { s with toks := tk }) :
    wpAny (model prog w) A (call (.builtin "dict.pop") [.ref d, .str k t, dflt]) Q E s :=
  call_meetsIn PySem.F.slot_dict_pop hd.typeIs PySem.F.entry_dict_pop (PySem.F.args_dict_pop_3 _ _ _) (meets_dict_pop_default (PySem.strKind prog w) d (show (PySem.strKind prog w).is k (Value.str k t) = true from beq_self_eq_true k) lo rfl dflt) ⟨[], hd, rfl, h _⟩
theorem enterAC {R : Result → Shared → Prop} {f : Addr} {args : List Value} {kw : List (Str × Value)} {name qual : Str} {params : Arguments} {body : List Stmt} {scope : Scope} {dV kV doc pm cdv ct oc : Value} {an od : Option Addr} {osl : Array (Option Value)} {binds : Addr → List (Str × Value)} {o : Obj}
    (G : Gl w s.heap) (hroom : A.depth < recursionLimit) (ho : (KH w).lookup f = some ⟨oc, od, .func (fnOf name qual params body scope dV kV doc pm an cdv ct), osl⟩) (hcd : codeIn (KH w) cdv qual = true)
    (hb : ∀ d, peekB (KH w) ⟨prog, w.params⟩ (bindArgs (fnOf name qual params body scope dV kV doc pm an cdv ct) ⟨args, kw⟩) d = some (o, binds d)) (hf : o.isFreed = false)
    (hcell : (scope.names.all fun y => match y.2 with | .cell => false | _ => true) = true) (hloc : ∀ d, ((binds d).all fun y => match scope.names.lookup y.1 with | some .local => true | _ => false) = true)
    (hfl : (scope.isCoroutine, scope.isGenerator) = (false, false)) (hk : scope.kind = .function)
    (h : ∀ d L h₁ tk, Ext [] s.heap h₁ → s.heap.get? L = none → New s.heap d → d ≠ L → h₁.get? d = some o → h₁.Ns L (fun y => (binds d).reverse.lookup y) →
      wpAny (model prog w) (A.deeper (envX qual scope L f cdv [])) (execs body (envX qual scope L f cdv [])) (fun fl s' => R (.ok (.ret (match fl with | .ret v => v | _ => .none))) s') (fun _ _ => False) { s with heap := h₁, toks := tk }) :
    codeAny (model prog w) A (.call (.ref f) ⟨args, kw⟩) R s := by
  injection hfl with hco hgen
  have hcell' : ∀ y ∈ scope.names, y.2 ≠ .cell := fun y hy e => by
    have := List.all_eq_true.mp hcell y hy
    rw [e] at this; cases this
  have hloc' : ∀ d, ∀ y ∈ binds d, scope.names.lookup y.1 = some .local := fun d y hy => by
    have := List.all_eq_true.mp (hloc d) y hy
    split at this
    · assumption
    · cases this
  refine (codeAny_call_function (fd := fnOf name qual params body scope dV kV doc pm an cdv ct) hroom (G.X _ _ ho) rfl hco hgen rfl (codeRec_of G.X hcd) ?_)
  refine wp_of_peekB (M := model prog w) G.X ?_ _ (hb _)
  have G' : Gl w (s.heap.push o) := G.keep fun _ _ e => Heap.get?_push_of_some _ e
  refine wpAny_newFunctionEnv (s := { s with heap := s.heap.push o }) hcell' (hloc' _) (fun h₀ hns₀ hsb₀ => ⟨G'.lim.fresh _ hsb₀, codeAny_func (wpAny_mono (h s.heap.objs.size _ h₀ _ (Ext.of_keep (fun b o' e => ?_) []) ?_ ⟨get?_size _, G.big⟩ ?_ ?_ hns₀) (fun _ _ x => x) fun _ _ x => x.elim)⟩) hk
  · have e' := Heap.get?_push_of_some (h := s.heap) o e
    exact hsb₀.extBut _ _ (Nat.ne_of_lt (Heap.lt_size e')) (Heap.get?_push_of_some _ e')
  · exact dead (fun _ _ e => Heap.get?_push_of_some o e) (get?_size (s.heap.push o))
  · exact Nat.ne_of_lt (Heap.lt_size (Heap.get?_push_size s.heap hf))
  · exact hsb₀.extBut _ _ (Nat.ne_of_lt (Heap.lt_size (Heap.get?_push_size s.heap hf))) (Heap.get?_push_of_some _ (Heap.get?_push_size s.heap hf))
theorem sp_init {x dx : Nat} {R : Result → Shared → Prop} (Z : Gl w s.heap) (I : IB prog w s.heap 617 x dx []) (hroom : A.depth + 1 < recursionLimit) (hxd : x ≠ dx) (xlo : 709 ≤ x) (dlo : 709 ≤ dx)
    (h : ∀ h' tk gr nd ad, Ext [dx] s.heap h' → New s.heap gr → New s.heap nd → New s.heap ad → GraphAt prog w h' ⟨x, dx, nd, ad, gr, [], [], []⟩ → R (.ok (.ret .none)) { s with heap := h', toks := tk }) :
    codeAny (model prog w) A (.call (.ref 381) ⟨[.ref x], []⟩) R s := by
  refine enterAC Z (Nat.lt_of_succ_lt hroom) (by rfl) (by kernel_rfl) (o := { cls := .type "dict", data := .dict #[] }) (binds := fun d => [("self", .ref x), ("incoming_graph_data", .none), ("attr", .ref d)]) (by intro d; kernel_rfl) (by rfl) (by kernel_rfl) (by intro d; kernel_rfl) (by rfl) (by rfl) ?_
  intro d L h₁ tk m hL hd hdL hx hn
  have I₁ := I.k m
  have Z₁ := Z.k m
  have xL : x ≠ L := fun q => by rw [← q, I.inst] at hL; cases hL
  have dxL : dx ≠ L := fun q => by obtain ⟨_, e⟩ := dictLive I.dict; rw [← q, e] at hL; cases hL
  have dxd : dx ≠ d := fun q => by obtain ⟨_, e⟩ := dictLive I.dict; rw [← q] at hd; exact nomatch hd.1.symm.trans e
  refine wpAny_execs_cons <| plainObj_wpAny_Assign_Attribute <| MethodCall_ <| nmL hn rfl rfl <| ib_meth Z₁ I₁ (f := 373) (by kernel_rfl) (by kernel_rfl) (by kernel_rfl) (by kernel_rfl) rfl <| cwF0 Z₁ (by kernel_rfl) <| sp_graph_attr Z₁ hroom fun gr h₂ t₂ e₂ newg hg₂ => ?_
  refine at_ h₂ s.gens s.drawn s.os fun t₂ => ?_
  replace e₂ : Ext [] h₁ h₂ := e₂
  replace newg : New h₁ gr := newg
  have n₂ := hn.keeps e₂.keep
  have Z₂ := Z₁.k e₂
  have I₂ := I₁.k e₂
  refine nmL n₂ rfl rfl <| set_own Z₂ I₂.inst I₂.dict (by simp) (by decide) (by kernel_rfl) (by kernel_rfl) (by kernel_rfl) (by kernel_rfl) fun h₃ t₃ s₃ hd₃ => ?_
  refine at_ h₃ s.gens s.drawn s.os fun t₃ => ?_
  replace s₃ : Heap.SameBut dx h₂ h₃ := s₃
  have e₃ : Ext [dx] h₂ h₃ := Ext.of_same s₃
  have I₃ : IB prog w h₃ 617 x dx _ := ⟨s₃.extBut _ _ hxd (I₂.inst), hd₃⟩
  have Z₃ : Gl w h₃ := Z₂.ext e₃ (by intro c hc; rw [List.mem_singleton.mp hc]; exact dlo)
  have n₃ : h₃.Ns L _ := n₂.at' fun o e => s₃.extBut _ _ (Ne.symm dxL) e
  have gdx : gr ≠ dx := fun q => by obtain ⟨_, e⟩ := dictLive I₁.dict; exact newg.ne e q
  have hg₃ : h₃.DictOf (strKind prog w) gr [] := DictOf.ext (dictOf_empty hg₂) e₃ fun q => gdx (List.mem_singleton.mp q)
  refine wpAny_execs_cons <| plainObj_wpAny_Assign_Attribute <| MethodCall_ <| nmL n₃ rfl rfl <| ib_meth Z₃ I₃ (f := 338) (by kernel_rfl) (by kernel_rfl) (by kernel_rfl) (by kernel_rfl) rfl <| cwF0 Z₃ (by kernel_rfl) <| sp_node_dict Z₃ hroom fun nd h₄ t₄ e₄ newn hn₄ => ?_
  refine at_ h₄ s.gens s.drawn s.os fun t₄ => ?_
  replace e₄ : Ext [] h₃ h₄ := e₄
  replace newn : New h₃ nd := newn
  have n₄ := n₃.keeps e₄.keep
  have Z₄ := Z₃.k e₄
  have I₄ := I₃.k e₄
  refine nmL n₄ rfl rfl <| set_own Z₄ I₄.inst I₄.dict (by show ¬ ("_node" : Str) ∈ (["graph"] : List Str); decide) (by show 1 ≤ 900; decide) (by kernel_rfl) (by kernel_rfl) (by kernel_rfl) (by kernel_rfl) fun h₅ t₅ s₅ hd₅ => ?_
  refine at_ h₅ s.gens s.drawn s.os fun t₅ => ?_
  replace s₅ : Heap.SameBut dx h₄ h₅ := s₅
  have e₅ : Ext [dx] h₄ h₅ := Ext.of_same s₅
  have I₅ : IB prog w h₅ 617 x dx _ := ⟨s₅.extBut _ _ hxd (I₄.inst), hd₅⟩
  have Z₅ : Gl w h₅ := Z₄.ext e₅ (by intro c hc; rw [List.mem_singleton.mp hc]; exact dlo)
  have n₅ : h₅.Ns L _ := n₄.at' fun o e => s₅.extBut _ _ (Ne.symm dxL) e
  have ndx : nd ≠ dx := fun q => by obtain ⟨_, e⟩ := dictLive I₃.dict; exact newn.ne e q
  have hnd₅ : h₅.DictOf (intKind prog w) nd [] := DictOf.ext (dictOf_empty hn₄) e₅ fun q => ndx (List.mem_singleton.mp q)
  refine wpAny_execs_cons <| plainObj_wpAny_Assign_Attribute <| MethodCall_ <| nmL n₅ rfl rfl <| ib_meth Z₅ I₅ (f := 352) (by kernel_rfl) (by kernel_rfl) (by kernel_rfl) (by kernel_rfl) rfl <| cwF0 Z₅ (by kernel_rfl) <| sp_outer Z₅ hroom fun ad h₆ t₆ e₆ newa ha₆ => ?_
  refine at_ h₆ s.gens s.drawn s.os fun t₆ => ?_
  replace e₆ : Ext [] h₅ h₆ := e₆
  replace newa : New h₅ ad := newa
  have n₆ := n₅.keeps e₆.keep
  have Z₆ := Z₅.k e₆
  have I₆ := I₅.k e₆
  refine nmL n₆ rfl rfl <| set_own Z₆ I₆.inst I₆.dict (by show ¬ ("_adj" : Str) ∈ (["graph", "_node"] : List Str); decide) (by show 2 ≤ 900; decide) (by kernel_rfl) (by kernel_rfl) (by kernel_rfl) (by kernel_rfl) fun h₇ t₇ s₇ hd₇ => ?_
  refine at_ h₇ s.gens s.drawn s.os fun t₇ => ?_
  replace s₇ : Heap.SameBut dx h₆ h₇ := s₇
  have e₇ : Ext [dx] h₆ h₇ := Ext.of_same s₇
  have I₇ : IB prog w h₇ 617 x dx _ := ⟨s₇.extBut _ _ hxd (I₆.inst), hd₇⟩
  have Z₇ : Gl w h₇ := Z₆.ext e₇ (by intro c hc; rw [List.mem_singleton.mp hc]; exact dlo)
  have n₇ : h₇.Ns L _ := n₆.at' fun o e => s₇.extBut _ _ (Ne.symm dxL) e
  have adx : ad ≠ dx := fun q => by obtain ⟨_, e⟩ := dictLive I₅.dict; exact newa.ne e q
  have had₇ : h₇.DictOf (intKind prog w) ad [] := DictOf.ext (dictOf_empty ha₆) e₇ fun q => adx (List.mem_singleton.mp q)
  have e₁₇ : Ext [dx] h₁ h₇ := ((((e₂.up.app e₃).app e₄.up).app e₅).app e₆.up).app e₇
  have dF : d ∉ ([dx] : List Nat) := fun q => dxd (List.mem_singleton.mp q).symm
  have hat₇ : h₇.DictOf (strKind prog w) d [] := DictOf.ext (dictOf_empty hx) e₁₇ dF
  have e₃₇ : Ext [dx] h₃ h₇ := ((e₄.up.app e₅).app e₆.up).app e₇
  have hg₇ : h₇.DictOf (strKind prog w) gr [] := DictOf.ext hg₃ e₃₇ fun q => gdx (List.mem_singleton.mp q)
  have hnd₇ : h₇.DictOf (intKind prog w) nd [] := DictOf.ext hnd₅ (e₆.up.app e₇) fun q => ndx (List.mem_singleton.mp q)
  refine wpAny_execs_cons <| wpAny_Expr_any <| MethodCall_ <| nmL n₇ rfl rfl <| gmD hat₇ PySem.F.slot_dict_pop PySem.F.type_dict_pop <| cwB <| wpAny_items_cons <| wpAny_Constant_str <| wpAny_items_cons <| wpAny_Constant_none <| wpAny_items_nil <| dpop_none (notMods hd.2) hat₇ fun t₈ => ?_
  refine at_ h₇ s.gens s.drawn s.os fun t₈ => ?_
  have gd : gr ≠ d := newg.ne hx
  refine wpAny_execs_cons <| wpAny_Expr_any <| MethodCall_ <| Attribute_Name_ <| nmL n₇ rfl rfl <| ib_get Z₇ I₇ (by kernel_rfl) (by kernel_rfl) (v := .ref gr) rfl rfl fun t₉ => gmD hg₇ PySem.F.slot_dict_update PySem.F.type_dict_update <| cwB <| wpAny_items_cons <| nmL n₇ rfl rfl <| wpAny_items_nil <| dupd (by exact gd) (notMods hd.2) hg₇ (Nat.zero_le _) hat₇ fun h₈ hg₈ s₈ => wpAny_execs_nil ?_
  replace s₈ : Heap.SameBut gr h₇ h₈ := s₈
  have e₈ : Ext [gr] h₇ h₈ := Ext.of_same s₈
  have ndgr : nd ≠ gr := let ⟨_, e⟩ := dictLive hg₃; newn.ne e
  have hg₅ : h₅.DictOf (strKind prog w) gr [] := DictOf.ext hg₃ (e₄.up.app e₅) fun q => gdx (List.mem_singleton.mp q)
  have adgr : ad ≠ gr := let ⟨_, e⟩ := dictLive hg₅; newa.ne e
  have adnd : ad ≠ nd := let ⟨_, e⟩ := dictLive hnd₅; newa.ne e
  have xgr : x ≠ gr := fun q => newg.ne I₁.inst q.symm
  have xnd : x ≠ nd := fun q => newn.ne I₃.inst q.symm
  have xad : x ≠ ad := fun q => newa.ne I₅.inst q.symm
  have back : ∀ {h' : Heap} {c : Nat}, Ext [dx] h₁ h' → c ≠ dx → New h' c → New s.heap c := fun {h' c} e n q => by
    refine New.back ⟨?_, q.2⟩ m.keep
    cases z : h₁.get? c with
    | none => rfl
    | some o => exact nomatch q.1.symm.trans (e _ _ (fun y => n (List.mem_singleton.mp y)) z)
  have newg' := newg.back m.keep
  have I₈ : IB prog w h₈ 617 x dx _ := I₇.ext e₈ (fun q => xgr (List.mem_singleton.mp q)) (fun q => gdx (List.mem_singleton.mp q).symm)
  refine h _ _ gr nd ad ?_ newg' (back (e₂.up.app e₃) ndx newn) (back (((e₂.up.app e₃).app e₄.up).app e₅) adx newa) ⟨I₈.inst, .of I₈.dict, hg₈, DictOf.ext hnd₇ e₈ fun q => ndgr (List.mem_singleton.mp q), DictOf.ext had₇ e₈ fun q => adgr (List.mem_singleton.mp q), (fun _ h => nomatch h), (fun _ h => nomatch h), (fun _ h => nomatch h), (fun _ h => nomatch h), (fun _ h => nomatch h), ?_, ?_, ?_⟩
  · exact (m.up.app e₁₇).app' e₈ fun b hb => .inr (List.mem_singleton.mp hb ▸ newg'.1)
  · simp only [Gr.muts, List.map_nil, List.nodup_cons, List.mem_cons, List.not_mem_nil, or_false, not_or, not_false_eq_true, List.nodup_nil, and_true]
    exact ⟨⟨ndx.symm, adx.symm⟩, adnd.symm⟩
  · intro a ha q
    rcases Gr.fixed_iff.mp ha with rfl | rfl | q' | ⟨_, q', _⟩
    · rcases Gr.muts_iff.mp q with r | r | r | ⟨_, r, _⟩
      · exact hxd r
      · exact xnd r
      · exact xad r
      · cases r
    · rcases Gr.muts_iff.mp q with r | r | r | ⟨_, r, _⟩
      · exact gdx r
      · exact ndgr r.symm
      · exact adgr r.symm
      · cases r
    · cases q'
    · cases q'
  · intro a ha
    rcases List.mem_append.mp ha with q | q
    · rcases Gr.muts_iff.mp q with rfl | rfl | rfl | ⟨_, r, _⟩
      · exact dlo
      · exact newn.2
      · exact newa.2
      · cases r
    · rcases Gr.fixed_iff.mp q with rfl | rfl | r | ⟨_, r, _⟩
      · exact xlo
      · exact newg.2
      · cases r
      · cases r
theorem sp_Graph {Q : Value → Shared → Prop} (Z : Gl w s.heap) (hroom : A.depth + 3 < recursionLimit)
    (h : ∀ h' tk G, Ext [] s.heap h' → GraphAt prog w h' G → G.rows = [] → G.more = [] → G.vs = [] → (∀ a ∈ G.all, s.heap.get? a = none) → Q (.ref G.g) { s with heap := h', toks := tk }) : wpAny (model prog w) A (call (.ref 617) []) Q E s := by
  obtain ⟨hp, g, dr, t, os⟩ := s
  refine wpAny_call (make_core (init := .ref 381) (makes_of Z.X (by kernel_rfl)) (looks_findIn Z.X (by kernel_rfl)) (fun self => bind_fn Z.X self (by kernel_rfl)) (.inl rfl) ?_)
  have k₁ : ∀ b o, hp.get? b = some o → ((hp.push emptyDict).push (instObj 617 hp.objs.size)).get? b = some o := fun b o e => Heap.get?_push_of_some _ (Heap.get?_push_of_some _ e)
  have dead₂ : ∀ {c}, hp.objs.size ≤ c → hp.get? c = none := fun {c} q => by
    cases z : hp.get? c with
    | none => rfl
    | some o => exact absurd (Heap.lt_size z) (Nat.not_lt.mpr q)
  have hxa : ((hp.push emptyDict).push (instObj 617 hp.objs.size)).get? (hp.objs.size + 1) = some (instObj 617 hp.objs.size) := by
    have := Heap.get?_push_size (hp.push emptyDict) (o := instObj 617 hp.objs.size) rfl
    rw [Heap.size_push] at this
    exact this
  have hda : ((hp.push emptyDict).push (instObj 617 hp.objs.size)).get? hp.objs.size = some emptyDict := Heap.get?_push_of_some _ (Heap.get?_push_size hp rfl)
  have Zb : 709 ≤ hp.objs.size := Z.big
  refine sp_init (s := ⟨(hp.push emptyDict).push (instObj 617 hp.objs.size), g, dr, t, os⟩) (Z.keep k₁) ⟨hxa, dictOf_empty hda⟩ (by show A.depth + 1 + 1 < recursionLimit; omega) (Nat.succ_ne_self _) (Nat.le_succ_of_le Zb) Zb fun h' tk gr nd ad e ng nn na I => ?_
  refine ⟨rfl, ?_⟩
  refine h h' tk ⟨hp.objs.size + 1, hp.objs.size, nd, ad, gr, [], [], []⟩ ?_ I rfl rfl rfl ?_
  · exact (Ext.of_keep k₁ []).app' e fun b hb => .inr (by rw [List.mem_singleton.mp hb]; exact get?_size _)
  · intro a ha
    rcases List.mem_append.mp ha with q | q
    · rcases Gr.muts_iff.mp q with rfl | rfl | rfl | ⟨_, r, _⟩
      · exact get?_size _
      · exact dead k₁ nn.1
      · exact dead k₁ na.1
      · cases r
    · rcases Gr.fixed_iff.mp q with rfl | rfl | r | ⟨_, r, _⟩
      · exact dead₂ (Nat.le_succ _)
      · exact dead k₁ ng.1
      · cases r
      · cases r
end
end Mine
end C2
section C3
open PySem PySem.W PyProof.Rows PySem.Calls PySem.Spec
set_option maxRecDepth 100000
set_option maxHeartbeats 8000000
namespace Mine
section
variable {prog : Program} {w : World} {A : Around} {E : Value → Shared → Prop} {s : Shared} {env : Env} {G : Gr} {Q : Value → Shared → Prop}
theorem sp_made_empty (Z : Gl w s.heap) (hroom : A.depth + 4 < recursionLimit) {x : Value}
    (h : ∀ h' tk G, Ext [] s.heap h' → GraphAt prog w h' G → G.rows = [] → G.more = [] → G.vs = [] → (∀ a ∈ G.all, s.heap.get? a = none) → Q (.ref G.g) { s with heap := h', toks := tk }) : wpAny (model prog w) A (call (.ref 576) [x]) Q E s := by
  refine enter' Z (by omega) (by rfl) (by kernel_rfl) (binds := [("self", x)]) (by kernel_rfl) (by kernel_rfl) (by kernel_rfl) (by rfl) (by rfl) ?_
  intro L h₁ tk m hL n
  refine wpAny_execs_cons <| wpAny_Return_some <| Call_ <| nmG (Z.k m) (v := .ref 617) (by kernel_rfl) (by rfl) <| cwF0 (Z.k m) (by kernel_rfl) <| sp_Graph (Z.k m) (by show A.depth + 1 + 3 < recursionLimit; omega) fun h' tk' G e I r1 r2 r3 dd => h h' tk' G (m.app e) I r1 r2 r3 fun a ha => dead m.keep (dd a ha)
theorem sp_is_directed (Z : Gl w s.heap) (hroom : A.depth < recursionLimit) {x : Value} (h : ∀ h' tk, Ext [] s.heap h' → Q (.bool false) { s with heap := h', toks := tk }) : wpAny (model prog w) A (call (.ref 590) [x]) Q E s := by
  refine enter' Z hroom (by rfl) (by kernel_rfl) (binds := [("self", x)]) (by kernel_rfl) (by kernel_rfl) (by kernel_rfl) (by rfl) (by rfl) ?_
  intro L h₁ tk m hL n
  exact wpAny_execs_cons <| wpAny_Return_some <| wpAny_Constant_bool <| h _ _ m
theorem len_nd (I : GraphAt prog w s.heap G) (hsz : G.rows.length ≤ 1000) (h : ∀ t tk, Q (.int G.rows.length t) { s with toks := tk }) : wpAny (model prog w) A (call (.builtin "len") [.ref G.nd]) Q E s :=
  call_len_dict (I.lo mem_nd) I.node (by simp [Gr.nodes]; omega) (by simpa [Gr.nodes] using h _ _)
theorem sp_number_of_nodes (Z : Gl w s.heap) (I : GraphAt prog w s.heap G) (hroom : A.depth < recursionLimit) (hsz : G.rows.length ≤ 1000) (h : ∀ h' tk t, Ext [] s.heap h' → Q (.int G.rows.length t) { s with heap := h', toks := tk }) :
    wpAny (model prog w) A (call (.ref 464) [.ref G.g]) Q E s := by
  refine enter' Z hroom (by rfl) (by kernel_rfl) (binds := [("self", .ref G.g)]) (by kernel_rfl) (by kernel_rfl) (by kernel_rfl) (by rfl) (by rfl) ?_
  intro L h₁ tk m hL n
  exact wpAny_execs_cons <| wpAny_Return_some <| Call_ <| nmB (Z.k m) (by kernel_rfl) (by rfl) boot_len (by decide) <| cwB <| wpAny_items_cons <| gA n (Z.k m) (I.k m) (.ref G.nd) fun t => wpAny_items_nil <| len_nd (s := { s with heap := h₁, toks := t }) (I.k m) hsz fun t tk => h _ _ _ m
theorem sp_len (Z : Gl w s.heap) (I : GraphAt prog w s.heap G) (hroom : A.depth < recursionLimit) (hsz : G.rows.length ≤ 1000) (h : ∀ h' tk t, Ext [] s.heap h' → Q (.int G.rows.length t) { s with heap := h', toks := tk }) :
    wpAny (model prog w) A (call (.ref 412) [.ref G.g]) Q E s := by
  refine enter' Z hroom (by rfl) (by kernel_rfl) (binds := [("self", .ref G.g)]) (by kernel_rfl) (by kernel_rfl) (by kernel_rfl) (by rfl) (by rfl) ?_
  intro L h₁ tk m hL n
  exact wpAny_execs_cons <| wpAny_Return_some <| Call_ <| nmB (Z.k m) (by kernel_rfl) (by rfl) boot_len (by decide) <| cwB <| wpAny_items_cons <| gA n (Z.k m) (I.k m) (.ref G.nd) fun t => wpAny_items_nil <| len_nd (s := { s with heap := h₁, toks := t }) (I.k m) hsz fun t tk => h _ _ _ m
end
end Mine
end C3
section L1
open PySem PySem.W PyProof.Rows PySem.Calls PySem.Spec
set_option maxRecDepth 100000
set_option maxHeartbeats 8000000
namespace Mine
section
variable {prog : Program} {w : World} {A : Around} {E : Value → Shared → Prop} {s : Shared} {env : Env} {G : Gr} {Q : Value → Shared → Prop} {C x : Nat} {ox : Obj} {od : Option Obj}
theorem instKeep {h h' : Heap} (I : InstAt h x ox C od) (e : ∀ b o, h.get? b = some o → h'.get? b = some o) : InstAt h' x ox C od :=
  ⟨e _ _ I.at_, I.cls, I.no, by have := I.dict; revert this; cases ox.dict <;> cases od <;> intro q <;> first | exact e _ _ q | exact q⟩
theorem len_inst {f : Nat} (Z : Gl w s.heap) (I : InstAt s.heap x ox C od) (hs : findIn (KH w) (.ref C) "__len__" = some (some (.ref f))) (hf : isFn (KH w) (.ref f) = true)
    (h : wpAny (model prog w) A.in1 (call (.ref f) [.ref x]) (fun v s' => ∃ n t, v = .int n t ∧ 0 ≤ n ∧ n < 2 ^ 63 ∧ ∀ t tk, Q (.int n t) { s' with toks := tk }) E s) : wpAny (model prog w) A (call (.builtin "len") [.ref x]) Q E s := by
  refine Calls.call_function_entry kind_len plain_len entry_len (args_len1 _) ?_
  unfold Builtin.«len»
  refine wpAny_bind (m := oneArg "len" _) (wpAny_pure ?_)
  refine wpAny_bind (m := callSpecial? (.ref x) (Str.ofString "__len__")) (special_fn Z.X I hs (beq_iff_eq.mp hf) (wpAny_mono h (fun r s' hr => ?_) fun _ _ y => y))
  obtain ⟨n, t, rfl, h0, h1, hq⟩ := hr
  refine wpAny_bind (wpAny_holding (wpAny_pure ?_))
  refine wpAny_bind (wpAny_letGo ?_)
  show wpAny _ _ (if n < 0 then _ else _) _ _ _
  rw [if_neg (by omega)]
  show wpAny _ _ (if n ≥ 2 ^ 63 then _ else _) _ _ _
  rw [if_neg (by omega)]
  exact wpAny_bind (wpAny_mkInt (wpAny_pure ⟨_, rfl, hq _ _⟩))
theorem iter_inst {f : Nat} (Z : Gl w s.heap) (I : InstAt s.heap x ox C od) (hs : findIn (KH w) (.ref C) "__iter__" = some (some (.ref f))) (hf : typeIn (KH w) (.ref f) = some (.type "function"))
    (h : wpAny (model prog w) A (call (.ref f) [.ref x]) (fun it s' => ∃ T n, s'.TypeIs it T ∧ typeLookup (.type T) "__next__" = pure (some n) ∧ Q it s') E s) : wpAny (model prog w) A (pyIter (.ref x)) Q E s := by
  unfold pyIter
  have sp : ∀ {Q' : Option Value → Shared → Prop}, Q' (some (.ref f)) s → wpAny (model prog w) A (specialOf (.ref x) "__iter__") Q' E s := fun q => wpAny_bind (I.type.here ((looks_findIn Z.X hs).here q))
  refine wpAny_bind (sp ?_)
  show wpAny _ _ (callSpecialIfBoundUnlessNone? (.ref x) "__iter__" _ >>= _) _ _ _
  refine wpAny_bind ?_
  simp only [callSpecialIfBoundUnlessNone?, bindSpecialIfBound?]
  refine wpAny_holding (wpAny_bind (wpAny_bind (sp ?_)))
  dsimp only
  have bd : ∀ {Q' : Value × List Value → Shared → Prop} {E' : Value → Shared → Prop}, Q' (.ref f, [.ref x]) s → wpAny (model prog w) A (bindSpecial (.ref f) (.ref x)) Q' E' s := fun q => (bind_fn Z.X (.ref x) hf).here q
  refine wpAny_bind (wpAny_askSetting (wpAny_ite ?_))
  split
  · refine wpAny_bind (bd (wpAny_pure ?_))
    dsimp only
    rw [if_neg (by show ¬ (Value.ref f == Value.none) = true; exact Bool.false_ne_true)]
    refine wpAny_bind (wpAny_mono h (fun it s' hi => wpAny_pure ?_) fun _ _ e => e)
    obtain ⟨T, n, hT, hn, q⟩ := hi
    refine wpAny_bind (wpAny_specialOf hT hn (wpAny_pure q))
  · refine wpAny_tryCatch (wpAny_bind (bd (wpAny_pure ?_)))
    dsimp only
    rw [if_neg (by show ¬ (Value.ref f == Value.none) = true; exact Bool.false_ne_true)]
    refine wpAny_bind (wpAny_mono h (fun it s' hi => wpAny_pure ?_) fun _ _ e => e)
    obtain ⟨T, n, hT, hn, q⟩ := hi
    refine wpAny_bind (wpAny_specialOf hT hn (wpAny_pure q))
theorem ext_loop {it : Value} {own dep Gs : List Nat} {xx : Str} {pp : Pos} {N : Nat} {P : Nat → Value → Heap → Prop} {St : Nat → Heap → Array GenState → Prop} (W : Itr prog w A.in1 it own dep Gs (.Name xx pp) N P St) (hflat : ∀ i v h h', P i v h → (∀ T o, v = .ref T → h.get? T = some o → h'.get? T = some o) → P i v h')
    (hown : ∀ i v h, P i v h → ∀ T, v = .ref T → T ∉ own ∧ ∃ o, h.get? T = some o ∧ o.cls = .type "tuple") (hN : N ≤ 1000) (S : Nat) (hSd : S ∉ dep) (res : Value) {R : Result → Shared → Prop} {s₀ : Shared} :
    ∀ (k i : Nat) (h : Heap) (g : Array GenState) (tk : Nat) (acc : Array Value) (c : Nat), N - i = k → i ≤ N → St i h g → h.get? S = some { cls := .type "list", data := .seq acc c } → acc.size = i → (∀ j v, acc[j]? = some v → P j v h) →
    (∀ h' g' tk' acc' c', Ext (S :: own) h h' → GM Gs g g' → h'.get? S = some { cls := .type "list", data := .seq acc' c' } → acc'.size = N → (∀ j v, acc'[j]? = some v → P j v h') → R (.ok (.ret res)) { s₀ with heap := h', gens := g', toks := tk' }) →
    codeAny (model prog w) A (.builtin "list.extend.loop" ⟨[.ref S, it, res], []⟩) R { s₀ with heap := h, gens := g, toks := tk } := by
  have hSo : S ∉ own := fun q => hSd (W.sub _ q)
  intro k
  induction k with
  | zero =>
    intro i h g tk acc c hk hi hst hS hacc hP hR
    obtain rfl : i = N := by omega
    refine codeAny_builtin PySem.F.entry_extend_loop ?_
    rw [Around.under_plainId PySem.F.plain_extend_loop _]
    show wpAny _ A.in1 (pyNext it >>= _) _ _ _
    refine wpAny_bind (wpAny_mono (W.done _ (fun s' => R (.ok (.ret res)) s') _ hst fun h' g' tk' he hg => ?_) (fun r s' hr => ?_) fun _ _ e => e)
    · refine hR h' g' tk' acc c (he.mono fun a ha => .tail _ ha) hg (he _ _ hSo hS) hacc fun j v q => hflat j v h h' (hP j v q) fun T o e q' => he _ _ (hown j v h (hP j v q) T e).1 q'
    · cases r with
      | none => exact wpAny_pure hr
      | some v => exact hr.elim
  | succ k ih =>
    intro i h g tk acc c hk hi hst hS hacc hP hR
    have hlt : i < N := by omega
    refine codeAny_builtin PySem.F.entry_extend_loop ?_
    rw [Around.under_plainId PySem.F.plain_extend_loop _]
    show wpAny _ A.in1 (pyNext it >>= _) _ _ _
    refine wpAny_bind (wpAny_mono (W.next _ (fun v s' => ∃ h' g' tk' fv, s' = { s₀ with heap := h', gens := g', toks := tk' } ∧ Itm dep h (P i) v h' fv ∧ St (i + 1) h' g' ∧ Ext own h h' ∧ GM Gs g g') _ i hlt hst fun v h' g' tk' fv itm st' he hg => ⟨h', g', tk', fv, rfl, itm, st', he, hg⟩) (fun r s' hr => ?_) fun _ _ e => e)
    cases r with
    | none => exact hr.elim
    | some v =>
      show wpAny _ A.in1 (letOwnedTupleGo (.Name xx pp) it v >>= fun _ => updateSeq S (·.push v) >>= fun _ => again (.builtin "list.extend.loop" ⟨[.ref S, it, res], []⟩)) _ _ _
      refine wpAny_bind (wpAny_mono hr (fun _ s' hs' => ?_) fun _ _ e => e)
      obtain ⟨h', g', tk', fv, rfl, itm, st', he, hg⟩ := hs'
      have hS' : h'.get? S = some { cls := .type "list", data := .seq acc c } := he _ _ hSo hS
      have hP' : ∀ j v, acc[j]? = some v → P j v h' := fun j v q => hflat j v h h' (hP j v q) fun T o e q' => he _ _ (hown j v h (hP j v q) T e).1 q'
      have hv : P i v h' := itm.is h' fun _ _ _ e => e
      obtain ⟨c', hS₂⟩ : ∃ c', (h'.update S (Obj.mapSeq (·.push v))).get? S = some { cls := .type "list", data := .seq (acc.push v) c' } := ⟨_, Heap.get?_update_self (Obj.mapSeq (·.push v)) hS' rfl⟩
      have e₂ : Ext [S] h' (h'.update S (Obj.mapSeq (·.push v))) := fun b o n e => (Heap.get?_update_other _ _ (fun q => n (by rw [q]; exact .head _))).trans e
      have tu : ∀ j y, P j y h' → P j y (h'.update S (Obj.mapSeq (·.push v))) := fun j y q => hflat j y _ _ q fun T o e q' => e₂ _ _ (fun z => by
        obtain ⟨_, o', ho', hc'⟩ := hown j y h' q T e
        rw [List.mem_singleton.mp z, hS'] at ho'
        cases ho'
        exact absurd hc' (by simp)) q'
      refine wpAny_bind (wpAny_updateSeq hS' rfl (wpAny_pure ⟨plainId_quiet PySem.F.plain_extend_loop _, ?_⟩) (by rw [hacc]; have := sizeLine_eq; omega) (by show (acc.push v).size ≤ sizeLine + 1; rw [Array.size_push, hacc]; have := sizeLine_eq; omega))
      refine ih (i + 1) _ g' tk' (acc.push v) c' (by omega) hlt ((W.frame _ _ _ _ _ st' (Agr.of e₂ fun b hb q => hSd (List.mem_singleton.mp q ▸ hb)) fun _ _ _ e => e)) hS₂ (by rw [Array.size_push, hacc]) (fun j y hy => ?_) fun h'' g'' tk'' acc'' c'' he'' hg'' hS'' ha'' hP'' => ?_
      · rw [Array.getElem?_push] at hy
        split at hy
        · rename_i q; cases hy; rw [q, hacc]; exact tu i v hv
        · exact tu j y (hP' j y hy)
      · exact hR h'' g'' tk'' acc'' c'' (((he.mono fun a ha => .tail _ ha).app (e₂.mono fun a ha => by rw [List.mem_singleton.mp ha]; exact .head _)).app he'') (hg.trans hg'') hS'' ha'' hP''
theorem call_list_inst0 {fl : Nat} {Q : Value → Shared → Prop} (hlen : findIn (KH w) (.ref C) "__len__" = some (some (.ref fl))) (hfl : isFn (KH w) (.ref fl) = true) (I : InstAt s.heap x ox C od)
    (h : ∀ h₁ S, S = s.heap.objs.size → Ext [] s.heap h₁ → s.heap.get? S = none → (∃ c, h₁.get? S = some { cls := .type "list", data := .seq #[] c }) → wpAny (model prog w) A.in1.in1 (pyIter (.ref x)) (fun it s₂ => Gl w s₂.heap ∧ (∃ ox od, InstAt s₂.heap x ox C od) ∧
      ∀ E' : Value → Shared → Prop, wpAny (model prog w) A.in1.in1.in1 (call (.ref fl) [.ref x]) (fun v s₃ => ∃ n t, v = .int n t ∧ 0 ≤ n ∧ n < 1000 ∧ (∃ c, s₃.heap.get? S = some { cls := .type "list", data := .seq #[] c }) ∧
        ∀ h₄ tk₄ c₄, Ext [S] s₃.heap h₄ → h₄.get? S = some { cls := .type "list", data := .seq #[] c₄ } → codeAny (model prog w) A.in1 (.builtin "list.extend.loop" ⟨[.ref S, it, .none], []⟩) (wants (fun r s₂ => r = .none ∧ Q (.ref S) s₂) E) { s₃ with heap := h₄, toks := tk₄ }) E' s₂) E { s with heap := h₁ }) :
    wpAny (model prog w) A (call (.type "list") [.ref x]) Q E s := by
  refine callType_codes (Q₁ := fun obj s₁ => obj = .ref s.heap.objs.size ∧ s₁ = { s with heap := s.heap.push { cls := .type "list", data := .seq #[] } }) PySem.F.called_list (PySem.F.typeCall_list_1 _) PySem.F.entry_list_init
    (code_list_new _ ⟨rfl, rfl⟩) fun obj s₁ h₁ => ?_
  obtain ⟨rfl, rfl⟩ := h₁
  have hS : (s.heap.push { cls := .type "list", data := .seq #[] }).get? s.heap.objs.size = some { cls := .type "list", data := .seq #[] } := Heap.get?_push_size _ rfl
  refine ⟨⟨_, hS, rfl⟩, PySem.F.args_list_init_2 _ _, ?_⟩
  have hSx : s.heap.objs.size ≠ x := Nat.ne_of_gt (Heap.lt_size I.1)
  show wpAny _ A.in1.in1 (do let old ← Builtin.List.listItems (.ref s.heap.objs.size); Builtin.List.listUpdate (.ref s.heap.objs.size) (fun _ => #[]); letGo old.toList.reverse; Builtin.List.listExtendWith (.ref s.heap.objs.size) (.ref x) .none) _ _ _
  refine wpAny_bind ?_
  unfold Builtin.List.listItems
  refine wpAny_bind (wpAny_seqItems hS rfl (wpAny_pure ?_))
  show wpAny _ A.in1.in1 (updateSeq s.heap.objs.size (fun _ => #[]) >>= fun _ => letGo (#[] : Array Value).toList.reverse >>= fun _ => Builtin.List.listExtendWith (.ref s.heap.objs.size) (.ref x) .none) _ _ _
  refine wpAny_bind (wpAny_updateSeq hS rfl ?_)
  generalize hSS : s.heap.objs.size = S at *
  have hS₂ : ∃ c, ((s.heap.push { cls := .type "list", data := .seq #[] }).update S (Obj.mapSeq (fun _ => (#[] : Array Value)))).get? S = some { cls := .type "list", data := .seq #[] c } := ⟨_, Heap.get?_update_self (Obj.mapSeq (fun _ => (#[] : Array Value))) hS rfl⟩
  have e₁ : Ext [] s.heap ((s.heap.push { cls := .type "list", data := .seq #[] }).update S (Obj.mapSeq (fun _ => (#[] : Array Value)))) := fun b o _ e => (Heap.get?_update_other _ _ (fun q : S = b => by
    have := Heap.lt_size e
    rw [← q, ← hSS] at this
    exact Nat.lt_irrefl _ this)).trans (Heap.get?_push_of_some _ e)
  refine wpAny_bind (wpAny_letGo ?_)
  generalize (s.heap.push { cls := .type "list", data := .seq #[] }).update S (Obj.mapSeq (fun _ => (#[] : Array Value))) = h₁ at *
  have I₁ : InstAt h₁ x ox C od := instKeep I e₁.keep
  unfold Builtin.List.listExtendWith
  refine wpAny_bind (I₁.type.here ?_)
  have h1 : Builtin.List.listSameRef (.ref S) (.ref x) = false := by simp [Builtin.List.listSameRef, hSx]
  simp only [h1, show (Value.ref C == Value.type "list") = false from rfl, show (Value.ref C == Value.type "tuple") = false from rfl, Bool.or_false, Bool.false_eq_true, if_false]
  refine wpAny_bind (wpAny_mono (h h₁ S rfl e₁ (hSS ▸ get?_size _) hS₂) (fun it s₂ hs₂ => ?_) fun _ _ e => e)
  obtain ⟨Z₂, ⟨ox₂, od₂, I₂⟩, hl⟩ := hs₂
  refine wpAny_bind (wpAny_holding ?_)
  unfold Builtin.List.listLengthHint
  refine wpAny_bind (wpAny_bind (I₂.type.here ((looks_findIn Z₂.X hlen).here ?_)))
  dsimp only
  show wpAny _ _ (rule "list.length-hint.len" >>= _) _ _ _
  refine wpAny_bind (wpAny_rule ?_)
  refine wpAny_bind (wpAny_attempt (len_inst Z₂ I₂ hlen hfl (wpAny_mono (hl _) (fun v s₃ hv => ?_) fun _ _ e => e)))
  obtain ⟨n, t, rfl, n0, n1, ⟨c, hS₃⟩, hcode⟩ := hv
  refine ⟨n, t, rfl, n0, by omega, fun t' tk => ?_⟩
  dsimp only
  refine wpAny_bind (wpAny_of_eq (rfl : asInt? (.int n t') = pure (some n)) ?_)
  have ht : Builtin.List.listTooLong n.toNat = false := by
    unfold Builtin.List.listTooLong
    rw [sizeLine_eq]
    simp only [decide_eq_false_iff_not]
    omega
  dsimp only
  rw [ht]
  refine wpAny_pure ?_
  have key : ∀ (h₄ : Heap) (tk₄ : Nat), Ext [S] s₃.heap h₄ → (∃ c, h₄.get? S = some { cls := .type "list", data := .seq #[] c }) →
      wpAny (model prog w) A.in1.in1 (again (.builtin "list.extend.loop" ⟨[.ref S, it, .none], []⟩)) (fun fin s' => match fin with
        | .done f => wants (fun r s₂ => r = .none ∧ Q (.ref S) s₂) E (.ok f) s'
        | .again c' => c'.quiet = true ∧ codeAny (model prog w) A.in1 c' (wants (fun r s₂ => r = .none ∧ Q (.ref S) s₂) E) s') (fun e s' => wants (fun r s₂ => r = .none ∧ Q (.ref S) s₂) E (.error e) s') { s₃ with heap := h₄, toks := tk₄ } := by
    intro h₄ tk₄ e₄ ⟨c₄, hS₄⟩
    exact wpAny_pure ⟨plainId_quiet PySem.F.plain_extend_loop _, hcode h₄ tk₄ c₄ e₄ hS₄⟩
  split
  · show wpAny _ A.in1.in1 (rule "list.extend.makes-room" >>= fun _ => Builtin.List.listTouch (.ref S) >>= fun _ => again (.builtin "list.extend.loop" ⟨[.ref S, it, .none], []⟩)) _ _ _
    refine wpAny_bind (wpAny_rule ?_)
    refine wpAny_bind ?_
    show wpAny _ A.in1.in1 (updateSeq S (·.push .none) >>= fun _ => updateSeq S (·.pop)) _ _ _
    refine wpAny_bind (wpAny_updateSeq (s := { s₃ with toks := tk }) hS₃ rfl ?_)
    have hS₄ := Heap.get?_update_self (Obj.mapSeq (·.push Value.none)) hS₃ rfl
    refine wpAny_updateSeq (hz := by seq_fits) hS₄ rfl ?_
    have hS₅ := Heap.get?_update_self (Obj.mapSeq (·.pop)) hS₄ rfl
    exact key _ _ (fun b o n e => (Heap.get?_update_other _ _ (fun q => n (by rw [q]; exact .head _))).trans ((Heap.get?_update_other _ _ (fun q => n (by rw [q]; exact .head _))).trans e)) ⟨_, hS₅⟩
  · exact key _ _ (fun _ _ _ e => e) ⟨c, hS₃⟩
theorem call_list_inst {fl : Nat} {Q : Value → Shared → Prop} (hlen : findIn (KH w) (.ref C) "__len__" = some (some (.ref fl))) (hfl : isFn (KH w) (.ref fl) = true) (I : InstAt s.heap x ox C od)
    (h : ∀ h₁ S, S = s.heap.objs.size → Ext [] s.heap h₁ → s.heap.get? S = none → (∃ c, h₁.get? S = some { cls := .type "list", data := .seq #[] c }) → wpAny (model prog w) A.in1.in1 (pyIter (.ref x)) (fun it s₂ => Gl w s₂.heap ∧ (∃ ox od, InstAt s₂.heap x ox C od) ∧
      ∀ E' : Value → Shared → Prop, wpAny (model prog w) A.in1.in1.in1 (call (.ref fl) [.ref x]) (fun v s₃ => ∃ n t, v = .int n t ∧ 0 ≤ n ∧ n < 1000 ∧ ∃ own dep Gs N P St xx pp, Itr prog w A.in1.in1 it own dep Gs (.Name xx pp) N P St ∧ St 0 s₃.heap s₃.gens ∧
        (∀ i v h h', P i v h → (∀ T o, v = .ref T → h.get? T = some o → h'.get? T = some o) → P i v h') ∧ (∀ i v h, P i v h → ∀ T, v = .ref T → T ∉ own ∧ ∃ o, h.get? T = some o ∧ o.cls = .type "tuple") ∧ N ≤ 1000 ∧ S ∉ dep ∧ (∃ c, s₃.heap.get? S = some { cls := .type "list", data := .seq #[] c }) ∧
        ∀ h' g' tk' acc' c', Ext (S :: own) s₃.heap h' → GM Gs s₃.gens g' → h'.get? S = some { cls := .type "list", data := .seq acc' c' } → acc'.size = N → (∀ j v, acc'[j]? = some v → P j v h') → Q (.ref S) { s₃ with heap := h', gens := g', toks := tk' }) E' s₂) E { s with heap := h₁ }) :
    wpAny (model prog w) A (call (.type "list") [.ref x]) Q E s := by
  refine call_list_inst0 hlen hfl I fun h₁ S hSz e₁ dS hS => wpAny_mono (h h₁ S hSz e₁ dS hS) (fun it s₂ hs₂ => ⟨hs₂.1, hs₂.2.1, fun E' => wpAny_mono (hs₂.2.2 E') (fun v s₃ hv => ?_) fun _ _ e => e⟩) fun _ _ e => e
  obtain ⟨n, t, rfl, n0, n1, own, dep, Gs, N, P, St, xx, pp, W, st, hflat, hown, hN, hSd, hc, hQ⟩ := hv
  refine ⟨n, t, rfl, n0, n1, hc, fun h₄ tk₄ c₄ e₄ hS₄ => ?_⟩
  refine ext_loop (A := A.in1) W hflat hown hN S hSd .none N 0 h₄ s₃.gens tk₄ #[] c₄ rfl (Nat.zero_le _) (W.frame _ _ _ _ _ st (Agr.of e₄ fun b hb q => hSd (List.mem_singleton.mp q ▸ hb)) fun _ _ _ e => e) hS₄ rfl (fun j v q => by simp at q) fun h' g' tk' acc' c' he hg hS' ha hP => ?_
  exact ⟨rfl, hQ h' g' tk' acc' c' ((e₄.mono fun a ha => by rw [List.mem_singleton.mp ha]; exact .head _).app he) hg hS' ha hP⟩
end
end Mine
end L1
section L2
open PySem PySem.W PyProof.Rows PySem.Calls PySem.Spec
set_option maxRecDepth 100000
set_option maxHeartbeats 8000000
namespace Mine
section
variable {prog : Program} {w : World} {A : Around} {E : Value → Shared → Prop} {s : Shared} {env : Env} {G : Gr} {Q : Value → Shared → Prop}
theorem iter_dict {K : Type} [DecidableEq K] {knd : KeyKind prog w K} {d : Nat} {kvs : List (K × Value)} (lo : (d == sysModules) = false) (hd : s.heap.DictOf knd d kvs)
    (h : ∀ h' I ep, Ext [] s.heap h' → s.heap.get? I = none → h'.IsKeyIter I d 0 kvs.length ep → h'.DictAt knd d kvs ep → Q (.ref I) { s with heap := h' }) : wpAny (model prog w) A (call (.builtin "iter") [.ref d]) Q E s := by
  obtain ⟨ep, hm⟩ := hd.dictAt
  refine call_function_entry (by decide +kernel) (by decide +kernel) kdk_entry_iter (kdk_args_iter _) ?_
  unfold Builtin.«iter»
  refine wpAny_bind (m := someArgs "iter" 1 2 _) (wpAny_of_eq (a := [Value.ref d]) (by first | rfl | kernel_rfl!) ?_)
  show wpAny _ _ (pyIter (.ref d) >>= _) _ _ _
  refine wpAny_bind (wpAny_pyIter_dict lo hm ?_)
  exact wpAny_pure ⟨_, rfl, h _ _ ep (Ext.push _ _) (get?_size _) ⟨_, Heap.get?_push_size _ rfl, rfl, rfl⟩ (hm.at' fun _ e => Heap.get?_push_of_some _ e)⟩
theorem sp_iter (Z : Gl w s.heap) (I : GraphAt prog w s.heap G) (hroom : A.depth < recursionLimit)
    (h : ∀ h' J ep tk, Ext [] s.heap h' → s.heap.get? J = none → h'.IsKeyIter J G.nd 0 G.nodes.length ep → h'.DictAt (intKind prog w) G.nd G.nodes ep → Q (.ref J) { s with heap := h', toks := tk }) : wpAny (model prog w) A (call (.ref 398) [.ref G.g]) Q E s := by
  refine enter' Z hroom (by rfl) (by kernel_rfl) (binds := [("self", .ref G.g)]) (by kernel_rfl) (by kernel_rfl) (by kernel_rfl) (by rfl) (by rfl) ?_
  intro L h₁ tk m hL n
  exact wpAny_execs_cons <| wpAny_Return_some <| Call_ <| nmB (Z.k m) (by kernel_rfl) (by rfl) boot_iter (by decide) <| cwB <| wpAny_items_cons <| gA n (Z.k m) (I.k m) (.ref G.nd) fun t => wpAny_items_nil <| iter_dict (I.lo mem_nd) (I.k m).node fun h' J ep e dJ hJ hm => h h' J ep _ (m.app e) (dead m.keep dJ) hJ hm
theorem sp_list_graph (Z : Gl w s.heap) (I : GraphAt prog w s.heap G) (hroom : A.depth + 1 < recursionLimit) (hh : A.handled = none) (hz : G.rows.length < 1000)
    (h : ∀ (h' : Heap) (g' : Array GenState) (tk : Nat) (S : Nat) (acc : Array Value) (c : Nat), Ext [] s.heap h' → GM [] s.gens g' → New s.heap S → h'.get? S = some { cls := .type "list", data := .seq acc c } → acc.size = G.rows.length → (∀ (j : Nat) (v : Value), acc[j]? = some v → ∃ t, v = Value.int (G.ids[j]!) t) → Q (.ref S) { s with heap := h', gens := g', toks := tk }) :
    wpAny (model prog w) A (call (.type "list") [.ref G.g]) Q E s := by
  obtain ⟨od, J, _⟩ := I.gb.instAt
  refine call_list_inst (fl := 412) (by kernel_rfl) (by kernel_rfl) J fun h₁ S hSz e₁ dS hS => ?_
  have Z₁ := Z.k e₁
  have I₁ := I.k e₁
  obtain ⟨od₁, J₁, _⟩ := I₁.gb.instAt
  refine iter_inst (f := 398) (s := { s with heap := h₁ }) Z₁ J₁ (by kernel_rfl) (by kernel_rfl) (sp_iter (s := { s with heap := h₁ }) Z₁ I₁ (Nat.lt_of_succ_lt hroom) fun h₂ it ep tk₂ e₂ dI hI hm => ?_)
  replace e₂ : Ext [] h₁ h₂ := e₂
  have I₂ := I₁.k e₂
  obtain ⟨od₂, J₂, _⟩ := I₂.gb.instAt
  refine ⟨"dict_keyiterator", _, hI.typeIs, PySem.F.slot_dict_keyiterator_next.lookup, Z₁.k e₂, ⟨_, _, J₂⟩, fun E' => ?_⟩
  refine sp_len (s := { s with heap := h₂, toks := tk₂ }) (Z₁.k e₂) I₂ (Nat.lt_of_succ_lt hroom) (by omega) fun h₃ tk₃ t e₃ => ?_
  replace e₃ : Ext [] h₂ h₃ := e₃
  obtain ⟨cS, hS⟩ := hS
  have dI' : h₁.get? it = none := dI
  have dit : G.nd ≠ it := fun q => by obtain ⟨_, e⟩ := dictLive I₁.node; rw [q] at e; exact nomatch dI'.symm.trans e
  have Sit : S ≠ it := fun q => by rw [q] at hS; exact nomatch dI'.symm.trans hS
  have Snd : S ≠ G.nd := fun q => I.all_new dS (q ▸ mem_nd)
  refine ⟨_, t, rfl, by omega, by omega, [it], [it, G.nd], [], G.nodes.length, _, _, "x", default, Itr.ofWalks (Walks.dictKeys (knd := intKind prog w) (A := A.in1.in1) hh it G.nd dit G.nodes ep) (fun i h st b hb => by rw [List.mem_singleton.mp hb]; obtain ⟨o, ho, _⟩ := st.1; exact ⟨o, ho⟩) "x" default, ?_, ?_, ?_, by simp [Gr.nodes]; omega, ?_, ⟨cS, e₃.keep _ _ (e₂.keep _ _ hS)⟩, ?_⟩
  · exact ⟨hI.at fun _ e => e₃.keep _ _ e, hm.at' fun _ e => e₃.keep _ _ e⟩
  · intro i v h h' q _; exact q
  · rintro i v h ⟨k, x, _, hk⟩ T rfl
    cases hk
  · intro q
    rcases List.mem_cons.mp q with q | q
    · exact Sit q
    · exact Snd (List.mem_singleton.mp q)
  · intro h' g' tk' acc' c' he hg hS' ha hP
    have Sbig : 709 ≤ S := hSz ▸ Z.big
    have dI'' : s.heap.get? it = none := dead e₁.keep dI'
    refine h h' g' tk' S acc' c' ((((e₁.app e₂).app e₃).app' he fun b hb => .inr ?_)) hg ⟨dS, Sbig⟩ hS' (by rw [ha]; simp [Gr.nodes]) fun j v hv => ?_
    · rcases List.mem_cons.mp hb with rfl | hb
      · exact dS
      · rw [List.mem_singleton.mp hb]; exact dI''
    · obtain ⟨k, x, e, hk⟩ := hP j v hv
      have hk' : (intKind prog w).is k v = true := hk
      obtain ⟨t, rfl⟩ := Value.isInt_shape hk'
      refine ⟨t, ?_⟩
      have : G.ids[j]? = some k := by
        have e' := congrArg (Option.map (·.1)) e
        simpa [Gr.nodes, Gr.ids, List.getElem?_map, Option.map_map, Function.comp_def] using e'
      rw [List.getElem!_eq_getElem?_getD, this]
      rfl
end
end Mine
end L2
section W1
open PySem PySem.W PyProof.Rows PySem.Calls PySem.Spec
set_option maxRecDepth 100000
set_option maxHeartbeats 8000000
namespace Mine
def finCode : Code → Bool
  | .builtin "lifetime.gc.finalise" _ => true
  | _ => false
def Cl (Γ : PySem.Ctx) : Prop := finCode Γ.code = false ∧ ∀ x ∈ Γ.below, finCode x.1 = false
def wpC {α : Type} (M : Model) (A : Around) (t : Sem α) (Q : α → Shared → Prop) (E : Value → Shared → Prop) (s : Shared) : Prop :=
  ∀ Γ p, Γ.In A → Cl Γ → Sem.wp M Γ t (fun a _ s' => Q a s') (fun e _ s' => E e s') p s
def codeC (M : Model) (A : Around) (c : Code) (R : Result → Shared → Prop) (s : Shared) : Prop :=
  ∀ Γ p, Γ.code = c → Γ.Below A → Cl Γ → wpCode M Γ R p s
theorem Cl.enter {Γ : PySem.Ctx} (k : Cl Γ) {c : Code} {hd : Option Value} {p : Pos} (h : finCode c = false) : Cl (Γ.enter c hd p) :=
  ⟨h, fun x hx => by
    rcases List.mem_cons.mp hx with rfl | hx
    · exact k.1
    · exact k.2 x hx⟩
theorem Cl.goto {Γ : PySem.Ctx} (k : Cl Γ) {c : Code} (h : finCode c = false) : Cl (Γ.goto c) := ⟨h, k.2⟩
section
variable {α β : Type} {M : Model} {A : Around} {E : Value → Shared → Prop} {s : Shared} {env : Env}
theorem toC {t : Sem α} {Q : α → Shared → Prop} (h : wpAny M A t Q E s) : wpC M A t Q E s := fun Γ p i _ => h Γ p i
theorem toCC {c : Code} {R : Result → Shared → Prop} (h : codeAny M A c R s) : codeC M A c R s := fun Γ p e i _ => h Γ p e i
theorem wpC.mono {t : Sem α} {Q Q' : α → Shared → Prop} {E' : Value → Shared → Prop} (h : wpC M A t Q E s) (hQ : ∀ a s, Q a s → Q' a s) (hE : ∀ e s, E e s → E' e s) : wpC M A t Q' E' s :=
  fun Γ p i k => Sem.wp_mono M Γ t (fun a _ s => hQ a s) (fun e _ s => hE e s) p s (h Γ p i k)
theorem codeC.mono {c : Code} {R R' : Result → Shared → Prop} (h : codeC M A c R s) (hR : ∀ r s, R r s → R' r s) : codeC M A c R' s :=
  fun Γ p e i k => wpCode_mono hR (h Γ p e i k)
theorem c_pure {a : α} {Q : α → Shared → Prop} (h : Q a s) : wpC M A (pure a) Q E s := toC (wpAny_pure h)
theorem c_bind {m : Sem α} {f : α → Sem β} {Q : β → Shared → Prop} (h : wpC M A m (fun a s' => wpC M A (f a) Q E s') E s) : wpC M A (m >>= f) Q E s := fun Γ p i k => by
  rw [Sem.wp_bind']
  exact Sem.wp_mono M Γ m (fun a p' s' h' => h' Γ p' i k) (fun _ _ _ h' => h') p s (h Γ p i k)
theorem c_bindA {m : Sem α} {f : α → Sem β} {Q : β → Shared → Prop} (h : wpAny M A m (fun a s' => wpC M A (f a) Q E s') E s) : wpC M A (m >>= f) Q E s := c_bind (toC h)
theorem c_stand {pos : Pos} {f : Unit → Sem β} {Q : β → Shared → Prop} (h : wpC M A (f ()) Q E s) : wpC M A (standAt pos >>= f) Q E s := c_bindA (wpAny_standAt h)
theorem c_eq {t t' : Sem α} {Q : α → Shared → Prop} (e : t = t') (h : wpC M A t' Q E s) : wpC M A t Q E s := e ▸ h
theorem c_holding {vs : List Value} {m : Sem α} {Q : α → Shared → Prop} (h : wpC M A m Q E s) : wpC M A (holding vs m) Q E s := fun Γ p i k => by rw [Sem.wp_holding]; exact h Γ p i k
theorem c_operate {vs : List Value} {m : Sem Value} {Q : Value → Shared → Prop} (h : wpC M A m Q E s) : wpC M A (operate vs m) Q E s := fun Γ p i k => by rw [Sem.wp_operate]; exact h Γ p i k
theorem c_onRaise {m : Sem α} {k : Value → Sem Unit} {Q : α → Shared → Prop} (h : wpC M A m Q (fun e s' => wpC M A (k e) (fun _ s'' => E e s'') E s') s) : wpC M A (m.onRaise k) Q E s := fun Γ p i c => by
  rw [Sem.wp_onRaise]
  exact Sem.wp_mono M Γ m (fun _ _ _ h' => h') (fun e p' s' h' => h' Γ p' i c) p s (h Γ p i c)
theorem c_attempt {m : Sem α} {Q : Except Value α → Shared → Prop} (h : wpC M A m (fun a => Q (.ok a)) (fun e => Q (.error e)) s) : wpC M A m.attempt Q E s := fun Γ p i c => by rw [Sem.wp_attempt]; exact h Γ p i c
theorem c_tryCatch {m : Sem α} {k : Value → Sem α} {Q : α → Shared → Prop} (h : wpC M A m Q (fun e s' => wpC M A (k e) Q E s') s) : wpC M A (tryCatch m k) Q E s := fun Γ p i c => by
  rw [Sem.wp_tryCatch']
  exact Sem.wp_mono M Γ m (fun _ _ _ h' => h') (fun e p' s' h' => h' Γ p' i c) p s (h Γ p i c)
theorem c_run {c : Code} {h : Option Value} {Q : Flow → Shared → Prop} (hc : codeC M (A.mark h) c (fun r s' => match r with | .ok f => Q f s' | .error e => E e s') s) (hf : finCode c = false := by rfl) (hnb : h ≠ some byPass := by intro x; cases x) : wpC M A (run c h) Q E s :=
  fun Γ p hΓ k => by rw [Sem.wp_run]; exact hc _ p rfl (hΓ.enter c h p hnb) (k.enter hf)
theorem c_runValue {c : Code} {Q : Value → Shared → Prop} (hc : codeC M A c (fun r s' => match r with | .ok (.ret v) => Q v s' | .ok _ => False | .error e => E e s') s) (hf : finCode c = false := by rfl) : wpC M A (runValue c) Q E s :=
  fun Γ p hΓ k => by rw [Sem.wp_runValue]; exact hc _ p rfl (hΓ.enter c none p (by intro x; cases x)) (k.enter hf)
theorem c_call {f : Value} {pos : List Value} {kw : List (Str × Value)} {Q : Value → Shared → Prop} (hc : codeC M A (.call f ⟨pos, kw⟩) (fun r s' => match r with | .ok (.ret v) => Q v s' | .ok _ => False | .error e => E e s') s) : wpC M A (call f pos kw) Q E s := c_runValue hc
theorem c_tree {c : Code} {R : Result → Shared → Prop}
    (h : wpC M (A.under c) (M.den c) (fun fin s' => match fin with | .done f => R (.ok f) s' | .again c' => c'.quiet = true ∧ finCode c' = false ∧ codeC M A c' R s') (fun e s' => R (.error e) s') s) : codeC M A c R s := fun Γ p hc hΓ k => by
  rw [wpCode_iff_wp, hc]
  refine Sem.wp_mono M Γ _ (fun fin p' s' h' => ?_) (fun _ _ _ h' => h') p s (h Γ p (hc ▸ hΓ.in) k)
  cases fin with
  | done f => exact h'
  | again c' => exact ⟨h'.1, h'.2.2 (Γ.goto c') p' rfl (hΓ.goto c') (k.goto h'.2.1)⟩
theorem c_loop {c : Code} {R : Result → Shared → Prop} (hq : c.quiet = true) (I : Nat → Shared → Prop)
    (turn : ∀ n s, I n s → wpC M (A.under c) (M.den c) (fun fin s' => match fin with
        | .done f => R (.ok f) s'
        | .again c' => (c' = c ∧ ∃ m, m < n ∧ I m s') ∨ (c'.quiet = true ∧ finCode c' = false ∧ codeC M A c' R s')) (fun e s' => R (.error e) s') s)
    (n : Nat) (h : I n s) (hf : finCode c = false := by rfl) : codeC M A c R s := by
  induction n using Nat.strongRecOn generalizing s with
  | ind n ih =>
    refine c_tree ((turn n s h).mono (fun fin s' hr => ?_) fun _ _ h' => h')
    cases fin with
    | done f => exact hr
    | again c' =>
      rcases hr with ⟨rfl, m, hm, hI⟩ | hr
      · exact ⟨hq, hf, ih m hm hI⟩
      · exact hr
/-! statements -/
theorem c_cons {st rest} {Q : Flow → Shared → Prop} (h : wpC M A (exec st env) (fun f s' => match f with | .next => wpC M A (execs rest env) Q E s' | f => Q f s') E s) : wpC M A (execs (st :: rest) env) Q E s := by
  rw [execs_cons]
  refine c_bind (h.mono (fun f s' h' => ?_) fun _ _ x => x)
  cases f <;> first | exact h' | exact c_pure h'
theorem c_nil {Q : Flow → Shared → Prop} (h : Q .next s) : wpC M A (execs [] env) Q E s := toC (wpAny_execs_nil h)
theorem c_Assign_Name {x pos' value pos} {Q : Flow → Shared → Prop} (h : wpC M A (eval value env) (fun v s₁ => wpAny M A (storeName env x v) (fun _ => Q .next) E s₁) E s)
    (hs : swapsWith value (some (.Name x pos')) pos.line env = pure false := by rfl) : wpC M A (exec (.Assign [.Name x pos'] value pos) env) Q E s := by
  rw [exec_Assign_Name env x pos' value pos hs]
  exact c_stand (c_bind (h.mono (fun v s₁ h₁ => c_stand (c_bindA (wpAny_bindName (wpAny_mono h₁ (fun _ _ q => c_pure q) fun _ _ x => x)))) fun _ _ x => x))
theorem c_Return {e pos} {Q : Flow → Shared → Prop} (h : wpC M A (eval e env) (fun v => Q (.ret v)) E s) : wpC M A (exec (.Return (some e) pos) env) Q E s := by
  rw [exec_Return_some]
  exact c_stand (c_bind (h.mono (fun _ _ q => c_pure q) fun _ _ x => x))
theorem c_If {test body orelse pos} {Q : Flow → Shared → Prop} (h : wpC M A (isTrue test env (eval test env)) (fun b s₂ => if b then wpC M A (execs body env) Q E s₂ else wpC M A (execs orelse env) Q E s₂) E s) : wpC M A (exec (.If test body orelse pos) env) Q E s := by
  rw [exec_If]
  refine c_stand (c_bind (h.mono (fun b s₂ h₂ => ?_) fun _ _ x => x))
  cases b <;> exact h₂
theorem c_For {target iter body orelse pos} {Q : Flow → Shared → Prop}
    (h : wpC M A (eval iter env) (fun x s₁ => wpAny M A (pyIter x) (fun it s₂ => codeC M A (.forLoop target it body orelse env) (fun r s' => match r with | .ok f => Q f s' | .error e => cameBackBy M A env E e s') s₂) E s₁) E s)
    (hs : ∀ x, foldedSetIterable iter env x = pure x := by intro _; rfl) : wpC M A (exec (.For target iter body orelse pos) env) Q E s := by
  rw [exec_For]
  refine c_stand (c_bind (h.mono (fun x s₁ h₁ => ?_) fun _ _ x => x))
  rw [hs x]
  refine c_bind (c_pure (c_stand (c_bindA (wpAny_holding (wpAny_mono h₁ (fun it s₂ h₂ => ?_) fun _ _ x => x)))))
  unfold runOwn
  exact c_onRaise (c_run (h₂.mono fun r s' hr => by
    cases r with
    | ok f => exact hr
    | error e => exact toC hr))
theorem c_isCompare {l op r pos whole} {Q : Bool → Shared → Prop}
    (h : wpC M A (eval l env) (fun a s₁ => wpAny M A (eval r env) (fun b s₂ => wpAny M A (compareOp op a b) (fun c s₃ => wpAny M A (truthy c) Q E s₃) E s₂) E s₁) E s)
    (hm : behindInMarks op r = false := by with_unfolding_all rfl) : wpC M A (isTrue (.Compare l [op] [r] pos) env whole) Q E s := by
  rw [isTrue_Compare1, markedBehindIn_of_false hm]
  refine c_bind (h.mono (fun a s₁ h₁ => ?_) fun _ _ x => x)
  exact c_bindA (wpAny_holding (wpAny_mono h₁ (fun b s₂ h₂ => c_stand (c_bindA (fun Γ p i => by rw [Sem.wp_operate]; exact (wpAny_mono h₂ (fun c s₃ h₃ => toC (wpAny_holding h₃)) fun _ _ x => x) Γ p i))) fun _ _ x => x))
theorem c_Try {body orelse : List Stmt} {h₀ : ExceptHandler} {hs : List ExceptHandler} {pos : Pos} {Q : Flow → Shared → Prop}
    (h : wpC M A (execs body env) (fun f s₁ => match f with | .next => wpC M A (execs orelse env) Q E s₁ | f => Q f s₁)
      (fun e s₁ => wpAny M A (noteFrame e env) (fun _ s₂ => wpAny M A (setFlight e none) (fun _ s₃ => wpAny M A (handleBy e env (h₀ :: hs)) Q E s₃) E s₂) E s₁) s) :
    wpC M A (exec (.Try body (h₀ :: hs) orelse [] pos) env) Q E s := by
  rw [arm_exec_Try]
  refine c_stand ?_
  unfold tryStmt
  simp only [List.isEmpty_nil, if_true, List.isEmpty_cons, Bool.false_and, Bool.false_eq_true, if_false]
  refine c_bind (c_attempt (h.mono (fun f s₁ h₁ => ?_) fun e s₁ h₁ => ?_))
  · cases f <;> first | exact h₁ | exact c_pure h₁
  · exact toC (wpAny_bind (wpAny_mono h₁ (fun _ _ h₂ => wpAny_bind h₂) fun _ _ x => x))
theorem c_IfExp {test body orelse : Expr} {pos : Pos} {Q : Value → Shared → Prop}
    (h : wpC M A (isTrue test env (eval test env)) (fun b s₁ => if b then wpC M A (eval body env) Q E s₁ else wpC M A (eval orelse env) Q E s₁) E s) : wpC M A (eval (.IfExp test body orelse pos) env) Q E s := by
  rw [arm_eval_IfExp]
  refine c_bind (h.mono (fun b s₁ h₁ => ?_) fun _ _ x => x)
  cases b <;> exact h₁
end
section
variable {prog : Program} {w : World} {A : Around} {E : Value → Shared → Prop} {s : Shared} {Q : Value → Shared → Prop}
theorem c_func {body env} {R : Result → Shared → Prop} (h : wpC (model prog w) (A.deeper env) (execs body env) (fun f s' => R (.ok (.ret (match f with | .ret v => v | _ => .none))) s')
      (fun e s' => wpAny (model prog w) (A.deeper env) (leaving env e) (fun _ s'' => R (.error e) s'') (fun e' s'' => R (.error e') s'') s') s) : codeC (model prog w) A (.func body env) R s := by
  refine c_tree ?_
  show wpC _ (A.deeper env) (do point; match ← (execs body env).onRaise (leaving env) with | .ret v => ret v | _ => ret .none) _ _ s
  refine c_bindA (wpAny_point (c_bind (c_onRaise (h.mono (fun f s' h' => ?_) fun _ _ h' => toC h'))))
  cases f <;> exact c_pure h'
theorem enterC {f : Addr} {args : List Value} {kw : List (Str × Value)} {name qual : Str} {params : Arguments} {body : List Stmt} {scope : Scope} {dV kV doc pm cdv ct oc : Value} {an od : Option Addr} {osl : Array (Option Value)} {binds : List (Str × Value)}
    (G : Gl w s.heap) (hroom : A.depth < recursionLimit) (ho : (KH w).lookup f = some ⟨oc, od, .func (fnOf name qual params body scope dV kV doc pm an cdv ct), osl⟩) (hcd : codeIn (KH w) cdv qual = true)
    (hb : peek (KH w) ⟨prog, w.params⟩ (bindArgs (fnOf name qual params body scope dV kV doc pm an cdv ct) ⟨args, kw⟩) = some binds)
    (hcell : (scope.names.all fun y => match y.2 with | .cell => false | _ => true) = true) (hloc : (binds.all fun y => match scope.names.lookup y.1 with | some .local => true | _ => false) = true)
    (hfl : (scope.isCoroutine, scope.isGenerator) = (false, false)) (hk : scope.kind = .function)
    (h : ∀ L h₁ tk, Ext [] s.heap h₁ → s.heap.get? L = none → h₁.Ns L (fun y => binds.reverse.lookup y) →
      wpC (model prog w) (A.deeper (envX qual scope L f cdv [])) (execs body (envX qual scope L f cdv [])) (fun fl s' => Q (match fl with | .ret v => v | _ => .none) s')
        (fun e s' => wpAny (model prog w) (A.deeper (envX qual scope L f cdv [])) (leaving (envX qual scope L f cdv []) e) (fun _ s'' => E e s'') (fun e' s'' => E e' s'') s') { s with heap := h₁, toks := tk }) :
    wpC (model prog w) A (call (.ref f) args kw) Q E s := by
  injection hfl with hco hgen
  have hcell' : ∀ y ∈ scope.names, y.2 ≠ .cell := fun y hy e => by
    have := List.all_eq_true.mp hcell y hy
    rw [e] at this; cases this
  have hloc' : ∀ y ∈ binds, scope.names.lookup y.1 = some .local := fun y hy => by
    have := List.all_eq_true.mp hloc y hy
    split at this
    · assumption
    · cases this
  refine c_call (c_tree ?_)
  show wpC _ A.in1 (callAny (.ref f) ⟨args, kw⟩) _ _ s
  simp only [callAny]
  obtain ⟨c, oc', vs, tq, hc, hoc, hdc, hq⟩ := codeRec_of G.X hcd
  refine c_bindA (wpAny_load (G.X _ _ ho) ?_)
  dsimp only
  simp only [callFunction, hco, hgen, fnOf, hc]
  refine c_bindA (m := field (.ref c) 1) (wpAny_field hoc hdc hq ?_)
  refine c_bind (c_pure ?_)
  subst hc
  refine c_bindA ((Looks.of_peek (M := model prog w) G.X hb).here ?_)
  refine c_bindA (wpAny_newFunctionEnv hcell' hloc' (fun h₀ hns₀ hsb₀ => ?_) hk)
  refine c_bindA (wpAny_enterFrame (G.lim.fresh _ hsb₀) hroom (c_pure ⟨rfl, rfl, c_func (h _ h₀ _ ?_ (get?_size _) hns₀)⟩))
  exact Ext.of_keep (fun b o e => hsb₀.extBut b o (Nat.ne_of_lt (Heap.lt_size e)) (Heap.get?_push_of_some _ e)) []
end
end Mine
end W1
section W2
open PySem PySem.W PyProof.Rows PySem.Calls PySem.Spec
set_option maxRecDepth 100000
set_option maxHeartbeats 8000000
namespace Mine
section
variable {prog : Program} {w : World} {A : Around} {E : Value → Shared → Prop} {s : Shared} {env : Env} {G : Gr} {Q : Value → Shared → Prop}
theorem c_builtin {id : String} {args : Args} {b : Builtin} {R : Result → Shared → Prop} (hb : entryFor table id = some b)
    (h : wpC (model prog w) (A.under (.builtin id args)) (b args) (fun fin s' => match fin with | .done f => R (.ok f) s' | .again c' => c'.quiet = true ∧ finCode c' = false ∧ codeC (model prog w) A c' R s') (fun e s' => R (.error e) s') s) :
    codeC (model prog w) A (.builtin id args) R s := by
  refine c_tree ?_
  show wpC _ _ (match entryFor table id with | some b => b args | none => unsupported ((withoutEnding? id "#data").getD id)) _ _ s
  rw [hb]; exact h
theorem c_call_builtin {id : String} {args : Args} {b : Builtin} {R : Result → Shared → Prop} (hq : plainId id = true) (hn : finCode (.builtin id args) = false) (hb : entryFor table id = some b)
    (h : wpAny (model prog w) A.in1 (checkBuiltinCall id args) (fun _ s₁ => wpC (model prog w) A.in1 (b args)
      (fun fin s' => match fin with | .done f => R (.ok f) s' | .again c' => c'.quiet = true ∧ finCode c' = false ∧ codeC (model prog w) A c' R s') (fun e s' => R (.error e) s') s₁)
      (fun e s' => R (.error e) s') s) : codeC (model prog w) A (.call (.builtin id) args) R s := by
  refine c_tree ?_
  show wpC _ A.in1 (do checkBuiltinCall id args; again (.builtin id args)) _ _ s
  exact c_bindA (wpAny_mono h (fun _ s₁ h₁ => c_pure ⟨plainId_quiet hq args, hn, c_builtin hb (by rw [Around.under_plainId hq args]; exact h₁)⟩) fun _ _ x => x)
theorem c_stack {M : Model} {Q : List (Code × Pos) → Shared → Prop} (h : ∀ st : List (Code × Pos), (∀ x ∈ st, finCode x.1 = false) → Q st s) : wpC M A stack Q E s := fun Γ p _ k => by
  show Q ((Γ.code, p) :: Γ.below) s
  exact h _ fun x hx => (List.mem_cons.mp hx).elim (fun e => e ▸ k.1) (k.2 x)
theorem get_bindC {x C : Addr} {ox : Obj} {od : Option Obj} {name : Str} {expr : Bool} {g a : Value} {K : Frag} (X : K.In s.heap) (I : InstAt s.heap x ox C od) (hga : findIn K (.ref C) "__getattribute__" = some (some (.builtin "object.__getattribute__")))
    (hf : findObj K C od name = some (.bind g a)) (hk : findIn K (.ref C) "__getattr__" = some none)
    (h : wpC (model prog w) A.in1 (call g [a, .ref x, .ref C]) (fun v s' => wpAny (model prog w) A (handedOut v) Q E s') (fun _ _ => False) { s with toks := s.toks + 1 }) :
    wpC (model prog w) A (getAttr (.ref x) name expr) Q E s := by
  obtain ⟨hh', gg, d, t, os⟩ := s
  have L0 := I.type (M := model prog w)
  have Lg := looks_findIn (M := model prog w) X hga
  have L1 := looks_find (M := model prog w) X I hf
  have L2 := looks_findIn (M := model prog w) X hk
  unfold getAttr getAttrBy
  refine c_bindA (wpAny_mkText (c_holding (c_bindA (L0.at (c_bindA (Lg.at ?_))))))
  show wpC _ _ (getAttrEveryday _ _ _) _ _ _
  refine c_bind (c_onRaise (c_runValue (c_builtin F.plainObj_entry_getattr_hooked ?_)))
  refine c_bindA (wpAny_pure (c_bindA (L0.at (c_bindA (L1.at (c_bindA (L2.at ?_)))))))
  show wpC _ _ (holding [a] (call g [a, .ref x, .ref C]) >>= ret) _ _ _
  exact c_bind (c_holding (h.mono (fun v s' z => c_pure (toC z)) fun _ _ z => z.elim))
theorem isInst_g {c : Value} {r : Bool} {Q : Bool → Shared → Prop} (Z : Gl w s.heap) (I : GraphAt prog w s.heap G) (e : subIn (KH w) (.ref 617) c = some r) (h : Q r s) : wpAny (model prog w) A (isInstance (.ref G.g) c) Q E s := by
  obtain ⟨od, J, _⟩ := I.instAt
  exact wpAny_bind (J.type.here ((looks_subIn Z.X e).here h))
theorem get_dict {ex : Bool} (Z : Gl w s.heap) (I : GraphAt prog w s.heap G) (h : ∀ h' tk, Ext [G.gd] s.heap h' → RawD prog w h' G.gd G.attrs → Q (.ref G.gd) { s with heap := h', toks := tk }) : wpC (model prog w) A (getAttr (.ref G.g) "__dict__" ex) Q E s := by
  obtain ⟨od, J, _⟩ := I.instAt
  refine get_bindC (g := .builtin "getset_descriptor.__get__") (a := .ref 618) Z.X J (by kernel_rfl) (by kernel_rfl) (by kernel_rfl) ?_
  have hT : ({ s with toks := s.toks + 1 } : Shared).TypeIs (.ref 618) "getset_descriptor" := ⟨_, Z.X 618 _ rfl, rfl⟩
  have h618 : s.heap.get? 618 = _ := Z.X 618 _ rfl
  refine c_call (c_call_builtin PySem.F.slot_gs_get.plain rfl PySem.F.entry_gs_get (PySem.F.slot_gs_get.check _ _ _ _ _ _ _ _ hT (PySem.F.args_gs_get _ _ _) ?_))
  show wpC _ _ (Builtin.Getset_descriptor.descrGet ⟨[.ref 618, .ref G.g, .ref 617], []⟩) _ _ _
  unfold Builtin.Getset_descriptor.descrGet
  refine c_bindA (wpAny_of_eq (a := (Value.ref 618, some (Value.ref G.g), some (Value.ref 617))) rfl ?_)
  dsimp only
  unfold Builtin.Getset_descriptor.descrGetter
  dsimp only
  refine c_bindA ?_
  unfold Builtin.Getset_descriptor.descrCheckInstance Builtin.Getset_descriptor.descrNameAndClass
  refine wpAny_bind (wpAny_bind (wpAny_field (s := { s with toks := s.toks + 1 }) h618 rfl (x := .str "__dict__" 985) rfl ?_))
  dsimp only
  refine wpAny_bind (wpAny_field (s := { s with toks := s.toks + 1 }) h618 rfl (x := .ref 617) rfl ?_)
  refine wpAny_pure ?_
  dsimp only
  refine wpAny_bind (isInst_g (s := { s with toks := s.toks + 1 }) Z I (r := true) (by kernel_rfl) ?_)
  refine wpAny_pure ?_
  refine c_bindA (wpAny_field (s := { s with toks := s.toks + 1 }) h618 rfl (x := .builtin "function.__dict__") rfl ?_)
  dsimp only
  refine c_bindA (wpAny_rule ?_)
  refine c_bindA ?_
  unfold Builtin.Getset_descriptor.descrItself
  dsimp only
  refine wpAny_bind (wpAny_fieldsOf (s := { s with toks := s.toks + 1 }) h618 rfl ?_)
  refine wpAny_pure ?_
  refine c_pure ⟨Code.quiet_builtin _ (by decide +kernel), rfl, c_builtin (b := Builtin.«function.__dict__») (entryFor_of_tree (by kernel_rfl)) ?_⟩
  show wpC _ _ (Builtin.«function.__dict__» ⟨[.ref G.g], []⟩) _ _ _
  unfold Builtin.«function.__dict__»
  dsimp only
  have nost : subIn (KH w) (.ref 617) (.type "staticmethod") = some false := by kernel_rfl
  have nocl : subIn (KH w) (.ref 617) (.type "classmethod") = some false := by kernel_rfl
  have e1 : ∀ {Q' : Bool → Shared → Prop} {E' : Value → Shared → Prop} {A' : Around}, Q' false { s with toks := s.toks + 1 } → wpAny (model prog w) A' (isInstance (.ref G.g) (.type "staticmethod") <||> isInstance (.ref G.g) (.type "classmethod")) Q' E' { s with toks := s.toks + 1 } := fun q => by
    unfold orM
    refine wpAny_bind (isInst_g (s := { s with toks := s.toks + 1 }) Z I nost ?_)
    exact isInst_g (s := { s with toks := s.toks + 1 }) Z I nocl q
  refine c_bindA (e1 ?_)
  rw [if_neg (by simp)]
  obtain ⟨cd, hcd, hd'⟩ := any_some (show (clsIn (KH w) 617).any (·.hasDict) = true by kernel_rfl)
  obtain ⟨o, es, ep, ho, ⟨hcl, hdn⟩, hdat, hko, hp, hnd⟩ := I.dict
  refine c_bind ?_
  unfold instanceDictHandedOut instanceDict
  refine c_bind ?_
  refine c_bindA (wpAny_loadPart (s := { s with toks := s.toks + 1 }) (o := instObj 617 G.gd) I.inst ?_)
  dsimp only [instObj]
  refine c_bindA (Looks.here (s := { s with toks := s.toks + 1 }) (looks_clsIn Z.X hcd) ?_)
  rw [hd']
  refine c_pure ?_
  refine c_bindA (wpAny_loadPart (s := { s with toks := s.toks + 1 }) (o := instObj 617 G.gd) I.inst ?_)
  dsimp only [instObj]
  refine c_bind (wpC.mono (Q := fun r s' => r = none ∧ s' = { s with toks := s.toks + 1 }) (E := fun _ _ => False) ?_ ?_ fun _ _ x => x.elim)
  · refine c_bindA (wpAny_load (s := { s with toks := s.toks + 1 }) ho ?_)
    rw [hdat]
    extract_lets f1 f2
    split
    · exact c_pure ⟨rfl, rfl⟩
    · refine c_bind (c_stack fun st hst => ?_)
      rw [List.findSome?_eq_none_iff.mpr fun x hx => ?_]
      · dsimp only
        refine c_bindA (Looks.here (s := { s with toks := s.toks + 1 }) (looks_nsIn (r := none) Z.X (by kernel_rfl)) ?_)
        exact c_pure ⟨rfl, rfl⟩
      · have := hst x hx
        split
        · rename_i q
          rw [q] at this
          cases this
        · rfl
  · rintro r s' ⟨rfl, rfl⟩
    dsimp only
    refine c_bindA (wpAny_update (s := { s with toks := s.toks + 1 }) ho ?_)
    have hx : Ext [G.gd] s.heap (s.heap.update G.gd fun o => if o.slots.isEmpty then { o with slots := #[none] } else o) := fun b o n e => (Heap.get?_update_other _ _ (fun q => n (List.mem_singleton.mpr q.symm))).trans e
    have hr : RawD prog w (s.heap.update G.gd fun o => if o.slots.isEmpty then { o with slots := #[none] } else o) G.gd G.attrs := by
      refine ⟨_, es, ep, Heap.get?_update_self _ ho ?_, ?_, ?_, hko, hp, hnd⟩
      · obtain ⟨c1, c2, c3, c4⟩ := o
        dsimp only at hdat
        subst hdat
        split <;> rfl
      · split <;> exact ⟨hcl, hdn⟩
      · split <;> exact hdat
    refine c_pure ?_
    refine c_pure ?_
    show wpAny _ _ (handedOut _) _ _ _
    rw [handedOut_of rfl]
    exact wpAny_pure (h _ _ hx hr)
end
end Mine
end W2
section W3
open PySem PySem.W PyProof.Rows PySem.Calls PySem.Spec
set_option maxRecDepth 100000
set_option maxHeartbeats 8000000
namespace Mine
section
variable {prog : Program} {w : World} {A : Around} {E : Value → Shared → Prop} {s : Shared} {env : Env} {G : Gr} {d : Nat} {kvs : List (Str × Value)} {k : Str} {key v : Value}
theorem idx_none {es : Array DictEntry} (hp : Pairs (PySem.strKind prog w) es.toList kvs) (hn : k ∉ kvs.map (·.1)) : (es.findIdx? fun e => (PySem.strKind prog w).is k e.key) = none := by
  have hidx : (es.findIdx? fun e => (PySem.strKind prog w).is k e.key) = kvs.findIdx? fun kv => decide (kv.1 = k) := by
    rw [← hp.findIdx k]; obtain ⟨l⟩ := es; simp
  rw [hidx, List.findIdx?_eq_none_iff]
  intro kv hkv
  exact decide_eq_false fun q => hn (List.mem_map.mpr ⟨kv, hkv, q⟩)
theorem raw_get {dflt : Value} {Q : Value → Shared → Prop} (lo : (d == sysModules) = false) (x : RawD prog w s.heap d kvs) (hkey : (PySem.strKind prog w).is k key = true) (hn : k ∉ kvs.map (·.1)) (h : Q dflt { s with toks := s.toks + 1 }) :
    wpAny (model prog w) A (call (.builtin "dict.get") [.ref d, key, dflt]) Q E s := by
  obtain ⟨o, es, ep, ho, ⟨hc, hdn⟩, hd, hk, hp, hnd⟩ := x
  refine wpAny_call_entry PySem.F.slot_dict_get ⟨o, ho, hc⟩ PySem.F.entry_dict_get ?_ (PySem.F.args_dict_get_3 _ _ _)
  show wpAny _ _ (dictGet d key >>= _) _ _ s
  refine wpAny_bind ?_
  unfold dictGet
  try with_reducible refine wpAny_holding ?_
  refine wpAny_bind ((PySem.strKind prog w).pyHash hkey (wpAny_bind (wpAny_dictFind_of (s := { s with toks := s.toks + 1 }) hkey ho hd hk ?_)))
  rw [idx_none hp hn]
  refine wpAny_pure ?_
  show wpAny _ _ (Builtin.Dict.missed d key >>= _) _ _ _
  exact wpAny_bind (wpAny_missed_other lo (wpAny_pure ⟨dflt, rfl, h⟩))
theorem raw_set {Q : Unit → Shared → Prop} (x : RawD prog w s.heap d kvs) (hkey : (PySem.strKind prog w).is k key = true) (hn : k ∉ kvs.map (·.1)) (hz : kvs.length ≤ 900)
    (h : ∀ h', RawD prog w h' d (kvs ++ [(k, v)]) → Heap.SameBut d s.heap h' → Q () { s with heap := h', toks := s.toks + 1 }) : wpAny (model prog w) A (setItem (.ref d) key v) Q E s := by
  obtain ⟨o, es, ep, ho, ⟨hc, hdn⟩, hd, hk, hp, hnd⟩ := x
  have hT : s.TypeIs (.ref d) "dict" := ⟨o, ho, hc⟩
  have hes : es.size ≤ sizeLine := by
    have e1 := hp.length
    have e2 : es.toList.length = es.size := by simp
    rw [sizeLine_eq]; omega
  unfold setItem
  try with_reducible refine wpAny_holding ?_
  refine wpAny_bind (wpAny_sequenceKey hT (by decide) ?_)
  refine wpAny_bind (wpAny_callSpecial?_slot (name := Str.ofString "__setitem__") hT slot_dict_setitem
    (wpAny_call_entry slot_dict_setitem hT entry_dict_setitem ?_ (args_dict_setitem _ _ _)))
  show wpAny _ _ (Builtin.Dict.notOrdered "__setitem__" ⟨[.ref d, key, v], []⟩ >>= _) _ _ s
  refine wpAny_bind (wpAny_notOrdered_dict hT ?_)
  show wpAny _ _ (dictSet d key v >>= _) _ _ s
  refine wpAny_bind ?_
  unfold dictSet
  try with_reducible refine wpAny_holding ?_
  refine wpAny_bind ((PySem.strKind prog w).pyHash hkey ?_)
  unfold dictSetHashed
  try with_reducible refine wpAny_holding ?_
  refine wpAny_bind (wpAny_dictFind_of (s := { s with toks := s.toks + 1 }) hkey ho hd hk ?_)
  rw [idx_none hp hn]
  refine wpAny_bind (wpAny_rule (wpAny_updateDictKeys (hz := hes) (s := { s with toks := s.toks + 1 }) ho hd (wpAny_pure ⟨.none, rfl, wpAny_pure (h _ ⟨_, _, ep + 1, Heap.get?_update_self _ ho (Obj.isFreed_of_dict (Obj.data_mapDictKeys hd _)), ⟨(Obj.cls_mapDictKeys ..).trans hc, ?_⟩, Obj.data_mapDictKeys hd _, hk.push hkey _, ?_, ?_⟩ (Heap.SameBut.update ..))⟩)))
  · obtain ⟨c1, c2, c3, c4⟩ := o
    dsimp only at hd hdn
    subst hd
    exact hdn
  · have := hp.append hkey ((PySem.strKind prog w).hash k) v
    obtain ⟨l⟩ := es
    simpa using this
  · rw [List.map_append, List.nodup_append]
    refine ⟨hnd, by simp, ?_⟩
    intro a ha b hb
    simp only [List.map_cons, List.map_nil, List.mem_singleton] at hb
    subst hb
    exact fun q => hn (q ▸ ha)
theorem gmR {M : Model} {name : Str} {id : String} {pl : Sem Bool} {Q : Value × List Value → Shared → Prop} (hd : RawD prog w s.heap d kvs) (slot : Slot "dict" name id)
    (hty : typeOf (.builtin id) = pure (.type "method_descriptor")) (h : Q (.builtin id, [.ref d]) s) : wpAny M A (getMethod (.ref d) name pl) Q E s := by
  obtain ⟨o, es, ep, ho, ⟨hc, hdn⟩, _⟩ := hd
  exact getMethod_builtin ⟨o, ho, hc⟩ F.plainAttrs_dict slot hty (fun a e => by cases e; exact ⟨o, ho, hdn⟩) h
end
end Mine
end W3
section W4
open PySem PySem.W PyProof.Rows PySem.Calls PySem.Spec
set_option maxRecDepth 100000
set_option maxHeartbeats 8000000
namespace Mine
section
variable {prog : Program} {w : World} {A : Around} {E : Value → Shared → Prop} {s : Shared} {env : Env} {G : Gr} {Q : Value → Shared → Prop}
theorem c_Attr {M : Model} {x attr : Str} {xp pos : Pos} (h : wpAny M A (eval (.Name x xp) env) (fun o s₁ => wpC M A (getAttr o attr true) Q E s₁) E s)
    (he : eval (.Attribute (.Name x xp) attr pos) env = (do
      let o ← eval (.Name x xp) env
      standAt pos.atName
      let r ← holding [o] (getAttr o attr true)
      letTemporaryGo (.Name x xp) o r
      pure r) := by with_unfolding_all rfl) : wpC M A (eval (.Attribute (.Name x xp) attr pos) env) Q E s := by
  rw [he]
  exact c_bindA (wpAny_mono h (fun o s₁ h₁ => c_stand (c_bind (c_holding (h₁.mono (fun r s₂ h₂ => c_bindA (m := letTemporaryGo (.Name x xp) o r) (wpAny_of_eq (a := ()) rfl (c_pure h₂))) fun _ _ q => q)))) fun _ _ q => q)
theorem GraphAt.ownTo {h h' : Heap} {more' : List (Str × Value)} {vs' : List Nat} (I : GraphAt prog w h G) (e : Ext [G.gd] h h') (r : RawD prog w h' G.gd ({ G with more := more', vs := vs' } : Gr).attrs)
    (hm : ∀ kv ∈ more', MoreAt prog w h' { G with more := more', vs := vs' } kv) (hvs : ∀ a ∈ vs', (∃ o, h'.get? a = some o) ∧ a ∉ G.muts ∧ 709 ≤ a) : GraphAt prog w h' { G with more := more', vs := vs' } := by
  have gd_mem : G.gd ∈ G.muts := Gr.muts_iff.mpr (.inl rfl)
  have off : ∀ a ∈ G.fixed, a ∉ ([G.gd] : List Nat) := fun a ha q => I.fix a ha (List.mem_singleton.mp q ▸ gd_mem)
  have nd := (List.nodup_cons.mp I.nod).1
  have offm : ∀ a ∈ G.muts.tail, a ∉ ([G.gd] : List Nat) := fun a ha q => nd (List.mem_singleton.mp q ▸ ha)
  exact {
    inst := e _ _ (off _ (Gr.fixed_iff.mpr (.inl rfl))) I.inst
    dict := r
    graph := DictOf.ext I.graph e (off _ (Gr.fixed_iff.mpr (.inr (.inl rfl))))
    node := DictOf.ext I.node e (offm _ (.head _))
    adj := DictOf.ext I.adj e (offm _ (.tail _ (.head _)))
    attr := fun r hr => DictOf.ext (I.attr r hr) e (off _ (Gr.fixed_iff.mpr (.inr (.inr (.inr ⟨r, hr, .inl rfl⟩)))))
    nbr := fun r hr => DictOf.ext (I.nbr r hr) e (offm _ (.tail _ (.tail _ (List.mem_map.mpr ⟨r, hr, rfl⟩))))
    dd := fun r hr x hx => DictOf.ext (I.dd r hr x hx) e (off _ (Gr.fixed_iff.mpr (.inr (.inr (.inr ⟨r, hr, .inr ⟨x, hx, rfl⟩⟩)))))
    more := hm
    vsl := fun a ha => (hvs a ha).1
    nod := I.nod
    fix := fun a ha => by
      rcases Gr.fixed_iff.mp ha with q | q | q | q
      · exact I.fix a (Gr.fixed_iff.mpr (.inl q))
      · exact I.fix a (Gr.fixed_iff.mpr (.inr (.inl q)))
      · exact (hvs a q).2.1
      · exact I.fix a (Gr.fixed_iff.mpr (.inr (.inr (.inr q))))
    own := fun a ha => by
      rcases List.mem_append.mp ha with q | q
      · exact I.own a (List.mem_append_left _ q)
      · rcases Gr.fixed_iff.mp q with q | q | q | q
        · exact I.own a (List.mem_append_right _ (Gr.fixed_iff.mpr (.inl q)))
        · exact I.own a (List.mem_append_right _ (Gr.fixed_iff.mpr (.inr (.inl q))))
        · exact (hvs a q).2.2
        · exact I.own a (List.mem_append_right _ (Gr.fixed_iff.mpr (.inr (.inr (.inr q))))) }
theorem MoreAt.gd {h h' : Heap} (I : GraphAt prog w h G) (e : Ext [G.gd] h h') {kv : Str × Value} (m : MoreAt prog w h G kv) : MoreAt prog w h' G kv :=
  MoreAt.ext m e fun a ha q => I.fix a (Gr.fixed_iff.mpr (.inr (.inr (.inl ha)))) (List.mem_singleton.mp q ▸ Gr.muts_iff.mpr (.inl rfl))
theorem GraphAt.handed {h h' : Heap} (I : GraphAt prog w h G) (e : Ext [G.gd] h h') (r : RawD prog w h' G.gd G.attrs) : GraphAt prog w h' G :=
  I.ownTo (more' := G.more) (vs' := G.vs) e r (fun kv hk => (I.more kv hk).gd I e) fun a ha =>
    have hf := Gr.fixed_iff.mpr (.inr (.inr (.inl ha)))
    ⟨let ⟨o, ho⟩ := I.vsl a ha; ⟨o, e _ _ (fun q => I.fix a hf (List.mem_singleton.mp q ▸ Gr.muts_iff.mpr (.inl rfl))) ho⟩, I.fix a hf, I.own a (List.mem_append_right _ hf)⟩
structure CpOk (w : World) (c fn : Nat) (nm : Str) (tn : Tok) : Prop where
  inst : ∀ h, Gl w h → ∃ ox od, W.InstAt h c ox 319 (some od) ∧ findObj (KH w) 319 (some od) "attrname" = some (.value (.str nm tn)) ∧ findObj (KH w) 319 (some od) "func" = some (.value (.ref fn))
theorem cp_adj (w : World) : CpOk w 390 388 "adj" 690 := ⟨fun h Z => ⟨_, _, ⟨Z.X 390 _ rfl, rfl, rfl, Z.X 389 _ rfl⟩, by kernel_rfl, by kernel_rfl⟩⟩
theorem cp_edges (w : World) : CpOk w 529 527 "edges" 882 := ⟨fun h Z => ⟨_, _, ⟨Z.X 529 _ rfl, rfl, rfl, Z.X 528 _ rfl⟩, by kernel_rfl, by kernel_rfl⟩⟩
theorem cp_name {c fn : Nat} {nm : Str} {tn : Tok} {ex : Bool} (C : CpOk w c fn nm tn) (Z : Gl w s.heap) (h : Q (.str nm tn) { s with toks := s.toks + 1 }) : wpAny (model prog w) A (getAttr (.ref c) "attrname" ex) Q E s := by
  obtain ⟨ox, od, I, h1, _⟩ := C.inst _ Z
  exact get_value Z.X I (by kernel_rfl) h1 rfl h
theorem cp_func {c fn : Nat} {nm : Str} {tn : Tok} {ex : Bool} (C : CpOk w c fn nm tn) (Z : Gl w s.heap) (h : Q (.ref fn) { s with toks := s.toks + 1 }) (hh : handedIn (.ref fn) = true := by rfl) : wpAny (model prog w) A (getAttr (.ref c) "func" ex) Q E s := by
  obtain ⟨ox, od, I, _, h1⟩ := C.inst _ Z
  exact get_value Z.X I (by kernel_rfl) h1 hh h
theorem cp_meth {c fn : Nat} {nm : Str} {tn : Tok} {pl : Sem Bool} {Q : Value × List Value → Shared → Prop} (C : CpOk w c fn nm tn) (Z : Gl w s.heap) (h : Q (.ref fn, []) { s with toks := s.toks + 1 }) (hh : handedIn (.ref fn) = true := by rfl) : wpAny (model prog w) A (getMethod (.ref c) "func" pl) Q E s := by
  obtain ⟨ox, od, I, _, h1⟩ := C.inst _ Z
  exact method_usual (r := none) Z.X I (by kernel_rfl) (by kernel_rfl) (by kernel_rfl) (by rfl) (get_value Z.X I (by kernel_rfl) h1 hh h)
theorem cached_get {c fn : Nat} {nm : Str} {tn : Tok} {P : Value → List Nat → Heap → Prop} (C : CpOk w c fn nm tn) (hst : ∀ F v fv h h', P v fv h → Ext F h h' → (∀ a ∈ fv, a ∉ F) → P v fv h') (hkp : keepIn (KH w) (.ref fn) = true)
    (Z : Gl w s.heap) (I : GraphAt prog w s.heap G) (hroom : A.depth + 2 < recursionLimit) (hno : nm ∉ G.attrs.map (·.1)) (hz : G.attrs.length ≤ 900)
    (hf : ∀ (B : Around) h' tk Q' E', B.depth ≤ A.depth + 1 → B.handled = A.handled → Gl w h' → GraphAt prog w h' G → (∀ h'' tk' v fv, Ext [] h' h'' → P v fv h'' → (∀ a ∈ fv, h'.get? a = none) → Q' v { s with heap := h'', toks := tk' }) → wpAny (model prog w) B (call (.ref fn) [.ref G.g]) Q' E' { s with heap := h', toks := tk })
    (h : ∀ h' tk v fv, Ext [G.gd] s.heap h' → P v fv h' → (∀ a ∈ fv, s.heap.get? a = none) → RawD prog w h' G.gd (G.attrs ++ [(nm, v)]) → Q v { s with heap := h', toks := tk }) :
    wpC (model prog w) A (call (.ref 309) [.ref c, .ref G.g, .ref 617]) Q E s := by
  refine enterC Z (Nat.lt_of_succ_lt (Nat.lt_of_succ_lt hroom)) (by rfl) (by kernel_rfl) (binds := [("self", .ref c), ("instance", .ref G.g), ("owner", .ref 617)]) (by kernel_rfl) (by kernel_rfl) (by kernel_rfl) (by rfl) (by rfl) ?_
  intro L h₁ tk m hL n
  have Z₁ := Z.k m
  have I₁ := I.k m
  have g0 : G.gd ∈ G.all := List.mem_append_left _ (Gr.muts_iff.mpr (.inl rfl))
  have hLg : L ∉ ([G.gd] : List Nat) := fun q => I.all_new hL (List.mem_singleton.mp q ▸ g0)
  have lo : (G.gd == sysModules) = false := notMods (I.own _ g0)
  have lo' : ∀ a ∈ ([G.gd] : List Nat), (709 : Nat) ≤ a := fun a q => List.mem_singleton.mp q ▸ I.own _ g0
  refine c_cons <| c_If <| toC <| wpAny_isTrue_Compare1 <| nmL n rfl rfl <| wpAny_Constant_none <| wpAny_is_other (by rfl) (by intro q; cases q) <| wpAny_truthy_bool ?_
  rw [if_neg (by simp)]
  refine c_nil ?_
  dsimp only
  refine c_cons <| c_If <| toC <| wpAny_isTrue_Compare1 <| Attribute_Name_ <| nmL n rfl rfl <| cp_name C Z₁ <| wpAny_Constant_none <| wpAny_is_other (by rfl) (by intro q; cases q) <| wpAny_truthy_bool ?_
  rw [if_neg (by simp)]
  refine c_nil ?_
  dsimp only
  refine c_cons <| c_Try <| c_cons <| c_Assign_Name <| c_Attr <| nmL n rfl rfl <| get_dict Z₁ I₁ fun h₂ tk₂ m₂ r₂ => ?_
  replace m₂ : Ext [G.gd] h₁ h₂ := m₂
  have n₂ := n.at fun o ho => m₂ _ _ hLg ho
  refine stL n₂ rfl fun h₃ n₃ s₃ => ?_
  replace s₃ : Heap.SameBut L h₂ h₃ := s₃
  have m₃ : Ext [G.gd] s.heap h₃ := Ext.loc (show Ext [G.gd] s.heap h₂ from Ext.trans m m₂) hL s₃
  have r₃ : RawD prog w h₃ G.gd G.attrs := let ⟨o, es, ep, ho, r⟩ := r₂; ⟨o, es, ep, s₃.extBut _ _ (fun q => hLg (List.mem_singleton.mpr q.symm)) ho, r⟩
  have Z₃ := Z.ext m₃ lo'
  have I₃ := I.handed m₃ r₃
  refine c_nil ?_
  dsimp only
  refine c_nil ?_
  dsimp only
  refine toC <| at_ h₃ s.gens s.drawn s.os fun t₃ => ?_
  clear s₃ n₂ m₂ r₂ n I₁ Z₁
  refine wpAny_execs_cons <| wpAny_Assign_Name <| MethodCall_ <| nmL n₃ rfl rfl <| gmR r₃ PySem.F.slot_dict_get PySem.F.type_dict_get <| cwB <| wpAny_items_cons <| Attribute_Name_ <| nmL n₃ rfl rfl <| cp_name C Z₃ <| wpAny_items_cons <| nmG (v := .ref 280) Z₃ (by kernel_rfl) (by rfl) <| wpAny_items_nil <| raw_get lo r₃ (PySem.strKind_is _ _ _ _) hno <| stL n₃ rfl fun h₄ n₄ s₄ => ?_
  replace s₄ : Heap.SameBut L h₃ h₄ := s₄
  have m₄ : Ext [G.gd] s.heap h₄ := m₃.loc hL s₄
  have r₄ : RawD prog w h₄ G.gd G.attrs := let ⟨o, es, ep, ho, r⟩ := r₃; ⟨o, es, ep, s₄.extBut _ _ (fun q => hLg (List.mem_singleton.mpr q.symm)) ho, r⟩
  have Z₄ := Z.ext m₄ lo'
  have I₄ := I.handed m₄ r₄
  refine at_ h₄ s.gens s.drawn s.os fun t₄ => ?_
  refine wpAny_execs_cons <| wpAny_If <| wpAny_isTrue_Compare1 <| nmL n₄ rfl rfl <| nmG (v := .ref 280) Z₄ (by kernel_rfl) (by rfl) <| wpAny_is_ref_self <| wpAny_truthy_bool ?_
  rw [if_pos rfl]
  refine wpAny_execs_cons <| wpAny_Assign_Name <| MethodCall_ <| nmL n₄ rfl rfl <| cp_meth C Z₄ <| cwF hkp <| wpAny_items_cons <| nmL n₄ rfl rfl <| wpAny_items_nil ⟨Z₄, ?_⟩
  refine hf _ h₄ _ _ _ ?_ rfl Z₄ I₄ fun h₅ t₅ v fv m₅ hP hfv => ?_
  · exact Nat.le_refl _
  obtain ⟨o₄, hL₄⟩ := nsLive n₄
  obtain ⟨og₄, hg₄⟩ := r₄.live
  have n₅ := n₄.keeps m₅.keep
  refine stL n₅ rfl fun h₆ n₆ s₆ => ?_
  replace s₆ : Heap.SameBut L h₅ h₆ := s₆
  have e₅ : Ext [G.gd] s.heap h₅ := Ext.trans m₄ m₅
  have m₆ : Ext [G.gd] s.heap h₆ := e₅.loc hL s₆
  have r₆ : RawD prog w h₆ G.gd G.attrs := let ⟨o, es, ep, ho, r⟩ := r₄; ⟨o, es, ep, s₆.extBut _ _ (fun q => hLg (List.mem_singleton.mpr q.symm)) (m₅.keep _ _ ho), r⟩
  have hP₆ : P v fv h₆ := hst [L] v fv h₅ h₆ hP (Ext.of_same s₆) fun a ha q => by
    have := hfv a ha
    rw [List.mem_singleton.mp q, hL₄] at this
    cases this
  have Z₆ := Z.ext m₆ lo'
  refine at_ h₆ s.gens s.drawn s.os fun t₆ => ?_
  refine wpAny_execs_cons <| wpAny_Try_except <| wpAny_execs_cons <| wpAny_Assign_Subscript <| nmL n₆ rfl rfl <| nmL n₆ rfl rfl <| Attribute_Name_ <| nmL n₆ rfl rfl <| cp_name C Z₆ <| raw_set r₆ (PySem.strKind_is _ _ _ _) hno hz fun h₇ r₇ s₇ => ?_
  replace s₇ : Heap.SameBut G.gd h₆ h₇ := s₇
  have n₇ := n₆.at fun o ho => s₇.extBut _ _ (fun q => hLg (List.mem_singleton.mpr q)) ho
  refine wpAny_execs_nil ?_
  dsimp only
  refine wpAny_execs_nil ?_
  dsimp only
  refine wpAny_execs_nil ?_
  dsimp only
  refine wpAny_execs_cons <| wpAny_Return_some <| nmL n₇ rfl rfl ?_
  refine h h₇ _ v fv (Ext.trans m₆ (Ext.of_same s₇) |>.mono fun a ha => by simpa using ha) (hst [G.gd] v fv h₆ h₇ hP₆ (Ext.of_same s₇) fun a ha q => ?_) (fun a ha => ?_) r₇
  · have := hfv a ha
    rw [List.mem_singleton.mp q, hg₄] at this
    cases this
  · by_cases q : a ∈ ([G.gd] : List Nat)
    · have := hfv a ha
      rw [List.mem_singleton.mp q, hg₄] at this
      cases this
    · cases e : s.heap.get? a with
      | none => rfl
      | some o => exact absurd ((m₄ a o q e).symm.trans (hfv a ha)) (by simp)
end
end Mine
end W4
section W5
open PySem PySem.W PyProof.Rows PySem.Calls PySem.Spec
set_option maxRecDepth 100000
set_option maxHeartbeats 8000000
namespace Mine
section
variable {prog : Program} {w : World} {A : Around} {E : Value → Shared → Prop} {s : Shared} {env : Env} {G : Gr} {Q : Value → Shared → Prop}
theorem sp_adj_func (Z : Gl w s.heap) (I : GraphAt prog w s.heap G) (hroom : A.depth + 1 < recursionLimit) (h : ∀ h' tk, Ext [] s.heap h' → Q (.ref G.ad) { s with heap := h', toks := tk }) : wpAny (model prog w) A (call (.ref 388) [.ref G.g]) Q E s := by
  refine enter' Z (Nat.lt_of_succ_lt hroom) (by rfl) (by kernel_rfl) (binds := [("self", .ref G.g)]) (by kernel_rfl) (by kernel_rfl) (by kernel_rfl) (by rfl) (by rfl) ?_
  intro L h₁ tk m hL n
  exact wpAny_execs_cons <| wpAny_Return_some <| gA n (Z.k m) (I.k m) (.ref G.ad) fun t => h h₁ _ m
theorem attrs_more {nm : Str} (hx : ¬ nm = "graph" ∧ ¬ nm = "_node" ∧ ¬ nm = "_adj") : valueAt G.attrs nm = valueAt G.more nm := by
  unfold valueAt Gr.attrs
  rw [List.find?_cons_of_neg (by simpa using fun q => hx.1 q.symm), List.find?_cons_of_neg (by simpa using fun q => hx.2.1 q.symm), List.find?_cons_of_neg (by simpa using fun q => hx.2.2 q.symm)]
theorem valueAt_memS {kvs : List (Str × Value)} {nm : Str} {v : Value} (e : valueAt kvs nm = some v) : (nm, v) ∈ kvs := by
  unfold valueAt at e
  cases q : kvs.find? (fun kv => decide (kv.1 = nm)) with
  | none => rw [q] at e; cases e
  | some z =>
    rw [q] at e; cases e
    have h1 := List.mem_of_find?_eq_some q
    have h2 := List.find?_some q
    simp only [decide_eq_true_eq] at h2
    obtain ⟨a, b⟩ := z
    cases h2
    exact h1
theorem valueAt_not {kvs : List (Str × Value)} {nm : Str} (e : valueAt kvs nm = none) : nm ∉ kvs.map (·.1) := by
  unfold valueAt at e
  intro hm
  obtain ⟨z, hz, rfl⟩ := List.mem_map.mp hm
  have := Option.map_eq_none_iff.mp e
  exact absurd (List.find?_eq_none.mp this z hz) (by simp)
theorem adj_val (I : GraphAt prog w s.heap G) {v : Value} (e : valueAt G.attrs "adj" = some v) : v = .ref G.ad := by
  rw [attrs_more (by decide)] at e
  rcases I.more _ (valueAt_memS e) with q | q
  · exact q.2
  · exact absurd q.1 (show ¬ (("adj" : Str) = "edges") by decide)
theorem valueAt_append {kvs l : List (Str × Value)} {nm : Str} {v : Value} (e : valueAt kvs nm = none) : valueAt (kvs ++ ((nm, v) :: l)) nm = some v := by
  unfold valueAt at e ⊢
  rw [List.find?_append, Option.map_eq_none_iff.mp e]
  simp
def Gr.adjd (G : Gr) : Gr := if (valueAt G.attrs "adj").isSome then G else { G with more := G.more ++ [(("adj" : Str), Value.ref G.ad)] }
theorem adjd_of (h : (valueAt G.attrs "adj").isSome = true) : G.adjd = G := by unfold Gr.adjd; rw [if_pos h]
theorem adjd_new (h : valueAt G.attrs "adj" = none) : G.adjd = { G with more := G.more ++ [(("adj" : Str), Value.ref G.ad)] } := by unfold Gr.adjd; rw [h]; rfl
theorem adjd_has : (valueAt G.adjd.attrs "adj").isSome = true := by
  cases hv : valueAt G.attrs "adj" with
  | some v => rw [adjd_of (by rw [hv]; rfl), hv]; rfl
  | none =>
    rw [adjd_new hv]
    rw [attrs_more (by decide)] at hv ⊢
    show (valueAt (G.more ++ [(("adj" : Str), Value.ref G.ad)]) "adj").isSome = true
    rw [valueAt_append hv]
    rfl
theorem adjd_adjd : G.adjd.adjd = G.adjd := adjd_of adjd_has
theorem adjd_g : G.adjd.g = G.g := by unfold Gr.adjd; split <;> rfl
theorem adjd_gd : G.adjd.gd = G.gd := by unfold Gr.adjd; split <;> rfl
theorem adjd_nd : G.adjd.nd = G.nd := by unfold Gr.adjd; split <;> rfl
theorem adjd_ad : G.adjd.ad = G.ad := by unfold Gr.adjd; split <;> rfl
theorem adjd_gr : G.adjd.gr = G.gr := by unfold Gr.adjd; split <;> rfl
theorem adjd_vs : G.adjd.vs = G.vs := by unfold Gr.adjd; split <;> rfl
theorem adjd_rows : G.adjd.rows = G.rows := by unfold Gr.adjd; split <;> rfl
theorem adjd_ids : G.adjd.ids = G.ids := by rw [Gr.ids, adjd_rows]; rfl
theorem adjd_all : G.adjd.all = G.all := by unfold Gr.adjd; split <;> rfl
theorem adjd_more : G.adjd.more.length ≤ G.more.length + 1 := by
  unfold Gr.adjd
  split
  · exact Nat.le_succ _
  · simp
theorem adjd_gi (J : Gi G) : Gi G.adjd := ⟨by rw [adjd_rows]; exact J.few, by rw [adjd_ids, adjd_rows]; exact J.keys⟩
theorem get_adj_c {ex : Bool} (Z : Gl w s.heap) (I : GraphAt prog w s.heap G) (hv : (valueAt G.attrs "adj").isSome = true) (h : ∀ tk, Q (.ref G.ad) { s with toks := tk }) : wpAny (model prog w) A (getAttr (.ref G.g) "adj" ex) Q E s := by
  obtain ⟨v, e⟩ := Option.isSome_iff_exists.mp hv
  obtain rfl := adj_val I e
  exact ga_get Z I (by kernel_rfl) e rfl (h _)
theorem get_adj {ex : Bool} (Z : Gl w s.heap) (I : GraphAt prog w s.heap G) (hroom : A.depth + 3 < recursionLimit) (hm : G.more.length ≤ 10)
    (h : ∀ h' tk, Ext [G.gd] s.heap h' → GraphAt prog w h' G.adjd → Q (.ref G.ad) { s with heap := h', toks := tk }) :
    wpC (model prog w) A (getAttr (.ref G.g) "adj" ex) Q E s := by
  cases hv : valueAt G.attrs "adj" with
  | some v => exact toC (get_adj_c Z I (by rw [hv]; rfl) fun tk => h s.heap tk (fun _ _ _ e => e) ((adjd_of (by rw [hv]; rfl)).symm ▸ I))
  | none =>
    obtain ⟨od, J₀, hl⟩ := I.instAt
    refine get_bindC (g := .ref 309) (a := .ref 390) Z.X J₀ (by kernel_rfl) (findObj_bindg (by kernel_rfl) (by rw [hl, hv])) (by kernel_rfl) ?_
    refine cached_get (s := { s with toks := s.toks + 1 }) (P := fun v fv _ => v = .ref G.ad ∧ fv = []) (cp_adj w) (fun _ _ _ _ _ x _ _ => x) (by kernel_rfl) Z I (by show A.depth + 2 < _; omega) (valueAt_not hv) (by simp only [Gr.attrs, List.length_cons]; omega) ?_ ?_
    · intro B h' tk Q' E' hB _ Z' I' k
      replace hB : B.depth ≤ A.depth + 1 := hB
      exact sp_adj_func Z' I' (by omega) fun h'' tk' m => k h'' tk' _ [] m ⟨rfl, rfl⟩ (fun _ q => nomatch q)
    · rintro h' tk v fv m ⟨rfl, rfl⟩ - r
      replace m : Ext [G.gd] s.heap h' := m
      show wpAny _ _ (handedOut _) _ _ _
      rw [handedOut_of rfl]
      have r' : RawD prog w h' G.gd ({ G with more := G.more ++ [(("adj" : Str), Value.ref G.ad)], vs := G.vs } : Gr).attrs := r
      refine wpAny_pure (h h' tk m ((adjd_new hv).symm ▸ I.ownTo (more' := G.more ++ [(("adj" : Str), Value.ref G.ad)]) (vs' := G.vs) m r' (fun kv hk => ?_) fun a ha => ?_))
      · rcases List.mem_append.mp hk with hk | hk
        · exact (I.more kv hk).gd I m
        · obtain rfl := List.mem_singleton.mp hk
          exact .inl ⟨rfl, rfl⟩
      · have hf := Gr.fixed_iff.mpr (.inr (.inr (.inl ha)))
        exact ⟨let ⟨o, ho⟩ := I.vsl a ha; ⟨o, m _ _ (fun q => I.fix a hf (List.mem_singleton.mp q ▸ Gr.muts_iff.mpr (.inl rfl))) ho⟩, I.fix a hf, I.own a (List.mem_append_right _ hf)⟩
end
end Mine
end W5
section W6
open PySem PySem.W PyProof.Rows PySem.Calls PySem.Spec
set_option maxRecDepth 100000
set_option maxHeartbeats 8000000
namespace Mine
section
variable {prog : Program} {w : World} {A : Around} {E : Value → Shared → Prop} {s : Shared} {env : Env} {G : Gr} {Q : Value → Shared → Prop}
theorem c_Subscript {M : Model} {value slice pos} {Q : Value → Shared → Prop}
    (h : wpC M A (eval value env) (fun o s₁ => wpAny M A (eval slice env) (fun i s₂ => wpC M A (subscriptTail value slice o i) Q E s₂) E s₁) E s) : wpC M A (eval (.Subscript value slice pos) env) Q E s := by
  rw [eval_Subscript]
  exact c_bind (h.mono (fun o s₁ h₁ => c_bindA (wpAny_holding (wpAny_mono h₁ (fun i s₂ h₂ => c_stand h₂) fun _ _ x => x))) fun _ _ x => x)
theorem sp_getitem (Z : Gl w s.heap) (I : GraphAt prog w s.heap G) (hroom : A.depth + 4 < recursionLimit) (hm : G.more.length ≤ 10) {r : Row} (hr : r ∈ G.rows) (t : Tok)
    (h : ∀ h' tk, Ext [G.gd] s.heap h' → GraphAt prog w h' G.adjd → Q (.ref r.b) { s with heap := h', toks := tk }) :
    wpC (model prog w) A (call (.ref 419) [.ref G.g, .int r.n t]) Q E s := by
  refine enterC Z (by omega) (by rfl) (by kernel_rfl) (binds := [("self", .ref G.g), ("n", .int r.n t)]) (by kernel_rfl) (by kernel_rfl) (by kernel_rfl) (by rfl) (by rfl) ?_
  intro L h₁ tk m hL n
  have g0 : G.gd ∈ G.all := List.mem_append_left _ (Gr.muts_iff.mpr (.inl rfl))
  have hLg : L ∉ ([G.gd] : List Nat) := fun q => I.all_new hL (List.mem_singleton.mp q ▸ g0)
  refine c_cons <| c_Return <| c_Subscript <| c_Attr <| nmL n rfl rfl <| get_adj (Z.k m) (I.k m) (by show A.depth + 1 + 3 < _; omega) hm fun h₂ tk₂ m₂ I₂ => ?_
  replace m₂ : Ext [G.gd] h₁ h₂ := m₂
  refine nmL (n.at fun o ho => m₂ _ _ hLg ho) rfl rfl <| toC <| subD (v := .ref r.b) (adjd_ad ▸ I₂.adj) (intKind_is _ _ _ _) ?_ ?_
  · rw [Gr.adjs, adjd_rows]
    exact I.adjOf hr
  · exact h h₂ _ (Ext.trans m m₂) I₂
theorem c_special {x C f : Addr} {ox : Obj} {od : Option Obj} {name : Str} {args : List Value} {Q : Option Value → Shared → Prop} {K : Frag} (X : K.In s.heap) (I : W.InstAt s.heap x ox C od)
    (hs : findIn K (.ref C) name = some (some (.ref f))) (hf : typeIn K (.ref f) = some (.type "function")) (h : wpC (model prog w) A (call (.ref f) (.ref x :: args)) (fun v => Q (some v)) E s) :
    wpC (model prog w) A (callSpecial? (.ref x) name args) Q E s := by
  unfold callSpecial? specialOf
  refine c_bindA (wpAny_bind (I.type.here ((looks_findIn X hs).here ?_)))
  exact c_holding (c_bindA ((bind_fn X _ hf).here (c_bind (h.mono (fun _ _ z => c_pure z) fun _ _ z => z))))
theorem sub_graph {value slice : Expr} (Z : Gl w s.heap) (I : GraphAt prog w s.heap G) (hroom : A.depth + 4 < recursionLimit) (hm : G.more.length ≤ 10) {r : Row} (hr : r ∈ G.rows) (t : Tok)
    (h : ∀ h' tk, Ext [G.gd] s.heap h' → GraphAt prog w h' G.adjd → Q (.ref r.b) { s with heap := h', toks := tk })
    (hsl : subscripted slice true (.ref G.g) (.int r.n t) = runValue (.builtin "lifetime.subscript" ⟨[.ref G.g, .int r.n t], []⟩) := by with_unfolding_all rfl) :
    wpC (model prog w) A (subscriptTail value slice (.ref G.g) (.int r.n t)) Q E s := by
  obtain ⟨od, J, _⟩ := I.instAt
  have hs : findIn (KH w) (.ref 617) "__getitem__" = some (some (.ref 419)) := by kernel_rfl
  unfold subscriptTail getitemInPython specialOf
  refine c_bindA (wpAny_bind (wpAny_bind (J.type.here ((looks_findIn Z.X hs).here ?_))))
  dsimp only
  refine wpAny_bind (wpAny_load (Z.X 419 _ rfl) (wpAny_pure ?_))
  dsimp only
  rw [hsl]
  refine c_bind (c_runValue (c_builtin entry_sub ?_))
  unfold Builtin.«lifetime.subscript»
  refine c_bind (c_special Z.X J hs (by kernel_rfl) ?_)
  refine sp_getitem Z I (show A.in1.depth + 4 < recursionLimit from hroom) hm hr t fun h' tk m I' => ?_
  refine c_pure ?_
  show wpC (model prog w) A (letTemporaryGo value (.ref G.g) _ >>= fun _ => pure _) Q E _
  exact c_bindA (wpAny_letTemporaryGo (c_pure (h h' tk m I')))
end
end Mine
end W6
section W7
open PySem PySem.W PyProof.Rows PySem.Calls PySem.Spec
set_option maxRecDepth 100000
set_option maxHeartbeats 8000000
namespace Mine
section
variable {prog : Program} {w : World} {A : Around} {E : Value → Shared → Prop} {s : Shared} {Q : Value → Shared → Prop}
abbrev cellsOf (scope : Scope) (L : Nat) : List (Str × Addr) := cellsFrom (L + 1) scope.names []
structure Cells (scope : Scope) (binds : List (Str × Value)) (L : Nat) (h h₁ : Heap) : Prop where
  ext : Ext [] h h₁
  loc : h.get? L = none
  ns : h₁.Ns L (bindL (fun n => scope.names.lookup n) binds fun _ => none)
  cell : ∀ n c, (cellsOf scope L).lookup n = some c → h₁.IsCell c (bindC (fun n => scope.names.lookup n) binds (fun _ => none) n)
  new : ∀ n c, (cellsOf scope L).lookup n = some c → h.get? c = none ∧ c ≠ L
  apart : (cellsOf scope L).Pairwise fun x y => x.2 ≠ y.2
  big : 709 ≤ L
  above : ∀ n c, (cellsOf scope L).lookup n = some c → L < c
theorem enterXC {f : Addr} {args : List Value} {kw : List (Str × Value)} {name qual : Str} {params : Arguments} {body : List Stmt} {scope : Scope} {dV kV doc pm cdv ct oc : Value} {an od : Option Addr} {osl : Array (Option Value)} {binds : List (Str × Value)}
    (G : Gl w s.heap) (hroom : A.depth < recursionLimit) (ho : (KH w).lookup f = some ⟨oc, od, .func (fnOf name qual params body scope dV kV doc pm an cdv ct), osl⟩) (hcd : codeIn (KH w) cdv qual = true)
    (hb : peek (KH w) ⟨prog, w.params⟩ (bindArgs (fnOf name qual params body scope dV kV doc pm an cdv ct) ⟨args, kw⟩) = some binds)
    (hloc : ∀ L, (binds.all fun y => match scope.names.lookup y.1 with | some .local => true | some .cell => ((cellsOf scope L).lookup y.1).isSome | _ => false) = true)
    (hfl : (scope.isCoroutine, scope.isGenerator) = (false, false)) (hk : scope.kind = .function)
    (h : ∀ L h₁ tk, Cells scope binds L s.heap h₁ →
      wpC (model prog w) (A.deeper (envX qual scope L f cdv (cellsOf scope L))) (execs body (envX qual scope L f cdv (cellsOf scope L))) (fun fl s' => Q (match fl with | .ret v => v | _ => .none) s')
        (fun e s' => wpAny (model prog w) (A.deeper (envX qual scope L f cdv (cellsOf scope L))) (leaving (envX qual scope L f cdv (cellsOf scope L)) e) (fun _ s'' => E e s'') (fun e' s'' => E e' s'') s') { s with heap := h₁, toks := tk }) :
    wpC (model prog w) A (call (.ref f) args kw) Q E s := by
  injection hfl with hco hgen
  have hkind : ∀ y ∈ binds, scope.names.lookup y.1 = some .local ∨ (scope.names.lookup y.1 = some .cell ∧ ((cellsFrom (s.heap.objs.size + 1) scope.names []).lookup y.1).isSome = true) := fun y hy => by
    have := List.all_eq_true.mp (hloc s.heap.objs.size) y hy
    split at this
    · exact .inl (by assumption)
    · exact .inr ⟨by assumption, this⟩
    · cases this
  refine c_call (c_tree ?_)
  show wpC _ A.in1 (callAny (.ref f) ⟨args, kw⟩) _ _ s
  simp only [callAny]
  obtain ⟨c, oc', vs, tq, hc, hoc, hdc, hq⟩ := codeRec_of G.X hcd
  refine c_bindA (wpAny_load (G.X _ _ ho) ?_)
  dsimp only
  simp only [callFunction, hco, hgen, fnOf, hc]
  refine c_bindA (m := field (.ref c) 1) (wpAny_field hoc hdc hq ?_)
  refine c_bind (c_pure ?_)
  subst hc
  refine c_bindA ((Looks.of_peek (M := model prog w) G.X hb).here ?_)
  refine c_bindA (wpAny_newFunctionEnv_cells hk hkind fun env he s' x => ?_)
  subst he
  have hx := x.toInCall
  obtain ⟨h₁, tk, rfl⟩ := hx.same
  refine c_bindA (wpAny_enterFrame (G.lim.keeps hx.keep) hroom (c_pure ⟨rfl, rfl, c_func (h _ h₁ tk ⟨Ext.of_keep hx.keep [], get?_size _, hx.ns, x.cell, fun n c hc => ?_, x.apart, G.big, fun n c hc => x.above n c (mem_of_lookup hc)⟩)⟩))
  have := x.above n c (mem_of_lookup hc)
  exact ⟨Heap.get?_none_of_le (Nat.le_of_lt this), Nat.ne_of_gt this⟩
theorem enterX {f : Addr} {args : List Value} {kw : List (Str × Value)} {name qual : Str} {params : Arguments} {body : List Stmt} {scope : Scope} {dV kV doc pm cdv ct oc : Value} {an od : Option Addr} {osl : Array (Option Value)} {binds : List (Str × Value)}
    (G : Gl w s.heap) (hroom : A.depth < recursionLimit) (ho : (KH w).lookup f = some ⟨oc, od, .func (fnOf name qual params body scope dV kV doc pm an cdv ct), osl⟩) (hcd : codeIn (KH w) cdv qual = true)
    (hb : peek (KH w) ⟨prog, w.params⟩ (bindArgs (fnOf name qual params body scope dV kV doc pm an cdv ct) ⟨args, kw⟩) = some binds)
    (hloc : ∀ L, (binds.all fun y => match scope.names.lookup y.1 with | some .local => true | some .cell => ((cellsOf scope L).lookup y.1).isSome | _ => false) = true)
    (hfl : (scope.isCoroutine, scope.isGenerator) = (false, false)) (hk : scope.kind = .function)
    (h : ∀ L h₁ tk, Cells scope binds L s.heap h₁ →
      wpAny (model prog w) (A.deeper (envX qual scope L f cdv (cellsOf scope L))) (execs body (envX qual scope L f cdv (cellsOf scope L))) (fun fl s' => Q (match fl with | .ret v => v | _ => .none) s') (fun _ _ => False) { s with heap := h₁, toks := tk }) :
    wpAny (model prog w) A (call (.ref f) args kw) Q E s := by
  injection hfl with hco hgen
  have hkind : ∀ y ∈ binds, scope.names.lookup y.1 = some .local ∨ (scope.names.lookup y.1 = some .cell ∧ ((cellsFrom (s.heap.objs.size + 1) scope.names []).lookup y.1).isSome = true) := fun y hy => by
    have := List.all_eq_true.mp (hloc s.heap.objs.size) y hy
    split at this
    · exact .inl (by assumption)
    · exact .inr ⟨by assumption, this⟩
    · cases this
  refine wpAny_call (codeAny_call_function (fd := fnOf name qual params body scope dV kV doc pm an cdv ct) hroom (G.X _ _ ho) rfl hco hgen rfl (codeRec_of G.X hcd) ?_)
  refine (Looks.of_peek (M := model prog w) G.X hb).here ?_
  refine wpAny_newFunctionEnv_cells hk hkind fun env he s' x => ?_
  subst he
  have hx := x.toInCall
  obtain ⟨h₁, tk, rfl⟩ := hx.same
  refine ⟨G.lim.keeps hx.keep, codeAny_func (wpAny_mono (h _ h₁ tk ⟨Ext.of_keep hx.keep [], get?_size _, hx.ns, x.cell, fun n c hc => ?_, x.apart, G.big, fun n c hc => x.above n c (mem_of_lookup hc)⟩) (fun _ _ x => x) fun _ _ x => x.elim)⟩
  have := x.above n c (mem_of_lookup hc)
  exact ⟨Heap.get?_none_of_le (Nat.le_of_lt this), Nat.ne_of_gt this⟩
end
end Mine
end W7
section W8
open PySem PySem.W PyProof.Rows PySem.Calls PySem.Spec
set_option maxRecDepth 100000
set_option maxHeartbeats 8000000
namespace Mine
section
variable {M : Model} {A : Around} {E : Value → Shared → Prop} {s : Shared} {env : Env}
theorem c_ListComp {elt target iter : Expr} {ifs : List Expr} {rest : List Comprehension} {scope : Scope} {pos : Pos} {cl : List (Str × Addr)} {Q : Value → Shared → Prop}
    (hclos : closureFor scope env = pure cl) (hkind : scope.kind = .function) (hnames : ∀ x ∈ scope.names, x.2 = .local → scope.names.lookup x.1 = some .local)
    (h : wpC M A (eval iter env) (fun x s₁ => wpAny M A (pyIter x) (fun it s₂ => wpAny M A (newList []) (fun acc s₃ => wpAny M A (newFunctionEnv scope env.globals cl [] env.qual none .none (some env)) (fun cenv s₄ =>
      codeC M A (.compStart (.ListComp elt (⟨target, iter, ifs, 0⟩ :: rest) scope pos) 0 it acc { cenv with scope := relabel scope env })
        (fun r s' => (∃ f, r = .ok f) ∧ ∃ m, s'.heap.Ns cenv.locals m ∧ ∀ h', Heap.SameBut cenv.locals s'.heap h' → Q acc { s' with heap := h' }) s₄) E s₃) E s₂) E s₁) E s)
    (hs : ∀ x, foldedSetIterable iter env x = pure x := by intro _; rfl) :
    wpC M A (eval (.ListComp elt (⟨target, iter, ifs, 0⟩ :: rest) scope pos) env) Q E s := by
  rw [eval_ListComp]
  unfold comprehension
  rw [hclos]
  refine c_bind (h.mono (fun x s₁ h₁ => ?_) fun _ _ y => y)
  refine c_stand ?_
  dsimp only [clausesOf, firstAsync]
  refine c_bind (c_eq (hs x) (c_pure ?_))
  refine c_bindA (wpAny_holding (wpAny_mono h₁ (fun it s₂ h₂ => ?_) fun _ _ y => y))
  dsimp only [Option.isSome]
  refine c_bindA (wpAny_mono h₂ (fun acc s₃ h₃ => ?_) fun _ _ y => y)
  refine c_bind (c_pure ?_)
  refine c_bindA (wpAny_mono h₃ (fun cenv s₄ h₄ => ?_) fun _ _ y => y)
  have hv : ∀ x ∈ (scope.names.filter fun x => (x.2 == .local || x.2 == .cell) && x.1 != (".0" : Str)).reverse, x.2 = .local →
      Env.kindOf { cenv with scope := relabel scope env } x.1 = some .local := fun x hx hl => lookup_relabel_local (hnames x (List.mem_filter.mp (List.mem_reverse.mp hx)).1 hl)
  refine c_holding (c_bind (c_attempt (c_holding (c_run (h₄.mono fun r s' hr => ?_)))))
  obtain ⟨⟨f, rfl⟩, m, hn, hr⟩ := hr
  exact c_bindA (wpAny_holding (wpAny_comp_letGo (cenv := { cenv with scope := relabel scope env }) hkind _ s' m hv hn fun h' m' _ hs' => c_pure (hr h' hs')))
end
section
variable {prog : Program} {w : World} {A : Around} {R : Result → Shared → Prop} {s : Shared}
theorem c_compStart {elt target iter ifs rest scope pos it acc env} (h0 : codeC (model prog w) A (.compLoop (.ListComp elt (⟨target, iter, ifs, 0⟩ :: rest) scope pos) 0 it acc env) R s)
    (h : wpAny (model prog w) A (pyIter it) (fun it' s' => codeC (model prog w) A (.compLoop (.ListComp elt (⟨target, iter, ifs, 0⟩ :: rest) scope pos) 0 it' acc env) R s') (fun _ _ => False) s) :
    codeC (model prog w) A (.compStart (.ListComp elt (⟨target, iter, ifs, 0⟩ :: rest) scope pos) 0 it acc env) R s := by
  refine c_tree ?_
  show wpC _ _ ((compStart (.ListComp elt (⟨target, iter, ifs, 0⟩ :: rest) scope pos) 0 it acc env).onRaise (fun x => do noteFrame x env; standAt theWindowsPlace)) _ _ s
  refine c_onRaise (wpC.mono (E := fun _ _ => False) ?_ (fun _ _ x => x) fun _ _ x => x.elim)
  unfold compStart
  show wpC _ _ (ask >>= _) _ _ s
  refine c_bindA (wpAny_askSetting ?_)
  split
  · first
      | exact c_bind (c_pure (c_pure ⟨rfl, rfl, h0⟩))
      | exact c_pure ⟨rfl, rfl, h0⟩
  · refine c_bindA (wpAny_rule ?_)
    show wpC _ _ (standAt iter.pos >>= _) _ _ s
    exact c_stand (c_bindA (wpAny_mono h (fun it' s' h' => c_pure ⟨rfl, rfl, h'⟩) fun _ _ x => x))
theorem c_compLoop {elt target iter : Expr} {scope : Scope} {pos : Pos} {it acc : Value} {env : Env} (I : Nat → Shared → Prop)
    (turn : ∀ n s, I n s → wpAny (model prog w) A (pyNext it) (fun r s₁ => match r with
      | none => R (.ok .next) s₁
      | some v => wpAny (model prog w) A (letOwnedTupleGo target it v) (fun _ s₁ => wpAny (model prog w) A (assign target env v) (fun _ s₂ => wpC (model prog w) A (eval elt env) (fun x s₃ =>
          wpAny (model prog w) A (call (.builtin "list.append") [acc, x]) (fun _ s₄ => ∃ m, m < n ∧ I m s₄) (fun _ _ => False) s₃) (fun _ _ => False) s₂) (fun _ _ => False) s₁) (fun _ _ => False) s₁) (fun _ _ => False) s)
    (n : Nat) (h : I n s) :
    codeC (model prog w) A (.compLoop (.ListComp elt [⟨target, iter, [], 0⟩] scope pos) 0 it acc env) R s := by
  refine c_loop rfl I (fun n s hI => ?_) n h
  show wpC _ _ ((compTurn (.ListComp elt [⟨target, iter, [], 0⟩] scope pos) 0 it acc env).onRaise (fun x => do noteFrame x env; theTreesLotGoes x)) _ _ s
  refine c_onRaise (wpC.mono (E := fun _ _ => False) ?_ (fun _ _ x => x) fun _ _ x => x.elim)
  rw [compTurn_list1]
  refine c_stand (c_bindA (wpAny_mono (turn n s hI) (fun r s₁ h₁ => ?_) fun _ _ x => x))
  cases r with
  | none => exact c_pure h₁
  | some v =>
    refine c_bindA (wpAny_mono h₁ (fun _ s₁ h₁ => ?_) fun _ _ x => x)
    exact c_bindA (wpAny_mono h₁ (fun _ s₂ h₂ => c_bind (c_bind (h₂.mono (fun x s₃ h₃ => c_bindA (wpAny_mono h₃ (fun _ s₄ h₄ => c_pure (c_pure (.inl ⟨rfl, h₄⟩))) fun _ _ x => x)) fun _ _ x => x))) fun _ _ x => x)
end
end Mine
end W8
section W9
open PySem PySem.W PyProof.Rows PySem.Calls PySem.Spec
set_option maxRecDepth 100000
set_option maxHeartbeats 8000000
namespace Mine
section
variable {prog : Program} {w : World} {A : Around} {s : Shared} {env : Env}
theorem comp_itrC {it acc : Value} {own dep Gs : List Nat} {tgt iter elt : Expr} {scope : Scope} {pos : Pos} {N : Nat} {P : Nat → Value → Heap → Prop} {St : Nat → Heap → Array GenState → Prop} {R : Result → Shared → Prop} (W : Itr prog w A it own dep Gs tgt N P St)
    (Inv : Nat → Heap → Array GenState → Prop)
    (step : ∀ i h g tk v h₁ g₁ fv, i < N → Inv i h g → Itm dep h (P i) v h₁ fv → St (i + 1) h₁ g₁ → Ext own h h₁ → GM Gs g g₁ →
      wpAny (model prog w) A (assign tgt env v) (fun _ s₂ => wpC (model prog w) A (eval elt env) (fun x s₃ => wpAny (model prog w) A (call (.builtin "list.append") [acc, x]) (fun _ s₄ => ∃ h' g' tk', s₄ = { s with heap := h', gens := g', toks := tk' } ∧ Inv (i + 1) h' g' ∧ St (i + 1) h' g')
        (fun _ _ => False) s₃) (fun _ _ => False) s₂) (fun _ _ => False) { s with heap := h₁, gens := g₁, toks := tk })
    (hR : ∀ h g tk h₁ g₁, Inv N h g → Ext own h h₁ → GM Gs g g₁ → R (.ok .next) { s with heap := h₁, gens := g₁, toks := tk })
    (st : St 0 s.heap s.gens) (inv : Inv 0 s.heap s.gens) :
    codeC (model prog w) A (.compLoop (.ListComp elt [⟨tgt, iter, [], 0⟩] scope pos) 0 it acc env) R s := by
  refine c_compLoop (fun n s' => ∃ i h g tk, s' = { s with heap := h, gens := g, toks := tk } ∧ i ≤ N ∧ n = N - i ∧ St i h g ∧ Inv i h g) ?_ N ⟨0, s.heap, s.gens, s.toks, rfl, Nat.zero_le _, rfl, st, inv⟩
  rintro n s' ⟨i, h, g, tk, rfl, hi, rfl, hst, hinv⟩
  rcases Nat.lt_or_ge i N with hlt | hge
  · refine wpAny_mono (W.next _ _ _ i hlt hst fun v h' g' tk' fv hP hst' he hg => step i h g tk' v h' g' fv hlt hinv hP hst' he hg) (fun r s₁ hr => ?_) fun _ _ x => x
    cases r with
    | none => exact hr.elim
    | some v =>
      refine wpAny_mono hr (fun _ s₁ hr => wpAny_mono hr (fun _ s₂ h₂ => h₂.mono (fun _ s₃ h₃ => wpAny_mono h₃ (fun f s₄ h₄ => ?_) fun _ _ x => x) fun _ _ x => x) fun _ _ x => x) fun _ _ x => x
      obtain ⟨h', g', tk', rfl, hinv', hst'⟩ := h₄
      exact ⟨N - (i + 1), by omega, i + 1, h', g', tk', rfl, hlt, rfl, hst', hinv'⟩
  · obtain rfl : i = N := Nat.le_antisymm hi hge
    refine wpAny_mono (W.done (fun _ _ => False) (fun s₁ => R (.ok .next) s₁) _ hst fun h' g' tk' he hg => hR h g tk' h' g' hinv he hg) (fun r s₁ hr => ?_) fun _ _ x => x
    cases r with
    | none => exact hr
    | some v => exact hr.elim
end
end Mine
end W9
section W11
open PySem PySem.W PyProof.Rows PySem.Calls PySem.Spec
set_option maxRecDepth 100000
set_option maxHeartbeats 8000000
namespace Mine
section
variable {prog : Program} {w : World} {A : Around} {E : Value → Shared → Prop} {s : Shared} {env : Env}
theorem comp_pre {scope : Scope} {cl : List (Str × Addr)} {T : Value → Env → Shared → Prop} (Z : Gl w s.heap) (hcell : ∀ y ∈ scope.names, y.2 ≠ .cell) (hkind : scope.kind = .function)
    (h : ∀ D C h' tk, New s.heap D → New s.heap C → D ≠ C → Ext [] s.heap h' → h'.get? D = some { cls := .type "list", data := .seq #[] 0 } → h'.Ns C (fun _ => none) → T (.ref D) (newEnv scope C env.globals cl env.qual none .none (some env) builtinsNs) { s with heap := h', toks := tk }) :
    wpAny (model prog w) A (newList []) (fun acc s₃ => wpAny (model prog w) A (newFunctionEnv scope env.globals cl [] env.qual none .none (some env)) (fun cenv s₄ => T acc cenv s₄) E s₃) E s := by
  refine wpAny_newObj_type (wpAny_newFunctionEnv hcell (by intro y hy; simp at hy) (fun h₁ hns₁ hsb₁ => ?_) hkind)
  dsimp only at hns₁ hsb₁ ⊢
  have hD : New s.heap s.heap.objs.size := New.pos Z
  have hsz : (s.heap.push { cls := .type "list", dict := none, data := .seq ([] : List Value).toArray }).objs.size = s.heap.objs.size + 1 := Heap.size_push ..
  have hC : New s.heap (s.heap.objs.size + 1) := ⟨Heap.get?_none_of_le (Nat.le_succ _), Nat.le_succ_of_le hD.2⟩
  rw [hsz] at hns₁ hsb₁ ⊢
  refine h _ (s.heap.objs.size + 1) h₁ _ hD hC (Nat.ne_of_lt (Nat.lt_succ_self _)) (fun b o _ e => ?_) ?_ hns₁
  · exact hsb₁.extBut b o (Nat.ne_of_lt (Nat.lt_succ_of_lt (Heap.lt_size e))) (Heap.get?_push_of_some _ (Heap.get?_push_of_some _ e))
  · exact hsb₁.extBut _ _ (Nat.ne_of_lt (Nat.lt_succ_self _)) (Heap.get?_push_of_some _ (Heap.get?_push_size _ rfl))
end
end Mine
end W11
section W12
open PySem PySem.W PyProof.Rows PySem.Calls PySem.Spec
set_option maxRecDepth 100000
set_option maxHeartbeats 8000000
namespace Mine
section
variable {prog : Program} {w : World} {A : Around} {E : Value → Shared → Prop} {s : Shared} {env : Env}
structure Ints (h : Heap) (S : Nat) (l : List Int) : Prop where
  is : ∃ acc c, h.get? S = some { cls := .type "list", data := .seq acc c } ∧ acc.size = l.length ∧ ∀ (j : Nat) (v : Value), acc[j]? = some v → ∃ t, v = Value.int (l[j]!) t
theorem lindex {S : Nat} {l : List Int} {a : Int} {t : Tok} {Q : Value → Shared → Prop} (x : Ints s.heap S l) (hn : l.Nodup) (ha : a ∈ l) (hz : l.length < 1000) (h : Q (.int (l.idxOf a) s.toks) { s with toks := s.toks + 1 }) :
    wpAny (model prog w) A (call (.builtin "list.index") [.ref S, .int a t]) Q E s := by
  obtain ⟨acc, c, hS, hsz, hv⟩ := x.is
  have hj : l.idxOf a < l.length := List.idxOf_lt_length_iff.mpr ha
  have hj' : l.idxOf a < acc.size := hsz ▸ hj
  have val : ∀ m (hm : m < acc.size), ∃ t, acc[m] = Value.int (l[m]'(hsz ▸ hm)) t := fun m hm => by
    obtain ⟨t, e⟩ := hv m _ (Array.getElem?_eq_getElem hm)
    exact ⟨t, by rw [e]; congr 1; exact getElem!_pos l m (hsz ▸ hm)⟩
  have eqg : ∀ y, y ∈ acc → PySem.MeetsSeq.EqGives y (.int a t) (match y with | .int b _ => b == a | _ => false) := fun y hy => by
    obtain ⟨m, hm, rfl⟩ := Array.mem_iff_getElem.mp hy
    obtain ⟨u, e⟩ := val m hm
    rw [e]
    exact PySem.MeetsSeq.EqGives.int _ _ _ _
  refine call_meets PySem.F.slot_list_index ⟨_, hS, rfl⟩ PySem.F.entry_list_index (PySem.F.args_list_index_2 _ _) (PySem.MeetsSeq.list_index S acc c (.int a t) _ eqg (l.idxOf a) hj' ?_ ?_ ?_) ⟨hS, h⟩
  · have : (l.idxOf a : Int) < 1000 := by omega
    have h2 : (1000 : Int) ≤ 2 ^ 63 - 1 := by decide
    omega
  · obtain ⟨u, e⟩ := val _ hj'
    rw [e]
    simp [List.getElem_idxOf]
  · intro m hm hlt
    obtain ⟨u, e⟩ := val m hm
    rw [e]
    have hlt' : m < l.findIdx (· == a) := hlt
    have := List.not_of_lt_findIdx hlt'
    simpa using this
end
end Mine
end W12
section W13
open PySem PySem.W PyProof.Rows PySem.Calls PySem.Spec
set_option maxRecDepth 100000
set_option maxHeartbeats 8000000
namespace Mine
theorem paired_get {α β : Type} {F : α → β → Prop} : ∀ {l₁ : List α} {l₂ : List β}, Paired F l₁ l₂ → ∀ {j : Nat} {y : β}, l₂[j]? = some y → ∃ v, l₁[j]? = some v ∧ F v y
  | _, _, .nil, j, y, h => by simp at h
  | _, _, .cons f t, 0, y, h => by
    simp at h; subst h; exact ⟨_, rfl, f⟩
  | _, _, .cons f t, j + 1, y, h => by
    simp only [List.getElem?_cons_succ] at h ⊢
    exact paired_get t h
section
variable {prog : Program} {w : World} {A : Around} {E : Value → Shared → Prop} {s : Shared} {env : Env}
theorem c_ListComp_walk {elt iter : Expr} {x : Str} {px : Pos} {ifs : List Expr} {scope : Scope} {cl : List (Str × Addr)} {pos : Pos} {Q : Value → Shared → Prop} (p : Value → Bool) (F : Value → Value → Prop)
    (hclos : closureFor scope env = pure cl) (hcell : ∀ y ∈ scope.names, y.2 ≠ .cell) (hkind : scope.kind = .function)
    (hnames : ∀ y ∈ scope.names, y.2 = .local → scope.names.lookup y.1 = some .local) (hx : scope.names.lookup x = some .local)
    (h : wpC (model prog w) A (eval iter env) (fun xv s₁ => wpAny (model prog w) A (pyIter xv) (fun it s₂ => ∃ I fp wr n P St, it = .ref I ∧ Walks prog w A I fp wr n P St ∧ n ≤ sizeLine ∧ St 0 s₂.heap ∧ (∀ b ∈ fp, b < s₂.heap.objs.size) ∧
      QuietOnC prog w A env scope cl x ifs elt wr P p F s₂ ∧
      (∀ D h' tk ys (vs : List Value), s₂.heap.get? D = none → h'.PlainList D ys → vs.length = n → (∀ j v, vs[j]? = some v → P j v) → Paired F (vs.filter p) ys.toList →
        Ext wr s₂.heap h' → Q (.ref D) { s₂ with heap := h', toks := tk })) E s₁) E s)
    (hs : ∀ x, foldedSetIterable iter env x = pure x := by intro _; rfl) :
    wpC (model prog w) A (eval (.ListComp elt [⟨.Name x px, iter, ifs, 0⟩] scope pos) env) Q E s := by
  refine c_ListComp hclos hkind hnames (h.mono (fun xv s₁ h₁ => wpAny_mono h₁ (fun it s₂ h₂ => ?_) fun _ _ e => e) fun _ _ e => e) hs
  obtain ⟨I, fp, wr, n, P, St, rfl, W, hsz, hst, hfp, hq, hQ⟩ := h₂
  refine wpAny_mono (comp_block_walkC (RR := fun acc C r s' => (∃ f, r = .ok f) ∧ ∃ m, s'.heap.Ns C m ∧ ∀ h', Heap.SameBut C s'.heap h' → Q acc { s' with heap := h' }) W hsz p F hcell hkind hx hst hfp hq ?_) (fun acc s₃ h₃ => wpAny_mono h₃ (fun cenv s₄ h₄ => toCC h₄) fun _ _ e => e) fun _ _ e => e
  intro D C h' tk m' ys vs hD hC hDC hn hl hpl hlen hP hF hk
  refine ⟨⟨_, rfl⟩, m', hn, fun h'' hs'' => hQ D h'' tk ys vs hD (hpl.extBut hs''.extBut hDC) hlen hP hF fun b o hbf e => hs''.extBut b o (by rintro rfl; rw [hC] at e; cases e) (hk b o hbf e)⟩
end
end Mine
end W13
section W10
open PySem PySem.W PyProof.Rows PySem.Calls PySem.Spec
set_option maxRecDepth 100000
set_option maxHeartbeats 8000000
namespace Mine
section
variable {prog : Program} {w : World} {A : Around} {E : Value → Shared → Prop} {s : Shared} {G : Gr} {Q : Value → Shared → Prop}
def Gr.out (G : Gr) : List (List Int) := G.rows.map fun r => r.es.map fun e => ((G.ids.idxOf e.1 : Nat) : Int)
structure RowsAt (h : Heap) (R : Nat) (fv : List Nat) (ls : List (List Int)) : Prop where
  top : R ∈ fv
  is : ∃ acc c, h.get? R = some { cls := .type "list", data := .seq acc c } ∧ acc.size = ls.length ∧ ∀ (j : Nat) (v : Value), acc[j]? = some v → ∃ S, S ∈ fv ∧ v = .ref S ∧ Ints h S (ls[j]!)
theorem Ints.at {h h' : Heap} {S : Nat} {l : List Int} (x : Ints h S l) (e : ∀ o, h.get? S = some o → h'.get? S = some o) : Ints h' S l :=
  let ⟨acc, c, a, r⟩ := x.is; ⟨acc, c, e _ a, r⟩
theorem Ints.ext {h h' : Heap} {F : List Nat} {S : Nat} {l : List Int} (x : Ints h S l) (e : Ext F h h') (n : S ∉ F) : Ints h' S l := x.at fun _ q => e _ _ n q
theorem RowsAt.ext {h h' : Heap} {F fv : List Nat} {R : Nat} {ls : List (List Int)} (x : RowsAt h R fv ls) (e : Ext F h h') (n : ∀ a ∈ fv, a ∉ F) : RowsAt h' R fv ls where
  top := x.top
  is := let ⟨acc, c, a, b, d⟩ := x.is; ⟨acc, c, e _ _ (n _ x.top) a, b, fun j v q => let ⟨S, m, e', i⟩ := d j v q; ⟨S, m, e', i.ext e (n _ m)⟩⟩
theorem sp_law_rows (Z : Gl w s.heap) (I : GraphAt prog w s.heap G) (J : Gi G) (hroom : A.depth + 6 < recursionLimit) (hh : A.handled = none) (hm : G.more.length ≤ 9) (hz : G.rows.length < 1000)
    (h : ∀ h' g' tk G' R fv, (G' = G ∨ G' = G.adjd) → Ext [G.gd] s.heap h' → GM [] s.gens g' → GraphAt prog w h' G' → RowsAt h' R fv G.out → (∀ a ∈ fv, s.heap.get? a = none) → Q (.ref R) { s with heap := h', gens := g', toks := tk }) :
    wpC (model prog w) A (call (.ref 688) [.ref G.g]) Q E s := by
  refine enterXC Z (by omega) (by rfl) (by kernel_rfl) (binds := [("graph", .ref G.g)]) (by kernel_rfl) (by intro L; rfl) (by rfl) (by rfl) ?_
  intro L h₁ tk C
  have Z₁ := Z.k C.ext
  have I₁ := I.k C.ext
  have cg : h₁.IsCell (L + 1) (some (.ref G.g)) := C.cell "graph" (L + 1) (by rfl)
  have cn : h₁.IsCell (L + 1 + 1) none := C.cell "nodes" (L + 1 + 1) (by rfl)
  refine c_cons <| c_Assign_Name <| toC <| Call_ <| nmB Z₁ (by kernel_rfl) (by rfl) boot_list (by decide) <| cwT <| wpAny_items_cons <| nmC cg (by rfl) (by rfl) <| wpAny_items_nil <| sp_list_graph Z₁ I₁ (by show A.depth + 1 + 1 < _; omega) hh hz fun h₂ g₂ tk₂ S acc c e₂ eg₂ nS hS hl hv => ?_
  refine stC (cn.keeps e₂.keep) (by rfl) (by rfl) fun h₃ cn₃ s₃ => ?_
  have cg₃ : h₃.IsCell (L + 1) (some (.ref G.g)) := (cg.keeps e₂.keep).sameBut s₃ (Nat.ne_of_lt (Nat.lt_succ_self (L + 1)))
  have e₃ : Ext [] s.heap h₃ := Ext.loc (C.ext.app e₂) (C.new "nodes" (L + 1 + 1) (by rfl)).1 s₃
  have Z₃ := Z.k e₃
  have I₃ := I.k e₃
  refine c_cons <| c_Return <| c_ListComp (cl := [("nodes", L + 1 + 1), ("graph", L + 1)]) (by rfl) (by rfl) (by decide) ?_
  obtain ⟨ocn, hocn, _⟩ := cn
  replace nS : New h₁ S := nS
  replace s₃ : Heap.SameBut (L + 1 + 1) h₂ h₃ := s₃
  replace e₂ : Ext [] h₁ h₂ := e₂
  replace eg₂ : GM [] s.gens g₂ := eg₂
  have hS₃ : h₃.get? S = some { cls := .type "list", data := .seq acc c } := s₃.extBut _ _ (nS.ne hocn) hS
  have IS : Ints h₃ S G.ids := ⟨acc, c, hS₃, by rw [hl]; simp [Gr.ids], hv⟩
  refine toC <| nmC cn₃ (by rfl) (by rfl) ?_
  refine wpAny_pyIter_list (items := acc) ⟨_, hS₃, rfl, _, rfl⟩ ?_
  generalize hh₄ : h₃.push _ = h₄
  have e₄ : Ext [] h₃ h₄ := hh₄ ▸ Ext.push _ _
  have nI : New h₃ h₃.objs.size := New.pos (s := { s with heap := h₃ }) Z₃
  have hI₄ : h₄.IsListIter h₃.objs.size S 0 := hh₄ ▸ ⟨_, Heap.get?_push_size _ rfl, rfl, rfl⟩
  generalize h₃.objs.size = It at nI hI₄ ⊢
  have Z₄ := Z₃.k e₄
  have I₄ := I₃.k e₄
  refine comp_pre Z₄ (by decide) (by rfl) fun D Cl h₅ tk₅ nD nC nDC e₅ hD₅ hC₅ => ?_
  replace nD : New h₄ D := nD
  replace nC : New h₄ Cl := nC
  replace e₅ : Ext [] h₄ h₅ := e₅
  have Z₅ := Z₄.k e₅
  have I₅ := I₄.k e₅
  have eb : Ext [] s.heap h₅ := (e₃.app e₄).app e₅
  have cg₅ := cg₃.keeps (e₄.app e₅).keep
  have cn₅ := cn₃.keeps (e₄.app e₅).keep
  have IS₅ := (IS.ext e₄ (fun q => nomatch q)).ext e₅ (fun q => nomatch q)
  have hI₅ : h₅.IsListIter It S 0 := hI₄.at fun o e => e₅.keep _ _ e
  have lS₅ : h₅.IsList S acc := ⟨_, e₅.keep _ _ (e₄.keep _ _ hS₃), rfl, _, rfl⟩
  have ItS : S ≠ It := fun q => (nI.ne (h := h₃) hS₃) q.symm
  refine (fun x => c_compStart x (wpAny_pyIter_listiter hI₅ x)) ?_
  have liveG : ∀ a ∈ G.all, ∃ o, h₃.get? a = some o := fun a ha => I₃.live (List.mem_append.mp ha)
  have new3 : ∀ a ∈ ([D, Cl, It] : List Nat), h₃.get? a = none := fun a ha => by
    simp only [List.mem_cons, List.not_mem_nil, or_false] at ha
    rcases ha with rfl | rfl | rfl
    · exact dead e₄.keep nD.1
    · exact dead e₄.keep nC.1
    · exact nI.1
  have offn : ∀ a o, h₃.get? a = some o → a ∉ ([D, Cl, It] : List Nat) := fun a o e q => nomatch (new3 a q).symm.trans e
  have offg : ∀ a o, h₃.get? a = some o → a ≠ G.gd → a ∉ ([G.gd, D, Cl, It] : List Nat) := fun a o e n q => (List.mem_cons.mp q).elim n (offn a o e)
  have gdl : G.gd ∈ G.all := List.mem_append_left _ (Gr.muts_iff.mpr (.inl rfl))
  obtain ⟨og, hog⟩ := liveG _ gdl
  have ngd : ∀ a, s.heap.get? a = none → a ≠ G.gd := fun a e q => I.all_new e (q ▸ gdl)
  obtain ⟨ocg, hocg, dcg⟩ := cg₃
  obtain ⟨ocn₃, hocn₃, dcn⟩ := cn₃
  have fcg := offg _ _ hocg (ngd _ (C.new "graph" (L + 1) (by rfl)).1)
  have fcn := offg _ _ hocn₃ (ngd _ (C.new "nodes" (L + 1 + 1) (by rfl)).1)
  have fS := offg _ _ hS₃ (ngd _ (dead C.ext.keep nS.1))
  have CIt : Cl ≠ It := by obtain ⟨o, ho, _⟩ := hI₄; exact nC.ne ho
  have DIt : D ≠ It := by obtain ⟨o, ho, _⟩ := hI₄; exact nD.ne ho
  let Inv : Nat → Heap → Array GenState → Prop := fun i h g => ∃ (G' : Gr) (m : Str → Option Value) (ys : Array Value) (c : Nat) (fv : List Nat), (G' = G ∨ G' = G.adjd) ∧ Ext [G.gd, D, Cl, It] h₅ h ∧ GM [] g₂ g ∧ GraphAt prog w h G' ∧ h.Ns Cl m ∧ h.get? D = some { cls := .type "list", data := .seq ys c } ∧ ys.size = i ∧
    (∀ a ∈ fv, h₅.get? a = none ∧ a ∉ ([G.gd, D, Cl, It] : List Nat)) ∧ ∀ (j : Nat) (v : Value), ys[j]? = some v → ∃ R, R ∈ fv ∧ v = .ref R ∧ Ints h R (G.out[j]!)
  have W : ∀ (B : Around) (x : Str) (p : Pos), B.handled = none → Itr prog w B (.ref It) [It] [It, S] [] (.Name x p) acc.size (fun i v _ => acc[i]? = some v) (fun i h _ => h.IsListIter It S i ∧ h.IsList S acc) := fun B x p hb =>
    Itr.ofWalks (Walks.list hb It S ItS acc) (fun i h st b hb => by rw [List.mem_singleton.mp hb]; obtain ⟨o, ho, _⟩ := st.1; exact ⟨o, ho⟩) x p
  refine comp_itrC (W _ _ _ hh) Inv ?_ ?_ ⟨hI₅, lS₅⟩ ⟨G, _, #[], 0, [], .inl rfl, Ext.of_keep (fun _ _ e => e) _, .refl _, I₅, hC₅, hD₅, rfl, (fun _ h => nomatch h), fun j v q => by simp at q⟩
  · rintro i h g tk v h₆ g₆ fv' hi ⟨G', m, ys, c', fv, hG', eI, gI, I₆, nC₆, hD₆, hys, hfv, hrow⟩ itm st₆ eo eg
    have hga : G'.all = G.all := by rcases hG' with rfl | rfl <;> simp [adjd_all]
    have hgr : G'.rows = G.rows := by rcases hG' with rfl | rfl <;> simp [adjd_rows]
    have hgg : G'.g = G.g := by rcases hG' with rfl | rfl <;> simp [adjd_g]
    have hgd : G'.gd = G.gd := by rcases hG' with rfl | rfl <;> simp [adjd_gd]
    have hgm : G'.more.length ≤ 10 := by
      rcases hG' with rfl | rfl
      · omega
      · have := adjd_more (G := G); omega
    have hgo : G'.adjd = G.adjd := by
      rcases hG' with rfl | rfl
      · rfl
      · exact adjd_adjd
    have eo' : Ext [G.gd, D, Cl, It] h h₆ := eo.mono fun a ha => by rw [List.mem_singleton.mp ha]; simp
    have eI₆ := eI.app eo'
    have I₆' : GraphAt prog w h₆ G' := I₆.to eo fun a ha q => by
      obtain ⟨o, ho⟩ := liveG a (hga ▸ ha)
      exact offn a o ho (by rw [List.mem_singleton.mp q]; simp)
    have n₆ : h₆.Ns Cl m := nC₆.at' fun o e => eo _ _ (fun q => CIt (List.mem_singleton.mp q)) e
    refine wpAny_assign_Name (stL n₆ (by rfl) fun h₇ n₇ s₇ => ?_)
    replace s₇ : Heap.SameBut Cl h₆ h₇ := s₇
    have e₇ : Ext [Cl] h₆ h₇ := Ext.of_same s₇
    have eI₇ : Ext [G.gd, D, Cl, It] h₅ h₇ := eI₆.app (e₇.mono fun a ha => by rw [List.mem_singleton.mp ha]; simp)
    have I₇ : GraphAt prog w h₇ G' := I₆'.to e₇ fun a ha q => by
      obtain ⟨o, ho⟩ := liveG a (hga ▸ ha)
      exact offn a o ho (by rw [List.mem_singleton.mp q]; simp)
    have Z₇ : Gl w h₇ := Z₅.ext eI₇ (by
      intro a ha
      simp only [List.mem_cons, List.not_mem_nil, or_false] at ha
      rcases ha with rfl | rfl | rfl | rfl
      · exact I.own _ gdl
      · exact nD.2
      · exact nC.2
      · exact nI.2)
    have cg₇ : h₇.IsCell (L + 1) (some (.ref G.g)) := ⟨ocg, eI₇ _ _ fcg (e₅.keep _ _ (e₄.keep _ _ hocg)), dcg⟩
    have cn₇ : h₇.IsCell (L + 1 + 1) (some (.ref S)) := ⟨ocn₃, eI₇ _ _ fcn (e₅.keep _ _ (e₄.keep _ _ hocn₃)), dcn⟩
    have IS₇ := IS₅.ext eI₇ fS
    have hi' : i < G'.rows.length := by rw [hgr, ← hl]; exact hi
    obtain ⟨t₁, rfl⟩ := hv i v (itm.is _ fun _ _ _ e => e)
    have hrn : G.ids[i]! = (G'.rows[i]).n := by
      have : i < G.ids.length := by simp [Gr.ids, ← hl]; exact hi
      rw [getElem!_pos G.ids i this]
      simp [Gr.ids, hgr]
    rw [hrn] at n₇
    have hr : G'.rows[i] ∈ G'.rows := List.getElem_mem hi'
    generalize hrr : G'.rows[i] = r at hr n₇
    rw [← hgg] at cg₇
    refine c_ListComp_walk (cl := [("nodes", L + 1 + 1)]) (fun _ => true) (fun v y => ∀ k t, v = .int k t → ∃ t', y = .int (G.ids.idxOf k) t') (by rfl) (by decide) (by rfl) (by decide) (by rfl) ?_
    refine c_Subscript <| toC <| nmC cg₇ (by rfl) (by rfl) <| nmL n₇ (by rfl) rfl <| sub_graph Z₇ I₇ (by show A.depth + 1 + 4 < _; omega) hgm hr t₁ fun h₈ tk₈ m₈ I₈ => ?_
    replace m₈ : Ext [G'.gd] h₇ h₈ := m₈
    rw [hgd] at m₈
    have hr₈ : r ∈ G'.adjd.rows := by rw [adjd_rows]; exact hr
    have hnb := I₈.nbr r hr₈
    obtain ⟨ep, hat⟩ := hnb.dictAt
    refine wpAny_pyIter_dict (I₈.lo (mem_b hr₈)) hat ?_
    generalize hh₉ : h₈.push _ = h₉
    have e₉ : Ext [] h₈ h₉ := hh₉ ▸ Ext.push _ _
    have Z₈ : Gl w h₈ := Z₇.ext m₈ (by intro a ha; rw [List.mem_singleton.mp ha]; exact I.own _ gdl)
    have nK : New h₈ h₈.objs.size := New.pos (s := { s with heap := h₈ }) Z₈
    have hK₉ : h₉.IsKeyIter h₈.objs.size r.b 0 r.nbrs.length ep := hh₉ ▸ ⟨_, Heap.get?_push_size _ rfl, rfl, rfl⟩
    generalize h₈.objs.size = K at nK hK₉ ⊢
    have Jb : r.b ≠ K := by obtain ⟨o, ho⟩ := dictLive hnb; exact fun q => nK.ne ho q.symm
    have eI₈ : Ext [G.gd, D, Cl, It] h₅ h₈ := eI₇.app (m₈.mono fun a ha => by rw [List.mem_singleton.mp ha]; simp)
    have eI₉ : Ext [G.gd, D, Cl, It] h₅ h₉ := eI₈.app (Ext.of_keep e₉.keep _)
    have cn₉ : h₉.IsCell (L + 1 + 1) (some (.ref S)) := ⟨ocn₃, eI₉ _ _ fcn (e₅.keep _ _ (e₄.keep _ _ hocn₃)), dcn⟩
    have IS₉ := IS₅.ext eI₉ fS
    have lt₉ : ∀ b ∈ ([K, r.b] : List Nat), b < h₉.objs.size := fun b hb => by
      simp only [List.mem_cons, List.not_mem_nil, or_false] at hb
      rcases hb with rfl | rfl
      · obtain ⟨o, ho, _⟩ := hK₉; exact Heap.lt_size ho
      · obtain ⟨o, ho⟩ := dictLive hnb; exact Heap.lt_size (e₉.keep _ _ ho)
    have WJ : ∀ B : Around, B.handled = none → Walks prog w B K [K, r.b] [K] r.nbrs.length (fun i v => ∃ k x, r.nbrs[i]? = some (k, x) ∧ (intKind prog w).is k v = true) (fun i h => h.IsKeyIter K r.b i r.nbrs.length ep ∧ h.DictAt (intKind prog w) r.b r.nbrs ep) := fun B hb => Walks.dictKeys hb K r.b Jb r.nbrs ep
    have JS : S ∉ ([K] : List Nat) := fun q => nK.ne (eI₈ _ _ fS (e₅.keep _ _ (e₄.keep _ _ hS₃))) (List.mem_singleton.mp q).symm
    have Jn : L + 1 + 1 ∉ ([K] : List Nat) := fun q => nK.ne (eI₈ _ _ fcn (e₅.keep _ _ (e₄.keep _ _ hocn₃))) (List.mem_singleton.mp q).symm
    have hrs : ∀ e ∈ r.es, e.1 ∈ G.ids := J.keys r (hgr ▸ hr)
    have idn : G.ids.Nodup := I.ns
    have idl : G.ids.length < 1000 := by simpa [Gr.ids] using hz
    refine ⟨K, _, _, _, _, _, rfl, WJ _ hh, ?_, ⟨hK₉, hat.at' fun _ e => e₉.keep _ _ e⟩, lt₉, ⟨?_, ?_⟩, ?_⟩
    · have := I₈.short (J := (by rcases hG' with rfl | rfl <;> first | exact adjd_gi J | exact adjd_gi (adjd_gi J))) hr₈
      show r.nbrs.length ≤ 2 ^ 24
      simp only [Row.nbrs, List.length_map]
      omega
    · intro C i v s₃ m₃ E' _ _ _ _ _ _
      exact wpAny_tests_nil ⟨rfl, _, _, rfl, fun _ _ e => e⟩
    · intro C i v s₃ m₃ E' _ hP _ hn₃ hm₃ hk₃ _
      obtain ⟨k, x, hkx, hkv⟩ := hP
      have hkv' : v.isInt k = true := hkv
      obtain ⟨tv, rfl⟩ := Value.isInt_shape hkv'
      have hke : k ∈ G.ids := by
        have := List.mem_of_getElem? hkx
        obtain ⟨e, he, q⟩ := List.mem_map.mp this
        cases q
        exact hrs e he
      have IS₁ : Ints s₃.heap S G.ids := IS₉.at fun o e => hk₃ _ o JS e
      have cn₁ : s₃.heap.IsCell (L + 1 + 1) (some (.ref S)) := let ⟨o, a, b⟩ := cn₉; ⟨o, hk₃ _ o Jn a, b⟩
      obtain ⟨acS, cS, hSS, _⟩ := IS₁.is
      refine MethodCall_ <| nmC cn₁ (by rfl) (by rfl) <| gmB hSS rfl rfl PySem.F.plainAttrs_list PySem.F.slot_list_index PySem.F.type_list_index <| cwB <| wpAny_items_cons <| nmL hn₃ (by rfl) hm₃ <| wpAny_items_nil <| lindex IS₁ idn hke idl ⟨fun k' t' q => ?_, _, _, rfl, fun _ _ e => e⟩
      cases q
      exact ⟨_, rfl⟩
    · intro R h' tk' ys' vs hR hpl hlen hP hF e'
      have K5 : K ∈ ([G.gd, D, Cl, It] : List Nat) ∨ h₅.get? K = none := by
        cases q : h₅.get? K with
        | none => exact .inr rfl
        | some o =>
          by_cases m : K ∈ ([G.gd, D, Cl, It] : List Nat)
          · exact .inl m
          · exact absurd rfl (nK.ne (eI₈ _ _ m q))
      have eI' : Ext [G.gd, D, Cl, It] h₅ h' := eI₉.app' e' fun b hb => by rw [List.mem_singleton.mp hb]; exact K5
      have offK : ∀ a o, h₈.get? a = some o → a ∉ ([K] : List Nat) := fun a o q m => nK.ne q (List.mem_singleton.mp m).symm
      have DCl : D ∉ ([Cl] : List Nat) := fun q => nDC (List.mem_singleton.mp q)
      have gdD : ∀ a ∈ ([D, Cl, It] : List Nat), a ∉ ([G.gd] : List Nat) := fun a ha q => offn _ _ hog (List.mem_singleton.mp q ▸ ha)
      have D₆ : h₆.get? D = some { cls := .type "list", data := .seq ys c' } := eo _ _ (fun q => DIt (List.mem_singleton.mp q)) hD₆
      have D₈ : h₈.get? D = some { cls := .type "list", data := .seq ys c' } := m₈ _ _ (gdD _ (by simp)) (e₇ _ _ DCl D₆)
      have hD₇ : h'.PlainList D ys := ⟨c', e' _ _ (offK _ _ D₈) (e₉.keep _ _ D₈)⟩
      obtain ⟨oC, hoC⟩ := nsLive n₇
      have C₈ : h₈.get? Cl = some oC := m₈ _ _ (gdD _ (by simp)) hoC
      obtain ⟨⟨oI, hoI, hoI'⟩, lS₆⟩ := st₆
      have ItC : It ∉ ([Cl] : List Nat) := fun q => CIt (List.mem_singleton.mp q).symm
      have It₈ : h₈.get? It = some oI := m₈ _ _ (gdD _ (by simp)) (e₇ _ _ ItC hoI)
      obtain ⟨og₈, hog₈⟩ := I₈.live (a := G.gd) (List.mem_append.mp (by show G.gd ∈ G'.adjd.all; rw [adjd_all, hga]; exact gdl))
      have RFo : R ∉ ([G.gd, D, Cl, It] : List Nat) := fun q => by
        simp only [List.mem_cons, List.not_mem_nil, or_false] at q
        rcases q with rfl | rfl | rfl | rfl
        · exact nomatch hR.symm.trans (e₉.keep _ _ hog₈)
        · exact nomatch hR.symm.trans (e₉.keep _ _ D₈)
        · exact nomatch hR.symm.trans (e₉.keep _ _ C₈)
        · exact nomatch hR.symm.trans (e₉.keep _ _ It₈)
      have R5 : h₅.get? R = none := by
        cases q : h₅.get? R with
        | none => rfl
        | some o => exact nomatch hR.symm.trans (eI₉ _ _ RFo q)
      have rowR : Ints h' R (G.out[i]!) := by
        have hoi : G.out[i]! = r.es.map fun e => ((G.ids.idxOf e.1 : Nat) : Int) := by
          have : i < G.out.length := by simp [Gr.out, ← hl]; exact hi
          rw [getElem!_pos G.out i this, ← hrr]
          simp [Gr.out, hgr]
        obtain ⟨cR, hcR⟩ := hpl
        have fl : vs.filter (fun _ => true) = vs := List.filter_eq_self.mpr fun _ _ => rfl
        rw [fl] at hF
        have hsz : ys'.size = r.es.length := by
          have := hF.length
          simp only [Array.length_toList] at this
          rw [← this, hlen]
          simp [Row.nbrs]
        refine ⟨ys', cR, hcR, by rw [hoi, hsz]; simp, fun j y hy => ?_⟩
        obtain ⟨v, hv', hFv⟩ := paired_get hF (by rw [Array.getElem?_toList]; exact hy)
        obtain ⟨k, x, hkx, hkv⟩ := hP j v hv'
        have hkv' : v.isInt k = true := hkv
        obtain ⟨tv, rfl⟩ := Value.isInt_shape hkv'
        obtain ⟨t', rfl⟩ := hFv k tv rfl
        refine ⟨t', ?_⟩
        congr 1
        have hj : r.es[j]?.map (·.1) = some k := by
          have := congrArg (Option.map (·.1)) hkx
          simpa [Row.nbrs, List.getElem?_map, Option.map_map, Function.comp_def] using this
        rw [hoi, List.getElem!_eq_getElem?_getD, List.getElem?_map]
        cases q : r.es[j]? with
        | none => rw [q] at hj; cases hj
        | some e => rw [q] at hj; cases hj; rfl
      have I₉' : GraphAt prog w h' G.adjd := by
        rw [← hgo]
        exact (I₈.k e₉).to e' fun a ha => by
          obtain ⟨o, ho⟩ := I₈.live (List.mem_append.mp ha)
          exact offK a o ho
      refine wpAny_list_append_plain (hsz := by show ys.size ≤ 2 ^ 24; omega) hD₇ fun h'' hl'' s'' => ?_
      replace s'' : Heap.SameBut D h' h'' := s''
      have e'' : Ext [D] h' h'' := Ext.of_same s''
      obtain ⟨cD, hcD⟩ := hl''
      have up : ∀ a o, a ≠ D → h₈.get? a = some o → h''.get? a = some o := fun a o n q => s''.extBut a o n (e' _ _ (offK a o q) (e₉.keep _ _ q))
      have nsC : h''.Ns Cl _ := n₇.at' fun o e => up Cl o (Ne.symm nDC) (m₈ _ _ (gdD _ (by simp)) e)
      have eh₈ : Ext [G.gd, D, Cl, It] h h₈ := (eo'.app (e₇.mono fun a ha => by rw [List.mem_singleton.mp ha]; simp)).app (m₈.mono fun a ha => by rw [List.mem_singleton.mp ha]; simp)
      have upF : ∀ a o, a ∉ ([G.gd, D, Cl, It] : List Nat) → h.get? a = some o → h''.get? a = some o := fun a o n q => up a o (fun q' => n (by rw [q']; simp)) (eh₈ a o n q)
      refine ⟨h'', g₆, tk', rfl, ⟨G.adjd, _, ys.push (.ref R), cD, R :: fv, .inr rfl, ?_, gI.trans eg, ?_, nsC, hcD, ?_, ?_, ?_⟩, ?_⟩
      · exact eI'.app (e''.mono fun a ha => by rw [List.mem_singleton.mp ha]; simp)
      · exact I₉'.to e'' fun a ha q => by
          rw [adjd_all] at ha
          obtain ⟨o, ho⟩ := liveG a ha
          exact offn a o ho (by rw [List.mem_singleton.mp q]; simp)
      · rw [Array.size_push, hys]
      · intro a ha
        rcases List.mem_cons.mp ha with rfl | ha
        · exact ⟨R5, RFo⟩
        · exact hfv a ha
      · intro j v hv'
        rw [Array.getElem?_push] at hv'
        split at hv'
        · rename_i q
          cases hv'
          refine ⟨R, .head _, rfl, ?_⟩
          rw [q, hys]
          exact rowR.at fun o e => s''.extBut _ _ (fun q' => RFo (by rw [q']; simp)) e
        · obtain ⟨R', m', rfl, x⟩ := hrow j v hv'
          exact ⟨R', .tail _ m', rfl, x.at fun o e => upF _ _ (hfv R' m').2 e⟩
      · refine ⟨⟨oI, up It oI (Ne.symm DIt) It₈, hoI'⟩, ?_⟩
        obtain ⟨oS, hoS, q⟩ := lS₅
        exact ⟨oS, s''.extBut _ _ (fun q' => fS (by rw [q']; simp)) (eI' _ _ fS hoS), q⟩
  · intro h' g tk h₁' g₁' hI eo eg
    obtain ⟨G', m, ys, c', fv, hG', eI, gI, I₆, nC₆, hD₆, hys, hfv, hrow⟩ := hI
    have hga : G'.all = G.all := by rcases hG' with rfl | rfl <;> simp [adjd_all]
    refine ⟨⟨_, rfl⟩, m, nC₆.at' fun o e => eo _ _ (fun q => CIt (List.mem_singleton.mp q)) e, fun h₂' s₂' => ?_⟩
    replace s₂' : Heap.SameBut Cl h₁' h₂' := s₂'
    have e₂' : Ext [Cl] h₁' h₂' := Ext.of_same s₂'
    have ee : Ext [It, Cl] h' h₂' := (eo.mono fun a ha => by rw [List.mem_singleton.mp ha]; simp).app (e₂'.mono fun a ha => by rw [List.mem_singleton.mp ha]; simp)
    have sub : ∀ a ∈ ([It, Cl] : List Nat), a ∈ ([D, Cl, It] : List Nat) := fun a ha => by
      simp only [List.mem_cons, List.not_mem_nil, or_false] at ha ⊢
      rcases ha with rfl | rfl <;> simp
    have dead5 : ∀ a, h₅.get? a = none → s.heap.get? a = none := fun a q => dead eb.keep q
    refine h h₂' g₁' _ G' D (D :: fv) hG' ?_ ((eg₂.trans gI).trans eg) ?_ ⟨.head _, ys, c', ?_, ?_, ?_⟩ ?_
    · have : Ext [G.gd, D, Cl, It] s.heap h₂' := (Ext.of_keep eb.keep _).app (eI.app (ee.mono fun a ha => .tail _ (sub a ha)))
      refine this.shed fun a ha => ?_
      rcases List.mem_cons.mp ha with rfl | ha
      · exact .inl (.head _)
      · exact .inr (dead e₃.keep (new3 a ha))
    · exact I₆.to ee fun a ha q => by
        rw [hga] at ha
        obtain ⟨o, ho⟩ := liveG a ha
        exact offn a o ho (sub a q)
    · exact ee _ _ (by simp; exact ⟨DIt, nDC⟩) hD₆
    · rw [hys, hl]; simp [Gr.out]
    · intro j v q
      obtain ⟨R, m', rfl, x⟩ := hrow j v q
      exact ⟨R, .tail _ m', rfl, x.ext ee fun q => (hfv R m').2 (.tail _ (sub R q))⟩
    · intro a ha
      rcases List.mem_cons.mp ha with rfl | ha
      · exact dead e₃.keep (dead e₄.keep nD.1)
      · exact dead5 a (hfv a ha).1
end
end Mine
end W10
section W14
open PySem PySem.W PyProof.Rows PySem.Calls PySem.Spec
set_option maxRecDepth 100000
set_option maxHeartbeats 8000000
namespace Mine
theorem entry_hasattr : entryFor table "hasattr" = some Builtin.«hasattr» := entryFor_of_fast (by kernel_rfl)
theorem args_hasattr (a b : Value) : argsOk "hasattr" ⟨[a, b], []⟩ := by unfold argsOk; kernel_rfl
section
variable {prog : Program} {w : World} {A : Around} {E : Value → Shared → Prop} {s : Shared} {env : Env} {G : Gr} {Q : Value → Shared → Prop}
theorem hasattr_no {name : Str} {t : Tok} (Z : Gl w s.heap) (I : GraphAt prog w s.heap G) (hh : A.handled = none) (hf : ∀ od, (∀ n, lookIn n od = some (valueAt G.attrs n)) → findObj (KH w) 617 (some od) name = some .missing)
    (hn : name.length ≤ 100)
    (h : ∀ h' tk, Ext [] s.heap h' → Q (.bool false) { s with heap := h', toks := tk }) : wpAny (model prog w) A (call (.builtin "hasattr") [.ref G.g, .str name t]) Q E s := by
  obtain ⟨od, J, hl⟩ := I.instAt
  refine call_function_entry (by decide +kernel) (by decide +kernel) entry_hasattr (args_hasattr _ _) ?_
  unfold Builtin.«hasattr»
  refine wpAny_bind (m := someArgs "hasattr" 2 2 _) (wpAny_of_eq (a := [Value.ref G.g, .str name t]) (by first | rfl | kernel_rfl!) ?_)
  dsimp only
  obtain ⟨hp, gg, d, tk, os⟩ := s
  have L0 := J.type (M := model prog w)
  have L1 : Looks (model prog w) hp (isInstance (.ref G.g) (.type "module")) false := J.type.andThen (looks_subIn Z.X (by kernel_rfl))
  iterate 27 lk
  have X : (KH w).In hp := Z.X
  have L2 := looks_findIn (M := model prog w) X (show findIn (KH w) (.ref 617) "__getattribute__" = some (some (.builtin "object.__getattribute__")) by kernel_rfl)
  have L3 := looks_find (M := model prog w) X J (hf od hl)
  have L4 := looks_findIn (M := model prog w) X (show findIn (KH w) (.ref 617) "__getattr__" = some none by kernel_rfl)
  unfold getAttrBy?
  refine wpAny_bind (wpAny_attempt ?_)
  unfold getAttrBy
  refine wpAny_holding (wpAny_bind (L0.at (wpAny_bind (L2.at ?_))))
  show wpAny _ _ (getAttrEveryday _ _ _) _ _ _
  unfold getAttrEveryday
  refine wpAny_bind (wpAny_onRaise (wpAny_runValue (codeAny_builtin PySem.F.plainObj_entry_getattr_hooked ?_)))
  unfold Builtin.«proto.getattr_hooked»
  dsimp only
  refine wpAny_bind (wpAny_pure (wpAny_bind (L0.at (wpAny_bind (L3.at ?_)))))
  refine wpAny_bind (L4.at ?_)
  obtain ⟨cd, hcd, hcn⟩ : ∃ cd, clsIn (KH w) 617 = some cd ∧ cd.name = "Graph" := by
    have : (clsIn (KH w) 617).map (·.name) = some "Graph" := by kernel_rfl
    obtain ⟨cd, a, b⟩ := Option.map_eq_some_iff.mp this
    exact ⟨cd, a, b⟩
  have L5 := looks_clsIn (M := model prog w) X hcd
  unfold Builtin.ObjectAttr.missingOrHook
  dsimp only
  unfold Builtin.ObjectAttr.noSuchAttribute typeNameOfCut shownTypeOf
  refine wpAny_bind (wpAny_bind (wpAny_bind (L0.at ?_)))
  have ne : ((Value.ref 617) == (Value.type "builtin_function_or_method")) = false := by decide
  rw [ne]
  refine wpAny_pure ?_
  unfold typeNameCut
  dsimp only
  refine wpAny_bind (L5.at ?_)
  rw [hcn]
  rw [if_pos (show ("Graph" : Str).cps.foldl (fun k c => k + (Str.utf8Of c).length) 0 ≤ 100 by decide +kernel)]
  refine wpAny_pure ?_
  refine wpAny_raiseAttrError (hh : A.in1.in1.handled = none) (fun h' tk' e hx => ?_) (attrMsg_fits (by decide +kernel) (by
    have : sizeLine = 2 ^ 24 := rfl
    omega))
  refine wpAny_of_eq (a := ()) rfl ?_
  obtain ⟨t', u', he⟩ := hx.there
  have Le : Looks (model prog w) h' (typeOf (.ref e)) (.type "AttributeError") := (Looks.ld he).andThen .now
  refine wpAny_bind (wpAny_bind (Le.at ?_))
  refine wpAny_of_eq sub_AttributeError ?_
  refine wpAny_pure ?_
  dsimp only
  refine wpAny_pure ⟨_, rfl, h h' tk' (Ext.of_keep hx.keeps [])⟩
end
end Mine
end W14
section W15
open PySem PySem.W PyProof.Rows PySem.Calls PySem.Spec
set_option maxRecDepth 100000
set_option maxHeartbeats 8000000
namespace Mine
section
variable {prog : Program} {w : World} {A : Around} {E : Value → Shared → Prop} {s : Shared} {env : Env} {G : Gr} {Q : Value → Shared → Prop}
theorem enterCo {R : Result → Shared → Prop} {f : Addr} {args : List Value} {kw : List (Str × Value)} {name qual : Str} {params : Arguments} {body : List Stmt} {scope : Scope} {dV kV doc pm cdv ct oc : Value} {an od : Option Addr} {osl : Array (Option Value)} {binds : List (Str × Value)}
    (G : Gl w s.heap) (hroom : A.depth < recursionLimit) (ho : (KH w).lookup f = some ⟨oc, od, .func (fnOf name qual params body scope dV kV doc pm an cdv ct), osl⟩) (hcd : codeIn (KH w) cdv qual = true)
    (hb : peek (KH w) ⟨prog, w.params⟩ (bindArgs (fnOf name qual params body scope dV kV doc pm an cdv ct) ⟨args, kw⟩) = some binds)
    (hcell : (scope.names.all fun y => match y.2 with | .cell => false | _ => true) = true) (hloc : (binds.all fun y => match scope.names.lookup y.1 with | some .local => true | _ => false) = true)
    (hfl : (scope.isCoroutine, scope.isGenerator) = (false, false)) (hk : scope.kind = .function)
    (h : ∀ L h₁ tk, Ext [] s.heap h₁ → s.heap.get? L = none → h₁.Ns L (fun y => binds.reverse.lookup y) →
      wpAny (model prog w) (A.deeper (envX qual scope L f cdv [])) (execs body (envX qual scope L f cdv [])) (fun fl s' => R (.ok (.ret (match fl with | .ret v => v | _ => .none))) s') (fun _ _ => False) { s with heap := h₁, toks := tk }) :
    codeAny (model prog w) A (.call (.ref f) ⟨args, kw⟩) R s := by
  injection hfl with hco hgen
  have hcell' : ∀ y ∈ scope.names, y.2 ≠ .cell := fun y hy e => by
    have := List.all_eq_true.mp hcell y hy
    rw [e] at this; cases this
  have hloc' : ∀ y ∈ binds, scope.names.lookup y.1 = some .local := fun y hy => by
    have := List.all_eq_true.mp hloc y hy
    split at this
    · assumption
    · cases this
  refine (codeAny_call_function (fd := fnOf name qual params body scope dV kV doc pm an cdv ct) hroom (G.X _ _ ho) rfl hco hgen rfl (codeRec_of G.X hcd) ?_)
  refine (Looks.of_peek (M := model prog w) G.X hb).here ?_
  refine wpAny_newFunctionEnv hcell' hloc' (fun h₀ hns₀ hsb₀ => ⟨G.lim.fresh _ hsb₀, codeAny_func (wpAny_mono (h _ h₀ _ (Ext.of_keep (fun b o e => ?_) []) (get?_size _) hns₀) (fun _ _ x => x) fun _ _ x => x.elim)⟩) hk
  exact hsb₀.extBut b o (Nat.ne_of_lt (Heap.lt_size e)) (Heap.get?_push_of_some _ e)
def preMiss (K : Frag) (C : Addr) (name : Str) : Bool := match clsIn K C with
  | some cd => cd.hasDict && (match findIn K (.ref C) name with | some none => true | _ => false) && !copiedNames.contains name
  | none => false
theorem findObj_miss {K : Frag} {C : Addr} {name : Str} {od : Obj} (hp : preMiss K C name = true) (hl : lookIn name od = some none) : findObj K C (some od) name = some .missing := by
  unfold preMiss at hp
  split at hp
  · rename_i cd hc
    obtain ⟨hp, hcp⟩ := Bool.and_eq_true_iff.mp hp
    obtain ⟨hd, hp⟩ := Bool.and_eq_true_iff.mp hp
    have ho : PySem.W.ownOf cd (some od) name = some none := by unfold PySem.W.ownOf; rw [if_pos hd]; exact hl
    have hcp' : name ∉ copiedNames := by simpa using hcp
    unfold findObj
    rw [hc, Option.bind_some]
    split at hp
    · rename_i e
      rw [e]
      simp [ho, hcp']
    · cases hp
  · cases hp
theorem no_succ (od : Obj) (hl : ∀ n, lookIn n od = some (valueAt G.attrs n)) (hm : ∀ kv ∈ G.more, kv.1 ≠ "succ") : findObj (KH w) 617 (some od) "succ" = some .missing := by
  have hv : valueAt G.attrs "succ" = none := by
    rw [attrs_more (by decide)]
    exact valueAt_none' fun q => by obtain ⟨kv, hk, e⟩ := List.mem_map.mp q; exact hm kv hk e
  exact findObj_miss (by kernel_rfl) (by rw [hl, hv])
theorem sp_ev_init {x dx : Nat} {R : Result → Shared → Prop} (Z : Gl w s.heap) (I : IB prog w s.heap 277 x dx []) (IG : GraphAt prog w s.heap G) (hroom : A.depth + 1 < recursionLimit) (hh : A.handled = none) (dxn : dx ∉ G.all)
    (h : ∀ h' tk, Ext [dx] s.heap h' → h'.DictOf (strKind prog w) dx [("_adjdict", .ref G.ad)] → R (.ok (.ret .none)) { s with heap := h', toks := tk }) :
    codeAny (model prog w) A (.call (.ref 195) ⟨[.ref x, .ref G.g], []⟩) R s := by
  refine enterCo Z (Nat.lt_of_succ_lt hroom) (by rfl) (by kernel_rfl) (binds := [("self", .ref x), ("G", .ref G.g)]) (by kernel_rfl) (by kernel_rfl) (by kernel_rfl) (by rfl) (by rfl) ?_
  intro L h₁ tk m hL n
  have Z₁ := Z.k m
  have I₁ := I.k m
  have IG₁ := IG.k m
  refine wpAny_execs_cons <| plainObj_wpAny_Assign_Attribute <| wpAny_IfExp <| wpAny_isTrue_value <| Call_ <| nmB Z₁ (by kernel_rfl) (by rfl) boot_hasattr (by decide) <| cwB <| wpAny_items_cons <| nmL n rfl rfl <| wpAny_items_cons <| wpAny_Constant_str <| wpAny_items_nil <| hasattr_no Z₁ IG₁ hh (fun od hl => no_succ od hl ?_) (by decide) fun h₂ tk₂ e₂ => wpAny_truthy_bool ?_
  · intro kv hk
    rcases IG.more kv hk with q | q
    · rw [q.1]; decide
    · rw [q.1]; decide
  replace e₂ : Ext [] h₁ h₂ := e₂
  have Z₂ := Z₁.k e₂
  have I₂ := I₁.k e₂
  simp only [Bool.false_eq_true, if_false]
  refine gA (n.keeps e₂.keep) Z₂ (IG₁.k e₂) (.ref G.ad) fun t => nmL (n.keeps e₂.keep) rfl rfl <| set_own Z₂ I₂.inst I₂.dict (by simp) (by decide) (by kernel_rfl) (by kernel_rfl) (by kernel_rfl) (by kernel_rfl) fun h₃ t₃ s₃ hd₃ => wpAny_execs_nil ?_
  exact h h₃ t₃ (Ext.trans (m.app e₂) (Ext.of_same s₃)) hd₃
theorem sp_EdgeView (Z : Gl w s.heap) (IG : GraphAt prog w s.heap G) (hroom : A.depth + 2 < recursionLimit) (hh : A.handled = none)
    (h : ∀ h' tk ev dv, Ext [] s.heap h' → New s.heap ev → New s.heap dv → h'.get? ev = some (instObj 277 dv) → h'.DictOf (strKind prog w) dv [("_adjdict", .ref G.ad)] → Q (.ref ev) { s with heap := h', toks := tk }) : wpAny (model prog w) A (call (.ref 277) [.ref G.g]) Q E s := by
  obtain ⟨hp, g, dr, t, os⟩ := s
  refine wpAny_call (make_core (init := .ref 195) (makes_of Z.X (by kernel_rfl)) (looks_findIn Z.X (by kernel_rfl)) (fun self => bind_fn Z.X self (by kernel_rfl)) (.inl rfl) ?_)
  have k₁ : ∀ b o, hp.get? b = some o → ((hp.push emptyDict).push (instObj 277 hp.objs.size)).get? b = some o := fun b o e => Heap.get?_push_of_some _ (Heap.get?_push_of_some _ e)
  have dead₂ : ∀ {c}, hp.objs.size ≤ c → hp.get? c = none := fun {c} q => by
    cases z : hp.get? c with
    | none => rfl
    | some o => exact absurd (Heap.lt_size z) (Nat.not_lt.mpr q)
  have hxa : ((hp.push emptyDict).push (instObj 277 hp.objs.size)).get? (hp.objs.size + 1) = some (instObj 277 hp.objs.size) := by
    have := Heap.get?_push_size (hp.push emptyDict) (o := instObj 277 hp.objs.size) rfl
    rw [Heap.size_push] at this
    exact this
  have hda : ((hp.push emptyDict).push (instObj 277 hp.objs.size)).get? hp.objs.size = some emptyDict := Heap.get?_push_of_some _ (Heap.get?_push_size hp rfl)
  have Zb : 709 ≤ hp.objs.size := Z.big
  have IG' := IG.keep k₁
  have dxn : hp.objs.size ∉ G.all := fun q => IG.all_new (get?_size hp) q
  refine sp_ev_init (s := ⟨(hp.push emptyDict).push (instObj 277 hp.objs.size), g, dr, t, os⟩) (Z.keep k₁) ⟨hxa, dictOf_empty hda⟩ IG' (by show A.depth + 1 + 1 < recursionLimit; omega) hh dxn fun h' tk e hd => ?_
  refine ⟨rfl, ?_⟩
  refine h h' tk _ _ ?_ ⟨dead₂ (Nat.le_succ _), Nat.le_succ_of_le Zb⟩ ⟨get?_size _, Zb⟩ (e _ _ (by simp) hxa) hd
  exact (Ext.of_keep k₁ []).app' e fun b hb => .inr (by rw [List.mem_singleton.mp hb]; exact get?_size _)
theorem sp_edges_func (Z : Gl w s.heap) (IG : GraphAt prog w s.heap G) (hroom : A.depth + 3 < recursionLimit) (hh : A.handled = none)
    (h : ∀ h' tk ev dv, Ext [] s.heap h' → New s.heap ev → New s.heap dv → h'.get? ev = some (instObj 277 dv) → h'.DictOf (strKind prog w) dv [("_adjdict", .ref G.ad)] → Q (.ref ev) { s with heap := h', toks := tk }) : wpAny (model prog w) A (call (.ref 527) [.ref G.g]) Q E s := by
  refine enter' Z (by omega) (by rfl) (by kernel_rfl) (binds := [("self", .ref G.g)]) (by kernel_rfl) (by kernel_rfl) (by kernel_rfl) (by rfl) (by rfl) ?_
  intro L h₁ tk m hL n
  exact wpAny_execs_cons <| wpAny_Return_some <| Call_ <| nmG (Z.k m) (v := .ref 277) (by kernel_rfl) (by rfl) <| cwF (by kernel_rfl) <| wpAny_items_cons <| nmL n rfl rfl <| wpAny_items_nil ⟨Z.k m, sp_EdgeView (Z.k m) (IG.k m) (by show A.depth + 1 + 2 < _; omega) hh fun h' tk' ev dv e n1 n2 a b => h h' tk' ev dv (m.app e) (n1.back m.keep) (n2.back m.keep) a b⟩
end
end Mine
end W15
section W16
open PySem PySem.W PyProof.Rows PySem.Calls PySem.Spec
set_option maxRecDepth 100000
set_option maxHeartbeats 8000000
namespace Mine
section
variable {prog : Program} {w : World} {A : Around} {E : Value → Shared → Prop} {s : Shared} {env : Env} {G : Gr} {Q : Value → Shared → Prop}
theorem c_method_usual {K : Frag} {x C : Addr} {ox : Obj} {od : Option Obj} {name : Str} {pl : Sem Bool} {Q : Value × List Value → Shared → Prop} {r : Option Value} (X : K.In s.heap) (I : W.InstAt s.heap x ox C od) (hga : findIn K (.ref C) "__getattribute__" = some (some (.builtin "object.__getattribute__"))) (hk : findIn K (.ref C) "__getattr__" = some none)
    (hf : findIn K (.ref C) name = some r) (ht : r.all (fun a => (typeIn K a).any fun t => t != .type "function" && t != .type "method_descriptor" && t != .type "wrapper_descriptor") = true)
    (h : wpC (model prog w) A (getAttr (.ref x) name) (fun v => Q (v, [])) E s) : wpC (model prog w) A (getMethod (.ref x) name pl) Q E s := by
  have hcan := PySem.F.canon_object_ga
  have u : wpC (model prog w) A (do return (← getAttr (.ref x) name, ([] : List Value))) Q E s := c_bind (h.mono (fun _ _ z => c_pure z) fun _ _ z => z)
  unfold getMethod specialOf
  refine c_bindA (wpAny_bind (I.type.here ((looks_findIn X hga).here ?_)))
  dsimp only
  rw [hcan, if_neg (by decide)]
  refine c_bindA (wpAny_bind (I.type.here ((looks_findIn X hk).here ?_)))
  refine c_bindA (wpAny_bind (I.type.here ((looks_findIn X hf).here ?_)))
  cases r with
  | none => exact u
  | some a =>
    obtain ⟨t, a1, a2⟩ := any_some ht
    refine c_bindA ((looks_typeIn X a1).here ?_)
    rw [if_pos a2]; exact u
theorem c_MethodCall {o : Expr} {name : Str} {apos pos : Pos} {args : List Expr} {pl : Sem Bool} {Q : Value → Shared → Prop}
    (h : wpAny (model prog w) A (eval o env) (fun ov s₁ => wpC (model prog w) A (getMethod ov name pl) (fun fx s₂ => wpAny (model prog w) A (callWith pos fx.1 fx.2 (backTo pos (starEach args env)) []) Q E s₂) E s₁) E s)
    (he : eval (.Call (.Attribute o name apos) args [] pos) env = (do
      let ov ← eval o env
      standAt apos.atName
      let (f, first) ← holding [ov] (getMethod ov name pl)
      callWith pos f first (backTo pos (starEach args env)) []) := by rfl) :
    wpC (model prog w) A (eval (.Call (.Attribute o name apos) args [] pos) env) Q E s := by
  rw [he]
  exact c_bindA (wpAny_mono h (fun ov s₁ h₁ => c_stand (c_bind (c_holding (h₁.mono (fun fx s₂ h₂ => toC h₂) fun _ _ x => x)))) fun _ _ x => x)
theorem edges_val (I : GraphAt prog w s.heap G) {v : Value} (e : valueAt G.attrs "edges" = some v) : ∃ ev dv, v = .ref ev ∧ s.heap.get? ev = some (instObj 277 dv) ∧ s.heap.DictOf (strKind prog w) dv [("_adjdict", .ref G.ad)] ∧ ev ∈ G.vs ∧ dv ∈ G.vs := by
  rw [attrs_more (by decide)] at e
  rcases I.more _ (valueAt_memS e) with q | q
  · exact absurd q.1 (show ¬ (("edges" : Str) = "adj") by decide)
  · obtain ⟨ev, dv, a, b, c, d, f⟩ := q.2
    exact ⟨ev, dv, a, b, c, d, f⟩
def Gr.evd (G : Gr) (ev dv : Nat) : Gr := { G with more := G.more ++ [(("edges" : Str), Value.ref ev)], vs := G.vs ++ [ev, dv] }
theorem get_edges {pl : Sem Bool} {Q : Value × List Value → Shared → Prop} (Z : Gl w s.heap) (I : GraphAt prog w s.heap G) (hroom : A.depth + 4 < recursionLimit) (hh : A.handled = none) (hm : G.more.length ≤ 10)
    (h : ∀ h' tk G' ev dv, (G' = G ∨ G' = G.evd ev dv ∧ New s.heap ev ∧ New s.heap dv) → Ext [G.gd] s.heap h' → GraphAt prog w h' G' → h'.get? ev = some (instObj 277 dv) → h'.DictOf (strKind prog w) dv [("_adjdict", .ref G.ad)] → ev ∈ G'.vs → dv ∈ G'.vs → valueAt G'.attrs "edges" = some (.ref ev) →
      Q (.ref ev, []) { s with heap := h', toks := tk }) :
    wpC (model prog w) A (getMethod (.ref G.g) "edges" pl) Q E s := by
  obtain ⟨od, J₀, hl⟩ := I.instAt
  refine c_method_usual Z.X J₀ (by kernel_rfl) (by kernel_rfl) (r := some (.ref 529)) (by kernel_rfl) (by kernel_rfl) ?_
  cases hv : valueAt G.attrs "edges" with
  | some v =>
    obtain ⟨ev, dv, rfl, a, b, c, d⟩ := edges_val I hv
    exact toC (ga_get Z I (by kernel_rfl) hv rfl (h s.heap _ G ev dv (.inl rfl) (fun _ _ _ e => e) I a b c d hv))
  | none =>
    refine get_bindC (g := .ref 309) (a := .ref 529) Z.X J₀ (by kernel_rfl) (findObj_bindg (by kernel_rfl) (by rw [hl, hv])) (by kernel_rfl) ?_
    refine cached_get (s := { s with toks := s.toks + 1 }) (P := fun v fv hp => ∃ ev dv, v = .ref ev ∧ fv = [ev, dv] ∧ 709 ≤ ev ∧ 709 ≤ dv ∧ hp.get? ev = some (instObj 277 dv) ∧ hp.DictOf (strKind prog w) dv [("_adjdict", .ref G.ad)]) (cp_edges w) ?_ (by kernel_rfl) Z I (by show A.depth + 2 < _; omega) (valueAt_not hv) (by simp only [Gr.attrs, List.length_cons]; omega) ?_ ?_
    · rintro F v fv h₁ h₂ ⟨ev, dv, rfl, rfl, b1, b2, a, b⟩ e n
      exact ⟨ev, dv, rfl, rfl, b1, b2, e _ _ (n _ (by simp)) a, DictOf.ext b e (n _ (by simp))⟩
    · intro B h' tk Q' E' hB hBh Z' I' k
      replace hB : B.depth ≤ A.depth + 1 := hB
      replace hBh : B.handled = A.handled := hBh
      exact sp_edges_func Z' I' (by omega) (hBh.trans hh) fun h'' tk' ev dv m n1 n2 a b => k h'' tk' _ [ev, dv] m ⟨ev, dv, rfl, rfl, n1.2, n2.2, a, b⟩ (fun q hq => by
        simp only [List.mem_cons, List.not_mem_nil, or_false] at hq
        rcases hq with rfl | rfl
        · exact n1.1
        · exact n2.1)
    · rintro h' tk v fv m ⟨ev, dv, rfl, rfl, b1, b2, a, b⟩ dd r
      replace m : Ext [G.gd] s.heap h' := m
      show wpAny _ _ (handedOut _) _ _ _
      rw [handedOut_of rfl]
      have n1 : New s.heap ev := ⟨dd ev (by simp), b1⟩
      have n2 : New s.heap dv := ⟨dd dv (by simp), b2⟩
      have r' : RawD prog w h' G.gd (G.evd ev dv).attrs := r
      refine wpAny_pure (h h' tk (G.evd ev dv) ev dv (.inr ⟨rfl, n1, n2⟩) m (I.ownTo (more' := (G.evd ev dv).more) (vs' := (G.evd ev dv).vs) m r' (fun kv hk => ?_) fun q hq => ?_) a b (by simp [Gr.evd]) (by simp [Gr.evd]) ?_)
      · rcases List.mem_append.mp hk with hk | hk
        · rcases (I.more kv hk).gd I m with q | q
          · exact .inl q
          · obtain ⟨q0, ev', dv', q1, q2, q3, q4, q5⟩ := q
            exact .inr ⟨q0, ev', dv', q1, q2, q3, List.mem_append_left _ q4, List.mem_append_left _ q5⟩
        · obtain rfl := List.mem_singleton.mp hk
          exact .inr ⟨rfl, ev, dv, rfl, a, b, by simp [Gr.evd], by simp [Gr.evd]⟩
      · rcases List.mem_append.mp hq with hq | hq
        · have hf := Gr.fixed_iff.mpr (.inr (.inr (.inl hq)))
          exact ⟨let ⟨o, ho⟩ := I.vsl q hq; ⟨o, m _ _ (fun q' => I.fix q hf (List.mem_singleton.mp q' ▸ Gr.muts_iff.mpr (.inl rfl))) ho⟩, I.fix q hf, I.own q (List.mem_append_right _ hf)⟩
        · simp only [List.mem_cons, List.not_mem_nil, or_false] at hq
          rcases hq with rfl | rfl
          · exact ⟨⟨_, a⟩, fun q' => I.all_new n1.1 (List.mem_append_left _ q'), b1⟩
          · exact ⟨dictLive b, fun q' => I.all_new n2.1 (List.mem_append_left _ q'), b2⟩
      · show valueAt (G.evd ev dv).attrs "edges" = _
        rw [attrs_more (by decide)] at hv ⊢
        exact valueAt_append hv
end
end Mine
end W16
section W17
open PySem PySem.W PyProof.Rows PySem.Calls PySem.Spec
set_option maxRecDepth 100000
set_option maxHeartbeats 8000000
namespace Mine
section
variable {prog : Program} {w : World} {A : Around} {E : Value → Shared → Prop} {s : Shared} {env : Env} {G : Gr} {Q : Value → Shared → Prop}
theorem call_inst {f x C dx : Nat} {args : List Value} {Q : Value → Shared → Prop} (Z : Gl w s.heap) (hx : s.heap.get? x = some (instObj C dx)) (hs : findIn (KH w) (.ref C) "__call__" = some (some (.ref f))) (hf : typeIn (KH w) (.ref f) = some (.type "function")) (hfn : fnIn (KH w) f = true)
    (h : codeAny (model prog w) A (.call (.ref f) ⟨.ref x :: args, []⟩) (fun r s' => match r with | .ok (.ret v) => Q v s' | .ok _ => False | .error e => E e s') s) : wpAny (model prog w) A (call (.ref x) args) Q E s := by
  refine wpAny_call (codeAny_of_tree ?_)
  show wpAny _ _ (callAny (.ref x) _) _ _ _
  unfold callAny
  dsimp only
  refine wpAny_bind (wpAny_load hx ?_)
  show wpAny _ _ (callAny.viaDunder (.ref x) _) _ _ _
  unfold callAny.viaDunder specialOf
  have Lt : Looks (model prog w) s.heap (typeOf (.ref x)) (.ref C) := (Looks.ld hx).andThen .now
  refine wpAny_bind (wpAny_bind (Lt.here ((looks_findIn Z.X hs).here ?_)))
  dsimp only
  refine wpAny_bind ((bind_fn Z.X _ hf).here ?_)
  obtain ⟨oc, od, fd, sl, ho⟩ : ∃ oc od fd sl, (KH w).lookup f = some ⟨oc, od, .func fd, sl⟩ := by
    unfold fnIn at hfn
    split at hfn
    · rename_i e; exact ⟨_, _, _, _, e⟩
    · cases hfn
  dsimp only
  unfold callAny.plainCallee
  refine wpAny_bind (wpAny_bind (wpAny_load (Z.X _ _ ho) (wpAny_pure ?_)))
  rw [if_pos rfl]
  exact wpAny_pure ⟨rfl, h⟩
theorem cwI0 {f x C dx : Nat} {pos : Pos} {Q : Value → Shared → Prop} (hx : s.heap.get? x = some (instObj C dx)) (h : wpAny (model prog w) A (call (.ref x) []) Q E s) :
    wpAny (model prog w) A (callWith pos (.ref x) [] (backTo pos (starEach [] env)) []) Q E s := by
  unfold callWith
  refine wpAny_bind (wpAny_holding (PySem.evalArgs_none (wpAny_bind (wpAny_standAt ?_))))
  have Lk : Looks (model prog w) s.heap (keeperOf (.ref x)) .caller := (Looks.ld (part := none) hx).andThen .now
  refine wpAny_bind (Lk.here ?_)
  exact wpAny_bind (wpAny_operate' (wpAny_mono h (fun r s' hr => wpAny_bind (wpAny_holding (wpAny_point (wpAny_pure hr)))) fun _ _ x => x))
theorem sp_ev_call {x dx : Nat} (Z : Gl w s.heap) (hx : s.heap.get? x = some (instObj 277 dx)) (hroom : A.depth < recursionLimit)
    (h : ∀ h' tk, Ext [] s.heap h' → Q (.ref x) { s with heap := h', toks := tk }) : wpAny (model prog w) A (call (.ref x) []) Q E s := by
  refine call_inst (f := 239) Z hx (by kernel_rfl) (by kernel_rfl) (by kernel_rfl) ?_
  refine enterCo Z hroom (by rfl) (by kernel_rfl) (binds := [("self", .ref x), ("nbunch", .none), ("data", .bool false), ("default", .none)]) (by kernel_rfl) (by kernel_rfl) (by kernel_rfl) (by rfl) (by rfl) ?_
  intro L h₁ tk m hL n
  refine wpAny_execs_cons <| wpAny_If <| wpAny_isTrue_BoolOp <| wpAny_allTrue_And_cons <| wpAny_isTrue_Compare1 <| nmL n rfl rfl <| wpAny_Constant_none <| wpAny_is_self (by rfl) <| wpAny_truthy_bool ?_
  simp only [if_true]
  refine wpAny_allTrue_And_cons <| wpAny_isTrue_Compare1 <| nmL n rfl rfl <| wpAny_Constant_bool <| wpAny_is_self (by rfl) <| wpAny_truthy_bool ?_
  simp only [if_true]
  refine wpAny_allTrue_And_nil ?_
  simp only [if_true]
  exact wpAny_execs_cons <| wpAny_Return_some <| nmL n rfl rfl <| h h₁ _ m
end
end Mine
end W17
section W18
open PySem PySem.W PyProof.Rows PySem.Calls PySem.Spec
set_option maxRecDepth 100000
set_option maxHeartbeats 8000000
namespace Mine
section
variable {prog : Program} {w : World} {A : Around} {E : Value → Shared → Prop} {s : Shared} {env : Env} {G : Gr} {Q : Value → Shared → Prop}
theorem Itr.toS {I : Nat} {own dep Gs : List Nat} {x : Str} {p : Pos} {N : Nat} {P : Nat → Value → Heap → Prop} {St : Nat → Heap → Array GenState → Prop} {P' : Nat → Value → Prop} (W : Itr prog w A (.ref I) own dep Gs (.Name x p) N P St) (hP : ∀ i v h, P i v h → P' i v) :
    WalksS prog w A I dep own (GM Gs) N P' (fun i s => St i s.heap s.gens) where
  sub := W.sub
  grefl := fun a => (GM.refl a).mono fun _ h => nomatch h
  gtrans := fun _ _ _ => GM.trans
  frame := fun i s h' tk st _ k => W.frame i s.heap s.gens h' s.gens st k fun _ _ _ e => e
  item := fun i s Q E hi st hQ => by
    refine wpAny_with_toks (Nat.le_refl s.toks) ?_
    intro Γ pp hΓ
    refine Sem.wp_mono _ Γ _ (fun r p₁ s₁ hr => ?_) (fun e _ s' h' => h') _ _ (W.next (fun e s' => s.toks ≤ s'.toks → E e s') (fun v s' => s.toks ≤ s'.toks → Q (some v) s') s i hi st (fun v h' g' tk fv itm st' e eg ht => hQ v _ (hP i v h' (itm.is _ fun _ _ _ e => e)) st' ⟨e, eg, rfl, rfl, ht⟩) Γ pp hΓ)
    cases r with
    | none => exact hr.elim
    | some v => exact (hr : wpAny _ _ (pure ()) _ _ _) Γ p₁ hΓ
  done := fun s Q E st hQ => by
    refine wpAny_with_toks (Nat.le_refl s.toks) ?_
    refine wpAny_mono (W.done (fun e s' => s.toks ≤ s'.toks → E e s') (fun s' => s.toks ≤ s'.toks → Q none s') s st (fun h' g' tk e eg ht => hQ _ ⟨e, eg, rfl, rfl, ht⟩)) (fun r s₁ hr => ?_) fun _ _ x => x
    cases r with
    | none => exact hr
    | some v => exact hr.elim
  self := fun i s Q E st h => W.self E Q s i st h
theorem sp_nodes_nbrs {x dx ad : Nat} (Z : Gl w s.heap) (I : IB prog w s.heap 277 x dx [("_adjdict", .ref ad)]) (lo : (ad == sysModules) = false) (hd : s.heap.DictOf (intKind prog w) ad kvs) (hroom : A.depth < recursionLimit)
    (h : ∀ h' tk V, Ext [] s.heap h' → New s.heap V → h'.IsItemsView V ad → Q (.ref V) { s with heap := h', toks := tk }) : wpAny (model prog w) A (call (.ref 202) [.ref x]) Q E s := by
  refine enter' Z hroom (by rfl) (by kernel_rfl) (binds := [("self", .ref x)]) (by kernel_rfl) (by kernel_rfl) (by kernel_rfl) (by rfl) (by rfl) ?_
  intro L h₁ tk m hL n
  have hd₁ := DictOf.ext hd m (fun q => nomatch q)
  refine wpAny_execs_cons <| wpAny_Return_some <| MethodCall_ <| Attribute_Name_ <| nmL n rfl rfl <| ib_get (Z.k m) (I.k m) (by kernel_rfl) (by kernel_rfl) (v := .ref ad) rfl rfl fun t => gmD hd₁ PySem.F.slot_dict_items PySem.F.type_dict_items <| cwB0 <| ditems lo hd₁ ?_
  have hp := New.pos (s := { s with heap := h₁ }) (Z.k m)
  exact h _ _ _ (m.app (Ext.push _ _)) (hp.back m.keep) ⟨_, Heap.get?_push_size _ rfl, rfl, rfl⟩
end
end Mine
end W18
section W19
open PySem PySem.W PyProof.Rows PySem.Calls PySem.Spec
set_option maxRecDepth 100000
set_option maxHeartbeats 8000000
namespace Mine
theorem Gl.low {w : World} {h h' : Heap} (Z : Gl w h) (k : ∀ b o, b < 709 → h.get? b = some o → h'.get? b = some o) : Gl w h' where
  X := fun a o q => k a o (low_K w a o q) (Z.X a o q)
  b := let ⟨mb, ⟨o, es, ep, ho, r⟩, q⟩ := Z.b; ⟨mb, ⟨o, es, ep, k _ _ (by decide) ho, r⟩, q⟩
  lim := let ⟨mc, ⟨o, es, ep, ho, r⟩, q⟩ := Z.lim; ⟨mc, ⟨o, es, ep, k _ _ (by decide) ho, r⟩, q⟩
  pool := fun P hP => let ⟨ps, h1, h2⟩ := Z.pool P hP; ⟨ps, k _ _ (by
    simp only [pools, List.mem_cons, List.not_mem_nil, or_false] at hP
    rcases hP with rfl | rfl | rfl <;> decide) h1, h2⟩
  mod := let ⟨mg, ob, ⟨⟨o, es, ep, ho, r⟩, q2, q3, q4, q5, q6, q7⟩⟩ := Z.mod; ⟨mg, ob, ⟨⟨o, es, ep, k _ _ (by decide) ho, r⟩, q2, q3, k _ _ (by decide) q4, q5, q6, q7⟩⟩
theorem Gl.off {w : World} {h₀ h h' : Heap} (Z : Gl w h) (Z₀ : Gl w h₀) (k : ∀ a, a < 709 → (∃ o, h₀.get? a = some o) → ∀ o, h.get? a = some o → h'.get? a = some o) : Gl w h' := by
  refine ⟨fun a o q => k a (low_K w a o q) ⟨o, Z₀.X a o q⟩ o (Z.X a o q), ?_, ?_, fun P hP => ?_, ?_⟩
  · obtain ⟨_, ⟨o₀, _, _, h0, _⟩, _⟩ := Z₀.b
    obtain ⟨mb, ⟨o, es, ep, ho, r⟩, q⟩ := Z.b
    exact ⟨mb, ⟨o, es, ep, k _ (by decide) ⟨_, h0⟩ _ ho, r⟩, q⟩
  · obtain ⟨_, ⟨o₀, _, _, h0, _⟩, _⟩ := Z₀.lim
    obtain ⟨mc, ⟨o, es, ep, ho, r⟩, q⟩ := Z.lim
    exact ⟨mc, ⟨o, es, ep, k _ (by decide) ⟨_, h0⟩ _ ho, r⟩, q⟩
  · obtain ⟨_, h0, _⟩ := Z₀.pool P hP
    obtain ⟨ps, h1, h2⟩ := Z.pool P hP
    refine ⟨ps, k _ ?_ ⟨_, h0⟩ _ h1, h2⟩
    simp only [pools, List.mem_cons, List.not_mem_nil, or_false] at hP
    rcases hP with rfl | rfl | rfl <;> decide
  · obtain ⟨_, _, ⟨⟨o₀, _, _, h0, _⟩, _, _, h4, _⟩⟩ := Z₀.mod
    obtain ⟨mg, ob, ⟨⟨o, es, ep, ho, r⟩, q2, q3, q4, q5, q6, q7⟩⟩ := Z.mod
    exact ⟨mg, ob, ⟨⟨o, es, ep, k _ (by decide) ⟨_, h0⟩ _ ho, r⟩, q2, q3, k _ (by decide) ⟨_, h4⟩ _ q4, q5, q6, q7⟩⟩
theorem GM.new {g g' g'' : Array GenState} {k : Nat} (x : GM [] g g') (y : GM [k] g' g'') (n : g[k]? = none) : GM [] g g'' :=
  ⟨fun j z _ e => y.at_ j z (fun q => by rw [List.mem_singleton.mp q, n] at e; cases e) (x.at_ j z (fun h => nomatch h) e), fun b => y.bare (x.bare b)⟩
def lows (h : Heap) : List Nat := (List.range 709).filter fun b => (h.get? b).isSome
theorem mem_lows {h : Heap} {b : Nat} {o : Obj} (hb : b < 709) (e : h.get? b = some o) : b ∈ lows h := List.mem_filter.mpr ⟨List.mem_range.mpr hb, by rw [e]; rfl⟩
theorem lows_live {h : Heap} {b : Nat} (q : b ∈ lows h) : ∃ o, h.get? b = some o := Option.isSome_iff_exists.mp (List.mem_filter.mp q).2
theorem lows_lt {h : Heap} {b : Nat} (q : b ∈ lows h) : b < 709 := List.mem_range.mp (List.mem_filter.mp q).1
theorem Gl.agr {w : World} {h₀ h h' : Heap} (Z : Gl w h) (Z₀ : Gl w h₀) (k : Agr (lows h₀) h h') : Gl w h' := Z.off Z₀ fun a ha ⟨_, q⟩ o e => k a (mem_lows ha q) o e
section
variable {prog : Program} {w : World} {A : Around} {E : Value → Shared → Prop} {s : Shared} {env : Env} {G : Gr} {Q : Value → Shared → Prop}
theorem unp2I {T : Nat} {a b : Value} {x y : Str} {px py p : Pos} {k : Nat} {m : Str → Option Value} {Q : Unit → Shared → Prop} (hh : A.handled = none) (ht : s.heap.IsTuple T #[a, b]) (n : s.heap.Ns env.locals m) (hx : env.kindOf x = some .local) (hy : env.kindOf y = some .local) (hp : env.scope.kind = .function)
    (h : ∀ h' tk, Ext [env.locals] s.heap h' → h'.Ns env.locals (fun z => if z = y then some b else if z = x then some a else m z) → Q () { s with heap := h', toks := tk }) : wpAny (model prog w) A (assign (.Tuple [.Name x px, .Name y py] k p) env (.ref T)) Q E s := by
  have hp' : (env.scope.kind == .class || (env.scope.kind == .module && env.locals != env.globals)) = false := by rw [hp]; rfl
  refine wpAny_assign_Tuple hh ht rfl rfl fun h₁ e₁ => ?_
  have k₁ : ∀ b o, s.heap.get? b = some o → h₁.get? b = some o := fun b o q => e₁ b o (Nat.ne_of_lt (Heap.lt_size q)) q
  show wpAny _ _ (do holding [b] (assign (.Name x px) env a); do holding [] (assign (.Name y py) env b); pure ()) _ _ _
  refine wpAny_bind (wpAny_holding (wpAny_assign_Name (stL (n.keeps k₁) hx (fun h₂ n₂ s₂ => ?_) hp')))
  refine wpAny_bind (wpAny_holding (wpAny_assign_Name (stL n₂ hy (fun h₃ n₃ s₃ => wpAny_pure ?_) hp')))
  exact h _ _ (((Ext.of_keep k₁ _).app (Ext.of_same s₂)).app (Ext.of_same s₃)) n₃
theorem adjs_item {G : Gr} {i : Nat} {k : Int} {x : Value} (e : G.adjs[i]? = some (k, x)) : ∃ r, G.rows[i]? = some r ∧ k = r.n ∧ x = .ref r.b := by
  simp only [Gr.adjs, List.getElem?_map] at e
  cases q : G.rows[i]? with
  | none => rw [q] at e; cases e
  | some r => rw [q] at e; cases e; exact ⟨r, rfl, rfl, rfl⟩
def lenVal (G : Gr) (i : Nat) : Int := match G.rows[i]? with
  | some r => r.es.length + (if (valueAt r.nbrs r.n).isSome then 1 else 0)
  | none => 0
theorem sp_ev_len {x dx : Nat} (Z : Gl w s.heap) (IE : IB prog w s.heap 277 x dx [("_adjdict", .ref G.ad)]) (I : GraphAt prog w s.heap G) (J : Gi G) (hroom : A.depth + 1 < recursionLimit) (hh : A.handled = none) (hz : G.rows.length ≤ 30)
    (h : ∀ h' g' tk n t, Ext [255] s.heap h' → Gl w h' → GM [] s.gens g' → 0 ≤ n → n < 1000 → Q (.int n t) { s with heap := h', gens := g', toks := tk }) : wpAny (model prog w) A (call (.ref 260) [.ref x]) Q E s := by
  refine enter' Z (by omega) (by rfl) (by kernel_rfl) (binds := [("self", .ref x)]) (by kernel_rfl) (by kernel_rfl) (by kernel_rfl) (by rfl) (by rfl) ?_
  intro L h₁ tk m hL n
  have Z₁ := Z.k m
  have IE₁ := IE.k m
  have I₁ := I.k m
  refine wpAny_execs_cons <| wpAny_Assign_Name <| gen_make (c := 259) (Pl := 255) (cl := []) (by rfl) (by kernel_rfl) (by decide) (by rfl) (by rfl) (by rfl) (by rfl) (by rfl) (by rfl) (by rfl) (by show A.depth + 1 < _; omega) (fun _ => rfl) ?_
  refine MethodCall_ <| nmL n rfl rfl <| ib_meth Z₁ IE₁ (f := 202) (by kernel_rfl) (by kernel_rfl) (by kernel_rfl) (by kernel_rfl) rfl <| cwF0 Z₁ (by kernel_rfl) <| sp_nodes_nbrs Z₁ IE₁ (I₁.lo mem_ad) I₁.adj hroom fun h₂ tk₂ V e₂ nV hV => ?_
  replace e₂ : Ext [] h₁ h₂ := e₂
  have I₂ := I₁.k e₂
  obtain ⟨ep, hat⟩ := I₂.adj.dictAt
  refine wpAny_pyIter_items hV hat ?_
  have Z₂ := Z₁.k e₂
  generalize hh₃ : h₂.push _ = h₃
  have e₃ : Ext [] h₂ h₃ := hh₃ ▸ Ext.push _ _
  have nK : New h₂ h₂.objs.size := New.pos (s := { s with heap := h₂ }) Z₂
  have hK : IsItemIter h₃ h₂.objs.size G.ad 0 G.adjs.length ep .none .none := hh₃ ▸ Heap.get?_push_size _ rfl
  generalize h₂.objs.size = K at nK hK ⊢
  have Z₃ := Z₂.k e₃
  refine ⟨Z₃, fun h₄ code e₄ Z₄ => ?_⟩
  have off : ∀ a ∈ G.all, a ∉ ([255] : List Nat) := fun a ha q => by
    have := I.own a ha
    rw [List.mem_singleton.mp q] at this
    omega
  have I₄ : GraphAt prog w h₄ G := (I₂.k e₃).to e₄ off
  have K255 : K ∉ ([255] : List Nat) := fun q => by
    have := nK.2
    rw [List.mem_singleton.mp q] at this
    omega
  have hK₄ : IsItemIter h₄ K G.ad 0 G.adjs.length ep .none .none := e₄ _ _ K255 hK
  have hat₄ : h₄.DictAt (intKind prog w) G.ad G.adjs ep := hat.at' fun o e => e₄ _ _ (off _ mem_ad) (e₃.keep _ _ e)
  have adK : G.ad ≠ K := by obtain ⟨o, ho⟩ := dictLive I₂.adj; exact fun q => nK.ne ho q.symm
  have bsK : ∀ r ∈ G.rows, r.b ≠ K := fun r hr => by obtain ⟨o, ho⟩ := dictLive (I₂.nbr r hr); exact fun q => nK.ne ho q.symm
  refine ⟨[K], [K, G.ad] ++ (G.rows.map (·.b) ++ lows s.heap), G.adjs.length, PairIs (intKind prog w) G.adjs, fun i v _ => ∃ t, v = .int (lenVal G i) t, _, fun h => Agr (lows s.heap) h₄ h ∧ ∀ r ∈ G.rows, h.DictOf (intKind prog w) r.b r.nbrs,
    fun A' ha => (Itr.items (knd := intKind prog w) ha K G.ad adK G.adjs ep _ _ _).wide fun b hb => List.mem_append_left _ hb, ⟨⟨_, _, hK₄⟩, hat₄⟩, ⟨fun _ _ _ e => e, I₄.nbr⟩, ?_, ?_, ?_, ?_, ?_⟩
  · intro b hb
    simp only [List.mem_append, List.mem_cons, List.not_mem_nil, or_false, List.mem_map] at hb
    rcases hb with (rfl | rfl) | ⟨r, hr, rfl⟩ | hb
    · exact ⟨_, hK₄⟩
    · exact dictLive I₄.adj
    · exact dictLive (I₄.nbr r hr)
    · obtain ⟨o, ho⟩ := lows_live hb
      by_cases q : b = 255
      · obtain ⟨ps, q', _⟩ := Z₄.pool 255 (by decide)
        exact ⟨_, q ▸ q'⟩
      · exact ⟨o, e₄ _ _ (fun q' => q (List.mem_singleton.mp q')) (e₃.keep _ _ (e₂.keep _ _ (m.keep _ _ ho)))⟩
  · intro q
    have := nK.2
    rw [← List.mem_singleton.mp q] at this
    exact absurd this (by decide)
  · intro h h' ⟨b1, b2⟩ k
    refine ⟨b1.trans fun b hb o e => k b (by simp [hb]) (fun q => ?_) o e, fun r hr => (b2 r hr).at fun o e => k r.b (by simp; exact .inr (.inr (.inl ⟨r, hr, rfl⟩))) (fun q => bsK r hr (List.mem_singleton.mp q)) o e⟩
    have := nK.2
    have := lows_lt hb
    rw [List.mem_singleton.mp q] at this
    omega
  · intro C A' E' i v s₁ mm fv ha hi hP hCf hCd ⟨b1, b2⟩ hn
    obtain ⟨T, k, y, key, rfl, hk, hkey, hT⟩ := hP s₁.heap fun _ _ _ e => e
    obtain ⟨r, hr, rfl, rfl⟩ := adjs_item hk
    obtain ⟨tr, rfl⟩ := Value.isInt_shape (show key.isInt r.n = true from hkey)
    have hrm : r ∈ G.rows := List.mem_of_getElem? hr
    have Z' : Gl w s₁.heap := Z₄.agr Z b1
    have hd := b2 r hrm
    refine unp2I ha hT hn rfl rfl rfl fun h₅ tk₅ e₅ n₅ => ?_
    replace e₅ : Ext [C] s₁.heap h₅ := e₅
    replace hCd : C ∉ [K, G.ad] ++ (G.rows.map (·.b) ++ lows s.heap) := hCd
    have Cb : r.b ∉ ([C] : List Nat) := fun q => hCd (by rw [← List.mem_singleton.mp q]; simp; exact .inr (.inr (.inl ⟨r, hrm, rfl⟩)))
    have Z₅ : Gl w h₅ := Z₄.agr Z (b1.trans (Agr.of e₅ fun b hb q => hCd (by rw [← List.mem_singleton.mp q]; simp [hb])))
    have hd₅ := DictOf.ext hd e₅ Cb
    have lo := I.lo (mem_b hrm)
    have hv : ∀ t : Tok, ∃ t', Value.int ((r.nbrs.length : Int) + (if (valueAt r.nbrs r.n).isSome = true then (1 : Int) else 0)) t = .int (lenVal G i) t' := fun t => ⟨t, by
      unfold lenVal
      rw [hr]
      simp only [Row.nbrs, List.length_map]⟩
    refine wpAny_BinOp <| Call_ <| nmB Z₅ (by kernel_rfl) (by rfl) boot_len (by decide) <| cwB <| wpAny_items_cons <| nmL n₅ rfl rfl <| wpAny_items_nil <| call_len_dict lo hd₅ (by
      have := I.short J hrm
      simp only [Row.nbrs, List.length_map]; omega) ?_
    refine wpAny_Compare1 <| nmL (s := { s₁ with heap := h₅, toks := _ }) n₅ rfl rfl <| nmL n₅ rfl rfl <| wpAny_in_of (intKind_is _ _ _ _) lo hd₅.mapOf <| PySem.add_int_bool ?_
    exact ⟨h₅, _, _, [], rfl, ⟨fun _ _ => hv _, fun _ h => nomatch h⟩, e₅, n₅⟩
  · intro a k C h' g' tk' e' eg nC na hk hItr hlive
    replace e' : Ext [] h₄ h' := e'
    replace eg : GM [] s.gens g' := eg
    replace nC : New h₄ C := nC
    replace hk : s.gens[k]? = none := hk
    obtain ⟨o255, ho255⟩ : ∃ o, s.heap.get? 255 = some o := let ⟨ps, q, _⟩ := Z.pool 255 (by decide); ⟨_, q⟩
    have L255 : L ∉ ([255] : List Nat) := fun q => by rw [List.mem_singleton.mp q] at hL; exact nomatch hL.symm.trans ho255
    have n' : h'.Ns L _ := n.at' fun o q => e'.keep _ _ (e₄ _ _ L255 (e₃.keep _ _ (e₂.keep _ _ q)))
    refine stL n' rfl fun h₅ n₅ s₅ => ?_
    replace s₅ : Heap.SameBut L h' h₅ := s₅
    have eA : Ext [255] s.heap h₅ := Ext.loc ((Ext.of_keep m.keep _).app ((Ext.of_keep e₂.keep _).app ((Ext.of_keep e₃.keep _).app (e₄.app (Ext.of_keep e'.keep _))))) hL s₅
    have Z₅ : Gl w h₅ := (Z₄.k e').off Z fun a _ ⟨_, q⟩ o e => s₅.extBut a o (fun r => by rw [r, hL] at q; cases q) e
    refine wpAny_execs_cons <| wpAny_Return_some <| wpAny_BinOp <| Call_ <| nmB Z₅ (by kernel_rfl) (by rfl) PyProof.Rows.boot_sum (by decide) <| cwB <| wpAny_items_cons <| nmL n₅ rfl rfl <| wpAny_items_nil <| call_sum_walkS ?_
    obtain ⟨oC, hoC⟩ := hlive C (by simp)
    obtain ⟨oa, hoa⟩ := hlive a (by simp)
    have Lag : Agr (a :: cStatics :: C :: ([K, G.ad] ++ (G.rows.map (·.b) ++ lows s.heap))) h' h₅ := Agr.of (Ext.of_same s₅) fun b hb q => by
      rw [List.mem_singleton.mp q] at hb
      obtain ⟨oL, hoL⟩ := nsLive n
      have L2 := e₂.keep _ _ hoL
      have L4 := e₄ _ _ L255 (e₃.keep _ _ L2)
      simp only [List.mem_cons, List.mem_append, List.not_mem_nil, or_false, List.mem_map] at hb
      rcases hb with hb | hb | hb | (hb | hb) | ⟨r, hr, hb⟩ | hb
      · exact na.ne L4 hb.symm
      · obtain ⟨_, ⟨o, _, _, ho, _⟩, _⟩ := Z.lim
        rw [← hb, hL] at ho; cases ho
      · exact nC.ne L4 hb.symm
      · exact nK.ne L2 hb.symm
      · exact I.all_new hL (hb ▸ mem_ad)
      · exact I.all_new hL (hb ▸ mem_b hr)
      · obtain ⟨o, ho⟩ := lows_live hb
        rw [hL] at ho; cases ho
    obtain ⟨W, stW⟩ := hItr (A.deeper (envX _ _ L 260 _ [])).in1 hh (by show A.depth + 1 < _; omega) "x" default
    have st₅ := W.frame 0 h' g' h₅ g' stW Lag fun _ _ _ e => e
    refine W.self _ _ _ 0 st₅ ?_
    have lt : ∀ b ∈ a :: cStatics :: C :: ([K, G.ad] ++ (G.rows.map (·.b) ++ lows s.heap)), b < h₅.objs.size := fun b hb => let ⟨o, ho⟩ := hlive b hb; Heap.lt_size (Lag b hb o ho)
    have vb : ∀ i, 0 ≤ lenVal G i ∧ lenVal G i ≤ 31 := fun i => by
      unfold lenVal
      split
      · rename_i r hr
        have hrm : r ∈ G.rows := List.mem_of_getElem? hr
        have := nodup_len (I.keysNodup hrm) (m := G.ids) fun a ha => by
          obtain ⟨e, he, rfl⟩ := List.mem_map.mp ha
          exact J.keys r hrm e he
        simp only [List.length_map, Gr.ids] at this
        split <;> omega
      · omega
    have pb : ∀ n, 0 ≤ preSum (lenVal G) n ∧ preSum (lenVal G) n ≤ 31 * n := fun n => by
      induction n with
      | zero => simp [preSum]
      | succ n ih => have := vb n; simp only [preSum]; omega
    have hN : G.adjs.length ≤ 30 := by simpa [Gr.adjs] using hz
    refine ⟨a, _, _, _, _, _, _, lenVal G, rfl, W.toS (P' := fun i v => ∃ t, v = .int (lenVal G i) t) fun _ _ _ q => q, st₅, lt, fun _ _ q => q, fun j hj => ?_, fun s' t' mv => ?_⟩
    · have v1 := vb j
      have v2 := pb (j + 1)
      have : (31 : Int) * (j + 1 : Nat) ≤ 31 * 30 := by omega
      constructor <;> constructor <;> omega
    have pn := pb G.adjs.length
    have pN : (31 : Int) * G.adjs.length ≤ 31 * 30 := by omega
    have f1 : 0 ≤ (preSum (lenVal G) G.adjs.length).fdiv 2 ∧ (preSum (lenVal G) G.adjs.length).fdiv 2 < 1000 := by
      rw [Int.fdiv_eq_ediv_of_nonneg _ (by omega)]
      omega
    obtain ⟨h₆, g₆, d₆, t₆, o₆⟩ := s'
    obtain ⟨m1, m2, m3, m4, _⟩ := mv
    dsimp only at m1 m2 m3 m4
    subst m3 m4
    have e₆ : Ext [C, K] h₅ h₆ := m1
    refine wpAny_Constant_int <| floordiv_int (by decide) ?_ (Or.inl (PyProof.noPylong_small (by omega)))
    refine h h₆ g₆ _ _ _ ?_ (Z₅.ext e₆ ?_) (eg.new m2 hk) f1.1 f1.2
    · refine eA.app' e₆ fun b hb => .inr ?_
      simp only [List.mem_cons, List.not_mem_nil, or_false] at hb
      rcases hb with rfl | rfl
      · cases q : s.heap.get? b with
        | none => rfl
        | some o =>
          by_cases q' : b = 255
          · obtain ⟨ps, q'', _⟩ := Z₄.pool 255 (by decide)
            rw [← q', nC.1] at q''; cases q''
          · exact nomatch nC.1.symm.trans (e₄ _ _ (fun r => q' (List.mem_singleton.mp r)) (e₃.keep _ _ (e₂.keep _ _ (m.keep _ _ q))))
      · exact dead m.keep (dead e₂.keep nK.1)
    · intro b hb
      simp only [List.mem_cons, List.not_mem_nil, or_false] at hb
      rcases hb with rfl | rfl
      · exact nC.2
      · exact nK.2
end
end Mine
end W19
section W20
open PySem PySem.W PyProof.Rows PySem.Calls PySem.Spec
set_option maxRecDepth 100000
set_option maxHeartbeats 8000000
namespace Mine
theorem ite_yes {M : Model} {A : Around} {α : Type} {E : Value → Shared → Prop} {s : Shared} {Q : α → Shared → Prop} {c : Bool} {a b : Sem α} (hc : c = true) (h : wpAny M A a Q E s) : wpAny M A (if c = true then a else b) Q E s := by
  rw [if_pos hc]; exact h
theorem ite_no {M : Model} {A : Around} {α : Type} {E : Value → Shared → Prop} {s : Shared} {Q : α → Shared → Prop} {c : Bool} {a b : Sem α} (hc : c = false) (h : wpAny M A b Q E s) : wpAny M A (if c = true then a else b) Q E s := by
  rw [if_neg (by rw [hc]; exact Bool.false_ne_true)]; exact h
section
variable {prog : Program} {w : World} {A : Around} {E : Value → Shared → Prop} {s : Shared} {env : Env} {G : Gr} {Q : Value → Shared → Prop}
variable {K : Type} [DecidableEq K] {knd : KeyKind prog w K}
theorem call_list_dict {d : Nat} {kvs : List (K × Value)} (hh : A.handled = none) (lo : (d == sysModules) = false) (hd : s.heap.DictOf knd d kvs) (hnt : ∀ k T, knd.is k (.ref T) = false) (hz : kvs.length ≤ 1000)
    (h : ∀ h' g' tk S acc c, Ext [] s.heap h' → GM [] s.gens g' → s.heap.get? S = none → s.heap.objs.size ≤ S → h'.get? S = some { cls := .type "list", data := .seq acc c } → acc.size = kvs.length → (∀ (j : Nat) v, acc[j]? = some v → ∃ k x, kvs[j]? = some (k, x) ∧ knd.is k v = true) → Q (.ref S) { s with heap := h', gens := g', toks := tk }) :
    wpAny (model prog w) A (call (.type "list") [.ref d]) Q E s := by
  refine callType_codes (Q₁ := fun obj s₁ => obj = .ref s.heap.objs.size ∧ s₁ = { s with heap := s.heap.push { cls := .type "list", data := .seq #[] } }) PySem.F.called_list (PySem.F.typeCall_list_1 _) PySem.F.entry_list_init
    (code_list_new _ ⟨rfl, rfl⟩) fun obj s₁ h₁ => ?_
  obtain ⟨rfl, rfl⟩ := h₁
  have hS : (s.heap.push { cls := .type "list", data := .seq #[] }).get? s.heap.objs.size = some { cls := .type "list", data := .seq #[] } := Heap.get?_push_size _ rfl
  refine ⟨⟨_, hS, rfl⟩, PySem.F.args_list_init_2 _ _, ?_⟩
  obtain ⟨od, hod⟩ := dictLive hd
  have hSx : s.heap.objs.size ≠ d := Nat.ne_of_gt (Heap.lt_size hod)
  have dS : s.heap.get? s.heap.objs.size = none := get?_size _
  have leS : s.heap.objs.size ≤ s.heap.objs.size := Nat.le_refl _
  show wpAny _ A.in1.in1 (do let old ← Builtin.List.listItems (.ref s.heap.objs.size); Builtin.List.listUpdate (.ref s.heap.objs.size) (fun _ => #[]); letGo old.toList.reverse; Builtin.List.listExtendWith (.ref s.heap.objs.size) (.ref d) .none) _ _ _
  refine wpAny_bind ?_
  unfold Builtin.List.listItems
  refine wpAny_bind (wpAny_seqItems hS rfl (wpAny_pure ?_))
  show wpAny _ A.in1.in1 (updateSeq s.heap.objs.size (fun _ => #[]) >>= fun _ => letGo (#[] : Array Value).toList.reverse >>= fun _ => Builtin.List.listExtendWith (.ref s.heap.objs.size) (.ref d) .none) _ _ _
  refine wpAny_bind (wpAny_updateSeq hS rfl ?_)
  generalize hSS : s.heap.objs.size = S at *
  have hS₂ : ∃ c, ((s.heap.push { cls := .type "list", data := .seq #[] }).update S (Obj.mapSeq (fun _ => (#[] : Array Value)))).get? S = some { cls := .type "list", data := .seq #[] c } := ⟨_, Heap.get?_update_self (Obj.mapSeq (fun _ => (#[] : Array Value))) hS rfl⟩
  have e₁ : Ext [] s.heap ((s.heap.push { cls := .type "list", data := .seq #[] }).update S (Obj.mapSeq (fun _ => (#[] : Array Value)))) := fun b o _ e => (Heap.get?_update_other _ _ (fun q : S = b => by
    have := Heap.lt_size e
    rw [← q, ← hSS] at this
    exact Nat.lt_irrefl _ this)).trans (Heap.get?_push_of_some _ e)
  refine wpAny_bind (wpAny_letGo ?_)
  generalize (s.heap.push { cls := .type "list", data := .seq #[] }).update S (Obj.mapSeq (fun _ => (#[] : Array Value))) = h₁ at *
  have hd₁ := DictOf.ext hd e₁ (fun q => nomatch q)
  obtain ⟨ep, hat⟩ := hd₁.dictAt
  obtain ⟨od₁, hod₁, hcd₁⟩ := hd₁.typeIs (s := { s with heap := h₁ })
  unfold Builtin.List.listExtendWith
  have Lt : Looks (model prog w) h₁ (typeOf (.ref d)) (.type "dict") := hcd₁ ▸ (Looks.ld hod₁).andThen .now
  refine wpAny_bind (Lt.here ?_)
  have h1 : Builtin.List.listSameRef (.ref S) (.ref d) = false := by simp [Builtin.List.listSameRef, hSx]
  simp only [h1, show (Value.type "dict" == Value.type "list") = false from rfl, show (Value.type "dict" == Value.type "tuple") = false from rfl, Bool.or_false, Bool.false_eq_true, if_false]
  refine wpAny_bind (wpAny_pyIter_dict lo hat ?_)
  generalize hh₂ : Heap.push _ _ = h₂
  have e₂ : Ext [] h₁ h₂ := hh₂ ▸ Ext.push _ _
  have dI : h₁.get? h₁.objs.size = none := get?_size _
  have hI : h₂.IsKeyIter h₁.objs.size d 0 kvs.length ep := hh₂ ▸ ⟨_, Heap.get?_push_size _ rfl, rfl, rfl⟩
  generalize h₁.objs.size = I at dI hI ⊢
  have hat₂ : h₂.DictAt knd d kvs ep := hat.at' fun _ e => e₂.keep _ _ e
  have Lt₂ : Looks (model prog w) h₂ (typeOf (.ref d)) (.type "dict") := hcd₁ ▸ (Looks.ld (e₂.keep _ _ hod₁)).andThen .now
  refine wpAny_bind (wpAny_holding ?_)
  unfold Builtin.List.listLengthHint
  refine wpAny_bind (wpAny_bind (Lt₂.here ?_))
  refine wpAny_of_eq PySem.F.slot_dict_len.lookup ?_
  dsimp only
  rw [show splitId "dict.__len__" = some ("dict", "__len__") by decide +kernel]
  dsimp only
  refine wpAny_bind (wpAny_bind (Lt₂.here ?_))
  refine wpAny_of_eq PySem.F.sub_dict_dict ?_
  refine ite_no rfl ?_
  refine ite_yes (by decide +kernel) ?_
  refine wpAny_bind (Lt₂.here ?_)
  dsimp only
  refine wpAny_pure ?_
  refine ite_yes (by decide +kernel) ?_
  refine wpAny_bind (wpAny_rule ?_)
  refine wpAny_bind ?_
  obtain ⟨c₁, hS₂⟩ := hS₂
  have hS₃ := e₂.keep _ _ hS₂
  show wpAny _ A.in1.in1 (updateSeq S (·.push .none) >>= fun _ => updateSeq S (·.pop)) _ _ _
  refine wpAny_bind (wpAny_updateSeq hS₃ rfl ?_)
  have hS₄ := Heap.get?_update_self (Obj.mapSeq (·.push Value.none)) hS₃ rfl
  refine wpAny_updateSeq (hz := by seq_fits) hS₄ rfl ?_
  have hS₅ := Heap.get?_update_self (Obj.mapSeq (·.pop)) hS₄ rfl
  have e₅ : Ext [S] h₂ ((h₂.update S (Obj.mapSeq (·.push Value.none))).update S (Obj.mapSeq (·.pop))) := fun b o n e => (Heap.get?_update_other _ _ (fun q => n (by rw [q]; exact .head _))).trans ((Heap.get?_update_other _ _ (fun q => n (by rw [q]; exact .head _))).trans e)
  obtain ⟨c₅, hS₅⟩ : ∃ c, ((h₂.update S (Obj.mapSeq (·.push Value.none))).update S (Obj.mapSeq (·.pop))).get? S = some { cls := .type "list", data := .seq #[] c } := ⟨_, hS₅⟩
  dsimp only
  generalize (h₂.update S (Obj.mapSeq (·.push Value.none))).update S (Obj.mapSeq (·.pop)) = h₅ at e₅ hS₅ ⊢
  have dI' : I ∉ ([S] : List Nat) := fun q => by rw [List.mem_singleton.mp q, hS₂] at dI; cases dI
  have hdI : d ≠ I := fun q => by rw [← q, hod₁] at dI; cases dI
  have dSd : d ∉ ([S] : List Nat) := fun q => hSx (List.mem_singleton.mp q).symm
  have W : Itr prog w A.in1.in1 (.ref I) [I] [I, d] [] (.Name "x" default) kvs.length (fun i v _ => ∃ k x, kvs[i]? = some (k, x) ∧ knd.is k v = true) (fun i h _ => h.IsKeyIter I d i kvs.length ep ∧ h.DictAt knd d kvs ep) :=
    Itr.ofWalks (Walks.dictKeys (knd := knd) (A := A.in1.in1) hh I d hdI kvs ep) (fun i h st b hb => by rw [List.mem_singleton.mp hb]; obtain ⟨o, ho, _⟩ := st.1; exact ⟨o, ho⟩) "x" default
  refine wpAny_pure ⟨plainId_quiet PySem.F.plain_extend_loop _, ext_loop (A := A.in1) W (fun i v h h' q _ => q) ?_ hz S ?_ .none kvs.length 0 h₅ s.gens s.toks #[] c₅ rfl (Nat.zero_le _) ⟨hI.at fun o e => e₅ _ _ dI' e, hat₂.at' fun o e => e₅ _ _ dSd e⟩ hS₅ rfl (fun j v q => by simp at q) fun h' g' tk' acc' c' he hg hS' ha hP => ⟨rfl, ?_⟩⟩
  · rintro i v h ⟨k, x, _, hk⟩ T rfl
    rw [hnt] at hk; cases hk
  · intro q
    rcases List.mem_cons.mp q with q | q
    · exact dI' (by rw [← q]; simp)
    · exact hSx (List.mem_singleton.mp q)
  · refine h h' g' tk' S acc' c' ?_ hg dS leS hS' ha hP
    refine ((e₁.app e₂).app' e₅ fun b hb => .inr (by rw [List.mem_singleton.mp hb]; exact dS)).app' he fun b hb => ?_
    simp only [List.mem_cons, List.not_mem_nil, or_false] at hb
    rcases hb with rfl | rfl
    · exact .inr dS
    · exact .inr (dead e₁.keep dI)
end
end Mine
end W20
section W21
open PySem PySem.W PyProof.Rows PySem.Calls PySem.Spec
set_option maxRecDepth 100000
set_option maxHeartbeats 8000000
namespace Mine
section
variable {prog : Program} {w : World} {A : Around} {R : GenEnd} {Y : Protocol} {n : Nat} {s₀ : Shared} {fs : List Frame} {s : Shared} {env : Env} {c : Code}
  {K : Flow → Sem Fin} {H : Value → Sem Fin} {gd : Bool → Bool} {lv : List Value → List Value}
theorem sg_forLoop {tgt : Expr} {it : Value} {body : List Stmt}
    (h : wpAny (model prog w) (A.over (.forLoop tgt it body [] env) fs) (pyNext it) (fun r s' => match r with
      | none => Seg (model prog w) A R Y n s₀ (.block [] env) (leafOf (.ok .next)) fs s'
      | some v => wpAny (model prog w) (A.over (.forLoop tgt it body [] env) fs) (letOwnedTupleGo tgt it v) (fun _ s₁ => wpAny (model prog w) (A.over (.forLoop tgt it body [] env) fs) (assign tgt env v) (fun _ s₂ =>
          ∀ H : Value → Sem Fin, Seg (model prog w) A R Y n s₀ (.forLoop tgt it body [] env) ((execs body env).wrap (fun f => match f with
            | .next | .cont => .pure (.again (.forLoop tgt it body [] env))
            | .brk => .pure (.done .next)
            | .ret v => .pure (.done (.ret v))) H id id) fs s₂) (fun _ _ => False) s₁) (fun _ _ => False) s') (fun _ _ => False) s) :
    Seg (model prog w) A R Y n s₀ (.forLoop tgt it body [] env) ((model prog w).den (.forLoop tgt it body [] env)) fs s := by
  show Seg _ A R Y n s₀ _ ((forTurn tgt it body [] env).onRaise (fun x => do noteFrame x env; theTreesLotGoes x)) fs s
  unfold forTurn
  rw [Sem.onRaise_eq_wrap]
  refine seg_bind_wrap (wpAny_standAt ?_)
  refine seg_bind_wrap (wpAny_onRaise (wpAny_mono h (fun r s' hr => ?_) fun _ _ x => x.elim))
  cases r with
  | none =>
    show Seg _ A R Y n s₀ _ (.pure (.again (.block [] env))) fs s'
    exact seg_again rfl hr
  | some v =>
    refine seg_bind_wrap (wpAny_mono hr (fun _ s₁ h₁ => ?_) fun _ _ x => x.elim)
    refine seg_bind_wrap (wpAny_mono h₁ (fun _ s₂ h₂ => ?_) fun _ _ x => x.elim)
    rw [Sem.bind_eq_wrap', Sem.wrap_wrap]
    refine Eq.mp (congrArg (fun K => Seg (model prog w) A R Y n s₀ (.forLoop tgt it body [] env) ((execs body env).wrap K _ id id) fs s₂) (funext fun f => ?_)) (h₂ _)
    cases f <;> rfl
theorem sg_For {tgt iter : Expr} {body : List Stmt} {pos : Pos}
    (h : wpAny (model prog w) (A.over c fs) (eval iter env) (fun x s₁ => wpAny (model prog w) (A.over c fs) (pyIter x) (fun it s₂ =>
      ∀ p (k : Result → Sem Fin), (∀ f, k (.ok f) = K f) → Seg (model prog w) A R Y n s₀ (.forLoop tgt it body [] env) ((model prog w).den (.forLoop tgt it body [] env))
        (.ret k none (gd false) (lv []) c p [] :: fs) s₂) (fun _ _ => False) s₁) (fun _ _ => False) s)
    (hs : ∀ x, foldedSetIterable iter env x = pure x := by intro _; rfl) :
    Seg (model prog w) A R Y n s₀ c ((exec (.For tgt iter body [] pos) env).wrap K H gd lv) fs s := by
  rw [exec_For]
  refine seg_bind_wrap (wpAny_standAt ?_)
  refine seg_bind_wrap (wpAny_mono h (fun x s₁ h₁ => ?_) fun _ _ x => x.elim)
  refine seg_bind_wrap (wpAny_of_eq (hs x) ?_)
  refine seg_bind_wrap (wpAny_standAt ?_)
  refine seg_bind_wrap (wpAny_holding (wpAny_mono h₁ (fun it s₂ h₂ => ?_) fun _ _ x => x.elim))
  refine seg_call fun p => ?_
  exact h₂ p _ fun f => rfl
theorem sg_If {test : Expr} {body orelse : List Stmt} {pos : Pos}
    (h : wpAny (model prog w) (A.over c fs) (isTrue test env (eval test env)) (fun b s' => Seg (model prog w) A R Y n s₀ c ((if b then execs body env else execs orelse env).wrap K H gd lv) fs s') (fun _ _ => False) s) :
    Seg (model prog w) A R Y n s₀ c ((exec (.If test body orelse pos) env).wrap K H gd lv) fs s := by
  rw [exec_If]
  refine seg_bind_wrap (wpAny_standAt ?_)
  exact seg_bind_wrap (wpAny_mono h (fun b s' hb => hb) fun _ _ x => x.elim)
end
end Mine
end W21
section W22
open PySem PySem.W PyProof.Rows PySem.Calls PySem.Spec
set_option maxRecDepth 100000
set_option maxHeartbeats 8000000
namespace Mine
def PE (es : List (Int × Int)) (i : Nat) (v : Value) (h : Heap) : Prop := ∃ T tu tv, v = .ref T ∧ Tup h T #[.int (es[i]!).1 tu, .int (es[i]!).2 tv]
def Kp (C : Nat) (h₀ h h' : Heap) : Prop := ∀ b o, h.get? b = some o → b ≠ C → ((∃ o₀, h₀.get? b = some o₀) ∨ o.cls = .type "tuple") → h'.get? b = some o
theorem Kp.refl (C : Nat) (h₀ h : Heap) : Kp C h₀ h h := fun _ _ e _ _ => e
theorem Kp.trans {C : Nat} {h₀ h h' h'' : Heap} (x : Kp C h₀ h h') (y : Kp C h₀ h' h'') : Kp C h₀ h h'' := fun b o e n q => y b o (x b o e n q) n q
theorem Kp.of {C : Nat} {h₀ h h' : Heap} {F : List Nat} (e : Ext F h h') (d : ∀ a ∈ F, a = C ∨ (h₀.get? a = none ∧ ∀ o, h.get? a = some o → o.cls ≠ .type "tuple")) : Kp C h₀ h h' := fun b o q n r => by
  refine e b o (fun m => ?_) q
  rcases d b m with rfl | ⟨d1, d2⟩
  · exact n rfl
  · rcases r with ⟨_, r⟩ | r
    · rw [d1] at r; cases r
    · exact d2 o q r
theorem Kp.ext {C : Nat} {h₀ h h' : Heap} {F : List Nat} (x : Kp C h₀ h h') (hC : C ∈ F) (y : Ext F h₀ h) : Ext F h₀ h' := fun b o n e => x b o (y b o n e) (fun q => n (q ▸ hC)) (.inl ⟨_, e⟩)
structure ItrL (prog : Program) (w : World) (A : Around) (it : Value) (S C : Nat) (h₀ : Heap) (Gs : List Nat) (es : List (Int × Int)) (St : Nat → Heap → Array GenState → Prop) : Prop where
  frame : ∀ i h g h', St i h g → Ext [S] h h' → (∃ o, h'.get? S = some o) → St i h' g
  next : ∀ (E : Value → Shared → Prop) (Q : Option Value → Shared → Prop) (s : Shared) i, i < es.length → St i s.heap s.gens →
    (∀ v h' g' tk, PE es i v h' → St (i + 1) h' g' → Kp C h₀ s.heap h' → GM Gs s.gens g' → Q (some v) { s with heap := h', gens := g', toks := tk }) → wpAny (model prog w) A (pyNext it) Q E s
  done : ∀ (E : Value → Shared → Prop) (Q : Option Value → Shared → Prop) (s : Shared), St es.length s.heap s.gens →
    (∀ h' g' tk, Kp C h₀ s.heap h' → GM Gs s.gens g' → Q none { s with heap := h', gens := g', toks := tk }) → wpAny (model prog w) A (pyNext it) Q E s
section
variable {prog : Program} {w : World} {A : Around} {E : Value → Shared → Prop} {s : Shared}
def NoTup (o : Obj) : Prop := o.cls ≠ .type "tuple" ∨ ∀ xs, o.data ≠ .seq xs 0
theorem PE.move {es : List (Int × Int)} {i : Nat} {v : Value} {h h' : Heap} (x : PE es i v h) (k : ∀ T o, v = .ref T → h.get? T = some o → o.cls = .type "tuple" → ¬ NoTup o → h'.get? T = some o) : PE es i v h' :=
  let ⟨T, tu, tv, e, q⟩ := x; ⟨T, tu, tv, e, k T _ e q rfl fun n => n.elim (fun n => n rfl) fun n => n _ rfl⟩
theorem loopL {a S C : Nat} {h₀ : Heap} {Gs : List Nat} {es : List (Int × Int)} {St : Nat → Heap → Array GenState → Prop} (W : ItrL prog w A.in1 (.ref a) S C h₀ Gs es St) (hN : es.length ≤ 1000) (hSC : S ≠ C) (hC : ∀ i h g, St i h g → ∃ o, h.get? C = some o ∧ NoTup o) (hS₀ : ∃ o, h₀.get? S = some o) (hT : ∀ i h g, St i h g → ∃ o, h.get? a = some o ∧ o.cls = .type "generator")
    (res : Value) {R : Result → Shared → Prop} {s₀ : Shared} :
    ∀ (k i : Nat) (h : Heap) (g : Array GenState) (tk : Nat) (acc : Array Value) (c : Nat), es.length - i = k → i ≤ es.length → St i h g → h.get? S = some { cls := .type "list", data := .seq acc c } → acc.size = i → (∀ j v, acc[j]? = some v → PE es j v h) → Ext [S, C] h₀ h →
    (∀ h' g' tk' acc' c', Ext [S, C] h₀ h' → GM Gs g g' → h'.get? S = some { cls := .type "list", data := .seq acc' c' } → acc'.size = es.length → (∀ j v, acc'[j]? = some v → PE es j v h') → R (.ok (.ret res)) { s₀ with heap := h', gens := g', toks := tk' }) →
    codeAny (model prog w) A (.builtin "list.extend.loop" ⟨[.ref S, .ref a, res], []⟩) R { s₀ with heap := h, gens := g, toks := tk } := by
  have keepP : ∀ (i : Nat) (h : Heap) (g : Array GenState) (h' : Heap), St i h g → Kp C h₀ h h' → ∀ (j : Nat) (v : Value), PE es j v h → PE es j v h' := by
    intro i h g h' st kp j v q
    refine q.move fun T o e q' hc hn => kp T o q' (fun r => ?_) (.inr hc)
    obtain ⟨oC, h1, h2⟩ := hC _ _ _ st
    rw [r, h1] at q'; cases q'; exact hn h2
  intro k
  induction k with
  | zero =>
    intro i h g tk acc c hk hi hst hS hacc hP e₀ hR
    obtain rfl : i = es.length := by omega
    refine codeAny_builtin PySem.F.entry_extend_loop ?_
    rw [Around.under_plainId PySem.F.plain_extend_loop _]
    show wpAny _ A.in1 (pyNext (.ref a) >>= _) _ _ _
    refine wpAny_bind (W.done _ _ _ hst fun h' g' tk' he hg => ?_)
    refine wpAny_pure (hR h' g' tk' acc c (he.ext (by simp) e₀) hg (he _ _ hS hSC (.inl hS₀)) hacc fun j v q => keepP _ _ _ _ hst he _ _ (hP j v q))
  | succ k ih =>
    intro i h g tk acc c hk hi hst hS hacc hP e₀ hR
    have hlt : i < es.length := by omega
    refine codeAny_builtin PySem.F.entry_extend_loop ?_
    rw [Around.under_plainId PySem.F.plain_extend_loop _]
    show wpAny _ A.in1 (pyNext (.ref a) >>= _) _ _ _
    refine wpAny_bind (W.next _ _ _ i hlt hst fun v h' g' tk' hv st' he hg => ?_)
    show wpAny _ A.in1 (letOwnedTupleGo (.Name "x" default) (.ref a) v >>= fun _ => updateSeq S (·.push v) >>= fun _ => again (.builtin "list.extend.loop" ⟨[.ref S, .ref a, res], []⟩)) _ _ _
    refine wpAny_bind (m := letOwnedTupleGo (.Name "x" default) (.ref a) v) (wpAny_of_eq (a := ()) rfl ?_)
    have hS' : h'.get? S = some { cls := .type "list", data := .seq acc c } := he _ _ hS hSC (.inl hS₀)
    obtain ⟨c', hS₂⟩ : ∃ c', (h'.update S (Obj.mapSeq (·.push v))).get? S = some { cls := .type "list", data := .seq (acc.push v) c' } := ⟨_, Heap.get?_update_self (Obj.mapSeq (·.push v)) hS' rfl⟩
    have e₂ : Ext [S] h' (h'.update S (Obj.mapSeq (·.push v))) := fun b o n e => (Heap.get?_update_other _ _ (fun q => n (by rw [q]; exact .head _))).trans e
    have tu : ∀ j y, PE es j y h' → PE es j y (h'.update S (Obj.mapSeq (·.push v))) := fun j y q => q.move fun T o e q' hc _ => e₂ _ _ (fun z => by
        rw [List.mem_singleton.mp z, hS'] at q'
        cases q'
        exact absurd hc (by simp)) q'
    refine wpAny_bind (wpAny_updateSeq hS' rfl (wpAny_pure ⟨plainId_quiet PySem.F.plain_extend_loop _, ?_⟩) (by rw [hacc]; have := sizeLine_eq; omega) (by show (acc.push v).size ≤ sizeLine + 1; rw [Array.size_push, hacc]; have := sizeLine_eq; omega))
    refine ih (i + 1) _ g' tk' (acc.push v) c' (by omega) hlt (W.frame _ _ _ _ st' e₂ ⟨_, hS₂⟩) hS₂ (by rw [Array.size_push, hacc]) (fun j y hy => ?_) ((he.ext (by simp) e₀).app (e₂.mono fun b hb => by rw [List.mem_singleton.mp hb]; simp)) fun h'' g'' tk'' acc'' c'' he'' hg'' hS'' ha'' hP'' => ?_
    · rw [Array.getElem?_push] at hy
      split at hy
      · rename_i q; cases hy; rw [q, hacc]; exact tu i v hv
      · exact tu j y (keepP _ _ _ _ hst he _ _ (hP j y hy))
    · exact hR h'' g'' tk'' acc'' c'' he'' (hg.trans hg'') hS'' ha'' hP''
end
end Mine
end W22
section W23
open PySem PySem.W PyProof.Rows PySem.Calls PySem.Spec
set_option maxRecDepth 100000
set_option maxHeartbeats 8000000
namespace Mine
def SinceL (C : Nat) (h₀ : Heap) (s₀ s : Shared) : Prop := ∃ h' g' tk, s = { s₀ with heap := h', gens := g', toks := tk } ∧ Kp C h₀ s₀.heap h' ∧ GM [] s₀.gens g'
theorem SinceL.refl (C : Nat) (h₀ : Heap) (s : Shared) : SinceL C h₀ s s := ⟨s.heap, s.gens, s.toks, rfl, .refl _ _ _, .refl _⟩
theorem SinceL.step {C : Nat} {h₀ : Heap} {s₀ s : Shared} (x : SinceL C h₀ s₀ s) {h' : Heap} {g' : Array GenState} {tk : Nat} (e : Kp C h₀ s.heap h') (eg : GM [] s.gens g') : SinceL C h₀ s₀ { s with heap := h', gens := g', toks := tk } := by
  obtain ⟨h₁, g₁, tk₁, rfl, hk₁, hg₁⟩ := x
  exact ⟨h', g', tk, rfl, hk₁.trans e, hg₁.trans eg⟩
def gYL (C S : Nat) (h₀ : Heap) (es : List (Int × Int)) : Protocol := fun m s₀ v s kap =>
  m < es.length ∧ PE es (es.length - 1 - m) v s.heap ∧ SinceL C h₀ s₀ s ∧ (∃ o, s.heap.get? S = some o) ∧ (∃ o, s.heap.get? C = some o ∧ NoTup o) ∧ ∀ s'' : Shared, Ext [S] s.heap s''.heap → (∃ o, s''.heap.get? S = some o) → kap (.send .none) s''
abbrev gRL (C : Nat) (h₀ : Heap) : GenEnd := fun n s₀ r s₁ => r = .ok (.ret .none) ∧ (n = 0 ∧ SinceL C h₀ s₀ s₁)
def genStL (prog : Program) (w : World) (A : Around) (a k C S : Nat) (h₀ : Heap) (es : List (Int × Int)) : Nat → Heap → Array GenState → Prop := fun i h g =>
  (∃ o, h.get? S = some o) ∧ h.IsGen a k ∧ h.NoLimit ∧ (∃ o, h.get? C = some o ∧ NoTup o) ∧ ∃ gs, g[k]? = some gs ∧ ∀ s'' : Shared, Ext [S] h s''.heap → (∃ o, s''.heap.get? S = some o) → gs.Goes (model prog w) A.in1 (gRL C h₀) (gYL C S h₀ es) (es.length - i) (.send .none) s''
section
variable {prog : Program} {w : World} {A : Around} {E : Value → Shared → Prop} {s : Shared}
theorem pyNext_genF {a : Addr} {g n : Nat} {gs : GenState} {P : Nat → Shared → Shared → Prop} {Y : Protocol} {Q : Option Value → Shared → Prop} (hh : A.handled = none)
    (hl : s.heap.NoLimit) (hroom : A.depth < recursionLimit) (hg : s.heap.IsGen a g) (hgs : s.gens[g]? = some gs)
    (hgo : gs.Goes (model prog w) A.in1 (fun n s₀ r s₁ => r = .ok (.ret .none) ∧ P n s₀ s₁) Y n (.send .none) (s.setGen g .running))
    (hY : ∀ v s₁ gs', gs'.bare = true → Y (n - 1) (s.setGen g .running) v s₁ (fun r' s'' => match n with
        | 0 => False
        | m + 1 => gs'.Goes (model prog w) A.in1 (fun n s₀ r s₁ => r = .ok (.ret .none) ∧ P n s₀ s₁) Y m r' s'') → Q (some v) (s₁.setGen g gs'))
    (hP : ∀ s₁, P n (s.setGen g .running) s₁ → ∀ h', (∀ b o, s₁.heap.get? b = some o → h'.get? b = some o) → Q none { s₁.setGen g .finished with heap := h' }) :
    wpAny (model prog w) A (pyNext (.ref a)) Q E s := by
  unfold pyNext
  refine wpAny_bind (wpAny_attempt (wpAny_callSpecial?_slot (name := Str.ofString "__next__") hg.typeIs slot_gen_next
    (wpAny_call_entry slot_gen_next hg.typeIs entry_gen_next ?_ (args_gen_next _))))
  show wpAny _ A.in1 (Builtin.Generator.genWake (.ref a) (.send .none)) _ _ s
  unfold Builtin.Generator.genWake
  refine wpAny_bind (wpAny_holding (wpAny_genNumber hg (wpAny_bind (wpAny_genState hgs ?_))))
  have hA : A.in1.handled = none := hh
  have stop : ∀ (f : Unit → Sem PySem.Fin) (s₁ : Shared), P n (s.setGen g .running) s₁ → wpAny (model prog w) A.in1 (newExc (.type "StopIteration") [] >>= fun e => (raiseNew e : Sem Unit) >>= f) (fun fin s' => False) (fun e s' => ∃ h', (∀ b o, s₁.heap.get? b = some o → h'.get? b = some o) ∧ s' = { s₁.setGen g .finished with heap := h' } ∧ ({ s₁.setGen g .finished with heap := h' } : Shared).TypeIs e "StopIteration") (s₁.setGen g .finished) := by
    intro f s₁ hp
    refine wpAny_bind ?_
    simp only [newExc, newTuple]
    refine wpAny_bind (wpAny_newObj_type ?_ (by size_fits))
    refine wpAny_bind (m := firstArgMember _ _) (wpAny_of_eq (a := Value.none) (by first | rfl | (simp only [firstArgMember]; rfl)) ?_)
    refine wpAny_newObj_type ?_ (by size_fits)
    simp only [raiseNew]
    refine wpAny_bind (wpAny_bind (wpAny_handled ?_))
    rw [hA]
    refine wpAny_throw ⟨_, fun b o hb => Heap.get?_push_of_some _ (Heap.get?_push_of_some _ hb), rfl, ⟨_, Heap.get?_push_size _ rfl, rfl⟩⟩
  cases gs with
  | running => exact hgo.elim
  | finished => exact hgo.elim
  | _ =>
    refine wpAny_bind (wpAny_roomToWake hl hroom ?_)
    show wpAny _ A.in1 (.resume g (.send .none) [] _) _ _ s
    refine wpAny_resumeQ hgs hgo (fun x s₁ hx => ?_) (fun v s₁ gs' hb hv => ?_)
    · obtain ⟨rfl, hp⟩ := hx
      show wpAny _ A.in1 (newExc (.type "StopIteration") [] >>= fun e => (raiseNew e : Sem Unit) >>= _) _ _ _
      refine wpAny_mono (stop _ s₁ hp) (fun _ _ x => x.elim) (fun e s' he => ?_)
      obtain ⟨h', hk, rfl, ht⟩ := he
      refine wpAny_bind (wpAny_isInstance (T := "StopIteration") (b := true) ht isSubtype_stop ?_)
      exact wpAny_pure (hP s₁ hp h' hk)
    · exact wpAny_pure ⟨v, rfl, wpAny_pure (hY v s₁ gs' hb hv)⟩
end
end Mine
end W23
section W24
open PySem PySem.W PyProof.Rows PySem.Calls PySem.Spec
set_option maxRecDepth 100000
set_option maxHeartbeats 8000000
namespace Mine
section
variable {prog : Program} {w : World} {A : Around}
theorem genL {a k C S : Nat} {h₀ : Heap} {es : List (Int × Int)} (hh : A.handled = none) (hroom : A.depth < recursionLimit) (haC : a ≠ C) (haS : a ≠ S) (ha : ∃ o, h₀.get? a = some o) (hc : ∃ o, h₀.get? cStatics = some o) (hcC : cStatics ≠ C) (hcS : cStatics ≠ S) (hCS : C ≠ S) :
    ItrL prog w A (.ref a) S C h₀ [k] es (genStL prog w A a k C S h₀ es) where
  frame := fun i h g h' st e hS => by
    obtain ⟨_, ⟨o, nm, qn, ho, r⟩, ⟨mc, hns, hnn⟩, ⟨oC, hC, hC'⟩, gs, hgs, hgo⟩ := st
    exact ⟨hS, ⟨o, nm, qn, e _ _ (fun q => haS (List.mem_singleton.mp q)) ho, r⟩, ⟨mc, hns.at' fun o q => e _ _ (fun q => hcS (List.mem_singleton.mp q)) q, hnn⟩, ⟨oC, e _ _ (fun q => hCS (List.mem_singleton.mp q)) hC, hC'⟩, gs, hgs, fun s'' e' hS' => hgo s'' (e.app e') hS'⟩
  next := fun E Q s i hi st hQ => by
    obtain ⟨hSl, hg, hl, hlv, gs, hgs, hgo⟩ := st
    obtain ⟨m, hm⟩ : ∃ m, es.length - i = m + 1 := ⟨es.length - i - 1, by omega⟩
    rw [hm] at hgo
    refine pyNext_genF (P := fun n s₀ s₁ => n = 0 ∧ SinceL C h₀ s₀ s₁) hh hl hroom hg hgs (hgo _ (fun _ _ _ e => e) hSl) (fun v s₁ gs' hb hv => ?_) (fun s₁ hp h' hk => ?_)
    · obtain ⟨_, hP, ⟨h₁, g₁, tk₁, rfl, he, hg₁⟩, hS₁, hlv₁, hkap⟩ := hv
      rw [show es.length - 1 - (m + 1 - 1) = i by omega] at hP
      have hlen : k < s.gens.size := (Array.getElem?_eq_some_iff.mp hgs).1
      have hrun : (s.setGen k .running).gens[k]? = some .running := by simp [Shared.setGen, hlen]
      have hg₁k : g₁[k]? = some .running := hg₁.at_ k _ (fun h => nomatch h) hrun
      have hlen₁ : k < g₁.size := (Array.getElem?_eq_some_iff.mp hg₁k).1
      refine hQ v h₁ (g₁.setIfInBounds k gs') tk₁ hP ⟨hS₁, ?_, ?_, hlv₁, gs', by simp [hlen₁], fun s'' hal hS'' => ?_⟩ he ((GM.set rfl).trans ((hg₁.mono fun _ h => nomatch h).trans (GM.set hb)))
      · obtain ⟨o, nm, qn, ho, r⟩ := hg
        exact ⟨o, nm, qn, he _ _ ho haC (.inl ha), r⟩
      · obtain ⟨mc, hns, hnn⟩ := hl
        exact ⟨mc, hns.at' fun o e => he _ _ e hcC (.inl hc), hnn⟩
      · rw [show es.length - (i + 1) = m by omega]
        exact hkap s'' hal hS''
    · exact absurd hp.1 (Nat.succ_ne_zero m)
  done := fun E Q s st hQ => by
    obtain ⟨hSl, hg, hl, hlv, gs, hgs, hgo⟩ := st
    rw [Nat.sub_self] at hgo
    refine pyNext_genF (P := fun n s₀ s₁ => n = 0 ∧ SinceL C h₀ s₀ s₁) hh hl hroom hg hgs (hgo _ (fun _ _ _ e => e) hSl) (fun v s₁ gs' hb hv => ?_) (fun s₁ hp h' hk => ?_)
    · obtain ⟨_, _, _, hS₁, _, hkap⟩ := hv
      exact (hkap s₁ (fun _ _ _ e => e) hS₁).elim
    · obtain ⟨_, h₁, g₁, tk₁, rfl, he, hg₁⟩ := hp
      exact hQ h' (g₁.setIfInBounds k .finished) tk₁ (he.trans fun b o e _ _ => hk b o e) ((GM.set rfl).trans ((hg₁.mono fun _ h => nomatch h).trans (GM.set rfl)))
end
end Mine
end W24
section W25
open PySem PySem.W PyProof.Rows PySem.Calls PySem.Spec
set_option maxRecDepth 100000
set_option maxHeartbeats 8000000
namespace Mine
def eRow (seen : List Int) (n : Int) (es : List (Int × Nat)) : List (Int × Int) := (es.filter fun e => decide (e.1 ∉ seen)).map fun e => (n, e.1)
def eFrom : List Int → List Row → List (Int × Int)
  | _, [] => []
  | seen, r :: rs => eRow seen r.n r.es ++ eFrom (seen ++ [r.n]) rs
def Gr.edges (G : Gr) : List (Int × Int) := eFrom [] G.rows
structure GI (prog : Program) (w : World) (h₀ : Heap) (G : Gr) (S C It sn : Nat) (i j : Nat) (h : Heap) : Prop where
  z : Gl w h
  g : GraphAt prog w h G
  it : ∃ ep ok ov, IsItemIter h It G.ad i G.adjs.length ep ok ov ∧ h.DictAt (intKind prog w) G.ad G.adjs ep
  sd : ∃ sk, h.DictOf (intKind prog w) sn sk ∧ sk.map (·.1) = (G.rows.take j).map (·.n)
  ls : ∃ o, h.get? S = some o
  base : Ext [S, C] h₀ h
structure GC (h₀ : Heap) (G : Gr) (S C It sn : Nat) : Prop where
  s : ∃ o, h₀.get? S = some o
  c : ∃ o, h₀.get? C = some o
  di : h₀.get? It = none
  ds : h₀.get? sn = none
  ne : It ≠ sn
  sg : S ∉ G.all
  cg : C ∉ G.all
  gs : ∀ a ∈ G.all, ∃ o, h₀.get? a = some o
  big : 709 ≤ S ∧ 709 ≤ C ∧ 709 ≤ It ∧ 709 ≤ sn
  sc : S ≠ C
section
variable {prog : Program} {w : World} {A : Around} {h₀ h h' : Heap} {G : Gr} {S C It sn i j : Nat}
theorem GI.ext {F : List Nat} (x : GI prog w h₀ G S C It sn i j h) (e : Ext F h h') (hb : ∀ b ∈ F, 709 ≤ b) (hg : ∀ b ∈ F, b ∉ G.all) (h1 : It ∉ F) (h2 : sn ∉ F) (hf : ∀ b ∈ F, b = S ∨ b = C ∨ h₀.get? b = none) (hS : ∃ o, h'.get? S = some o) : GI prog w h₀ G S C It sn i j h' where
  z := x.z.ext e hb
  g := x.g.to e fun a ha q => hg a q ha
  it := let ⟨ep, ok, ov, a, b⟩ := x.it; ⟨ep, ok, ov, e _ _ h1 a, b.at' fun o q => e _ _ (fun q' => hg _ q' mem_ad) q⟩
  sd := let ⟨sk, a, b⟩ := x.sd; ⟨sk, DictOf.ext a e h2, b⟩
  ls := hS
  base := x.base.app' e fun b hb => (hf b hb).elim (fun q => .inl (by simp [q])) fun q => q.elim (fun q => .inl (by simp [q])) .inr
theorem GC.ne_of (K : GC h₀ G S C It sn) {a b : Nat} (x : h₀.get? a = none) (y : ∃ o, h₀.get? b = some o) : a ≠ b := fun q => by obtain ⟨o, y⟩ := y; rw [q] at x; exact nomatch x.symm.trans y
theorem GI.cons (x : GI prog w h₀ G S C It sn i j h) (K : GC h₀ G S C It sn) (e : Ext [S] h h') (hS : ∃ o, h'.get? S = some o) : GI prog w h₀ G S C It sn i j h' :=
  x.ext e (fun b hb => by rw [List.mem_singleton.mp hb]; exact K.big.1) (fun b hb => by rw [List.mem_singleton.mp hb]; exact K.sg) (fun q => K.ne_of K.di K.s (List.mem_singleton.mp q)) (fun q => K.ne_of K.ds K.s (List.mem_singleton.mp q)) (fun b hb => .inl (List.mem_singleton.mp hb)) hS
theorem GI.loc (x : GI prog w h₀ G S C It sn i j h) (K : GC h₀ G S C It sn) (e : Ext [C] h h') : GI prog w h₀ G S C It sn i j h' :=
  x.ext e (fun b hb => by rw [List.mem_singleton.mp hb]; exact K.big.2.1) (fun b hb => by rw [List.mem_singleton.mp hb]; exact K.cg) (fun q => K.ne_of K.di K.c (List.mem_singleton.mp q)) (fun q => K.ne_of K.ds K.c (List.mem_singleton.mp q)) (fun b hb => .inr (.inl (List.mem_singleton.mp hb))) (let ⟨o, ho⟩ := x.ls; ⟨o, e _ _ (fun q => K.sc (List.mem_singleton.mp q)) ho⟩)
theorem GI.k (x : GI prog w h₀ G S C It sn i j h) (e : Ext [] h h') : GI prog w h₀ G S C It sn i j h' := x.ext e (fun _ h => nomatch h) (fun _ h => nomatch h) (fun h => nomatch h) (fun h => nomatch h) (fun _ h => nomatch h) (let ⟨o, ho⟩ := x.ls; ⟨o, e.keep _ _ ho⟩)
theorem valueAt_isSome {sk : List (Int × Value)} {x : Int} : (valueAt sk x).isSome = decide (x ∈ sk.map (·.1)) := by
  unfold valueAt
  rw [Option.isSome_map]
  refine Bool.eq_iff_iff.mpr ⟨fun q => ?_, fun q => ?_⟩
  · obtain ⟨kv, hk, e⟩ := List.find?_isSome.mp q
    exact decide_eq_true (List.mem_map.mpr ⟨kv, hk, by simpa using e⟩)
  · obtain ⟨kv, hk, e⟩ := List.mem_map.mp (of_decide_eq_true q)
    exact List.find?_isSome.mpr ⟨kv, hk, by simpa using e⟩
theorem eRow_cons {seen : List Int} {n : Int} {x : Int × Nat} {xs : List (Int × Nat)} : eRow seen n (x :: xs) = if x.1 ∈ seen then eRow seen n xs else (n, x.1) :: eRow seen n xs := by
  unfold eRow
  by_cases q : x.1 ∈ seen <;> simp [q]
variable {s₀ s : Shared} {env : Env}
theorem sg_inner {p1 p2 p3 p4 p5 p6 p7 p8 p9 p10 pp : Pos} {kk : Nat} {cO : Code} {fs₁ : List Frame} {k₂ : Result → Sem PySem.Fin} {It2 lst : Nat} {acc : Array Value} {es rest : List (Int × Int)} {n : Int} {seen : List Int} {el : List (Int × Nat)}
    (hh : ∀ c fs, c = (Code.forLoop (.Name "nbr" p10) (.ref It2) [.If (.Compare (.Name "nbr" p1) [.NotIn] [.Name "seen" p2] p3) [.Expr (.Yield (some (.Tuple [.Name "n" p4, .Name "nbr" p5] kk p6)) p7) p8] [] p9] [] env) → fs = (.ret k₂ none false [] cO pp [] :: fs₁) → (A.over c fs).handled = none)
    (hfs : splitAtGen fs₁ = none) (hfg : fs₁.any Frame.guarded = false) (hkf : env.scope.kind = .function) (hk1 : env.kindOf "nbr" = some .local) (hk2 : env.kindOf "seen" = some .local) (hk3 : env.kindOf "n" = some .local) (hco : env.scope.isCoroutine = false) (hint : interactive env = false)
    (K : GC h₀ G S env.locals It sn) (hseen : seen = (G.rows.take j).map (·.n)) (hacc : acc.size = el.length) (hel : ∀ (q : Nat) v, acc[q]? = some v → ∃ t, v = .int (el[q]!).1 t)
    (d1 : h₀.get? It2 = none) (d2 : h₀.get? lst = none) (ne : lst ≠ It2) (b1 : 709 ≤ It2) (ni1 : It ≠ It2) (ni2 : sn ≠ It2)
    (cont : ∀ (s₀ s : Shared) (m : Str → Option Value), SinceL env.locals h₀ s₀ s → GI prog w h₀ G S env.locals It sn i j s.heap → s.heap.Ns env.locals m → m "seen" = some (.ref sn) → (∃ t, m "n" = some (.int n t)) → 
      Seg (model prog w) A (gRL env.locals h₀) (gYL env.locals S h₀ es) rest.length s₀ cO (k₂ (.ok .next)) fs₁ s) :
    ∀ (q a : Nat) (s₀ s : Shared) (m : Str → Option Value), acc.size - a = q → a ≤ acc.size → SinceL env.locals h₀ s₀ s → GI prog w h₀ G S env.locals It sn i j s.heap → s.heap.IsListIter It2 lst a → s.heap.IsList lst acc →
      s.heap.Ns env.locals m → m "seen" = some (.ref sn) → (∃ t, m "n" = some (.int n t)) → (∃ pre, es = pre ++ (eRow seen n (el.drop a) ++ rest)) →
      Seg (model prog w) A (gRL env.locals h₀) (gYL env.locals S h₀ es) ((eRow seen n (el.drop a)).length + rest.length) s₀
        (.forLoop (.Name "nbr" p10) (.ref It2) [.If (.Compare (.Name "nbr" p1) [.NotIn] [.Name "seen" p2] p3) [.Expr (.Yield (some (.Tuple [.Name "n" p4, .Name "nbr" p5] kk p6)) p7) p8] [] p9] [] env)
        ((model prog w).den (.forLoop (.Name "nbr" p10) (.ref It2) [.If (.Compare (.Name "nbr" p1) [.NotIn] [.Name "seen" p2] p3) [.Expr (.Yield (some (.Tuple [.Name "n" p4, .Name "nbr" p5] kk p6)) p7) p8] [] p9] [] env))
        (.ret k₂ none false [] cO pp [] :: fs₁) s := by
  have C2 : env.locals ≠ It2 := Ne.symm (K.ne_of d1 K.c)
  have g1 : ∀ b ∈ ([It2] : List Nat), 709 ≤ b := fun b hb => by rw [List.mem_singleton.mp hb]; exact b1
  have g2 : ∀ b ∈ ([It2] : List Nat), b ∉ G.all := fun b hb q => by rw [List.mem_singleton.mp hb] at q; exact K.ne_of d1 (K.gs _ q) rfl
  have g3 : It ∉ ([It2] : List Nat) := fun q => ni1 (List.mem_singleton.mp q)
  have g4 : sn ∉ ([It2] : List Nat) := fun q => ni2 (List.mem_singleton.mp q)
  have g5 : ∀ b ∈ ([It2] : List Nat), b = S ∨ b = env.locals ∨ h₀.get? b = none := fun b hb => by rw [List.mem_singleton.mp hb]; exact .inr (.inr d1)
  intro q
  induction q with
  | zero =>
    intro a s₀ s m hq ha hs hI hit hl hn hm1 hm2 hes
    obtain rfl : a = acc.size := by omega
    have h0 : el.drop acc.size = [] := List.drop_eq_nil_of_le (by omega)
    rw [h0]
    simp only [eRow, List.filter_nil, List.map_nil, List.length_nil, Nat.zero_add]
    refine sg_forLoop (wpAny_pyNext_list_end (hh _ _ rfl rfl) hit hl (Array.getElem?_eq_none (Nat.le_refl _)) fun h' he => ?_)
    refine seg_leaf (.ok .next) (cont s₀ { s with heap := h' } m ?_ ?_ ?_ hm1 hm2)
    · exact hs.step (Kp.of (Ext.of_extBut he) fun b hb => .inr (by
        rw [List.mem_singleton.mp hb]
        exact ⟨d1, fun o q => by obtain ⟨o', h1, h2, _⟩ := hit; rw [h1] at q; cases q; rw [h2]; simp⟩)) (.refl _)
    · exact hI.ext (Ext.of_extBut he) g1 g2 g3 g4 g5 (let ⟨o, ho⟩ := hI.ls; ⟨o, he _ _ (Ne.symm (K.ne_of d1 K.s)) ho⟩)
    · exact hn.at' fun o e => he _ _ C2 e
  | succ q ih =>
    intro a s₀ s m hq ha hs hI hit hl hn hm1 hm2 hes
    have hlt : a < acc.size := by omega
    have hle : a < el.length := by omega
    have hx : acc[a]? = some acc[a] := Array.getElem?_eq_getElem hlt
    obtain ⟨t, ht⟩ := hel a _ hx
    rw [ht] at hx
    have hgel : el[a]! = el[a] := getElem!_pos el a hle
    rw [hgel] at hx
    have hdrop : el.drop a = el[a] :: el.drop (a + 1) := List.drop_eq_getElem_cons hle
    generalize el[a] = x at hx hdrop
    rw [hdrop] at hes ⊢
    refine sg_forLoop (wpAny_pyNext_list_item hit hl hx fun h₁ hit₁ s₁ => ?_)
    have e₁ : Ext [It2] s.heap h₁ := Ext.of_same s₁
    refine wpAny_of_eq (a := ()) rfl ?_
    have hp' : (env.scope.kind == .class || (env.scope.kind == .module && env.locals != env.globals)) = false := by rw [hkf]; rfl
    refine wpAny_assign_Name (stL (hn.at' fun o e => e₁ _ _ (fun q => C2 (List.mem_singleton.mp q)) e) hk1 (fun h₂ n₂ s₂ => ?_) hp')
    replace s₂ : Heap.SameBut env.locals h₁ h₂ := s₂
    have e₂ : Ext [env.locals] h₁ h₂ := Ext.of_same s₂
    have hI₂ := (hI.ext e₁ g1 g2 g3 g4 g5 (let ⟨o, ho⟩ := hI.ls; ⟨o, e₁ _ _ (fun q => K.ne_of d1 K.s (List.mem_singleton.mp q).symm) ho⟩)).loc K e₂
    have kp1 : Kp env.locals h₀ s.heap h₁ := Kp.of e₁ fun b hb => .inr (by
        rw [List.mem_singleton.mp hb]
        exact ⟨d1, fun o q => by obtain ⟨o', h1, h2, _⟩ := hit; rw [h1] at q; cases q; rw [h2]; simp⟩)
    have kp2 : Kp env.locals h₀ h₁ h₂ := Kp.of e₂ fun b hb => .inl (List.mem_singleton.mp hb)
    have hit₂ : h₂.IsListIter It2 lst (a + 1) := hit₁.extBut s₂.extBut (Ne.symm C2)
    have lC : lst ≠ env.locals := K.ne_of d2 K.c
    have hl₂ : h₂.IsList lst acc := (hl.extBut s₁.extBut ne).extBut s₂.extBut lC
    intro H
    refine seg_execs_cons (sg_If ?_)
    obtain ⟨sk, hsk, hsk'⟩ := hI₂.sd
    rw [← hseen] at hsk'
    refine wpAny_isTrue_Compare1 <| nmL n₂ hk1 (if_pos rfl) (hk := hkf) <| nmL n₂ hk2 ((if_neg (by decide)).trans hm1) (hk := hkf) <| inN (notMods K.big.2.2.2) hsk (b := decide (x.1 ∈ seen)) (by rw [valueAt_isSome, hsk']) fun tk => wpAny_truthy_bool ?_
    by_cases hxs : x.1 ∈ seen
    · rw [decide_eq_true hxs, eRow_cons, if_pos hxs]
      rw [eRow_cons, if_pos hxs] at hes
      refine seg_again rfl ?_
      exact ih (a + 1) s₀ ⟨h₂, s.gens, s.drawn, tk, s.os⟩ _ (by omega) hlt (SinceL.step (hs.step (h' := h₁) (g' := s.gens) (tk := tk) kp1 (.refl _)) kp2 (.refl _)) hI₂ hit₂ hl₂ n₂ ((if_neg (by decide)).trans hm1) (let ⟨t, q⟩ := hm2; ⟨t, (if_neg (by decide)).trans q⟩) hes
    · rw [decide_eq_false hxs, eRow_cons, if_neg hxs]
      rw [eRow_cons, if_neg hxs] at hes
      simp only [Bool.not_false, if_true]
      rw [List.length_cons, show (eRow seen n (el.drop (a + 1))).length + 1 + rest.length = (eRow seen n (el.drop (a + 1))).length + rest.length + 1 by omega]
      refine seg_execs_cons (seg_Expr_Yield (by simp [splitAtGen, hfs]) rfl (by rw [List.any_cons, hfg]; rfl) ?_ hco hint)
      obtain ⟨tn, hm2'⟩ := hm2
      have ms : ∀ z : Str, z ≠ "nbr" → (if z = "nbr" then some (Value.int x.1 t) else m z) = m z := fun z q => if_neg q
      refine wpAny_Tuple <| wpAny_items_cons <| nmL n₂ hk3 ((if_neg (by decide)).trans hm2') (hk := hkf) <| wpAny_items_cons <| nmL n₂ hk1 (if_pos rfl) (hk := hkf) <| wpAny_items_nil ⟨(by show 2 ≤ 2 ^ 24; decide), fun kap hkap => ?_⟩
      generalize hh₃ : Heap.push _ _ = h₃
      have e₃ : Ext [] h₂ h₃ := hh₃ ▸ Ext.push _ _
      have hT : Tup h₃ h₂.objs.size #[.int n tn, .int x.1 t] := hh₃ ▸ Heap.get?_push_size _ rfl
      have hI₃ := hI₂.k e₃
      have kp3 : Kp env.locals h₀ h₂ h₃ := Kp.of e₃ fun _ h => nomatch h
      obtain ⟨pre, hpre⟩ := hes
      have hlen : es.length = pre.length + (1 + ((eRow seen n (el.drop (a + 1))).length + rest.length)) := by rw [hpre]; simp; omega
      have hget : es[es.length - 1 - ((eRow seen n (el.drop (a + 1))).length + rest.length)]! = (n, x.1) := by
        rw [show es.length - 1 - ((eRow seen n (el.drop (a + 1))).length + rest.length) = pre.length by omega, hpre]
        simp
      obtain ⟨oC, esC, epC, hoC, hdC, _⟩ := id n₂
      refine ⟨by omega, ⟨h₂.objs.size, tn, t, rfl, by rw [hget]; exact hT⟩, SinceL.step (SinceL.step (hs.step (h' := h₁) (g' := s.gens) (tk := tk) kp1 (.refl _)) (h' := h₂) (g' := s.gens) (tk := tk) kp2 (.refl _)) kp3 (.refl _), hI₃.ls, ⟨oC, e₃.keep _ _ hoC, ?_⟩, fun s'' hal hS'' => ?_⟩
      · exact .inr fun xs q => by rw [hdC] at q; cases q
      · refine hkap .none s'' (seg_again rfl ?_)
        replace hal : Ext [S] h₃ s''.heap := hal
        have hE : Ext [S] h₂ s''.heap := (Ext.of_keep e₃.keep _).app hal
        refine ih (a + 1) s'' s'' _ (by omega) hlt (.refl _ _ _) (hI₃.cons K hal hS'') (hit₂.at fun o e => hE _ _ (fun q => K.ne_of d1 K.s (List.mem_singleton.mp q)) e) (hl₂.at fun o e => hE _ _ (fun q => K.ne_of d2 K.s (List.mem_singleton.mp q)) e) (n₂.at' fun o e => hE _ _ (fun q => K.sc (List.mem_singleton.mp q).symm) e) ((if_neg (by decide)).trans hm1) ⟨tn, (if_neg (by decide)).trans hm2'⟩ ⟨pre ++ [(n, x.1)], by rw [hpre]; simp⟩
end
end Mine
end W25
section W26
open PySem PySem.W PyProof.Rows PySem.Calls PySem.Spec
set_option maxRecDepth 100000
set_option maxHeartbeats 8000000
namespace Mine
theorem stored_fst {sk : List (Int × Value)} {n : Int} {v : Value} (h : n ∉ sk.map (·.1)) : (stored sk n v).map (·.1) = sk.map (·.1) ++ [n] := by
  unfold stored
  have : (sk.any fun kv => kv.1 = n) = false := by
    rw [List.any_eq_false]
    intro kv hk q
    exact h (List.mem_map.mpr ⟨kv, hk, by simpa using q⟩)
  simp [this]
section
variable {prog : Program} {w : World} {A : Around} {h₀ h h' : Heap} {G : Gr} {S C It sn i j : Nat} {s₀ s : Shared} {env : Env}
abbrev inBody (p1 p2 p3 p4 p5 p6 p7 p8 p9 : Pos) (kk : Nat) : List Stmt := [.If (.Compare (.Name "nbr" p1) [.NotIn] [.Name "seen" p2] p3) [.Expr (.Yield (some (.Tuple [.Name "n" p4, .Name "nbr" p5] kk p6)) p7) p8] [] p9]
abbrev outBody (p1 p2 p3 p4 p5 p6 p7 p8 p9 p10 q4 q5 q6 q7 q8 q9 q10 q11 q12 : Pos) (kk kc : Nat) : List Stmt :=
  [.For (.Name "nbr" p10) (.Call (.Name "list" q4) [.Name "nbrs" q5] [] q6) (inBody p1 p2 p3 p4 p5 p6 p7 p8 p9 kk) [] q7, .Assign [.Subscript (.Name "seen" q8) (.Name "n" q9) q10] (.Constant (.int 1) kc q11) q12]
theorem sg_forItr {R : GenEnd} {Y : Protocol} {n : Nat} {fs : List Frame} {tgt : Expr} {it : Value} {body : List Stmt} {own dep Gs : List Nat} {N : Nat} {P : Nat → Value → Heap → Prop} {St : Nat → Heap → Array GenState → Prop}
    (W : Itr prog w (A.over (.forLoop tgt it body [] env) fs) it own dep Gs tgt N P St) (hi : i < N) (st : St i s.heap s.gens)
    (h : ∀ v h' g' tk fv, Itm dep s.heap (P i) v h' fv → St (i + 1) h' g' → Ext own s.heap h' → GM Gs s.gens g' → wpAny (model prog w) (A.over (.forLoop tgt it body [] env) fs) (assign tgt env v) (fun _ s₂ =>
          ∀ H : Value → Sem PySem.Fin, Seg (model prog w) A R Y n s₀ (.forLoop tgt it body [] env) ((execs body env).wrap (fun f => match f with
            | .next | .cont => .pure (.again (.forLoop tgt it body [] env))
            | .brk => .pure (.done .next)
            | .ret v => .pure (.done (.ret v))) H id id) fs s₂) (fun _ _ => False) { s with heap := h', gens := g', toks := tk }) :
    Seg (model prog w) A R Y n s₀ (.forLoop tgt it body [] env) ((model prog w).den (.forLoop tgt it body [] env)) fs s := by
  refine sg_forLoop (wpAny_mono (W.next _ _ s i hi st h) (fun r s' hr => ?_) fun _ _ x => x)
  cases r with
  | none => exact hr.elim
  | some v => exact hr
theorem sg_outer {p1 p2 p3 p4 p5 p6 p7 p8 p9 p10 q1 q2 q3 q4 q5 q6 q7 q8 q9 q10 q11 q12 pp : Pos} {kk kc k0 : Nat} {cF : Code} {k₁ : Result → Sem PySem.Fin}
    (hh : ∀ c fs, (∀ f ∈ fs, ∃ k c p, f = Frame.ret k none false [] c p []) → (A.over c fs).handled = none)
    (hkf : env.scope.kind = .function) (hk1 : env.kindOf "nbr" = some .local) (hk2 : env.kindOf "seen" = some .local) (hk3 : env.kindOf "n" = some .local) (hk4 : env.kindOf "nbrs" = some .local) (hk5 : env.kindOf "list" = some .globalImplicit) (hglo : env.globals = mainGlobals) (hbui : env.builtins = builtinsNs) (hco : env.scope.isCoroutine = false) (hint : interactive env = false)
    (K : GC h₀ G S env.locals It sn) (J : Gi G) (hadIt : G.ad ≠ It)
    (hend : ∀ (s₀ s : Shared), SinceL env.locals h₀ s₀ s → Seg (model prog w) A (gRL env.locals h₀) (gYL env.locals S h₀ G.edges) 0 s₀ cF (k₁ (.ok .next)) [] s) :
    ∀ (q i : Nat) (s₀ s : Shared) (m : Str → Option Value), G.rows.length - i = q → i ≤ G.rows.length → SinceL env.locals h₀ s₀ s → GI prog w h₀ G S env.locals It sn i i s.heap → s.heap.Ns env.locals m → m "seen" = some (.ref sn) →
      (∃ pre, G.edges = pre ++ eFrom ((G.rows.take i).map (·.n)) (G.rows.drop i)) →
      Seg (model prog w) A (gRL env.locals h₀) (gYL env.locals S h₀ G.edges) (eFrom ((G.rows.take i).map (·.n)) (G.rows.drop i)).length s₀
        (.forLoop (.Tuple [.Name "n" q1, .Name "nbrs" q2] k0 q3) (.ref It) (outBody p1 p2 p3 p4 p5 p6 p7 p8 p9 p10 q4 q5 q6 q7 q8 q9 q10 q11 q12 kk kc) [] env)
        ((model prog w).den (.forLoop (.Tuple [.Name "n" q1, .Name "nbrs" q2] k0 q3) (.ref It) (outBody p1 p2 p3 p4 p5 p6 p7 p8 p9 p10 q4 q5 q6 q7 q8 q9 q10 q11 q12 kk kc) [] env))
        (.ret k₁ none false [] cF pp [] :: []) s := by
  have Ci : env.locals ≠ It := Ne.symm (K.ne_of K.di K.c)
  have nt : ∀ {h : Heap} {ep : Nat} {ok ov : Value} {a b : Nat}, IsItemIter h It a b G.adjs.length ep ok ov → ∀ o, h.get? It = some o → o.cls ≠ .type "tuple" := fun hit o e => by
    have : _ = _ := hit.symm.trans e
    cases this; simp
  intro q
  induction q with
  | zero =>
    intro i s₀ s m hq hi hs hI hn hm hes
    obtain rfl : i = G.rows.length := by omega
    have h0 : G.rows.drop G.rows.length = [] := List.drop_length
    rw [h0]
    obtain ⟨ep, ok, ov, hit, hat⟩ := hI.it
    refine sg_forLoop (wpAny_pyNext_items_end (hh _ _ (fun f hf => by simp at hf; exact ⟨_, _, _, hf⟩)) hit hat (List.getElem?_eq_none (by simp [Gr.adjs])) fun h' he => ?_)
    refine seg_leaf (.ok .next) (hend s₀ { s with heap := h' } (hs.step (Kp.of (Ext.of_extBut he) fun b hb => .inr (by
        rw [List.mem_singleton.mp hb]
        exact ⟨K.di, nt hit⟩)) (.refl _)))
  | succ q ih =>
    intro i s₀ s m hq hi hs hI hn hm hes
    have hlt : i < G.rows.length := by omega
    have hdrop : G.rows.drop i = G.rows[i] :: G.rows.drop (i + 1) := List.drop_eq_getElem_cons hlt
    have hgi : G.rows[i]? = some G.rows[i] := List.getElem?_eq_getElem hlt
    have hrm : G.rows[i] ∈ G.rows := List.getElem_mem hlt
    have htake : (G.rows.take (i + 1)).map (·.n) = (G.rows.take i).map (·.n) ++ [G.rows[i].n] := by
      rw [List.take_add_one, List.map_append, hgi]; rfl
    generalize G.rows[i] = r at hdrop hgi hrm htake
    rw [hdrop] at hes ⊢
    obtain ⟨ep, ok, ov, hit, hat⟩ := hI.it
    refine sg_forItr (Itr.items (knd := intKind prog w) (hh _ _ (fun f hf => by simp at hf; exact ⟨_, _, _, hf⟩)) It G.ad hadIt G.adjs ep _ _ _) (by simpa [Gr.adjs] using hlt) ⟨⟨ok, ov, hit⟩, hat⟩ fun v h₁ g₁ tk₁ fv itm st₁ e₁ eg₁ => ?_
    obtain ⟨⟨ok₁, ov₁, hit₁⟩, hat₁⟩ := st₁
    obtain ⟨T, k, y, key, rfl, hk, hkey, hT⟩ := itm.is h₁ fun _ _ _ e => e
    obtain ⟨r', hr', rfl, rfl⟩ := adjs_item hk
    rw [hgi] at hr'
    obtain rfl : r = r' := Option.some.inj hr'
    obtain ⟨tr, rfl⟩ := Value.isInt_shape (show key.isInt r.n = true from hkey)
    have kp1 : Kp env.locals h₀ s.heap h₁ := Kp.of e₁ fun b hb => .inr (by
        rw [List.mem_singleton.mp hb]
        exact ⟨K.di, nt hit⟩)
    have hhO : (A.over (.forLoop (.Tuple [.Name "n" q1, .Name "nbrs" q2] k0 q3) (.ref It) (outBody p1 p2 p3 p4 p5 p6 p7 p8 p9 p10 q4 q5 q6 q7 q8 q9 q10 q11 q12 kk kc) [] env) (.ret k₁ none false [] cF pp [] :: [])).handled = none := hh _ _ (fun f hf => by simp at hf; exact ⟨_, _, _, hf⟩)
    have n₁ : h₁.Ns env.locals m := hn.at' fun o e => e₁ _ _ (fun q => Ci (List.mem_singleton.mp q)) e
    refine unp2I hhO hT n₁ hk3 hk4 hkf fun h₂ tk₂ e₂ n₂ => ?_
    replace e₂ : Ext [env.locals] h₁ h₂ := e₂
    have kp2 : Kp env.locals h₀ h₁ h₂ := Kp.of e₂ fun b hb => .inl (List.mem_singleton.mp hb)
    have hI₂ : GI prog w h₀ G S env.locals It sn (i + 1) i h₂ := by
      have z1 : GI prog w h₀ G S env.locals It sn (i + 1) i h₁ := by
        have g3 : sn ∉ ([It] : List Nat) := fun q => K.ne (List.mem_singleton.mp q).symm
        have g2 : ∀ b ∈ ([It] : List Nat), b ∉ G.all := fun b hb q => by rw [List.mem_singleton.mp hb] at q; exact K.ne_of K.di (K.gs _ q) rfl
        refine ⟨hI.z.ext e₁ fun b hb => by rw [List.mem_singleton.mp hb]; exact K.big.2.2.1, hI.g.to e₁ fun a ha q => g2 a q ha, ⟨ep, ok₁, ov₁, hit₁, hat₁⟩, let ⟨sk, a, b⟩ := hI.sd; ⟨sk, DictOf.ext a e₁ g3, b⟩, let ⟨o, ho⟩ := hI.ls; ⟨o, e₁ _ _ (fun q => K.ne_of K.di K.s (List.mem_singleton.mp q).symm) ho⟩, hI.base.app' e₁ fun b hb => .inr (by rw [List.mem_singleton.mp hb]; exact K.di)⟩
      exact z1.loc K e₂
    have ms : ∀ z : Str, z ≠ "nbrs" → z ≠ "n" → (if z = "nbrs" then some (Value.ref r.b) else if z = "n" then some (Value.int r.n tr) else m z) = m z := fun z q1 q2 => by rw [if_neg q1, if_neg q2]
    intro H
    refine seg_execs_cons (sg_For ?_)
    refine Call_ <| nmB hI₂.z (by kernel_rfl) hk5 boot_list (by decide) (hk := hkf) (hg := hglo) (hb := hbui) <| cwT <| wpAny_items_cons <| nmL n₂ hk4 (if_pos rfl) (hk := hkf) <| wpAny_items_nil ?_
    have hnb := hI₂.g.nbr r hrm
    refine call_list_dict hhO (hI₂.g.lo (mem_b hrm)) hnb (fun _ _ => rfl) (by have := hI₂.g.short J hrm; simp only [Row.nbrs, List.length_map]; omega) fun h₃ g₃ tk₃ lst acc c e₃ eg₃ dl hle hlst hsz hacc => ?_
    replace e₃ : Ext [] h₂ h₃ := e₃
    replace dl : h₂.get? lst = none := dl
    have hI₃ := hI₂.k e₃
    refine wpAny_pyIter_list (items := acc) ⟨_, hlst, rfl, _, rfl⟩ ?_
    generalize hh₄ : Heap.push _ _ = h₄
    have e₄ : Ext [] h₃ h₄ := hh₄ ▸ Ext.push _ _
    have nI2 : New h₃ h₃.objs.size := New.pos (s := { s with heap := h₃ }) hI₃.z
    have hit2 : h₄.IsListIter h₃.objs.size lst 0 := hh₄ ▸ ⟨_, Heap.get?_push_size _ rfl, rfl, rfl⟩
    dsimp only
    generalize h₃.objs.size = It2 at nI2 hit2 ⊢
    have hI₄ := hI₃.k e₄
    have n₄ := n₂.keeps (e₃.app e₄).keep
    have live2 : ∀ b, (∃ o, h₀.get? b = some o) → ∃ o, h₂.get? b = some o := fun b ⟨o, ho⟩ => by
      by_cases q1 : b = S
      · rw [q1]; exact hI₂.ls
      · by_cases q2 : b = env.locals
        · rw [q2]; exact nsLive n₂
        · exact ⟨o, hI₂.base _ _ (by simp [q1, q2]) ho⟩
    have dead0 : ∀ b, h₂.get? b = none → h₀.get? b = none := fun b q => by
      cases q' : h₀.get? b with
      | none => rfl
      | some o => obtain ⟨o', h'⟩ := live2 b ⟨o, q'⟩; rw [q] at h'; cases h'
    have d1 : h₀.get? It2 = none := dead0 _ (dead e₃.keep nI2.1)
    have d2 : h₀.get? lst = none := dead0 _ dl
    have kp4 : Kp env.locals h₀ h₂ h₄ := Kp.of (e₃.app e₄) fun _ h => nomatch h
    intro p k hk
    rw [show (eFrom ((G.rows.take i).map (·.n)) (r :: G.rows.drop (i + 1))).length = (eRow ((G.rows.take i).map (·.n)) r.n (r.es.drop 0)).length + (eFrom ((G.rows.take i).map (·.n) ++ [r.n]) (G.rows.drop (i + 1))).length by simp [eFrom]]
    refine sg_inner (It2 := It2) (lst := lst) (acc := acc) (el := r.es) (n := r.n) (seen := (G.rows.take i).map (·.n)) (es := G.edges) (rest := eFrom ((G.rows.take i).map (·.n) ++ [r.n]) (G.rows.drop (i + 1))) (i := i + 1) (j := i) (k₂ := k) (pp := p) (p10 := p10) (p1 := p1) (p2 := p2) (p3 := p3) (p4 := p4) (p5 := p5) (p6 := p6) (p7 := p7) (p8 := p8) (p9 := p9) (kk := kk)
      (cO := .forLoop (.Tuple [.Name "n" q1, .Name "nbrs" q2] k0 q3) (.ref It) (outBody p1 p2 p3 p4 p5 p6 p7 p8 p9 p10 q4 q5 q6 q7 q8 q9 q10 q11 q12 kk kc) [] env) (fs₁ := .ret k₁ none false [] cF pp [] :: []) (A := A) (w := w) (prog := prog)
      (fun c fs _ e2 => hh c fs fun f hf => by rw [e2] at hf; simp at hf; rcases hf with rfl | rfl <;> exact ⟨_, _, _, rfl⟩) rfl rfl hkf hk1 hk2 hk3 hco hint K rfl (by rw [hsz]; simp [Row.nbrs]) ?_ d1 d2 (fun q => by
        have := (nI2.ne hlst); exact this q.symm) nI2.2 ?_ ?_ ?_
      acc.size 0 s₀ ⟨h₄, g₃, s.drawn, tk₃, s.os⟩ _ rfl (Nat.zero_le _) ?_ hI₄ hit2 ⟨_, e₄.keep _ _ hlst, rfl, _, rfl⟩ n₄ ?_ ?_ ?_
    · intro q v hv
      obtain ⟨k, x, hkx, hkv⟩ := hacc q v hv
      obtain ⟨t, rfl⟩ := Value.isInt_shape (show v.isInt k = true from hkv)
      refine ⟨t, ?_⟩
      congr 1
      have hj : r.es[q]?.map (·.1) = some k := by
        have := congrArg (Option.map (·.1)) hkx
        simpa [Row.nbrs, List.getElem?_map, Option.map_map, Function.comp_def] using this
      cases q' : r.es[q]? with
      | none => rw [q'] at hj; cases hj
      | some e => rw [q'] at hj; cases hj; simp [List.getElem!_eq_getElem?_getD, q']
    · intro q
      obtain ⟨_, _, _, h1, _⟩ := hI₃.it
      exact nI2.ne h1 q.symm
    · intro q
      obtain ⟨_, h1, _⟩ := hI₃.sd
      obtain ⟨o, h1⟩ := dictLive h1
      exact nI2.ne h1 q.symm
    · intro s₀' s' m' hs' hI' hn' hm1 hm2
      rw [hk .next]
      obtain ⟨tn, hm2⟩ := hm2
      obtain ⟨sk, hsk, hsk'⟩ := hI'.sd
      have nin : r.n ∉ sk.map (·.1) := by
        rw [hsk']
        have hnd := hI'.g.ns
        rw [← List.take_append_drop i G.rows, hdrop, List.map_append, List.map_cons] at hnd
        have := (List.nodup_append.mp hnd).2.2
        exact fun q => this _ q _ (.head _) rfl
      obtain ⟨osn, hosn⟩ := dictLive hsk
      refine seg_execs_cons (seg_wrap (wpAny_mono (E := fun _ _ => False) (wpAny_Assign_Subscript <| wpAny_Constant_int <| nmL hn' hk2 hm1 (hk := hkf) <| nmL hn' hk3 hm2 (hk := hkf) <| wpAny_setItem_pairs (intKind_is _ _ _ _) hsk (fun h₅ hsk₅ s₅ => ?_) ?_) (fun f s'' hf => hf) fun _ _ x => x.elim))
      · replace s₅ : Heap.SameBut sn s'.heap h₅ := s₅
        have e₅ : Ext [sn] s'.heap h₅ := Ext.of_same s₅
        have f2 : ∀ b ∈ ([sn] : List Nat), b ∉ G.all := fun b hb q => by rw [List.mem_singleton.mp hb] at q; exact K.ne_of K.ds (K.gs _ q) rfl
        obtain ⟨o₁, es₁, ep₁, h11, hx1, _⟩ := id hsk
        refine seg_execs_nil (seg_again rfl ?_)
        rw [← htake]
        refine ih (i + 1) s₀' _ m' (by omega) hlt (SinceL.step hs' (h' := h₅) (g' := s'.gens) (Kp.of e₅ fun b hb => .inr (by
          rw [List.mem_singleton.mp hb]
          exact ⟨K.ds, fun o q => by rw [h11] at q; cases q; rw [hx1.1]; simp⟩)) (.refl _)) ?_ (hn'.at' fun o e => e₅ _ _ (fun q => K.ne_of K.ds K.c (List.mem_singleton.mp q).symm) e) hm1 ?_
        · refine ⟨hI'.z.ext e₅ fun b hb => by rw [List.mem_singleton.mp hb]; exact K.big.2.2.2, hI'.g.to e₅ fun a ha q => f2 a q ha, ?_, ⟨_, hsk₅, ?_⟩, let ⟨o, ho⟩ := hI'.ls; ⟨o, e₅ _ _ (fun q => K.ne_of K.ds K.s (List.mem_singleton.mp q).symm) ho⟩, hI'.base.app' e₅ fun b hb => .inr (by rw [List.mem_singleton.mp hb]; exact K.ds)⟩
          · obtain ⟨ep', ok', ov', a, b⟩ := hI'.it
            exact ⟨ep', ok', ov', e₅ _ _ (fun q => K.ne (List.mem_singleton.mp q)) a, b.at' fun o q => e₅ _ _ (fun q' => f2 _ q' mem_ad) q⟩
          · rw [stored_fst nin, hsk', htake]
        · obtain ⟨pre, hpre⟩ := hes
          refine ⟨pre ++ eRow ((G.rows.take i).map (·.n)) r.n r.es, ?_⟩
          rw [hpre, htake, eFrom, List.append_assoc]
      · have : (sk.map (·.1)).length ≤ 100 := by
          rw [hsk']
          have := J.few
          simp only [List.length_map, List.length_take]
          omega
        simp only [List.length_map] at this
        show sk.length ≤ 2 ^ 24
        omega
    · exact SinceL.step (SinceL.step (SinceL.step hs (h' := h₁) (g' := g₁) (tk := tk₁) kp1 eg₁) (h' := h₂) (g' := g₁) (tk := tk₂) kp2 (.refl _)) (h' := h₄) (g' := g₃) (tk := tk₃) kp4 eg₃
    · exact (ms _ (by decide) (by decide)).trans hm
    · exact ⟨tr, (if_neg (by decide)).trans (if_pos rfl)⟩
    · obtain ⟨pre, hpre⟩ := hes
      exact ⟨pre, by rw [hpre]; rfl⟩
end
end Mine
end W26
section W27
open PySem PySem.W PyProof.Rows PySem.Calls PySem.Spec
set_option maxRecDepth 100000
set_option maxHeartbeats 8000000
namespace Mine
theorem marks_none {A : Around} (hh : A.handled = none) : ∀ (c : Code) (fs : List Frame), (∀ f ∈ fs, ∃ k c p, f = Frame.ret k none false [] c p []) → (A.over c fs).handled = none := by
  intro c fs hf
  show (marksOver fs (A.handled, A.handled)).1 = none
  rw [hh]
  have : ∀ fs : List Frame, (∀ f ∈ fs, ∃ k c p, f = Frame.ret k none false [] c p []) → marksOver fs (none, none) = (none, none) := by
    intro fs
    induction fs with
    | nil => intro _; rfl
    | cons f fs ih =>
      intro hf
      obtain ⟨k, c, p, rfl⟩ := hf _ (.head _)
      have := ih fun f h => hf f (.tail _ h)
      unfold marksOver at this ⊢
      rw [List.foldr_cons, this]
      rfl
  rw [this fs hf]
section
variable {prog : Program} {w : World} {A : Around} {E : Value → Shared → Prop} {s : Shared} {G : Gr} {Q : Value → Shared → Prop} {env : Env}
theorem enterG {f : Addr} {args : List Value} {kw : List (Str × Value)} {name qual : Str} {params : Arguments} {body : List Stmt} {scope : Scope} {dV kV doc pm cdv ct oc : Value} {an od : Option Addr} {osl : Array (Option Value)} {binds : List (Str × Value)}
    (G : Gl w s.heap) (hroom : A.depth < recursionLimit) (ho : (KH w).lookup f = some ⟨oc, od, .func (fnOf name qual params body scope dV kV doc pm an cdv ct), osl⟩) (hcd : codeIn (KH w) cdv qual = true)
    (hb : peek (KH w) ⟨prog, w.params⟩ (bindArgs (fnOf name qual params body scope dV kV doc pm an cdv ct) ⟨args, kw⟩) = some binds)
    (hcell : (scope.names.all fun y => match y.2 with | .cell => false | _ => true) = true) (hloc : (binds.all fun y => match scope.names.lookup y.1 with | some .local => true | _ => false) = true)
    (hfl : (scope.isCoroutine, scope.isGenerator) = (false, true)) (hk : scope.kind = .function)
    (h : ∀ C h₁ a tk, Ext [] s.heap h₁ → New s.heap C → New s.heap a → a ≠ C → h₁.Ns C (fun y => binds.reverse.lookup y) → h₁.IsGen a s.gens.size →
      Q (.ref a) { s with heap := h₁, gens := s.gens.push (.fresh (.func body (envX qual scope C f cdv []))), toks := tk }) :
    wpAny (model prog w) A (call (.ref f) args kw) Q E s := by
  injection hfl with hco hgen
  have hcell' : ∀ y ∈ scope.names, y.2 ≠ .cell := fun y hy e => by
    have := List.all_eq_true.mp hcell y hy
    rw [e] at this; cases this
  have hloc' : ∀ y ∈ binds, scope.names.lookup y.1 = some .local := fun y hy => by
    have := List.all_eq_true.mp hloc y hy
    split at this
    · assumption
    · cases this
  refine wpAny_call (codeAny_call_generator (fd := fnOf name qual params body scope dV kV doc pm an cdv ct) (body := body) hroom (G.X _ _ ho) rfl hco hgen rfl (codeRec_of G.X hcd) ?_)
  refine (Looks.of_peek (M := model prog w) G.X hb).here ?_
  refine wpAny_newFunctionEnv hcell' hloc' (fun h₀ hns₀ hsb₀ => ⟨G.lim.fresh _ hsb₀, ?_⟩) hk
  have hsz : h₀.objs.size = s.heap.objs.size + 1 := by rw [hsb₀.1, Heap.size_push]
  have k0 : ∀ b o, s.heap.get? b = some o → h₀.get? b = some o := fun b o e => hsb₀.extBut b o (Nat.ne_of_lt (Heap.lt_size e)) (Heap.get?_push_of_some _ e)
  have nC : New s.heap s.heap.objs.size := New.pos G
  have na : New s.heap h₀.objs.size := ⟨dead k0 (get?_size _), by rw [hsz]; exact Nat.le_succ_of_le nC.2⟩
  exact h s.heap.objs.size _ h₀.objs.size _ (Ext.of_keep (fun b o e => Heap.get?_push_of_some _ (k0 b o e)) []) nC na (by rw [hsz]; exact Nat.succ_ne_self _) (hns₀.keeps fun b o e => Heap.get?_push_of_some _ e) ⟨_, _, _, Heap.get?_push_size _ rfl, rfl, rfl, rfl⟩
theorem sg_iter {h₀ : Heap} {S x dx : Nat} {p1 p2 p3 p4 p5 p6 p7 p8 p9 p10 q1 q2 q3 q4 q5 q6 q7 q8 q9 q10 q11 q12 r1 r2 r3 r4 r5 r6 r7 : Pos} {kk kc k0 : Nat} {m : Str → Option Value}
    (hh : A.handled = none) (hroom : A.depth + 1 < recursionLimit)
    (hkf : env.scope.kind = .function) (hk1 : env.kindOf "nbr" = some .local) (hk2 : env.kindOf "seen" = some .local) (hk3 : env.kindOf "n" = some .local) (hk4 : env.kindOf "nbrs" = some .local) (hk5 : env.kindOf "list" = some .globalImplicit) (hk6 : env.kindOf "self" = some .local) (hglo : env.globals = mainGlobals) (hbui : env.builtins = builtinsNs) (hco : env.scope.isCoroutine = false) (hint : interactive env = false)
    (Z : Gl w s.heap) (I : GraphAt prog w s.heap G) (J : Gi G) (IE : IB prog w s.heap 277 x dx [("_adjdict", .ref G.ad)]) (hn : s.heap.Ns env.locals m) (hm : m "self" = some (.ref x))
    (base : Ext [S, env.locals] h₀ s.heap) (hS : ∃ o, s.heap.get? S = some o) (hS₀ : ∃ o, h₀.get? S = some o) (hC₀ : ∃ o, h₀.get? env.locals = some o) (SG : S ∉ G.all) (CG : env.locals ∉ G.all) (hgs : ∀ a ∈ G.all, ∃ o, h₀.get? a = some o) (big : 709 ≤ S ∧ 709 ≤ env.locals) (SC : S ≠ env.locals) (xC : x ≠ env.locals) (dC : dx ≠ env.locals) {pl : Sem Bool}
    (he : eval (.Call (.Attribute (.Name "self" r4) "_nodes_nbrs" r5) [] [] r6) env = (do
      let ov ← eval (.Name "self" r4) env
      standAt r5.atName
      let (f, first) ← holding [ov] (getMethod ov "_nodes_nbrs" pl)
      callWith r6 f first (backTo r6 (starEach [] env)) [])) :
    Seg (model prog w) A (gRL env.locals h₀) (gYL env.locals S h₀ G.edges) G.edges.length s
      (.func [.Assign [.Name "seen" r1] (.Dict [] [] r2) r3, .For (.Tuple [.Name "n" q1, .Name "nbrs" q2] k0 q3) (.Call (.Attribute (.Name "self" r4) "_nodes_nbrs" r5) [] [] r6) (outBody p1 p2 p3 p4 p5 p6 p7 p8 p9 p10 q4 q5 q6 q7 q8 q9 q10 q11 q12 kk kc) [] r7] env)
      ((model prog w).den (.func [.Assign [.Name "seen" r1] (.Dict [] [] r2) r3, .For (.Tuple [.Name "n" q1, .Name "nbrs" q2] k0 q3) (.Call (.Attribute (.Name "self" r4) "_nodes_nbrs" r5) [] [] r6) (outBody p1 p2 p3 p4 p5 p6 p7 p8 p9 p10 q4 q5 q6 q7 q8 q9 q10 q11 q12 kk kc) [] r7] env)) [] s := by
  have hp' : (env.scope.kind == .class || (env.scope.kind == .module && env.locals != env.globals)) = false := by rw [hkf]; rfl
  have live0 : ∀ b, (∃ o, h₀.get? b = some o) → ∃ o, s.heap.get? b = some o := fun b ⟨o, ho⟩ => by
    by_cases q1 : b = S
    · rw [q1]; exact hS
    · by_cases q2 : b = env.locals
      · rw [q2]; exact nsLive hn
      · exact ⟨o, base _ _ (by simp [q1, q2]) ho⟩
  have dead0 : ∀ b, s.heap.get? b = none → h₀.get? b = none := fun b q => by
    cases q' : h₀.get? b with
    | none => rfl
    | some o => obtain ⟨o', h'⟩ := live0 b ⟨o, q'⟩; rw [q] at h'; cases h'
  refine seg_func (seg_execs_cons (seg_wrap (wpAny_mono (E := fun _ _ => False) (wpAny_Assign_Name <| wpAny_Dict_empty ?_) (fun f s'' hf => hf) fun _ _ x => x.elim)))
  generalize hh₁ : Heap.push _ _ = h₁
  have e₁ : Ext [] s.heap h₁ := hh₁ ▸ Ext.push _ _
  have nsn : New s.heap s.heap.objs.size := New.pos Z
  have hsn : h₁.DictOf (intKind prog w) s.heap.objs.size [] := dictOf_empty (hh₁ ▸ Heap.get?_push_size _ rfl)
  generalize s.heap.objs.size = sn at nsn hsn ⊢
  refine stL (hn.keeps e₁.keep) hk2 (fun h₂ n₂ s₂ => ?_) hp'
  replace s₂ : Heap.SameBut env.locals h₁ h₂ := s₂
  have e₂ : Ext [env.locals] h₁ h₂ := Ext.of_same s₂
  have bC : ∀ b ∈ ([env.locals] : List Nat), 709 ≤ b := fun b hb => by rw [List.mem_singleton.mp hb]; exact big.2
  have Z₂ : Gl w h₂ := (Z.k e₁).ext e₂ bC
  have I₂ : GraphAt prog w h₂ G := (I.k e₁).to e₂ fun a ha q => CG (List.mem_singleton.mp q ▸ ha)
  have snC : sn ≠ env.locals := by obtain ⟨o, ho⟩ := nsLive hn; exact nsn.ne ho
  have hsn₂ : h₂.DictOf (intKind prog w) sn [] := DictOf.ext hsn e₂ fun q => snC (List.mem_singleton.mp q)
  have IE₂ : IB prog w h₂ 277 x dx [("_adjdict", .ref G.ad)] := (IE.k e₁).ext e₂ (fun q => xC (List.mem_singleton.mp q)) fun q => dC (List.mem_singleton.mp q)
  refine seg_execs_cons (sg_For (MethodCall_ (he := he) <| nmL n₂ hk6 ((if_neg (by decide)).trans hm) (hk := hkf) <| ib_meth Z₂ IE₂ (f := 202) (by kernel_rfl) (by kernel_rfl) (by kernel_rfl) (by kernel_rfl) rfl <| cwF0 Z₂ (by kernel_rfl) <| sp_nodes_nbrs Z₂ IE₂ (I₂.lo mem_ad) I₂.adj ?_ fun h₃ tk₃ V e₃ nV hV => ?_))
  · show A.depth + frameCount [] + 1 < recursionLimit
    exact hroom
  replace e₃ : Ext [] h₂ h₃ := e₃
  have I₃ := I₂.k e₃
  have Z₃ := Z₂.k e₃
  obtain ⟨ep, hat⟩ := I₃.adj.dictAt
  refine wpAny_pyIter_items hV hat ?_
  generalize hh₄ : Heap.push _ _ = h₄
  have e₄ : Ext [] h₃ h₄ := hh₄ ▸ Ext.push _ _
  have nI : New h₃ h₃.objs.size := New.pos (s := { s with heap := h₃ }) Z₃
  have hit : IsItemIter h₄ h₃.objs.size G.ad 0 G.adjs.length ep .none .none := hh₄ ▸ Heap.get?_push_size _ rfl
  dsimp only
  generalize h₃.objs.size = It at nI hit ⊢
  intro p k hk
  have snI : It ≠ sn := by obtain ⟨o, ho⟩ := dictLive (DictOf.ext hsn₂ e₃ (fun h => nomatch h)); exact nI.ne ho
  have dIt2 : h₂.get? It = none := dead e₃.keep nI.1
  have dIt : h₀.get? It = none := dead0 _ (by
    cases q : s.heap.get? It with
    | none => rfl
    | some o =>
      by_cases q2 : It = env.locals
      · obtain ⟨o', ho'⟩ := nsLive n₂; rw [← q2, dIt2] at ho'; cases ho'
      · exact nomatch dIt2.symm.trans (e₂ _ _ (fun r => q2 (List.mem_singleton.mp r)) (e₁.keep _ _ q)))
  have K : GC h₀ G S env.locals It sn := ⟨hS₀, hC₀, dIt, dead0 _ nsn.1, snI, SG, CG, hgs, ⟨big.1, big.2, nI.2, nsn.2⟩, SC⟩
  have e24 : Ext [] h₂ h₄ := e₃.app e₄
  refine sg_outer (A := A) (prog := prog) (w := w) (G := G) (k₁ := k) (pp := p) (fun c fs hf => marks_none hh c fs hf) hkf hk1 hk2 hk3 hk4 hk5 hglo hbui hco hint K J (by obtain ⟨o, ho⟩ := dictLive I₃.adj; exact fun q => nI.ne ho q.symm) ?_ G.rows.length 0 s ⟨h₄, s.gens, s.drawn, tk₃, s.os⟩ _ rfl (Nat.zero_le _) ?_ ?_ (n₂.keeps e24.keep) (if_pos rfl) ⟨[], rfl⟩
  · intro s₀ s₁ hs
    rw [hk .next]
    exact seg_execs_nil (seg_end (.ok (.ret .none)) ⟨rfl, rfl, hs⟩)
  · refine ⟨h₄, s.gens, tk₃, rfl, ?_, .refl _⟩
    refine ((Kp.of e₁ fun _ h => nomatch h).trans (Kp.of e₂ fun b hb => .inl (List.mem_singleton.mp hb))).trans (Kp.of e24 fun _ h => nomatch h)
  · refine ⟨Z₃.k e₄, I₃.k e₄, ⟨ep, _, _, hit, hat.at' fun o e => e₄.keep _ _ e⟩, ⟨[], DictOf.ext hsn₂ e24 (fun h => nomatch h), by simp⟩, ?_, ?_⟩
    · obtain ⟨o, ho⟩ := hS
      exact ⟨o, e24.keep _ _ (e₂ _ _ (fun q => SC (List.mem_singleton.mp q)) (e₁.keep _ _ ho))⟩
    · exact ((base.app (Ext.of_keep e₁.keep _)).app (e₂.mono fun b hb => by rw [List.mem_singleton.mp hb]; simp)).app (Ext.of_keep e24.keep _)
end
end Mine
end W27
section W28
open PySem PySem.W PyProof.Rows PySem.Calls PySem.Spec
set_option maxRecDepth 100000
set_option maxHeartbeats 8000000
namespace Mine
section
variable {prog : Program} {w : World} {A : Around} {E : Value → Shared → Prop} {s : Shared} {G : Gr} {Q : Value → Shared → Prop}
theorem sp_list_edges {x dx : Nat} (Z : Gl w s.heap) (I : GraphAt prog w s.heap G) (J : Gi G) (IE : IB prog w s.heap 277 x dx [("_adjdict", .ref G.ad)]) (hroom : A.depth + 2 < recursionLimit) (hh : A.handled = none) (hz : G.rows.length ≤ 30) (hne : G.edges.length ≤ 1000) (xb : 709 ≤ x) (db : 709 ≤ dx)
    (h : ∀ h' g' tk D acc c, Ext [255] s.heap h' → Gl w h' → GM [] s.gens g' → New s.heap D → h'.get? D = some { cls := .type "list", data := .seq acc c } → acc.size = G.edges.length → (∀ j v, acc[j]? = some v → PE G.edges j v h') → Q (.ref D) { s with heap := h', gens := g', toks := tk }) :
    wpAny (model prog w) A (call (.type "list") [.ref x]) Q E s := by
  obtain ⟨od, J₀, _⟩ := IE.instAt
  refine call_list_inst0 (fl := 260) (by kernel_rfl) (by kernel_rfl) J₀ fun h₁ S hSz e₁ dS hS => ?_
  have Z₁ := Z.k e₁
  have I₁ := I.k e₁
  have IE₁ := IE.k e₁
  obtain ⟨od₁, J₁, _⟩ := IE₁.instAt
  refine iter_inst (f := 267) (s := { s with heap := h₁ }) Z₁ J₁ (by kernel_rfl) (by kernel_rfl) (enterG (s := { s with heap := h₁ }) Z₁ (by show A.depth < _; omega) (by rfl) (by kernel_rfl) (binds := [("self", .ref x)]) (by kernel_rfl) (by kernel_rfl) (by kernel_rfl) (by rfl) (by rfl) fun C h₂ a tk₂ e₂ nC na haC hns hgen => ?_)
  replace e₂ : Ext [] h₁ h₂ := e₂
  replace nC : New h₁ C := nC
  replace na : New h₁ a := na
  have Z₂ := Z₁.k e₂
  have I₂ := I₁.k e₂
  have IE₂ := IE₁.k e₂
  obtain ⟨od₂, J₂, _⟩ := IE₂.instAt
  have sz : s.gens.size = s.gens.size := rfl
  refine ⟨"generator", _, hgen.typeIs, slot_gen_next.lookup, Z₂, ⟨_, _, J₂⟩, fun E' => sp_ev_len (s := { s with heap := h₂, gens := s.gens.push _, toks := tk₂ }) Z₂ IE₂ I₂ J (by show A.depth + 1 < _; omega) hh hz fun h₃ g₃ tk₃ n t e₃ Z₃ eg₃ n0 n1 => ?_⟩
  replace e₃ : Ext [255] h₂ h₃ := e₃
  obtain ⟨c₁, hS₁⟩ := hS
  have Sbig : 709 ≤ S := hSz ▸ Z.big
  have ne255 : ∀ b : Nat, 709 ≤ b → b ∉ ([255] : List Nat) := fun b hb q => by rw [List.mem_singleton.mp q] at hb; omega
  have hS₂ := e₂.keep _ _ hS₁
  refine ⟨n, t, rfl, n0, n1, ⟨c₁, e₃ _ _ (ne255 _ Sbig) hS₂⟩, fun h₄ tk₄ c₄ e₄ hS₄ => ?_⟩
  have SC : S ≠ C := fun q => nC.ne hS₁ q.symm
  have Sa : a ≠ S := na.ne hS₁
  have SG : S ∉ G.all := I.all_new dS
  have CG : C ∉ G.all := I₁.all_new nC.1
  have xS : x ≠ S := fun q => by rw [← q, IE.inst] at dS; cases dS
  have dS' : dx ≠ S := fun q => by obtain ⟨o, ho⟩ := dictLive IE.dict; rw [← q, ho] at dS; cases dS
  have xC : x ≠ C := fun q => by rw [← q] at nC; exact nomatch nC.1.symm.trans IE₁.inst
  have dC : dx ≠ C := fun q => by obtain ⟨o, ho⟩ := dictLive IE₁.dict; rw [← q] at nC; exact nomatch nC.1.symm.trans ho
  have Z₄ : Gl w h₄ := Z₃.ext e₄ fun b hb => by rw [List.mem_singleton.mp hb]; exact Sbig
  have off255 : ∀ a ∈ G.all, a ∉ ([255] : List Nat) := fun a ha => ne255 _ (I.own a ha)
  have I₄ : GraphAt prog w h₄ G := (I₂.to e₃ off255).to e₄ fun a ha q => SG (List.mem_singleton.mp q ▸ ha)
  have e24 : ∀ b o, 709 ≤ b → b ≠ S → h₂.get? b = some o → h₄.get? b = some o := fun b o hb hn q => e₄ _ _ (fun q' => hn (List.mem_singleton.mp q')) (e₃ _ _ (ne255 _ hb) q)
  have ns4 : h₄.Ns C _ := hns.at' fun o e => e24 _ _ nC.2 (Ne.symm SC) e
  obtain ⟨oC, esC, epC, hoC, hdC, _⟩ := id ns4
  have IE₄ : IB prog w h₄ 277 x dx [("_adjdict", .ref G.ad)] := (IE₂.ext e₃ (ne255 _ xb) (ne255 _ db)).ext e₄ (fun q => xS (List.mem_singleton.mp q)) fun q => dS' (List.mem_singleton.mp q)
  have hgen4 : h₄.IsGen a s.gens.size := let ⟨o, nm, qn, ho, r⟩ := hgen; ⟨o, nm, qn, e24 _ _ na.2 Sa ho, r⟩
  have hgs : g₃[s.gens.size]? = some _ := eg₃.at_ _ _ (fun h => nomatch h) (Array.getElem?_push_size ..)
  obtain ⟨_, ⟨oc, _, _, hoc, _⟩, _⟩ := Z₄.lim
  refine loopL (A := A.in1) (S := S) (C := C) (h₀ := h₄) (genL (A := A.in1.in1) (k := s.gens.size) (es := G.edges) hh (by show A.depth < _; omega) haC Sa (let ⟨o, nm, qn, ho, r⟩ := hgen4; ⟨_, ho⟩) ⟨_, hoc⟩ (fun q => by have := nC.2; rw [← q] at this; exact absurd this (by decide)) (fun q => by rw [← q] at Sbig; exact absurd Sbig (by decide)) (Ne.symm SC)) hne SC (fun i h g st => st.2.2.2.1) ⟨_, hS₄⟩ (fun i h g st => let ⟨o, nm, qn, ho, hc, _⟩ := st.2.1; ⟨o, ho, hc⟩) .none G.edges.length 0 h₄ g₃ tk₄ #[] c₄ rfl (Nat.zero_le _)
    ⟨⟨_, hS₄⟩, hgen4, Z₄.lim, ⟨oC, hoC, .inr fun xs q => by rw [hdC] at q; cases q⟩, _, hgs, fun s'' e'' hS'' => ⟨rfl, ?_⟩⟩ hS₄ rfl (fun j v q => by simp at q) (fun _ _ _ e => e) fun h' g' tk' acc' c' he hg hS' ha hP => ?_
  · replace e'' : Ext [S] h₄ s''.heap := e''
    have nS : ∀ b, b ≠ S → b ∉ ([S] : List Nat) := fun b n q => n (List.mem_singleton.mp q)
    exact sg_iter (S := S) (x := x) (dx := dx) (h₀ := h₄) (s := s'') (env := envX _ _ C 267 _ []) (A := A.in1.in1.in1) hh (by show A.depth + 1 < _; omega) rfl rfl rfl rfl rfl rfl rfl rfl rfl rfl rfl
      (Z₄.ext e'' fun b hb => by rw [List.mem_singleton.mp hb]; exact Sbig) (I₄.to e'' fun a ha q => SG (List.mem_singleton.mp q ▸ ha)) J (IE₄.ext e'' (nS _ xS) (nS _ dS')) (ns4.at' fun o e => e'' _ _ (nS _ (Ne.symm SC)) e) rfl (e''.mono fun b hb => by rw [List.mem_singleton.mp hb]; simp) hS'' ⟨_, hS₄⟩ ⟨_, hoC⟩ SG CG (fun b hb => I₄.live (List.mem_append.mp hb)) ⟨Sbig, nC.2⟩ SC xC dC rfl
  · have nk : s.gens[s.gens.size]? = none := Array.getElem?_eq_none (Nat.le_refl _)
    have b1 : Ext [255] s.heap h₃ := (Ext.of_keep (e₁.app e₂).keep _).app e₃
    have dC0 : s.heap.get? C = none := dead e₁.keep nC.1
    refine ⟨rfl, h h' g' tk' S acc' c' ?_ (Z₄.ext he ?_) ((GM.new (k := s.gens.size) (g' := s.gens.push _) ⟨fun k x _ e => ?_, fun b => b.push rfl⟩ ((eg₃.mono fun _ h => nomatch h).trans hg)) nk) ⟨dS, Sbig⟩ hS' ha hP⟩
    · refine (b1.app' e₄ fun b hb => .inr (by rw [List.mem_singleton.mp hb]; exact dS)).app' he fun b hb => .inr ?_
      simp only [List.mem_cons, List.not_mem_nil, or_false] at hb
      rcases hb with rfl | rfl
      · exact dS
      · exact dC0
    · intro b hb
      simp only [List.mem_cons, List.not_mem_nil, or_false] at hb
      rcases hb with rfl | rfl
      · exact Sbig
      · exact nC.2
    · obtain ⟨hk, e'⟩ := Array.getElem?_eq_some_iff.mp e
      rw [Array.getElem?_push_lt hk, e']
end
end Mine
end W28
section W29
open PySem PySem.W PyProof.Rows PySem.Calls PySem.Spec
set_option maxRecDepth 100000
set_option maxHeartbeats 8000000
namespace Mine
def KT (h h' : Heap) : Prop := ∀ b o, h.get? b = some o → ¬ NoTup o → h'.get? b = some o
theorem KT.refl (h : Heap) : KT h h := fun _ _ e _ => e
theorem KT.trans {h h' h'' : Heap} (x : KT h h') (y : KT h' h'') : KT h h'' := fun b o e n => y b o (x b o e n) n
theorem KT.of {F : List Nat} {h h' : Heap} (e : Ext F h h') (d : ∀ b ∈ F, ∀ o, h.get? b = some o → NoTup o) : KT h h' := fun b o q n => e b o (fun m => n (d b m o q)) q
theorem KT.ext {h h' : Heap} (e : Ext [] h h') : KT h h' := KT.of e fun _ h => nomatch h
theorem noTup_dict {o : Obj} {es : Array DictEntry} {ep : Nat} (e : o.data = .dict es ep) : NoTup o := .inr fun xs q => by rw [e] at q; cases q
theorem noTup_ns {h : Heap} {L : Nat} {m : Str → Option Value} (n : h.Ns L m) : ∀ o, h.get? L = some o → NoTup o := fun o e => by
  obtain ⟨o', es, ep, h1, h2, _⟩ := n
  rw [h1] at e; cases e
  exact noTup_dict h2
theorem noTup_fields {o : Obj} {es : Array Value} (e : o.data = .fields es) : NoTup o := .inr fun xs q => by rw [e] at q; cases q
def EDs (es : List (Int × Int)) (ds : List Nat) (j : Nat) (v : Value) (h : Heap) : Prop := ∃ T tu tv d, v = .ref T ∧ d ∈ ds ∧ Tup h T #[.int (es[j]!).1 tu, .int (es[j]!).2 tv, .ref d]
theorem EDs.kt {es : List (Int × Int)} {ds : List Nat} {j : Nat} {v : Value} {h h' : Heap} (x : EDs es ds j v h) (k : KT h h') : EDs es ds j v h' :=
  let ⟨T, tu, tv, d, e, m, q⟩ := x; ⟨T, tu, tv, d, e, m, k _ _ q fun n => n.elim (fun n => n rfl) fun n => n _ rfl⟩
theorem EDs.mono {es : List (Int × Int)} {ds ds' : List Nat} {j : Nat} {v : Value} {h : Heap} (x : EDs es ds j v h) (s : ∀ a ∈ ds, a ∈ ds') : EDs es ds' j v h :=
  let ⟨T, tu, tv, d, e, m, q⟩ := x; ⟨T, tu, tv, d, e, s _ m, q⟩
theorem eRow_snoc {seen : List Int} {n : Int} {xs : List (Int × Nat)} {x : Int × Nat} : eRow seen n (xs ++ [x]) = eRow seen n xs ++ (if x.1 ∈ seen then [] else [(n, x.1)]) := by
  unfold eRow
  by_cases q : x.1 ∈ seen <;> simp [List.filter_append, q]
section
variable {prog : Program} {w : World} {A : Around} {E : Value → Shared → Prop} {s : Shared} {G : Gr} {env : Env}
theorem SetOf.at' {h h' : Heap} {a n : Nat} {S : Int → Bool} (x : h.SetOf (intKind prog w) a S n) (e : ∀ o, h.get? a = some o → h'.get? a = some o) : h'.SetOf (intKind prog w) a S n :=
  let ⟨o, es, ep, t, ho, r⟩ := x; ⟨o, es, ep, t, e _ ho, r⟩
theorem SetOf.live {h : Heap} {a n : Nat} {S : Int → Bool} (x : h.SetOf (intKind prog w) a S n) : ∃ o, h.get? a = some o ∧ NoTup o :=
  let ⟨o, es, ep, t, ho, _, hd, _⟩ := x; ⟨o, ho, .inr fun xs q => by rw [hd] at q; cases q⟩
theorem cwT0 {M : Model} {T : String} {pos : Pos} {Q : Value → Shared → Prop} (h : wpAny M A (call (.type T) []) Q E s) : wpAny M A (callWith pos (.type T) [] (backTo pos (starEach [] env)) []) Q E s :=
  callWith_of (P := fun _ => True) rfl (fun h _ => ⟨.machine, .inr (.inl rfl), .now⟩) (PySem.evalArgs_none ⟨trivial, h⟩)
theorem eFrom_snoc {seen : List Int} {r : Row} : ∀ {rs : List Row}, eFrom seen (rs ++ [r]) = eFrom seen rs ++ eRow (seen ++ rs.map (·.n)) r.n r.es
  | [] => by simp [eFrom]
  | x :: rs => by
    simp only [List.cons_append, eFrom, List.map_cons]
    rw [eFrom_snoc, List.append_assoc, List.append_assoc]
    rfl
theorem eRow_le {seen : List Int} {n : Int} {xs : List (Int × Nat)} : (eRow seen n xs).length ≤ xs.length := by
  unfold eRow; rw [List.length_map]; exact List.length_filter_le _ _
theorem eFrom_le {b : Nat} : ∀ {rs : List Row} {seen : List Int}, (∀ r ∈ rs, r.es.length ≤ b) → (eFrom seen rs).length ≤ b * rs.length
  | [], _, _ => Nat.zero_le _
  | r :: rs, seen, h => by
    have h1 := eRow_le (seen := seen) (n := r.n) (xs := r.es)
    have h2 := h r (.head _)
    have h3 := eFrom_le (rs := rs) (seen := seen ++ [r.n]) fun x hx => h x (.tail _ hx)
    simp only [eFrom, List.length_append, List.length_cons, Nat.mul_add]
    omega
def Gr.dds (G : Gr) : List Nat := G.rows.flatMap fun r => r.es.map (·.2)
theorem sp_edge_rows {Q : Value → Shared → Prop} (Z : Gl w s.heap) (I : GraphAt prog w s.heap G) (J : Gi G) (hroom : A.depth + 1 < recursionLimit) (hh : A.handled = none)
    (h : ∀ h' g' tk D acc c, Ext [] s.heap h' → GM [] s.gens g' → New s.heap D → h'.get? D = some { cls := .type "list", data := .seq acc c } → acc.size = G.edges.length → (∀ j v, acc[j]? = some v → EDs G.edges G.dds j v h') → Q (.ref D) { s with heap := h', gens := g', toks := tk }) :
    wpAny (model prog w) A (call (.ref 645) [.ref G.g]) Q E s := by
  refine enter' Z (by omega) (by rfl) (by kernel_rfl) (binds := [("G", .ref G.g)]) (by kernel_rfl) (by kernel_rfl) (by kernel_rfl) (by rfl) (by rfl) ?_
  intro L h₁ tk m₁ hL n
  have Z₁ := Z.k m₁
  have I₁ := I.k m₁
  refine wpAny_execs_cons <| wpAny_If <| wpAny_isTrue_value <| MethodCall_ <| nmL n rfl rfl <| gb_meth Z₁ I₁.gb (f := 590) (by kernel_rfl) (by kernel_rfl) ?_ <| cwF0 Z₁ (by kernel_rfl) <| sp_is_directed Z₁ (by show A.depth + 1 < _; omega) fun h₂ tk₂ e₂ => wpAny_truthy_bool ?_
  · exact I₁.bare (by decide)
  simp only [Bool.false_eq_true, if_false]
  replace e₂ : Ext [] h₁ h₂ := e₂
  refine wpAny_execs_nil ?_
  refine wpAny_execs_cons <| wpAny_Assign_Name <| wpAny_List <| wpAny_items_nil ⟨Nat.zero_le _, ?_⟩
  have n₂ := n.keeps e₂.keep
  have nD : New h₂ h₂.objs.size := New.pos (s := { s with heap := h₂ }) (Z₁.k e₂)
  generalize hh₃ : Heap.push _ _ = h₃
  have e₃ : Ext [] h₂ h₃ := hh₃ ▸ Ext.push _ _
  have hD₃ : h₃.get? h₂.objs.size = some { cls := .type "list", data := .seq #[] 0 } := hh₃ ▸ Heap.get?_push_size _ rfl
  generalize h₂.objs.size = D at nD hD₃ ⊢
  refine stL (n₂.keeps e₃.keep) rfl fun h₄ n₄ s₄ => ?_
  replace s₄ : Heap.SameBut L h₃ h₄ := s₄
  have m₄ : Ext [] s.heap h₄ := ((m₁.app e₂).app e₃).loc hL s₄
  have Z₄ := Z.k m₄
  refine wpAny_execs_cons <| wpAny_Assign_Name <| Call_ <| nmB Z₄ (by kernel_rfl) (by rfl) PyProof.Rows.boot_set (by decide) <| cwT0 <| call_set_0 fun led => ?_
  have nS : New h₄ h₄.objs.size := New.pos (s := { s with heap := h₄ }) Z₄
  generalize hh₅ : Heap.push _ _ = h₅
  have e₅ : Ext [] h₄ h₅ := hh₅ ▸ Ext.push _ _
  have hS₅ : h₅.SetOf (intKind prog w) h₄.objs.size (fun _ => false) 0 := ⟨_, _, _, _, hh₅ ▸ Heap.get?_push_size _ rfl, ⟨rfl, rfl, rfl⟩, rfl, (fun e he => by simp at he), (fun k => by simp), (by show 0 < 4096; decide), (by cases led <;> rfl), rfl⟩
  generalize h₄.objs.size = Sn at nS hS₅ ⊢
  refine stL (n₄.keeps e₅.keep) rfl fun h₆ n₆ s₆ => ?_
  replace s₆ : Heap.SameBut L h₅ h₆ := s₆
  have m₆ : Ext [] s.heap h₆ := (m₄.app e₅).loc hL s₆
  have Z₆ := Z.k m₆
  have I₆ := I.k m₆
  refine at_ h₆ s.gens s.drawn s.os fun t₆ => ?_
  refine wpAny_execs_cons ?_
  refine wpAny_For <| MethodCall_ <| gA n₆ Z₆ I₆ (.ref G.ad) fun t => gmD I₆.adj PySem.F.slot_dict_items PySem.F.type_dict_items <| cwB0 <| ditems (I₆.lo mem_ad) I₆.adj ?_
  obtain ⟨ep, hat⟩ := I₆.adj.dictAt
  generalize hh₇ : Heap.push _ _ = h₇
  have e₇ : Ext [] h₆ h₇ := hh₇ ▸ Ext.push _ _
  have hV : h₇.IsItemsView h₆.objs.size G.ad := hh₇ ▸ ⟨_, Heap.get?_push_size _ rfl, rfl, rfl⟩
  dsimp only
  generalize h₆.objs.size = V at hV ⊢
  refine wpAny_pyIter_items hV (hat.at' fun o e => e₇.keep _ _ e) ?_
  generalize hh₈ : Heap.push _ _ = h₈
  have e₈ : Ext [] h₇ h₈ := hh₈ ▸ Ext.push _ _
  have nI : New h₇ h₇.objs.size := New.pos (s := { s with heap := h₇ }) (Z₆.k e₇)
  have hit : IsItemIter h₈ h₇.objs.size G.ad 0 G.adjs.length ep .none .none := hh₈ ▸ Heap.get?_push_size _ rfl
  dsimp only
  generalize h₇.objs.size = It at nI hit ⊢
  have e68 : Ext [] h₆ h₈ := e₇.app e₈
  have Z₈ := Z₆.k e68
  have I₈ := I₆.k e68
  have n₈ := n₆.keeps e68.keep
  have hat₈ : h₈.DictAt (intKind prog w) G.ad G.adjs ep := hat.at' fun o e => e68.keep _ _ e
  have DL : D ≠ L := by obtain ⟨o, ho⟩ := nsLive n; exact nD.ne (e₂.keep _ _ ho)
  have D₄ := s₄.extBut _ _ DL hD₃
  have SnL : Sn ≠ L := by obtain ⟨o, ho⟩ := nsLive n₄; exact nS.ne ho
  have SnD : Sn ≠ D := nS.ne D₄
  have D₆ := s₆.extBut _ _ DL (e₅.keep _ _ D₄)
  have hS₈ : h₈.SetOf (intKind prog w) Sn (fun _ => false) 0 := SetOf.at' hS₅ fun o e => e68.keep _ _ (s₆.extBut _ _ SnL e)
  have hD₈ : h₈.get? D = some { cls := .type "list", data := .seq #[] 0 } := e68.keep _ _ D₆
  have ItL : It ≠ L := by obtain ⟨o, ho⟩ := nsLive n₆; exact nI.ne (e₇.keep _ _ ho)
  have ItD : It ≠ D := nI.ne (e₇.keep _ _ D₆)
  have ItS : It ≠ Sn := by obtain ⟨o, ho, _⟩ := SetOf.live hS₅; exact nI.ne (e₇.keep _ _ (s₆.extBut _ _ SnL ho))
  have dD : s.heap.get? D = none := dead m₁.keep (dead e₂.keep nD.1)
  have dS : s.heap.get? Sn = none := dead m₄.keep nS.1
  have dI : s.heap.get? It = none := dead m₆.keep (dead e₇.keep nI.1)
  have offF : ∀ a ∈ G.all, a ∉ ([L, D, Sn, It] : List Nat) := fun a ha q => by
    simp only [List.mem_cons, List.not_mem_nil, or_false] at q
    rcases q with rfl | rfl | rfl | rfl
    · exact I.all_new hL ha
    · exact I.all_new dD ha
    · exact I.all_new dS ha
    · exact I.all_new dI ha
  have liveF : ∀ a o, s.heap.get? a = some o → a ∉ ([L, D, Sn, It] : List Nat) := fun a o e q => by
    simp only [List.mem_cons, List.not_mem_nil, or_false] at q
    rcases q with rfl | rfl | rfl | rfl
    · exact nomatch hL.symm.trans e
    · exact nomatch dD.symm.trans e
    · exact nomatch dS.symm.trans e
    · exact nomatch dI.symm.trans e
  have adI : G.ad ≠ It := fun q => offF _ mem_ad (by rw [q]; simp)
  let Inv : Nat → Heap → Array GenState → Prop := fun i hp g => ∃ (m : Str → Option Value) (acc : Array Value) (c cnt : Nat), Ext [L, D, Sn, It] h₈ hp ∧ GM [] s.gens g ∧ hp.Ns L m ∧ m "rows" = some (.ref D) ∧ m "seen" = some (.ref Sn) ∧ hp.get? D = some { cls := .type "list", data := .seq acc c } ∧
    acc.size = (eFrom [] (G.rows.take i)).length ∧ (∀ (j : Nat) (v : Value), acc[j]? = some v → EDs (eFrom [] (G.rows.take i)) G.dds j v hp) ∧ hp.SetOf (intKind prog w) Sn (fun x => decide (x ∈ (G.rows.take i).map (·.n))) cnt ∧ cnt ≤ i ∧ ∃ o, hp.get? It = some o ∧ NoTup o
  have W : ∀ (B : Around) (es : List Expr) (k : Nat) (p : Pos), B.handled = none → Itr prog w B (.ref It) [It] [It, G.ad] [] (.Tuple es k p) G.adjs.length (PairIs (intKind prog w) G.adjs) (fun i h _ => (∃ ok ov, IsItemIter h It G.ad i G.adjs.length ep ok ov) ∧ h.DictAt (intKind prog w) G.ad G.adjs ep) := fun B es k p hb => Itr.items (knd := intKind prog w) hb It G.ad adI G.adjs ep es k p
  refine for_itr (W _ _ _ _ hh) Inv ?_ ?_ ⟨⟨_, _, hit⟩, hat₈⟩ ⟨_, #[], 0, 0, fun _ _ _ e => e, .refl _, n₈, rfl, rfl, hD₈, rfl, (fun j v q => by simp at q), by simpa using hS₈, Nat.le_refl _, ⟨_, hit, noTup_fields rfl⟩⟩
  · rintro i hp g tk v h₉ g₉ fv hi ⟨m, acc, c, cnt, eI, gI, nL, mr, ms, hD, hsz, hacc, hS, hcnt, oIt, hoIt, hdIt⟩ itm st₉ e₉ eg₉ E'
    obtain ⟨⟨ok₉, ov₉, hit₉⟩, hat₉⟩ := st₉
    obtain ⟨T, k, y, key, rfl, hk, hkey, hT⟩ := itm.is h₉ fun _ _ _ e => e
    obtain ⟨r, hgi, rfl, rfl⟩ := adjs_item hk
    obtain ⟨tr, rfl⟩ := Value.isInt_shape (show key.isInt r.n = true from hkey)
    have hrm : r ∈ G.rows := List.mem_of_getElem? hgi
    have bI : ∀ b ∈ ([It] : List Nat), b ∈ ([L, D, Sn, It] : List Nat) := fun b hb => by rw [List.mem_singleton.mp hb]; simp
    have notIt : ∀ b : Nat, b ≠ It → b ∉ ([It] : List Nat) := fun b n q => n (List.mem_singleton.mp q)
    have kt₉ : KT hp h₉ := KT.of e₉ fun b hb o q => by rw [List.mem_singleton.mp hb, hoIt] at q; cases q; exact hdIt
    have n₉ : h₉.Ns L m := nL.at' fun o e => e₉ _ _ (notIt _ (Ne.symm ItL)) e
    refine unp2I hh hT n₉ rfl rfl rfl fun h₁₀ tk₁₀ e₁₀ n₁₀ => ?_
    replace e₁₀ : Ext [L] h₉ h₁₀ := e₁₀
    have kt₁₀ : KT h₉ h₁₀ := KT.of e₁₀ fun b hb o q => by rw [List.mem_singleton.mp hb] at q; exact noTup_ns n₉ o q
    have eI₁₀ : Ext [L, D, Sn, It] h₈ h₁₀ := (eI.app (e₉.mono bI)).app (e₁₀.mono fun b hb => by rw [List.mem_singleton.mp hb]; simp)
    have I₁₀ : GraphAt prog w h₁₀ G := I₈.to eI₁₀ offF
    have Z₁₀ : Gl w h₁₀ := Z₈.off Z fun a _ ⟨_, q⟩ o e => eI₁₀ _ _ (liveF a _ q) e
    have D₁₀ := e₁₀ _ _ (fun q => DL (List.mem_singleton.mp q)) (e₉ _ _ (notIt _ (Ne.symm ItD)) hD)
    have S₁₀ : h₁₀.SetOf (intKind prog w) Sn _ cnt := SetOf.at' (SetOf.at' hS fun o e => e₉ _ _ (notIt _ (Ne.symm ItS)) e) fun o e => e₁₀ _ _ (fun q => SnL (List.mem_singleton.mp q)) e
    have hnb := I₁₀.nbr r hrm
    have lo := I₁₀.lo (mem_b hrm)
    refine wpAny_execs_cons <| wpAny_For <| MethodCall_ <| nmL n₁₀ rfl rfl <| gmD hnb PySem.F.slot_dict_items PySem.F.type_dict_items <| cwB0 <| ditems lo hnb ?_
    obtain ⟨ep2, hat2⟩ := hnb.dictAt
    generalize hh₁₁ : Heap.push _ _ = h₁₁
    have e₁₁ : Ext [] h₁₀ h₁₁ := hh₁₁ ▸ Ext.push _ _
    have hV2 : h₁₁.IsItemsView h₁₀.objs.size r.b := hh₁₁ ▸ ⟨_, Heap.get?_push_size _ rfl, rfl, rfl⟩
    dsimp only
    generalize h₁₀.objs.size = V2 at hV2 ⊢
    refine wpAny_pyIter_items hV2 (hat2.at' fun o e => e₁₁.keep _ _ e) ?_
    generalize hh₁₂ : Heap.push _ _ = h₁₂
    have e₁₂ : Ext [] h₁₁ h₁₂ := hh₁₂ ▸ Ext.push _ _
    have nI2 : New h₁₁ h₁₁.objs.size := New.pos (s := { s with heap := h₁₁ }) (Z₁₀.k e₁₁)
    have hit2 : IsItemIter h₁₂ h₁₁.objs.size r.b 0 r.nbrs.length ep2 .none .none := hh₁₂ ▸ Heap.get?_push_size _ rfl
    dsimp only
    generalize h₁₁.objs.size = It2 at nI2 hit2 ⊢
    have e1012 : Ext [] h₁₀ h₁₂ := e₁₁.app e₁₂
    have dI2 : h₁₀.get? It2 = none := dead e₁₁.keep nI2.1
    have hat2' : h₁₂.DictAt (intKind prog w) r.b r.nbrs ep2 := hat2.at' fun o e => e1012.keep _ _ e
    have rI2 : r.b ≠ It2 := by obtain ⟨o, ho⟩ := dictLive hnb; exact fun q => by rw [← q, ho] at dI2; cases dI2
    have W2 : ∀ (B : Around) (es : List Expr) (k : Nat) (p : Pos), B.handled = none → Itr prog w B (.ref It2) [It2] [It2, r.b] [] (.Tuple es k p) r.nbrs.length (PairIs (intKind prog w) r.nbrs) (fun i h _ => (∃ ok ov, IsItemIter h It2 r.b i r.nbrs.length ep2 ok ov) ∧ h.DictAt (intKind prog w) r.b r.nbrs ep2) := fun B es k p hb => Itr.items (knd := intKind prog w) hb It2 r.b rI2 r.nbrs ep2 es k p
    have n₁₂ := n₁₀.keeps e1012.keep
    let seen := (G.rows.take i).map (·.n)
    have L2 : L ≠ It2 := by obtain ⟨o, ho⟩ := nsLive n₁₀; exact fun q => by rw [← q, ho] at dI2; cases dI2
    have D2 : D ≠ It2 := fun q => by rw [← q, D₁₀] at dI2; cases dI2
    have S2 : Sn ≠ It2 := by obtain ⟨o, ho, _⟩ := SetOf.live S₁₀; exact fun q => by rw [← q, ho] at dI2; cases dI2
    have S₁₂ : h₁₂.SetOf (intKind prog w) Sn (fun x => decide (x ∈ seen)) cnt := SetOf.at' S₁₀ fun o e => e1012.keep _ _ e
    let Inv2 : Nat → Heap → Array GenState → Prop := fun q hp g => ∃ (m' : Str → Option Value) (new : Array Value) (c' : Nat), Ext [L, D, It2] h₁₂ hp ∧ GM [] g₉ g ∧ KT h₁₂ hp ∧ hp.Ns L m' ∧ m' "rows" = some (.ref D) ∧ m' "seen" = some (.ref Sn) ∧ m' "u" = some (.int r.n tr) ∧ hp.get? D = some { cls := .type "list", data := .seq (acc ++ new) c' } ∧
      new.size = (eRow seen r.n (r.es.take q)).length ∧ (∀ (j : Nat) (v : Value), new[j]? = some v → EDs (eRow seen r.n (r.es.take q)) (r.es.map (·.2)) j v hp) ∧ ∃ o, hp.get? It2 = some o ∧ NoTup o
    refine for_itr (W2 _ _ _ _ hh) Inv2 ?_ ?_ ⟨⟨_, _, hit2⟩, hat2'⟩ ⟨_, #[], c, fun _ _ _ e => e, .refl _, .refl _, n₁₂, mr, ms, rfl, by rw [Array.append_empty]; exact e1012.keep _ _ D₁₀, rfl, (fun j v q => by simp at q), _, hit2, noTup_fields rfl⟩
    · rintro q hq g₁₃ tk₁₃ v₁₃ h₁₃ g₁₃' fv₁₃ hlt ⟨m', new, c', eJ, gJ, kJ, nJ, j1, j2, j3, DJ, szJ, accJ, oI2, hoI2, hdI2⟩ itm₁₃ st₁₃ e₁₃ eg₁₃ E₁₃
      obtain ⟨T', k', y', key', rfl, hk', hkey', hT'⟩ := itm₁₃.is h₁₃ fun _ _ _ e => e
      obtain ⟨x, hx, rfl, rfl⟩ : ∃ x, r.es[q]? = some x ∧ k' = x.1 ∧ y' = .ref x.2 := by
        simp only [Row.nbrs, List.getElem?_map] at hk'
        cases hq' : r.es[q]? with
        | none => rw [hq'] at hk'; cases hk'
        | some x => rw [hq'] at hk'; cases hk'; exact ⟨x, rfl, rfl, rfl⟩
      obtain ⟨tx, rfl⟩ := Value.isInt_shape (show key'.isInt x.1 = true from hkey')
      have notI2 : ∀ b : Nat, b ≠ It2 → b ∉ ([It2] : List Nat) := fun b n q => n (List.mem_singleton.mp q)
      have kt₁₃ : KT hq h₁₃ := KT.of e₁₃ fun b hb o q => by rw [List.mem_singleton.mp hb, hoI2] at q; cases q; exact hdI2
      have n₁₃ : h₁₃.Ns L m' := nJ.at' fun o e => e₁₃ _ _ (notI2 _ L2) e
      refine unp2I hh hT' n₁₃ rfl rfl rfl fun h₁₄ tk₁₄ e₁₄ n₁₄ => ?_
      replace e₁₄ : Ext [L] h₁₃ h₁₄ := e₁₄
      have kt₁₄ : KT h₁₃ h₁₄ := KT.of e₁₄ fun b hb o q => by rw [List.mem_singleton.mp hb] at q; exact noTup_ns n₁₃ o q
      have eJ₁₄ : Ext [L, D, It2] h₁₂ h₁₄ := (eJ.app (e₁₃.mono fun b hb => by rw [List.mem_singleton.mp hb]; simp)).app (e₁₄.mono fun b hb => by rw [List.mem_singleton.mp hb]; simp)
      have D₁₄ := e₁₄ _ _ (fun q => DL (List.mem_singleton.mp q)) (e₁₃ _ _ (notI2 _ D2) DJ)
      have S₁₄ : h₁₄.SetOf (intKind prog w) Sn (fun x => decide (x ∈ seen)) cnt := SetOf.at' S₁₂ fun o e => eJ₁₄ _ _ (by simp [SnL, SnD, S2]) e
      obtain ⟨ok', ov', hit₁₃⟩ := st₁₃.1
      have hit₁₄ := e₁₄ _ _ (fun q => L2 (List.mem_singleton.mp q).symm) hit₁₃
      have hat₁₄ : h₁₄.DictAt (intKind prog w) r.b r.nbrs ep2 := st₁₃.2.at' fun o e => e₁₄ _ _ (fun q => offF _ (mem_b hrm) (by rw [List.mem_singleton.mp q]; simp)) e
      have kt14 := (kJ.trans kt₁₃).trans kt₁₄
      have kt24 := kt₁₃.trans kt₁₄
      have htk : r.es.take (q + 1) = r.es.take q ++ [x] := by rw [List.take_add_one, hx]; rfl
      have ix : x.2 ∈ r.es.map (·.2) := List.mem_map_of_mem (List.mem_of_getElem? hx)
      refine at_ h₁₄ g₁₃' s.drawn s.os fun t₁₄ => ?_
      refine wpAny_execs_cons <| wpAny_If <| wpAny_isTrue_Compare1 <| nmL n₁₄ rfl rfl <| nmL n₁₄ rfl j2 <| wpAny_notInSet_of (intKind_is _ _ _ _) rfl S₁₄ <| wpAny_truthy_bool ?_
      by_cases hxs : x.1 ∈ seen
      · rw [decide_eq_true hxs]
        refine wpAny_execs_nil <| wpAny_execs_nil ⟨rfl, h₁₄, g₁₃', _, rfl, ⟨_, new, c', eJ₁₄, gJ.trans eg₁₃, kt14, n₁₄, j1, j2, j3, D₁₄, ?_, ?_, _, hit₁₄, noTup_fields rfl⟩, ⟨_, _, hit₁₄⟩, hat₁₄⟩
        · rw [htk, eRow_snoc, if_pos hxs, List.append_nil]; exact szJ
        · intro j v hv
          rw [htk, eRow_snoc, if_pos hxs, List.append_nil]
          exact (accJ j v hv).kt kt24
      · rw [decide_eq_false hxs]
        simp only [Bool.not_false, if_true]
        refine wpAny_execs_cons <| wpAny_Expr_any <| MethodCall_ <| nmL n₁₄ rfl j1 <| gmB D₁₄ rfl rfl PySem.F.plainAttrs_list PySem.F.slot_list_append PySem.F.type_list_append <| cwB <| wpAny_items_cons <| wpAny_Tuple <| wpAny_items_cons <| nmL n₁₄ rfl j3 <| wpAny_items_cons <| nmL n₁₄ rfl rfl <| wpAny_items_cons <| nmL n₁₄ rfl rfl <| wpAny_items_nil ⟨(by show 3 ≤ 2 ^ 24; decide), wpAny_items_nil ?_⟩
        generalize hh₁₅ : Heap.push _ _ = h₁₅
        have e₁₅ : Ext [] h₁₄ h₁₅ := hh₁₅ ▸ Ext.push _ _
        have hT₁₅ : Tup h₁₅ h₁₄.objs.size #[.int r.n tr, .int x.1 tx, .ref x.2] := hh₁₅ ▸ Heap.get?_push_size _ rfl
        dsimp only
        generalize h₁₄.objs.size = T₅ at hT₁₅ ⊢
        have D₁₅ := e₁₅.keep _ _ D₁₄
        refine wpAny_list_append_plain (hsz := ?_) ⟨_, D₁₅⟩ fun h₁₆ hl₁₆ s₁₆ => ?_
        · replace s₁₆ : Heap.SameBut D h₁₅ h₁₆ := s₁₆
          have e₁₆ : Ext [D] h₁₅ h₁₆ := Ext.of_same s₁₆
          obtain ⟨c₁₆, hc₁₆⟩ := hl₁₆
          have kt₁₆ : KT h₁₄ h₁₆ := (KT.ext e₁₅).trans (KT.of e₁₆ fun b hb o q => by
            rw [List.mem_singleton.mp hb, D₁₅] at q; cases q
            exact .inl (by simp))
          have T₁₆ := e₁₆ _ _ (fun q => by rw [List.mem_singleton.mp q] at hT₁₅; exact absurd (congrArg Obj.cls (Option.some.inj (hT₁₅.symm.trans D₁₅))) (by simp)) hT₁₅
          have e46 : Ext [D] h₁₄ h₁₆ := (Ext.of_keep e₁₅.keep _).app e₁₆
          have hit₁₆ := e46 _ _ (fun q => D2 (List.mem_singleton.mp q).symm) hit₁₄
          refine wpAny_execs_nil <| wpAny_execs_nil ⟨rfl, h₁₆, g₁₃', _, rfl, ⟨_, new.push (.ref T₅), c₁₆, eJ₁₄.app (e46.mono fun b hb => by rw [List.mem_singleton.mp hb]; simp), gJ.trans eg₁₃, kt14.trans kt₁₆, n₁₄.at' fun o e => e46 _ _ (fun q => DL (List.mem_singleton.mp q).symm) e, j1, j2, j3, by rw [Array.push_append] at hc₁₆; exact hc₁₆, ?_, ?_, _, hit₁₆, noTup_fields rfl⟩, ⟨_, _, hit₁₆⟩, hat₁₄.at' fun o e => e46 _ _ (fun q => offF _ (mem_b hrm) (by rw [List.mem_singleton.mp q]; simp)) e⟩
          · rw [htk, eRow_snoc, if_neg hxs, Array.size_push, szJ, List.length_append]; rfl
          · intro j v hv
            rw [htk, eRow_snoc, if_neg hxs]
            rw [Array.getElem?_push] at hv
            split at hv
            · rename_i hj
              cases hv
              refine ⟨T₅, tr, tx, x.2, rfl, ix, ?_⟩
              rw [hj, szJ]
              simpa using T₁₆
            · obtain ⟨T, tu, tv, d, rfl, md, hT⟩ := (accJ j v hv).kt (kt24.trans kt₁₆)
              refine ⟨T, tu, tv, d, rfl, md, ?_⟩
              have hj : j < (eRow seen r.n (r.es.take q)).length := by
                rw [← szJ]
                exact (Array.getElem?_eq_some_iff.mp hv).1
              rw [getElem!_pos _ j hj] at hT
              rw [getElem!_pos _ j (by rw [List.length_append]; omega), List.getElem_append_left hj]
              exact hT
        · have q1 := eFrom_le (b := 100) (rs := G.rows.take i) (seen := []) fun r hr => I.short J (List.mem_of_mem_take hr)
          have q2 := eRow_le (seen := seen) (n := r.n) (xs := r.es.take q)
          have q3 := I.short J hrm
          have q4 := J.few
          rw [List.length_take] at q1 q2
          show (acc ++ new).size ≤ 2 ^ 24
          rw [Array.size_append]
          have : 100 * min i G.rows.length ≤ 100 * 100 := Nat.mul_le_mul_left _ (by omega)
          omega
    · intro h₁₃ g₁₃ tk₁₃ h₁₄ g₁₄ inv e₁₄ eg₁₄
      obtain ⟨m', new, c', eJ, gJ, kJ, nJ, j1, j2, j3, DJ, szJ, accJ, oI2, hoI2, hdI2⟩ := inv
      have notI2 : ∀ b : Nat, b ≠ It2 → b ∉ ([It2] : List Nat) := fun b n q => n (List.mem_singleton.mp q)
      have fullE : r.es.take r.nbrs.length = r.es := by
        rw [show r.nbrs.length = r.es.length by simp [Row.nbrs]]; exact List.take_length
      rw [fullE] at szJ accJ
      have kt₁₄ : KT h₁₃ h₁₄ := KT.of e₁₄ fun b hb o q => by rw [List.mem_singleton.mp hb, hoI2] at q; cases q; exact hdI2
      have n₁₄ : h₁₄.Ns L m' := nJ.at' fun o e => e₁₄ _ _ (notI2 _ L2) e
      have D₁₄ := e₁₄ _ _ (notI2 _ D2) DJ
      have eJ₁₄ : Ext [L, D, It2] h₁₂ h₁₄ := eJ.app (e₁₄.mono fun b hb => by rw [List.mem_singleton.mp hb]; simp)
      have S₁₄ : h₁₄.SetOf (intKind prog w) Sn (fun x => decide (x ∈ seen)) cnt := SetOf.at' S₁₂ fun o e => eJ₁₄ _ _ (by simp [SnL, SnD, S2]) e
      dsimp only
      have htk : G.rows.take (i + 1) = G.rows.take i ++ [r] := by rw [List.take_add_one, hgi]; rfl
      have hcn : cnt + 1 < 4096 := by
        have := J.few
        have : i < G.rows.length := (List.getElem?_eq_some_iff.mp hgi).1
        omega
      refine wpAny_execs_cons <| wpAny_Expr_any <| MethodCall_ <| nmL n₁₄ rfl j2 <| getMethod_set_add S₁₄ <| cwB <| wpAny_items_cons <| nmL n₁₄ rfl j3 <| wpAny_items_nil <| call_set_add (intKind_is _ _ _ _) rfl S₁₄ hcn fun h₁₅ s₁₅ S₁₅ => wpAny_execs_nil ?_
      replace s₁₅ : Heap.SameBut Sn h₁₄ h₁₅ := s₁₅
      have e₁₅ : Ext [Sn] h₁₄ h₁₅ := Ext.of_same s₁₅
      obtain ⟨oS, hoS, hdS⟩ := SetOf.live S₁₄
      have kt₁₅ : KT h₁₄ h₁₅ := KT.of e₁₅ fun b hb o q => by rw [List.mem_singleton.mp hb, hoS] at q; cases q; exact hdS
      have notS : ∀ b : Nat, b ≠ Sn → b ∉ ([Sn] : List Nat) := fun b n q => n (List.mem_singleton.mp q)
      have e1014 : Ext [L, D] h₁₀ h₁₄ := ((Ext.of_keep e1012.keep [L, D, It2]).app eJ₁₄).shed fun a ha => by
        simp only [List.mem_cons, List.not_mem_nil, or_false] at ha
        rcases ha with rfl | rfl | rfl
        · exact .inl (by simp)
        · exact .inl (by simp)
        · exact .inr dI2
      have ktAll : KT hp h₁₅ := ((((kt₉.trans kt₁₀).trans (KT.ext e1012)).trans kJ).trans kt₁₄).trans kt₁₅
      have eI₁₅ : Ext [L, D, Sn, It] h₈ h₁₅ := (eI₁₀.app (e1014.mono fun b hb => by
          simp only [List.mem_cons, List.not_mem_nil, or_false] at hb
          rcases hb with rfl | rfl <;> simp)).app (e₁₅.mono fun b hb => by rw [List.mem_singleton.mp hb]; simp)
      have hitE : IsItemIter h₁₅ It G.ad (i + 1) G.adjs.length ep ok₉ ov₉ := e₁₅ _ _ (notS _ ItS) (e1014 _ _ (by simp [ItL, ItD]) (e₁₀ _ _ (fun q => ItL (List.mem_singleton.mp q)) hit₉))
      have hadO : G.ad ∉ ([L, D, Sn, It] : List Nat) := offF _ mem_ad
      have hatE : h₁₅.DictAt (intKind prog w) G.ad G.adjs ep := hat₈.at' fun o e => eI₁₅ _ _ hadO e
      have hsplit : eFrom [] (G.rows.take (i + 1)) = eFrom [] (G.rows.take i) ++ eRow seen r.n r.es := by rw [htk, eFrom_snoc]; rfl
      refine ⟨rfl, h₁₅, g₁₄, _, rfl, ⟨m', acc ++ new, c', (if decide (r.n ∈ seen) = true then cnt else cnt + 1), eI₁₅, ((gI.trans eg₉).trans gJ).trans eg₁₄, n₁₄.at' fun o e => e₁₅ _ _ (notS _ (Ne.symm SnL)) e, j1, j2, e₁₅ _ _ (notS _ (Ne.symm SnD)) D₁₄, ?_, ?_, ?_, ?_, ⟨_, hitE, noTup_fields rfl⟩⟩, ⟨_, _, hitE⟩, hatE⟩
      · rw [hsplit, Array.size_append, List.length_append, hsz, szJ]
      · intro j v hv
        rw [hsplit]
        rw [Array.getElem?_append] at hv
        split at hv
        · rename_i hj
          obtain ⟨T, tu, tv, d, rfl, md, hT⟩ := (hacc j v hv).kt ktAll
          refine ⟨T, tu, tv, d, rfl, md, ?_⟩
          have hj' : j < (eFrom [] (G.rows.take i)).length := by rw [← hsz]; exact hj
          rw [getElem!_pos _ j hj'] at hT
          rw [getElem!_pos _ j (by rw [List.length_append]; omega), List.getElem_append_left hj']
          exact hT
        · rename_i hj
          obtain ⟨T, tu, tv, d, rfl, md, hT⟩ := (accJ _ v hv).kt (kt₁₄.trans kt₁₅)
          refine ⟨T, tu, tv, d, rfl, List.mem_flatMap.mpr ⟨r, hrm, md⟩, ?_⟩
          have hj2 : j - acc.size < (eRow seen r.n r.es).length := by
            rw [← szJ]; exact (Array.getElem?_eq_some_iff.mp hv).1
          rw [getElem!_pos (eRow seen r.n r.es) (j - acc.size) hj2] at hT
          rw [getElem!_pos _ j (by rw [List.length_append, ← hsz]; omega), List.getElem_append_right (by rw [← hsz]; omega)]
          simp only [← hsz]
          exact hT
      · have : (fun x => decide (x ∈ (G.rows.take (i + 1)).map (·.n))) = fun k' => decide (k' ∈ seen) || decide (k' = r.n) := by
          funext x
          rw [htk, List.map_append]
          simp [seen, List.mem_append]
        rw [this]
        exact S₁₅
      · split <;> omega
  · intro h₉ g tk h' g' inv e eg
    obtain ⟨m, acc, c, cnt, eI, gI, nL, mr, ms, hD, hsz, hacc, hS, hcnt, oIt, hoIt, hdIt⟩ := inv
    have fullR : G.rows.take G.adjs.length = G.rows := by
      rw [show G.adjs.length = G.rows.length by simp [Gr.adjs]]; exact List.take_length
    rw [fullR] at hsz hacc
    have n₁₀ : h'.Ns L m := nL.at' fun o e' => e _ _ (fun q => ItL (List.mem_singleton.mp q).symm) e'
    have D₁₀ := e _ _ (fun q => ItD (List.mem_singleton.mp q).symm) hD
    refine wpAny_execs_cons <| wpAny_Return_some <| nmL n₁₀ rfl mr <| h h' g' _ D acc c ?_ (gI.trans eg) ⟨dD, nD.2⟩ D₁₀ hsz fun j v q => (hacc j v q).kt (KT.of e fun b hb o q => by rw [List.mem_singleton.mp hb, hoIt] at q; cases q; exact hdIt)
    refine ((m₆.app e68).app' eI ?_).app' e fun b hb => .inr (by rw [List.mem_singleton.mp hb]; exact dI)
    intro b hb
    simp only [List.mem_cons, List.not_mem_nil, or_false] at hb
    rcases hb with rfl | rfl | rfl | rfl
    · exact .inr hL
    · exact .inr dD
    · exact .inr dS
    · exact .inr dI
end
end Mine
end W29
section W30
open PySem PySem.W PyProof.Rows PySem.Calls PySem.Spec
set_option maxRecDepth 100000
set_option maxHeartbeats 8000000
namespace Mine
theorem wp_absurd {M : Model} {Γ : PySem.Ctx} {α : Type} {t : Sem α} {p : Pos} {s : Shared} (h : Sem.wp M Γ t (fun _ _ _ => False) (fun _ _ _ => False) p s) : False := by
  have h' : Sem.wp M (Γ.over []) t (fun _ _ _ => False) (fun _ _ _ => False) p s := h
  obtain ⟨_, _, _, q⟩ := runs_wrap_of_wp (fs := []) (Φ := fun _ _ => False) (fun _ => (Sem.raise .none : Sem PySem.Fin)) (fun _ => Sem.raise .none) id id t h' (fun _ _ _ q => q.elim) (fun _ _ _ q => q.elim)
  exact q
section
variable {prog : Program} {w : World} {A : Around} {E : Value → Shared → Prop} {s : Shared}
theorem nextOf_of {it : Value} {Q : Value → Shared → Prop} (h : wpAny (model prog w) A (pyNext it) (fun r s' => match r with | none => False | some v => Q v s') (fun _ _ => False) s) : wpAny (model prog w) A (Builtin.SmallTypes.nextOf it) Q E s := by
  intro Γ p hΓ
  have := h Γ p hΓ
  unfold pyNext at this
  unfold Builtin.SmallTypes.nextOf
  rw [Sem.wp_bind'] at this ⊢
  rw [Sem.wp_attempt] at this
  refine Sem.wp_mono _ Γ _ (fun r p₁ s₁ hr => ?_) (fun e p₁ s₁ he => ?_) _ _ this
  · cases r with
    | none => exact hr.elim
    | some v => exact hr
  · dsimp only at he
    rw [Sem.wp_bind'] at he
    refine (wp_absurd (Sem.wp_mono _ Γ _ (fun b p₂ s₂ hr => ?_) (fun _ _ _ x => x) _ _ he)).elim
    cases b with
    | true => exact hr
    | false => exact hr
theorem nextOf_dict_end {K : Type} [DecidableEq K] {knd : KeyKind prog w K} {it d : Addr} {i ep : Nat} {kvs : List (K × Value)} {Q : Value → Shared → Prop} (hh : A.handled = none) (hit : s.heap.IsKeyIter it d i kvs.length ep) (hm : s.heap.DictAt knd d kvs ep) (hx : kvs[i]? = none)
    (hE : ∀ h' e, Heap.ExtBut it s.heap h' → (∃ o, h'.get? e = some o ∧ o.cls = .type "StopIteration") → E (.ref e) { s with heap := h' }) : wpAny (model prog w) A (Builtin.SmallTypes.nextOf (.ref it)) Q E s := by
  obtain ⟨o, ho, hc, hd⟩ := id hit
  obtain ⟨od, es, hod, hcd, hdd, hk, hp, hn⟩ := id hm
  have hsz : es.size = kvs.length := by rw [← hp.length]; simp
  have hge : es.size ≤ i := by rw [hsz]; simpa using hx
  have hown : Builtin.Dict_items.ownsTuple "dict_keyiterator" = false := by decide
  unfold Builtin.SmallTypes.nextOf
  refine wpAny_bind (wpAny_callSpecial?_slot (name := Str.ofString "__next__") hit.typeIs PySem.F.slot_dict_keyiterator_next (wpAny_call_entry PySem.F.slot_dict_keyiterator_next hit.typeIs PySem.F.entry_dict_keyiterator_next ?_ (PySem.F.args_dict_keyiterator_next_1 _)))
  refine wpAny_bind (wpAny_pure (wpAny_bind (wpAny_bind ?_)))
  first | refine wpAny_bind (wpAny_typeNameOfWhole_keyiter hit.typeIs (wpAny_pure ?_)) | refine wpAny_bind (wpAny_typeNameOf_keyiter hit.typeIs (wpAny_pure ?_))
  refine wpAny_bind (wpAny_fieldsOf ho hd ?_)
  simp only [hown, Bool.false_eq_true, if_false]
  show wpAny _ _ (if (Value.ref d == Value.none) = true then _ else _) _ _ s
  rw [if_neg (show ¬ ((Value.ref d == Value.none) = true) from Bool.false_ne_true)]
  refine wpAny_bind (wpAny_pure (wpAny_bind (wpAny_dictEntries hod hdd ?_)))
  rw [if_neg (by rw [hsz]; simp)]
  refine wpAny_bind (wpAny_pure (wpAny_bind (wpAny_dictEpoch hod hdd ?_)))
  rw [if_neg (by simp)]
  refine wpAny_pure ?_
  simp only [show ¬ ((i : Int) < 0) from by omega, if_false, Int.toNat_natCast, Array.getElem?_eq_none hge]
  refine wpAny_bind ?_
  first | refine wpAny_bind (wpAny_typeNameOfWhole_keyiter hit.typeIs (wpAny_pure ?_)) | refine wpAny_bind (wpAny_typeNameOf_keyiter hit.typeIs (wpAny_pure ?_))
  show wpAny _ _ (setField (.ref it) 0 .none >>= _) _ _ s
  refine wpAny_bind (wpAny_setField ho hd (by simp) ?_)
  show wpAny _ _ (newExc (.type "StopIteration") [] >>= _) _ _ _
  refine wpAny_bind ?_
  simp only [newExc, newTuple]
  refine wpAny_bind (wpAny_newObj_type ?_ (by size_fits))
  refine wpAny_bind (m := firstArgMember _ _) (wpAny_of_eq (a := Value.none) (by first | rfl | (simp only [firstArgMember]; rfl)) ?_)
  refine wpAny_newObj_type ?_ (by size_fits)
  simp only [raiseNew]
  refine wpAny_bind (wpAny_handled ?_)
  rw [show A.in1.handled = none from hh]
  refine wpAny_bind (wpAny_pure (wpAny_throw ?_))
  refine hE _ _ (fun b ob hb e => Heap.get?_push_of_some _ (Heap.get?_push_of_some _ ((Heap.SameBut.update ..).extBut b ob hb e))) ⟨_, Heap.get?_push_size _ rfl, rfl⟩
theorem Draws.dictKeys {K : Type} [DecidableEq K] {knd : KeyKind prog w K} (hh : A.handled = none) (it d : Addr) (hne : d ≠ it) (kvs : List (K × Value)) (ep : Nat) :
    Draws prog w A it [it, d] kvs.length (fun i v => ∃ k x, kvs[i]? = some (k, x) ∧ knd.is k v = true) (fun i h => h.IsKeyIter it d i kvs.length ep ∧ h.DictAt knd d kvs ep) where
  live := fun _ _ st => let ⟨o, ho, _⟩ := st.1; ⟨o, ho⟩
  frame := fun _ _ _ st hk => ⟨st.1.at fun o e => hk it (by simp) o e, st.2.at' fun o e => hk d (by simp) o e⟩
  item := fun i s Q E hi st hQ => by
    obtain ⟨⟨k, x⟩, hx⟩ : ∃ p, kvs[i]? = some p := ⟨kvs[i], by simp [hi]⟩
    refine nextOf_of (wpAny_pyNext_dict_item st.1 st.2 hx fun key h' hkey hit' hs' => ?_)
    exact hQ key h' s.toks ⟨k, x, hx, hkey⟩ ⟨hit', st.2.at' fun o e => hs'.extBut _ _ hne e⟩ hs'
  done := fun s Q E st hE => nextOf_dict_end hh st.1 st.2 (by simp) hE
theorem draw_range {it : Addr} {x left step : Int} {Q : Value → Shared → Prop} (hit : IsRangeIter s.heap it x left step) (hleft : 0 < left)
    (hQ : ∀ h', IsRangeIter h' it (x + step) (left - 1) step → Heap.SameBut it s.heap h' → Q (.int x s.toks) { s with heap := h', toks := s.toks + 1 }) : wpAny (model prog w) A (Builtin.SmallTypes.nextOf (.ref it)) Q E s :=
  nextOf_of (wpAny_pyNext_range_item hit hleft hQ)
end
end Mine
end W30
section W31
open PySem PySem.W PyProof.Rows PySem.Calls PySem.Spec
set_option maxRecDepth 100000
set_option maxHeartbeats 8000000
namespace Mine
abbrev ZipAt (h : Heap) (z TI TO : Nat) (f0 f1 : Value) : Prop := h.get? z = some { cls := .type "zip", dict := none, data := .fields #[f0, f1, .bool false, .ref TI, .ref TO], slots := #[] }
section
variable {prog : Program} {w : World} {A : Around} {E : Value → Shared → Prop} {s : Shared}
variable {K : Type} [DecidableEq K] {knd : KeyKind prog w K}
theorem w_alive {a : Addr} {o : Obj} {Q : Option Obj → Shared → Prop} (ho : s.heap.get? a = some o) (h : Q (some o) s) : wpAny (model prog w) A (loadIfAlive a) Q E s := fun Γ p hΓ => by
  unfold loadIfAlive
  rw [Sem.wp_loadIfAlive, ho]
  exact h
theorem owned_out {z TI TO T : Nat} {f1 : Bool} {oT : Obj} {Q : Bool → Shared → Prop} (hz : ZipAt s.heap z TI TO (rawInt T) (.bool f1)) (hT : s.heap.get? T = some oT)
    (h : ∀ h₁, ZipAt h₁ z TI TO (rawInt T) (.bool true) → Ext [z] s.heap h₁ → Q false { s with heap := h₁ }) : wpAny (model prog w) A (Builtin.SmallTypes.ownedTupleIsFree (.ref z)) Q E s := by
  unfold Builtin.SmallTypes.ownedTupleIsFree
  refine wpAny_bind (wpAny_field hz rfl (x := rawInt T) rfl ?_)
  show wpAny _ _ (loadIfAlive ((T : Int).toNat) >>= _) _ _ _
  rw [Int.toNat_natCast]
  refine wpAny_bind (w_alive hT ?_)
  rw [if_neg (by simp)]
  refine wpAny_bind (wpAny_field hz rfl (x := .bool f1) rfl ?_)
  cases f1
  · refine ite_yes rfl (wpAny_bind (wpAny_setField_rec hz (by simp) fun h₁ hz₁ hs₁ => wpAny_pure ?_))
    exact h h₁ hz₁ (Ext.of_same hs₁)
  · refine ite_no rfl (wpAny_pure ?_)
    exact h s.heap hz fun _ _ _ e => e
theorem zip_later {z TI TO i1 i2 d T i ep : Nat} {kvs : List (K × Value)} {k : K} {kv : Value} {x left : Int} {oT : Obj} {f1 : Bool} {Q : Option Value → Shared → Prop}
    (hz : ZipAt s.heap z TI TO (rawInt T) (.bool f1)) (hTI : Tup s.heap TI #[.ref i1, .ref i2]) (hT : s.heap.get? T = some oT) (h1 : s.heap.IsKeyIter i1 d i kvs.length ep) (hm : s.heap.DictAt knd d kvs ep) (hx : kvs[i]? = some (k, kv)) (h2 : IsRangeIter s.heap i2 x left 1) (hleft : 0 < left)
    (ne : z ≠ TI ∧ z ≠ i1 ∧ z ≠ i2 ∧ z ≠ d ∧ i1 ≠ i2 ∧ i1 ≠ d ∧ z ≠ T ∧ i1 ≠ TI ∧ i2 ≠ TI ∧ i2 ≠ d)
    (h : ∀ h' tk U key t, Ext [z, i1, i2] s.heap h' → s.heap.get? U = none → ZipAt h' z TI TO (rawInt T) (.bool true) → h'.IsKeyIter i1 d (i + 1) kvs.length ep → IsRangeIter h' i2 (x + 1) (left - 1) 1 → knd.is k key = true → Tup h' U #[key, .int x t] → Q (some (.ref U)) { s with heap := h', toks := tk }) :
    wpAny (model prog w) A (pyNext (.ref z)) Q E s := by
  obtain ⟨n1, n2, n3, n4, n5, n6, n7, n8, n9, n10⟩ := ne
  have hTz : s.TypeIs (.ref z) "zip" := ⟨_, hz, rfl⟩
  unfold pyNext
  refine wpAny_bind (wpAny_attempt (wpAny_callSpecial?_slot (name := Str.ofString "__next__") hTz PySem.F.slot_zip_next (wpAny_call_entry PySem.F.slot_zip_next hTz PySem.F.entry_zip_next ?_ (PySem.F.args_zip_next_1 _))))
  show wpAny _ _ (field (.ref z) 2 >>= _) _ _ _
  refine wpAny_bind (wpAny_field hz rfl (x := .bool false) rfl ?_)
  show wpAny _ _ (field (.ref z) 3 >>= _) _ _ _
  refine wpAny_bind (wpAny_field hz rfl (x := .ref TI) rfl ?_)
  refine wpAny_bind (wpAny_seqItems hTI rfl ?_)
  show wpAny _ _ (Builtin.SmallTypes.ownedTupleIsFree (.ref z) >>= _) _ _ _
  refine wpAny_bind ?_
  refine owned_out hz hT fun h₁ hz₁ e₁ => ?_
  simp only [Bool.false_eq_true, if_false]
  have hz2 : ZipAt h₁ z TI TO (rawInt T) (.bool true) := hz₁
  have a1 : h₁.IsKeyIter i1 d i kvs.length ep := h1.at fun o e => e₁ _ _ (fun q => n2 (List.mem_singleton.mp q).symm) e
  have am : h₁.DictAt knd d kvs ep := hm.at' fun o e => e₁ _ _ (fun q => n4 (List.mem_singleton.mp q).symm) e
  have a2 : IsRangeIter h₁ i2 x left 1 := e₁ _ _ (fun q => n3 (List.mem_singleton.mp q).symm) h2
  refine wpAny_bind ?_
  rw [← Array.forIn_toList]
  simp only [List.forIn_cons, List.forIn_nil]
  refine wpAny_bind (wpAny_bind (wpAny_holding ?_))
  show wpAny _ _ (Builtin.SmallTypes.nextOf (.ref i1) >>= _) _ _ _
  refine wpAny_bind (nextOf_of (wpAny_pyNext_dict_item (s := { s with heap := h₁ }) a1 am hx fun key h₂ hkey b1 s₂ => wpAny_pure ?_))
  replace s₂ : Heap.SameBut i1 h₁ h₂ := s₂
  refine wpAny_pure (wpAny_bind (wpAny_bind (wpAny_holding ?_)))
  show wpAny _ _ (Builtin.SmallTypes.nextOf (.ref i2) >>= _) _ _ _
  have b2 : IsRangeIter h₂ i2 x left 1 := s₂.extBut _ _ (Ne.symm n5) a2
  refine wpAny_bind (draw_range (s := { s with heap := h₂ }) b2 hleft fun h₃ c2 s₃ => wpAny_pure ?_)
  replace s₃ : Heap.SameBut i2 h₂ h₃ := s₃
  refine wpAny_pure (wpAny_pure ?_)
  refine wpAny_bind (wpAny_newTuple (hsz := by show 2 ≤ 2 ^ 24; decide) (wpAny_pure ⟨_, rfl, wpAny_pure ?_⟩))
  have e₂ : Ext [i1] h₁ h₂ := Ext.of_same s₂
  have e₃ : Ext [i2] h₂ h₃ := Ext.of_same s₃
  have eA : Ext [z, i1, i2] s.heap h₃ := ((e₁.mono fun b hb => by rw [List.mem_singleton.mp hb]; simp).app (e₂.mono fun b hb => by rw [List.mem_singleton.mp hb]; simp)).app (e₃.mono fun b hb => by rw [List.mem_singleton.mp hb]; simp)
  have zE : ZipAt h₃ z TI TO (rawInt T) (.bool true) := s₃.extBut _ _ n3 (s₂.extBut _ _ n2 hz2)
  have c1 : h₃.IsKeyIter i1 d (i + 1) kvs.length ep := b1.at fun o e => s₃.extBut _ _ n5 e
  have dU : s.heap.get? h₃.objs.size = none := by
    cases q : s.heap.get? h₃.objs.size with
    | none => rfl
    | some o =>
      have dd := get?_size h₃
      by_cases q' : h₃.objs.size ∈ ([z, i1, i2] : List Nat)
      · simp only [List.mem_cons, List.not_mem_nil, or_false] at q'
        rcases q' with q' | q' | q'
        · rw [q', zE] at dd; cases dd
        · obtain ⟨o', h', _⟩ := c1; rw [q', h'] at dd; cases dd
        · have c2' : h₃.get? i2 = _ := c2
          rw [q', c2'] at dd; cases dd
      · exact nomatch dd.symm.trans (eA _ _ q' q)
  have pk : ∀ b o, h₃.get? b = some o → (h₃.push { cls := .type "tuple", data := .seq #[key, .int x s.toks] }).get? b = some o := fun b o e => Heap.get?_push_of_some _ e
  exact h _ _ h₃.objs.size key s.toks (eA.app (Ext.of_keep pk _)) dU (pk _ _ zE) (c1.at fun o e => pk _ _ e) (pk _ _ c2) hkey (Heap.get?_push_size _ rfl)
theorem zip_end {z TI TO i1 i2 d T i ep : Nat} {kvs : List (K × Value)} {oT : Obj} {f1 : Bool} {Q : Option Value → Shared → Prop} (hh : A.handled = none)
    (hz : ZipAt s.heap z TI TO (rawInt T) (.bool f1)) (hTI : Tup s.heap TI #[.ref i1, .ref i2]) (hT : s.heap.get? T = some oT) (h1 : s.heap.IsKeyIter i1 d i kvs.length ep) (hm : s.heap.DictAt knd d kvs ep) (hx : kvs[i]? = none)
    (ne : z ≠ i1 ∧ z ≠ d) (h : ∀ h', Ext [z, i1] s.heap h' → Q none { s with heap := h' }) :
    wpAny (model prog w) A (pyNext (.ref z)) Q E s := by
  obtain ⟨n2, n4⟩ := ne
  have hTz : s.TypeIs (.ref z) "zip" := ⟨_, hz, rfl⟩
  unfold pyNext
  refine wpAny_bind (wpAny_attempt (wpAny_callSpecial?_slot (name := Str.ofString "__next__") hTz PySem.F.slot_zip_next (wpAny_call_entry PySem.F.slot_zip_next hTz PySem.F.entry_zip_next ?_ (PySem.F.args_zip_next_1 _))))
  show wpAny _ _ (field (.ref z) 2 >>= _) _ _ _
  refine wpAny_bind (wpAny_field hz rfl (x := .bool false) rfl ?_)
  show wpAny _ _ (field (.ref z) 3 >>= _) _ _ _
  refine wpAny_bind (wpAny_field hz rfl (x := .ref TI) rfl ?_)
  refine wpAny_bind (wpAny_seqItems hTI rfl ?_)
  show wpAny _ _ (Builtin.SmallTypes.ownedTupleIsFree (.ref z) >>= _) _ _ _
  refine wpAny_bind ?_
  refine owned_out hz hT fun h₁ hz₁ e₁ => ?_
  simp only [Bool.false_eq_true, if_false]
  have a1 : h₁.IsKeyIter i1 d i kvs.length ep := h1.at fun o e => e₁ _ _ (fun q => n2 (List.mem_singleton.mp q).symm) e
  have am : h₁.DictAt knd d kvs ep := hm.at' fun o e => e₁ _ _ (fun q => n4 (List.mem_singleton.mp q).symm) e
  refine wpAny_bind ?_
  rw [← Array.forIn_toList]
  simp only [List.forIn_cons, List.forIn_nil]
  refine wpAny_bind (wpAny_bind (wpAny_holding ?_))
  show wpAny _ _ (Builtin.SmallTypes.nextOf (.ref i1) >>= _) _ _ _
  refine wpAny_bind (nextOf_dict_end (s := { s with heap := h₁ }) (A := A.in1) hh a1 am hx fun h₂ e he hc => ?_)
  obtain ⟨o, ho, hc⟩ := hc
  refine wpAny_bind (wpAny_isInstance (T := "StopIteration") (b := true) ⟨o, ho, hc⟩ isSubtype_stop ?_)
  exact wpAny_pure (h h₂ ((e₁.mono fun b hb => by rw [List.mem_singleton.mp hb]; simp).app ((Ext.of_extBut he).mono fun b hb => by rw [List.mem_singleton.mp hb]; simp)))
theorem zip_first {z TI TO i1 i2 d i ep : Nat} {kvs : List (K × Value)} {k : K} {kv a b : Value} {x left : Int} {Q : Option Value → Shared → Prop}
    (hz : ZipAt s.heap z TI TO .none (.bool false)) (hTI : Tup s.heap TI #[.ref i1, .ref i2]) (hTO : Tup s.heap TO #[a, b]) (h1 : s.heap.IsKeyIter i1 d i kvs.length ep) (hm : s.heap.DictAt knd d kvs ep) (hx : kvs[i]? = some (k, kv)) (h2 : IsRangeIter s.heap i2 x left 1) (hleft : 0 < left)
    (ne : z ≠ TI ∧ z ≠ i1 ∧ z ≠ i2 ∧ z ≠ d ∧ i1 ≠ i2 ∧ i1 ≠ d ∧ z ≠ TO ∧ i1 ≠ TI ∧ i2 ≠ TI ∧ i2 ≠ d ∧ i1 ≠ TO ∧ i2 ≠ TO ∧ d ≠ TO ∧ TI ≠ TO)
    (h : ∀ h' tk U key t, Ext [z, i1, i2, TO] s.heap h' → s.heap.get? U = none → ZipAt h' z TI TO (rawInt U) (.bool false) → h'.IsKeyIter i1 d (i + 1) kvs.length ep → IsRangeIter h' i2 (x + 1) (left - 1) 1 → knd.is k key = true → Tup h' U #[key, .int x t] → Q (some (.ref U)) { s with heap := h', toks := tk }) :
    wpAny (model prog w) A (pyNext (.ref z)) Q E s := by
  obtain ⟨n1, n2, n3, n4, n5, n6, n7, n8, n9, n10, n11, n12, n13, n14⟩ := ne
  have hTz : s.TypeIs (.ref z) "zip" := ⟨_, hz, rfl⟩
  unfold pyNext
  refine wpAny_bind (wpAny_attempt (wpAny_callSpecial?_slot (name := Str.ofString "__next__") hTz PySem.F.slot_zip_next (wpAny_call_entry PySem.F.slot_zip_next hTz PySem.F.entry_zip_next ?_ (PySem.F.args_zip_next_1 _))))
  show wpAny _ _ (field (.ref z) 2 >>= _) _ _ _
  refine wpAny_bind (wpAny_field hz rfl (x := .bool false) rfl ?_)
  show wpAny _ _ (field (.ref z) 3 >>= _) _ _ _
  refine wpAny_bind (wpAny_field hz rfl (x := .ref TI) rfl ?_)
  refine wpAny_bind (wpAny_seqItems hTI rfl ?_)
  show wpAny _ _ (Builtin.SmallTypes.ownedTupleIsFree (.ref z) >>= _) _ _ _
  refine wpAny_bind ?_
  unfold Builtin.SmallTypes.ownedTupleIsFree
  refine wpAny_bind (wpAny_field hz rfl (x := .none) rfl (wpAny_pure ?_))
  simp only [if_true]
  refine wpAny_bind (wpAny_rule ?_)
  refine wpAny_bind (wpAny_field hz rfl (x := .ref TO) rfl ?_)
  refine wpAny_bind (wpAny_setField_rec hz (by simp) fun h₁ hz₁ s₁ => ?_)
  replace hz₁ : ZipAt h₁ z TI TO .ellipsis (.bool false) := hz₁
  have a1 : h₁.IsKeyIter i1 d i kvs.length ep := h1.at fun o e => s₁.extBut _ _ (Ne.symm n2) e
  have am : h₁.DictAt knd d kvs ep := hm.at' fun o e => s₁.extBut _ _ (Ne.symm n4) e
  refine wpAny_bind ?_
  simp only [List.zipIdx_cons, List.zipIdx_nil, List.forIn_cons, List.forIn_nil]
  refine wpAny_bind (wpAny_bind (wpAny_onRaise ?_))
  show wpAny _ _ (Builtin.SmallTypes.nextOf (.ref i1) >>= _) _ _ _
  refine wpAny_bind (nextOf_of (wpAny_pyNext_dict_item (s := { s with heap := h₁ }) a1 am hx fun key h₂ hkey b1 s₂ => wpAny_pure ?_))
  replace s₂ : Heap.SameBut i1 h₁ h₂ := s₂
  have hTO₂ : IsPair h₂ TO a b := s₂.extBut _ _ (Ne.symm n11) (s₁.extBut _ _ (Ne.symm n7) hTO)
  refine wpAny_bind (wpAny_seqItems hTO₂ rfl ?_)
  refine wpAny_bind (wpAny_updateSeq_pair (s := { s with heap := h₂ }) hTO₂ fun h₃ hTO₃ s₃ => ?_)
  replace hTO₃ : IsPair h₃ TO key b := hTO₃
  replace s₃ : Heap.SameBut TO h₂ h₃ := s₃
  refine wpAny_bind (wpAny_letGo (wpAny_pure ?_))
  refine wpAny_bind (wpAny_bind (wpAny_onRaise ?_))
  show wpAny _ _ (Builtin.SmallTypes.nextOf (.ref i2) >>= _) _ _ _
  have b2 : IsRangeIter h₃ i2 x left 1 := s₃.extBut _ _ n12 (s₂.extBut _ _ (Ne.symm n5) (s₁.extBut _ _ (Ne.symm n3) h2))
  refine wpAny_bind (draw_range (s := { s with heap := h₃ }) b2 hleft fun h₄ c2 s₄ => wpAny_pure ?_)
  replace s₄ : Heap.SameBut i2 h₃ h₄ := s₄
  have hTO₄ : IsPair h₄ TO key b := s₄.extBut _ _ (Ne.symm n12) hTO₃
  refine wpAny_bind (wpAny_seqItems hTO₄ rfl ?_)
  refine wpAny_bind (wpAny_updateSeq_pair (s := { s with heap := h₄, toks := s.toks + 1 }) hTO₄ fun h₅ hTO₅ s₅ => ?_)
  replace s₅ : Heap.SameBut TO h₄ h₅ := s₅
  replace hTO₅ : IsPair h₅ TO key (.int x s.toks) := hTO₅
  refine wpAny_bind (wpAny_letGo (wpAny_pure (wpAny_pure ?_)))
  refine wpAny_bind (wpAny_seqItems hTO₅ rfl ?_)
  refine wpAny_bind (wpAny_newTuple (hsz := by show 2 ≤ 2 ^ 24; decide) ?_)
  have z5 : ZipAt h₅ z TI TO .ellipsis (.bool false) := s₅.extBut _ _ n7 (s₄.extBut _ _ n3 (s₃.extBut _ _ n7 (s₂.extBut _ _ n2 hz₁)))
  have eA : Ext [z, i1, i2, TO] s.heap h₅ := (((((Ext.of_same s₁).mono fun b hb => by rw [List.mem_singleton.mp hb]; simp).app ((Ext.of_same s₂).mono fun b hb => by rw [List.mem_singleton.mp hb]; simp)).app ((Ext.of_same s₃).mono fun b hb => by rw [List.mem_singleton.mp hb]; simp)).app ((Ext.of_same s₄).mono fun b hb => by rw [List.mem_singleton.mp hb]; simp)).app ((Ext.of_same s₅).mono fun b hb => by rw [List.mem_singleton.mp hb]; simp)
  have c1 : h₅.IsKeyIter i1 d (i + 1) kvs.length ep := b1.at fun o e => s₅.extBut _ _ n11 (s₄.extBut _ _ n5 (s₃.extBut _ _ n11 e))
  have c2' : IsRangeIter h₅ i2 (x + 1) (left - 1) 1 := s₅.extBut _ _ n12 c2
  have dd := get?_size h₅
  have dU : s.heap.get? h₅.objs.size = none := by
    cases q : s.heap.get? h₅.objs.size with
    | none => rfl
    | some o =>
      by_cases q' : h₅.objs.size ∈ ([z, i1, i2, TO] : List Nat)
      · simp only [List.mem_cons, List.not_mem_nil, or_false] at q'
        rcases q' with q' | q' | q' | q'
        · rw [q', z5] at dd; cases dd
        · obtain ⟨o', h', _⟩ := c1; rw [q', h'] at dd; cases dd
        · have c2'' : h₅.get? i2 = _ := c2'
          rw [q', c2''] at dd; cases dd
        · rw [q', hTO₅] at dd; cases dd
      · exact nomatch dd.symm.trans (eA _ _ q' q)
  have pk : ∀ b o, h₅.get? b = some o → (h₅.push { cls := .type "tuple", data := .seq #[key, .int x s.toks] }).get? b = some o := fun b o e => Heap.get?_push_of_some _ e
  have nzU : h₅.objs.size ≠ z := fun q => by rw [q, z5] at dd; cases dd
  show wpAny _ _ (Builtin.SmallTypes.ownedTupleHandOut (.ref z) (.ref h₅.objs.size) >>= _) _ _ _
  refine wpAny_bind ?_
  unfold Builtin.SmallTypes.ownedTupleHandOut
  refine wpAny_bind (wpAny_setField_rec (s := { s with heap := h₅.push { cls := .type "tuple", data := .seq #[key, .int x s.toks] }, toks := s.toks + 1 }) (pk _ _ z5) (by simp) fun h₇ z7 s₇ => ?_)
  replace z7 : ZipAt h₇ z TI TO (rawInt h₅.objs.size) (.bool false) := z7
  refine wpAny_setField_rec z7 (by simp) fun h₈ z8 s₈ => ?_
  have up : ∀ c o, c ≠ z → h₅.get? c = some o → h₈.get? c = some o := fun c o c1 e => s₈.extBut _ _ c1 (s₇.extBut _ _ c1 (pk _ _ e))
  refine wpAny_pure ⟨_, rfl, wpAny_pure (h h₈ _ h₅.objs.size key s.toks ?_ dU z8 (c1.at fun o e => up _ o (Ne.symm n2) e) (up _ _ (Ne.symm n3) c2') hkey (s₈.extBut _ _ nzU (s₇.extBut _ _ nzU (Heap.get?_push_size _ rfl))))⟩
  refine fun c o n e => up c o (fun q => n (by rw [q]; simp)) (eA c o n e)
end
end Mine
end W31
section W32
open PySem PySem.W PyProof.Rows PySem.Calls PySem.Spec
set_option maxRecDepth 100000
set_option maxHeartbeats 8000000
namespace Mine
section
variable {prog : Program} {w : World} {A : Around} {E : Value → Shared → Prop} {s : Shared}
variable {K : Type} [DecidableEq K] {knd : KeyKind prog w K}
abbrev zdH1 (h : Heap) (d n ep : Nat) : Heap := h.push { cls := .type "dict_keyiterator", data := .fields #[.ref d, .int 0 0, .int n 0, .int ep 0] }
abbrev zdH2 (h : Heap) (d n ep : Nat) (a b c : Int) : Heap := (zdH1 h d n ep).push { cls := .type "range_iterator", data := .fields #[rawInt a, rawInt (Builtin.Range.rangeSize a b c), rawInt c] }
abbrev zdH3 (h : Heap) (d n ep : Nat) (a b c : Int) : Heap := (zdH2 h d n ep a b c).push { cls := .type "tuple", data := .seq #[.ref h.objs.size, .ref (zdH1 h d n ep).objs.size] }
abbrev zdH4 (h : Heap) (d n ep : Nat) (a b c : Int) : Heap := (zdH3 h d n ep a b c).push { cls := .type "tuple", data := .seq #[.none, .none] }
abbrev zdH5 (h : Heap) (d n ep : Nat) (a b c : Int) : Heap := (zdH4 h d n ep a b c).push { cls := .type "zip", data := .fields #[.none, .bool false, .bool false, .ref (zdH2 h d n ep a b c).objs.size, .ref (zdH3 h d n ep a b c).objs.size] }
theorem zip_new_dr {d r ep : Nat} {kvs : List (K × Value)} {a b c : Int} {t u v : Tok} (lo : (d == sysModules) = false) (hsm : Builtin.Range.small a b c = true) :
    MeetsIn prog w (Builtin.«zip.__new__» ⟨[.type "zip", .ref d, .ref r], []⟩) (fun _ R s => s.heap.DictAt knd d kvs ep ∧ IsRange s.heap r a b c t u v ∧
      R (.ok (.ret (.ref (zdH4 s.heap d kvs.length ep a b c).objs.size))) { s with heap := zdH5 s.heap d kvs.length ep a b c }) :=
  .of_wp fun A R s h => by
    obtain ⟨hp, g, dr, tk, os⟩ := s; obtain ⟨hd, hr, h⟩ := h
    have hsub := sub_zip
    have hD : Heap.DictAt knd (Shared.heap ⟨hp, g, dr, tk, os⟩) d kvs ep := hd
    have hR : IsRange (Shared.heap ⟨hp.push { cls := .type "dict_keyiterator", data := .fields #[.ref d, .int 0 0, .int kvs.length 0, .int ep 0] }, g, dr, tk, os⟩) r a b c t u v := Heap.get?_push_of_some _ hr
    wp_walk using wpAny_pyIter_dict lo hD, wpAny_pyIter_range hR hsm
    exact ⟨_, rfl, h⟩
end
end Mine
end W32
section W33
open PySem PySem.W PyProof.Rows PySem.Calls PySem.Spec
set_option maxRecDepth 100000
set_option maxHeartbeats 8000000
namespace Mine
theorem zip_getattr_none : typeLookup (.type "zip") "__getattr__" = pure none := by rw [typeLookup_type, builtinLookup_eq_fast]; kernel_rfl
theorem zip_keys_none : typeLookup (.type "zip") "keys" = pure none := by rw [typeLookup_type, builtinLookup_eq_fast]; kernel_rfl
theorem zip_ga_entry : entryFor table "zip.__getattribute__" = some Builtin.«object.__getattribute__» :=
  entryFor_alias (id' := "object.__getattribute__") (by kernel_rfl) (by decide +kernel) (by decide +kernel) (by kernel_rfl)
theorem zip_misses {z : Addr} {vs : Array Value} {u : Tok} :
    Meets (Builtin.«object.__getattribute__» ⟨[.ref z, .str "keys" u], []⟩) (fun A R s => s.heap.get? z = some { cls := .type "zip", dict := none, data := .fields vs, slots := #[] } ∧ raisesAttr (.ref z) "keys" A R s) :=
  Meets.of_wp fun prog w A R s hs => by
    obtain ⟨hp, g, d, tk, os⟩ := s
    obtain ⟨hx, hs⟩ := hs
    have hT : (⟨hp, g, d, tk, os⟩ : Shared).TypeIs (.ref z) "zip" := ⟨_, hx, rfl⟩
    have f0 := zip_keys_none
    unfold Builtin.«object.__getattribute__»
    repeat (any_goals (first | assumption | wp_step))
    exact wpAny_raiseAttrError hs.1 hs.2 (attrMsg_fits (by decide +kernel) (by decide))
section
variable {prog : Program} {w : World} {A : Around} {E : Value → Shared → Prop} {s : Shared}
theorem zip_no_keys {z : Nat} {vs : Array Value} {Q : Option Value → Shared → Prop} (hz : s.heap.get? z = some { cls := .type "zip", dict := none, data := .fields vs, slots := #[] }) (hA : A.handled = none)
    (h : ∀ h' tk, Ext [] s.heap h' → Q none { s with heap := h', toks := tk }) : wpAny (model prog w) A (getAttr? (.ref z) "keys") Q E s := by
  obtain ⟨hp, g, d, tk, os⟩ := s
  have hT : ∀ tk', (⟨hp, g, d, tk', os⟩ : Shared).TypeIs (.ref z) "zip" := fun _ => ⟨_, hz, rfl⟩
  have f1 := sub_AttributeError
  have f3 := PySem.F.slot_zip_getattribute.lookup
  have f4 := PySem.F.slot_zip_getattribute.bind (.ref z)
  have f5 := zip_getattr_none
  unfold getAttr? getAttrBy? getAttrBy
  repeat (any_goals (first | assumption | exact hT _ | ((with_reducible show wpAny _ _ (call (Value.builtin "zip.__getattribute__") _ _) _ _ _); refine call_meets PySem.F.slot_zip_getattribute (hT _) zip_ga_entry (PySem.F.args_zip_getattribute_2 _ _) zip_misses ⟨hz, hA, fun h' tk' e hx' => ?_⟩) | wp_step))
  obtain ⟨t', u', he⟩ := hx'.there
  show wpAny _ _ (getattributeRaised _ _ _ _ _ _ _) _ _ _
  unfold getattributeRaised
  repeat (any_goals (first | assumption | wp_step))
  exact h h' tk' (Ext.of_keep hx'.keeps [])
end
end Mine
end W33
section W34
open PySem PySem.W PyProof.Rows PySem.Calls PySem.Spec
set_option maxRecDepth 100000
set_option maxHeartbeats 8000000
namespace Mine
theorem entry_dul : entryFor table "dict.update.loop" = some Builtin.«dict.update.loop» := entryFor_of_fast (by kernel_rfl)
theorem plain_dul : plainId "dict.update.loop" = true := by decide +kernel
section
variable {prog : Program} {w : World} {A : Around} {E : Value → Shared → Prop} {s : Shared}
def ZS (prog : Program) (w : World) (kvs : List (Int × Value)) (z TI TO i1 i2 d ep : Nat) (j : Nat) (h : Heap) : Prop :=
  (if j = 0 then ZipAt h z TI TO .none (.bool false) ∧ ∃ a b, Tup h TO #[a, b] else ∃ (T : Nat) (oT : Obj) (f1 : Bool), ZipAt h z TI TO (rawInt T) (.bool f1) ∧ h.get? T = some oT ∧ oT.cls = .type "tuple") ∧
  Tup h TI #[.ref i1, .ref i2] ∧ h.IsKeyIter i1 d j kvs.length ep ∧ h.DictAt (intKind prog w) d kvs ep ∧ IsRangeIter h i2 j ((kvs.length : Int) - j) 1
def MapTo (kvs : List (Int × Value)) (mk : List (Int × Value)) (j : Nat) : Prop := mk.map (·.1) = (kvs.map (·.1)).take j ∧ ∀ (i : Nat) k v, mk[i]? = some (k, v) → ∃ t, v = .int i t
theorem ZS.upd {kvs : List (Int × Value)} {z TI TO i1 i2 d ep j M : Nat} {h h' : Heap} (x : ZS prog w kvs z TI TO i1 i2 d ep j h) (e : Ext [M] h h') (hM : ∀ o, h.get? M = some o → o.cls = .type "dict") (nd : d ≠ M) : ZS prog w kvs z TI TO i1 i2 d ep j h' := by
  have k : ∀ b o, h.get? b = some o → o.cls ≠ .type "dict" → h'.get? b = some o := fun b o q n => e b o (fun m => n (hM o (List.mem_singleton.mp m ▸ q))) q
  obtain ⟨x0, x1, x2, x3, x4⟩ := x
  refine ⟨?_, k _ _ x1 (by simp), x2.at fun o q => ?_, x3.at' fun o q => e _ _ (fun m => nd (List.mem_singleton.mp m)) q, k _ _ x4 (by simp)⟩
  · split
    · rename_i hj
      rw [if_pos hj] at x0
      obtain ⟨a, p, q, b⟩ := x0
      exact ⟨k _ _ a (by simp), p, q, k _ _ b (by simp)⟩
    · rename_i hj
      rw [if_neg hj] at x0
      obtain ⟨T, oT, f1, a, b, c⟩ := x0
      exact ⟨T, oT, f1, k _ _ a (by simp), k _ _ b (by rw [c]; simp), c⟩
  · obtain ⟨o', h1, h2, _⟩ := x2
    rw [h1] at q; cases q
    exact k _ _ h1 (by rw [h2]; simp)
theorem loop_dz {kvs : List (Int × Value)} {z TI TO i1 i2 d ep M : Nat} (hh : A.handled = none) (hz : kvs.length ≤ 1000) (hnd : (kvs.map (·.1)).Nodup) (hMd : d ≠ M) {R : Result → Shared → Prop}
    (ne : z ≠ TI ∧ z ≠ i1 ∧ z ≠ i2 ∧ z ≠ d ∧ i1 ≠ i2 ∧ i1 ≠ d ∧ z ≠ TO ∧ i1 ≠ TI ∧ i2 ≠ TI ∧ i2 ≠ d ∧ i1 ≠ TO ∧ i2 ≠ TO ∧ d ≠ TO ∧ TI ≠ TO) (neM : M ≠ z ∧ M ≠ TI ∧ M ≠ TO ∧ M ≠ i1 ∧ M ≠ i2) :
    ∀ (q j : Nat) (s : Shared) (mk : List (Int × Value)) (jt : Tok), kvs.length - j = q → j ≤ kvs.length → 0 < kvs.length → ZS prog w kvs z TI TO i1 i2 d ep j s.heap → s.heap.DictOf (intKind prog w) M mk → MapTo kvs mk j →
      (∀ h' tk mk', Ext [M, z, i1, i2, TO] s.heap h' → h'.DictOf (intKind prog w) M mk' → MapTo kvs mk' kvs.length → R (.ok (.ret .none)) { s with heap := h', toks := tk }) →
      codeAny (model prog w) A (.builtin "dict.update.loop" ⟨[.ref M, .ref z, .int j jt, .none], []⟩) R s := by
  intro q
  induction q with
  | zero =>
    intro j s mk jt hq hj h0 st hM hmk hR
    obtain rfl : j = kvs.length := by omega
    obtain ⟨x0, x1, x2, x3, x4⟩ := st
    rw [if_neg (by omega)] at x0
    obtain ⟨T, oT, f1, a, b, c⟩ := x0
    refine codeAny_builtin entry_dul ?_
    rw [Around.under_plainId plain_dul _]
    show wpAny _ A.in1 (pyNext (.ref z) >>= _) _ _ _
    refine wpAny_bind (zip_end (A := A.in1) hh a x1 b x2 x3 (List.getElem?_eq_none (Nat.le_refl _)) ⟨ne.2.1, ne.2.2.2.1⟩ fun h' e => ?_)
    show wpAny _ A.in1 (Builtin.Dict.addKeywords M [] >>= _) _ _ _
    refine wpAny_bind (wpAny_pure (wpAny_pure (hR h' _ mk (e.mono fun b hb => ?_) (DictOf.ext hM e fun m => ?_) hmk)))
    · simp only [List.mem_cons, List.not_mem_nil, or_false] at hb ⊢
      rcases hb with rfl | rfl <;> simp
    · simp only [List.mem_cons, List.not_mem_nil, or_false] at m
      exact m.elim neM.1 neM.2.2.2.1
  | succ q ih =>
    intro j s mk jt hq hj h0 st hM hmk hR
    have hlt : j < kvs.length := by omega
    have hx : kvs[j]? = some (kvs[j].1, kvs[j].2) := List.getElem?_eq_getElem hlt
    have st0 := st
    obtain ⟨x0, x1, x2, x3, x4⟩ := st
    refine codeAny_builtin entry_dul ?_
    rw [Around.under_plainId plain_dul _]
    show wpAny _ A.in1 (pyNext (.ref z) >>= _) _ _ _
    have step : ∀ h' tk U key t, Ext [z, i1, i2, TO] s.heap h' → s.heap.get? U = none → (∃ (T : Nat) (oT : Obj) (f1 : Bool), ZipAt h' z TI TO (rawInt T) (.bool f1) ∧ h'.get? T = some oT ∧ oT.cls = .type "tuple") → h'.IsKeyIter i1 d (j + 1) kvs.length ep → IsRangeIter h' i2 ((j : Int) + 1) ((kvs.length : Int) - j - 1) 1 → (intKind prog w).is kvs[j].1 key = true → Tup h' U #[key, .int j t] →
        wpAny (model prog w) A.in1 (do
          holding [Value.ref U] do
            let pair ← (Builtin.Dict.pairItems (.ref U)).tryCatch fun e => do
              if !(← isInstance e (.type "TypeError")) then throw e
              rule "dict.update.element-no-sequence"
              raiseError "TypeError" s!"cannot convert dictionary update sequence element #{(j : Int)} to a sequence"
            match pair with
            | [k, v] => holding [k, v] (dictSet M k v)
            | l =>
              rule "dict.update.element-length"
              raiseError "ValueError" s!"dictionary update sequence element #{(j : Int)} has length {l.length}; 2 is required"
          again (.builtin "dict.update.loop" ⟨[.ref M, .ref z, rawInt ((j : Int) + 1), .none], []⟩)) (fun fin s' => match fin with
            | .done f => R (.ok f) s'
            | .again c' => c'.quiet = true ∧ codeAny (model prog w) A c' R s') (fun e s' => R (.error e) s') { s with heap := h', toks := tk } := by
      intro h' tk U key t e dU zz k1 k2 hkey hU
      have hTU : ({ s with heap := h', toks := tk } : Shared).TypeIs (.ref U) "tuple" := ⟨_, hU, rfl⟩
      have nM : M ∉ ([z, i1, i2, TO] : List Nat) := by
        simp only [List.mem_cons, List.not_mem_nil, or_false, not_or]
        exact ⟨neM.1, neM.2.2.2.1, neM.2.2.2.2, neM.2.2.1⟩
      have hM' := DictOf.ext hM e nM
      have hml : mk.length = j := by
        have := congrArg List.length hmk.1
        simpa [Nat.min_eq_left hj] using this
      have hnew : kvs[j].1 ∉ mk.map (·.1) := by
        rw [hmk.1]
        intro hm
        obtain ⟨p, hp, hp'⟩ := List.mem_iff_getElem.mp hm
        rw [List.length_take, List.length_map] at hp
        rw [List.getElem_take, List.getElem_map] at hp'
        exact List.pairwise_iff_getElem.mp hnd p j (by simp; omega) (by simpa using hlt) (by omega) (by simpa using hp')
      refine wpAny_bind (wpAny_holding (wpAny_bind (wpAny_tryCatch ?_)))
      unfold Builtin.Dict.pairItems
      have Lt : Looks (model prog w) h' (typeOf (.ref U)) (.type "tuple") := (Looks.ld hU).andThen .now
      refine wpAny_bind (Lt.here ?_)
      refine ite_yes rfl (wpAny_bind (wpAny_seqItems (s := { s with heap := h', toks := tk }) hU rfl (wpAny_pure ?_)))
      show wpAny _ A.in1 (holding [key, .int j t] (dictSet M key (.int j t))) _ _ _
      refine wpAny_holding (wpAny_dictSet_pairs (s := { s with heap := h', toks := tk }) hkey hM' (fun h'' hM'' s'' => ?_) (by show mk.length ≤ 2 ^ 24; omega))
      replace s'' : Heap.SameBut M h' h'' := s''
      have e'' : Ext [M] h' h'' := Ext.of_same s''
      rw [stored_new hnew] at hM''
      refine wpAny_pure ⟨plainId_quiet plain_dul _, ?_⟩
      have hst : ZS prog w kvs z TI TO i1 i2 d ep (j + 1) h' := by
        refine ⟨?_, e _ _ (by simp [Ne.symm ne.1, Ne.symm ne.2.2.2.2.2.2.2.1, Ne.symm ne.2.2.2.2.2.2.2.2.1, ne.2.2.2.2.2.2.2.2.2.2.2.2.2]) x1, k1, x3.at' fun o q => e _ _ (by simp [Ne.symm ne.2.2.2.1, Ne.symm ne.2.2.2.2.2.1, Ne.symm ne.2.2.2.2.2.2.2.2.2.1, ne.2.2.2.2.2.2.2.2.2.2.2.2.1]) q, ?_⟩
        · rw [if_neg (Nat.succ_ne_zero _)]
          exact zz
        · have : (kvs.length : Int) - j - 1 = (kvs.length : Int) - (j + 1 : Nat) := by omega
          rw [this] at k2
          exact k2
      have := ih (j + 1) { s with heap := h'', toks := tk + 1 } (mk ++ [(kvs[j].1, .int j t)]) 0 (by omega) hlt h0 (hst.upd e'' (fun o q => by obtain ⟨o', es, ep', h1, hx, _⟩ := hM'; rw [h1] at q; cases q; exact hx.1) hMd) hM'' ⟨?_, ?_⟩ ?_
      · exact this
      · rw [List.map_append, hmk.1, List.take_add_one, List.getElem?_map, hx]; rfl
      · intro i k v hi
        rw [List.getElem?_append] at hi
        split at hi
        · exact hmk.2 i k v hi
        · rename_i hge
          have : i = j := by
            have := (List.getElem?_eq_some_iff.mp hi).1
            simp at this; omega
          subst this
          rw [hml, Nat.sub_self] at hi
          simp at hi
          exact ⟨t, hi.2.symm⟩
      · intro h₃ tk₃ mk' e₃ hm₃ hk₃
        refine hR h₃ tk₃ mk' ?_ hm₃ hk₃
        exact ((e.mono fun b hb => .tail _ hb).app (e''.mono fun b hb => by rw [List.mem_singleton.mp hb]; simp)).app e₃
    by_cases hj0 : j = 0
    · rw [if_pos hj0] at x0
      obtain ⟨a, p, q', b⟩ := x0
      refine wpAny_bind (zip_first (A := A.in1) a x1 b x2 x3 hx x4 (by omega) ne fun h' tk U key t e dU zU k1 k2 hkey hU => ?_)
      exact step h' tk U key t e dU ⟨U, _, false, zU, hU, rfl⟩ k1 k2 hkey hU
    · rw [if_neg hj0] at x0
      obtain ⟨T, oT, f1, a, b, c⟩ := x0
      refine wpAny_bind (zip_later (A := A.in1) a x1 b x2 x3 hx x4 (by omega) ⟨ne.1, ne.2.1, ne.2.2.1, ne.2.2.2.1, ne.2.2.2.2.1, ne.2.2.2.2.2.1, fun q' => by rw [← q', a] at b; cases b; simp at c, ne.2.2.2.2.2.2.2.1, ne.2.2.2.2.2.2.2.2.1, ne.2.2.2.2.2.2.2.2.2.1⟩ fun h' tk U key t e dU zU k1 k2 hkey hU => ?_)
      have hT' : h'.get? T = some oT := e _ _ (by
        simp only [List.mem_cons, List.not_mem_nil, or_false, not_or]
        refine ⟨fun q' => by rw [q', a] at b; cases b; simp at c, fun q' => ?_, fun q' => ?_⟩
        · obtain ⟨o', h1, h2, _⟩ := x2
          rw [q', h1] at b; cases b
          rw [h2] at c; simp at c
        · have x4' : s.heap.get? i2 = _ := x4
          rw [q', x4'] at b; cases b; simp at c) b
      exact step h' tk U key t (e.mono fun b hb => by simp only [List.mem_cons, List.not_mem_nil, or_false] at hb ⊢; rcases hb with rfl | rfl | rfl <;> simp) dU ⟨T, oT, true, zU, hT', c⟩ k1 k2 hkey hU
end
end Mine
end W34
section W35
open PySem PySem.W PyProof.Rows PySem.Calls PySem.Spec
set_option maxRecDepth 100000
set_option maxHeartbeats 8000000
namespace Mine
section
variable {prog : Program} {w : World} {A : Around} {E : Value → Shared → Prop} {s : Shared}
theorem New.pos' {h : Heap} (b : 709 ≤ h.objs.size) : New h h.objs.size := ⟨get?_size _, b⟩
theorem zd_ne (N d : Nat) (h : d < N) : N + 4 ≠ N + 2 ∧ N + 4 ≠ N ∧ N + 4 ≠ N + 1 ∧ N + 4 ≠ d ∧ N ≠ N + 1 ∧ N ≠ d ∧ N + 4 ≠ N + 3 ∧ N ≠ N + 2 ∧ N + 1 ≠ N + 2 ∧ N + 1 ≠ d ∧ N ≠ N + 3 ∧ N + 1 ≠ N + 3 ∧ d ≠ N + 3 ∧ N + 2 ≠ N + 3 := by omega
theorem call_zip_dr {d r ep : Nat} {kvs : List (Int × Value)} {n : Nat} {t u v : Tok} {Q : Value → Shared → Prop} (lo : (d == sysModules) = false) (hsm : Builtin.Range.small 0 n 1 = true) (hsz : Builtin.Range.rangeSize 0 n 1 = n) (hd : s.heap.DictAt (intKind prog w) d kvs ep) (hr : IsRange s.heap r 0 n 1 t u v) (hn : kvs.length = n)
    (h : ∀ h' z TI TO i1 i2, Ext [] s.heap h' → s.heap.get? z = none → ZS prog w kvs z TI TO i1 i2 d ep 0 h' →
      (z ≠ TI ∧ z ≠ i1 ∧ z ≠ i2 ∧ z ≠ d ∧ i1 ≠ i2 ∧ i1 ≠ d ∧ z ≠ TO ∧ i1 ≠ TI ∧ i2 ≠ TI ∧ i2 ≠ d ∧ i1 ≠ TO ∧ i2 ≠ TO ∧ d ≠ TO ∧ TI ≠ TO) → s.heap.get? TI = none → s.heap.get? TO = none → s.heap.get? i1 = none → s.heap.get? i2 = none → Q (.ref z) { s with heap := h' }) :
    wpAny (model prog w) A (call (.type "zip") [.ref d, .ref r]) Q E s := by
  refine callType_newIn PySem.F.called_zip (by decide) (PySem.F.typeCall_zip_2 _ _) (PySem.F.newCall_zip_2 _ _) (fun obj => PySem.F.args_object_init_3 obj _ _) PySem.F.entry_zip_new (zip_new_dr lo hsm) ⟨hd, hr, ?_⟩
  have z1 : (zdH1 s.heap d kvs.length ep).objs.size = s.heap.objs.size + 1 := Heap.size_push ..
  have z2 : (zdH2 s.heap d kvs.length ep 0 n 1).objs.size = s.heap.objs.size + 2 := by rw [Heap.size_push, z1]
  have z3 : (zdH3 s.heap d kvs.length ep 0 n 1).objs.size = s.heap.objs.size + 3 := by rw [Heap.size_push, z2]
  have z4 : (zdH4 s.heap d kvs.length ep 0 n 1).objs.size = s.heap.objs.size + 4 := by rw [Heap.size_push, z3]
  have g5 : (zdH5 s.heap d kvs.length ep 0 n 1).get? (zdH4 s.heap d kvs.length ep 0 n 1).objs.size = some _ := Heap.get?_push_size _ rfl
  have g4 : (zdH5 s.heap d kvs.length ep 0 n 1).get? (zdH3 s.heap d kvs.length ep 0 n 1).objs.size = some _ := Heap.get?_push_of_some _ (Heap.get?_push_size _ rfl)
  have g3 : (zdH5 s.heap d kvs.length ep 0 n 1).get? (zdH2 s.heap d kvs.length ep 0 n 1).objs.size = some _ := Heap.get?_push_of_some _ (Heap.get?_push_of_some _ (Heap.get?_push_size _ rfl))
  have g2 : (zdH5 s.heap d kvs.length ep 0 n 1).get? (zdH1 s.heap d kvs.length ep).objs.size = some _ := Heap.get?_push_of_some _ (Heap.get?_push_of_some _ (Heap.get?_push_of_some _ (Heap.get?_push_size _ rfl)))
  have g1 : (zdH5 s.heap d kvs.length ep 0 n 1).get? s.heap.objs.size = some _ := Heap.get?_push_of_some _ (Heap.get?_push_of_some _ (Heap.get?_push_of_some _ (Heap.get?_push_of_some _ (Heap.get?_push_size _ rfl))))
  have pk : Ext [] s.heap (zdH5 s.heap d kvs.length ep 0 n 1) := fun c o _ x => Heap.get?_push_of_some _ (Heap.get?_push_of_some _ (Heap.get?_push_of_some _ (Heap.get?_push_of_some _ (Heap.get?_push_of_some _ x))))
  have dead : ∀ k, s.heap.get? (s.heap.objs.size + k) = none := fun k => Heap.get?_none_of_le (Nat.le_add_right _ _)
  have dlt : d < s.heap.objs.size := hd.lt_size
  show _ ∧ _
  rw [z2, z3, z4] at g5
  rw [z1, z2] at g3
  rw [z3] at g4
  rw [z1, hsz] at g2
  rw [z4]
  have hz0 := g5
  refine ⟨⟨_, g5, rfl⟩, h _ (s.heap.objs.size + 4) (s.heap.objs.size + 2) (s.heap.objs.size + 3) s.heap.objs.size (s.heap.objs.size + 1) pk (dead 4) ⟨?_, g3, ⟨_, g1, rfl, rfl⟩, hd.at' fun o e => pk.keep _ _ e, ?_⟩ ?_ (dead 2) (dead 3) (dead 0) (dead 1)⟩
  · rw [if_pos rfl]; exact ⟨g5, _, _, g4⟩
  · show _ = _
    rw [g2, hn]
    simp
  · exact zd_ne _ _ dlt
theorem call_dict_zip {z TI TO i1 i2 d ep : Nat} {kvs : List (Int × Value)} {Q : Value → Shared → Prop} (hh : A.handled = none) (hz : kvs.length ≤ 1000) (h0 : 0 < kvs.length) (hnd : (kvs.map (·.1)).Nodup) (hdl : ∃ o, s.heap.get? d = some o)
    (ne : z ≠ TI ∧ z ≠ i1 ∧ z ≠ i2 ∧ z ≠ d ∧ i1 ≠ i2 ∧ i1 ≠ d ∧ z ≠ TO ∧ i1 ≠ TI ∧ i2 ≠ TI ∧ i2 ≠ d ∧ i1 ≠ TO ∧ i2 ≠ TO ∧ d ≠ TO ∧ TI ≠ TO)
    (st : ZS prog w kvs z TI TO i1 i2 d ep 0 s.heap) (Zb : 709 ≤ s.heap.objs.size)
    (h : ∀ h' tk M mk, Ext [z, i1, i2, TO] s.heap h' → New s.heap M → h'.DictOf (intKind prog w) M mk → MapTo kvs mk kvs.length → Q (.ref M) { s with heap := h', toks := tk }) :
    wpAny (model prog w) A (call (.type "dict") [.ref z]) Q E s := by
  refine callType_codes (Q₁ := fun obj s₁ => obj = .ref s.heap.objs.size ∧ s₁ = { s with heap := s.heap.push { cls := .type "dict", data := .dict #[] } }) PySem.F.kt_called_dict (PySem.F.kt_typeCall_dict_1 _) PySem.F.entry_dict_init (kt_code_dict_new _ ⟨rfl, rfl⟩) ?_
  rintro obj s₁ ⟨rfl, rfl⟩
  have hM := New.pos' Zb
  generalize hh₁ : s.heap.push _ = h₁
  have e₁ : Ext [] s.heap h₁ := hh₁ ▸ Ext.push _ _
  have hM₁ : h₁.DictOf (intKind prog w) s.heap.objs.size [] := dictOf_empty (hh₁ ▸ Heap.get?_push_size _ rfl)
  generalize s.heap.objs.size = M at hM hM₁ ⊢
  have live : ∀ b, (∃ o, s.heap.get? b = some o) → M ≠ b := fun b ⟨o, ho⟩ => hM.ne ho
  obtain ⟨x0, x1, x2, x3, x4⟩ := id st
  rw [if_pos rfl] at x0
  obtain ⟨xz, _, _, xo⟩ := x0
  have st₁ : ZS prog w kvs z TI TO i1 i2 d ep 0 h₁ := by
    refine ⟨?_, e₁.keep _ _ x1, x2.at fun o e => e₁.keep _ _ e, x3.at' fun o e => e₁.keep _ _ e, e₁.keep _ _ x4⟩
    rw [if_pos rfl]; exact ⟨e₁.keep _ _ xz, _, _, e₁.keep _ _ xo⟩
  refine ⟨hM₁.typeIs, PySem.F.args_dict_init_2 _ _, ?_⟩
  unfold Builtin.«dict.__init__»
  refine wpAny_bind ?_
  unfold Builtin.Dict.selfAndRest
  refine wpAny_bind (wpAny_notOrdered_dict hM₁.typeIs ?_)
  show wpAny _ _ (pure (M, [Value.ref z])) _ _ _
  refine wpAny_pure ?_
  show wpAny _ _ (Builtin.Dict.updateFrom "dict.__init__" M (.ref z) [] .none) _ _ _
  unfold Builtin.Dict.updateFrom
  have Lz : Looks (model prog w) h₁ (typeOf (.ref z)) (.type "zip") := (Looks.ld (e₁.keep _ _ xz)).andThen .now
  refine wpAny_bind (Lz.here ?_)
  rw [if_pos (by decide)]
  refine wpAny_bind (zip_no_keys (s := { s with heap := h₁ }) (e₁.keep _ _ xz) hh fun h₂ tk₂ e₂ => ?_)
  replace e₂ : Ext [] h₁ h₂ := e₂
  have st₂ : ZS prog w kvs z TI TO i1 i2 d ep 0 h₂ := by
    obtain ⟨y0, y1, y2, y3, y4⟩ := st₁
    rw [if_pos rfl] at y0
    obtain ⟨ya, p, q, yb⟩ := y0
    refine ⟨?_, e₂.keep _ _ y1, y2.at fun o e => e₂.keep _ _ e, y3.at' fun o e => e₂.keep _ _ e, e₂.keep _ _ y4⟩
    rw [if_pos rfl]; exact ⟨e₂.keep _ _ ya, p, q, e₂.keep _ _ yb⟩
  refine ite_yes rfl (wpAny_bind (wpAny_rule ?_))
  have xz₂ : ZipAt h₂ z TI TO .none (.bool false) := e₂.keep _ _ (e₁.keep _ _ xz)
  refine wpAny_bind (wpAny_pyIter_zip (s := { s with heap := h₂, toks := tk₂ }) xz₂ ?_)
  refine wpAny_pure ⟨plainId_quiet plain_dul _, ?_⟩
  obtain ⟨o1, ho1, _⟩ := id x2
  refine loop_dz (A := A.in1) hh hz hnd (Ne.symm (live _ hdl)) ne ⟨live _ ⟨_, xz⟩, live _ ⟨_, x1⟩, live _ ⟨_, xo⟩, live _ ⟨_, ho1⟩, live _ ⟨_, x4⟩⟩ kvs.length 0 { s with heap := h₂, toks := tk₂ } [] 0 rfl (Nat.zero_le _) h0 st₂ (DictOf.ext hM₁ e₂ (fun h => nomatch h)) ⟨by simp, fun i k v q => by simp at q⟩ fun h' tk mk' e' hm' hk' => ⟨rfl, h h' tk M mk' ?_ hM hm' hk'⟩
  refine (Ext.of_keep (e₁.app e₂).keep _).app' e' fun b hb => ?_
  rcases List.mem_cons.mp hb with rfl | hb
  · exact .inr hM.1
  · exact .inl hb
end
end Mine
end W35
section W36
open PySem PySem.W PyProof.Rows PySem.Calls PySem.Spec
set_option maxRecDepth 100000
set_option maxHeartbeats 8000000
namespace Mine
section
variable {prog : Program} {w : World} {A : Around} {E : Value → Shared → Prop} {s : Shared} {G : Gr}
theorem dead_ne {h : Heap} {a b : Nat} {o : Obj} (d : h.get? a = none) (e : h.get? b = some o) : a ≠ b := fun q => by rw [q, e] at d; cases d
theorem nodes_item {G : Gr} {i : Nat} {k : Int} {x : Value} (e : G.nodes[i]? = some (k, x)) : ∃ r, G.rows[i]? = some r ∧ k = r.n ∧ x = .ref r.at_ := by
  simp only [Gr.nodes, List.getElem?_map] at e
  cases q : G.rows[i]? with
  | none => rw [q] at e; cases e
  | some r => rw [q] at e; cases e; exact ⟨r, rfl, rfl, rfl⟩
theorem MapTo.at {kvs mk : List (Int × Value)} (x : MapTo kvs mk kvs.length) (hn : (kvs.map (·.1)).Nodup) {i : Nat} {k : Int} {v : Value} (e : kvs[i]? = some (k, v)) : ∃ t, valueAt mk k = some (.int i t) := by
  have hfst : mk.map (·.1) = kvs.map (·.1) := by
    have := x.1
    rwa [show kvs.length = (kvs.map (·.1)).length by simp, List.take_length] at this
  have h1 : (mk.map (·.1))[i]? = some k := by rw [hfst, List.getElem?_map, e]; rfl
  rw [List.getElem?_map] at h1
  cases q : mk[i]? with
  | none => rw [q] at h1; cases h1
  | some p =>
    obtain ⟨k', v'⟩ := p
    rw [q] at h1
    obtain rfl : k' = k := by simpa using h1
    obtain ⟨t, rfl⟩ := x.2 i k' v' q
    exact ⟨t, valueAt_mem (hfst ▸ hn) (List.mem_of_getElem? q)⟩
theorem src_gen {a k C N : Nat} {own dep : List Nat} {P : Nat → Value → Heap → Prop} {h : Heap} {g : Array GenState}
    (hI : ∀ A' : Around, A'.handled = none → A'.depth < recursionLimit → ∀ x p, Itr prog w A' (.ref a) (C :: own) (a :: cStatics :: C :: dep) [k] (.Name x p) N P (genSt prog w A' a k C own dep N P) ∧ genSt prog w A' a k C own dep N P 0 h g)
    (hl : ∀ b ∈ a :: cStatics :: C :: dep, ∃ o, h.get? b = some o) : Src prog w (.ref a) (C :: own) (a :: cStatics :: C :: dep) [k] N P h g := by
  intro A E Q s hh hd ag agg hQ
  have st := (hI A hh hd "x" default).2
  have W := (hI A hh hd "x" default).1
  have st' := W.frame 0 h g s.heap s.gens st ag agg
  refine W.self E Q s 0 st' (hQ (.ref a) (C :: own) (a :: cStatics :: C :: dep) s.heap s.toks _ (fun x p => (hI A hh hd x p).1) st' (fun _ _ _ e => e) (fun b hb => .inl hb) (fun b hb => hb) (fun b hb => .inl hb) fun b hb => ?_)
  obtain ⟨o, ho⟩ := hl b hb
  exact ⟨o, ag b hb o ho⟩
theorem GraphAt.noTup {h : Heap} (I : GraphAt prog w h G) (hv : G.vs = []) {a : Nat} (ha : a ∈ G.all) : ∃ o, h.get? a = some o ∧ o.cls ≠ .type "tuple" := by
  have ds : ∀ {K : Type} [DecidableEq K] {knd : KeyKind prog w K} {a : Nat} {kvs : List (K × Value)}, h.DictOf knd a kvs → ∃ o, h.get? a = some o ∧ o.cls ≠ .type "tuple" := fun x => by
    obtain ⟨o, es, ep, ho, hx, _⟩ := x
    exact ⟨o, ho, by rw [hx.1]; simp⟩
  rcases List.mem_append.mp ha with q | q
  · rcases Gr.muts_iff.mp q with rfl | rfl | rfl | ⟨r, hr, rfl⟩
    · obtain ⟨o, es, ep, ho, hx, _⟩ := I.dict
      exact ⟨o, ho, by rw [hx.1]; simp⟩
    · exact ds I.node
    · exact ds I.adj
    · exact ds (I.nbr r hr)
  · rcases Gr.fixed_iff.mp q with rfl | rfl | q | ⟨r, hr, rfl | ⟨e, he, rfl⟩⟩
    · exact ⟨_, I.inst, by simp⟩
    · exact ds I.graph
    · rw [hv] at q; cases q
    · exact ds (I.attr r hr)
    · exact ds (I.dd r hr e he)
theorem add_nodes_tup {env : Env} {outer : List Env} {L : Nat} {m : Str → Option Value} (hfr : A.frames = some outer) (hf : env.frame = some L) (hk : env.scope.kind ≠ .module) (hun : A.units + 20 < cLine) (ns : s.heap.Ns L m) (hff : s.heap.FunFrames {} outer)
    {E : Value → Shared → Prop} {Q : Value → Shared → Prop} (Z : Gl w s.heap) (I : GraphAt prog w s.heap G) (J : Gi G) (hroom : A.depth + 2 < recursionLimit) (hh : A.handled = none) {xv : Value} {own dep Gs : List Nat} {N : Nat} {k : Nat → Int} (X : Src prog w xv own dep Gs N (NodeIs prog w true k) s.heap s.gens)
    (hlive : ∀ b ∈ dep, ∃ o, s.heap.get? b = some o) (hoff : ∀ b ∈ dep, b ∉ G.all) (hod : ∀ b ∈ own, b ∈ dep) (hown : ∀ b ∈ own, 709 ≤ b) (hlen : G.rows.length + N ≤ 100)
    (hSd : ∀ b ∈ L :: frs outer, b ∉ dep ∧ b ∉ G.all ∧ 709 ≤ b) (hknew : ∀ i, i < N → k i ∉ G.ids) (hkinj : ∀ i j, i < N → j < N → k i = k j → i = j)
    (h : ∀ h' g' tk G', Ext (own ++ G.all ++ (L :: frs outer)) s.heap h' → Slots (L :: frs outer) s.heap h' → GM Gs s.gens g' → NAdded prog w G k s.heap N h' G' → Q .none { s with heap := h', gens := g', toks := tk }) :
    wpAny (model prog w) (A.deeper env) (call (.ref 433) [.ref G.g, xv]) Q E s := by
  obtain ⟨oL, es, ep, hoL, hdL, _⟩ := ns
  refine sp_add_nodes_from (A := A.deeper env) true (env :: outer) (L :: frs outer) (by simp [frs, hf]) (fun _ => ⟨?_, ⟨hk, ⟨L, oL, hf, rfl, hoL, fun vs q => by rw [hdL] at q; cases q⟩, hff⟩, ?_⟩) Z I J (by show A.depth + 1 + 1 < _; omega) hh X hlive hoff hod hown hlen hSd hknew hkinj h
  · show A.frames.map _ = _
    rw [hfr]; rfl
  · show A.units + 3 + 10 < cLine
    omega
end
end Mine
end W36
section PL1
open PySem PySem.W PyProof.Rows PySem.Calls PySem.Spec
set_option maxRecDepth 100000
set_option maxHeartbeats 8000000
namespace Mine
theorem eRow_mem {seen : List Int} {n : Int} {xs : List (Int × Nat)} {p : Int × Int} : p ∈ eRow seen n xs ↔ p.1 = n ∧ p.2 ∉ seen ∧ ∃ e ∈ xs, e.1 = p.2 := by
  unfold eRow
  simp only [List.mem_map, List.mem_filter, decide_eq_true_eq]
  constructor
  · rintro ⟨e, ⟨he, hn⟩, rfl⟩
    exact ⟨rfl, hn, e, he, rfl⟩
  · rintro ⟨h1, h2, e, he, h3⟩
    exact ⟨e, ⟨he, h3 ▸ h2⟩, by rw [h3, ← h1]⟩
theorem eFrom_mem : ∀ {rs : List Row} {seen : List Int} {p : Int × Int}, p ∈ eFrom seen rs ↔ ∃ (i : Nat) (r : Row), rs[i]? = some r ∧ r.n = p.1 ∧ p.2 ∉ seen ++ (rs.take i).map (·.n) ∧ ∃ e ∈ r.es, e.1 = p.2
  | [], seen, p => by simp [eFrom]
  | r :: rs, seen, p => by
    simp only [eFrom, List.mem_append, eRow_mem, eFrom_mem (rs := rs)]
    constructor
    · rintro (⟨h1, h2, h3⟩ | ⟨i, r', h1, h2, h3, h4⟩)
      · exact ⟨0, r, rfl, h1.symm, by simpa using h2, h3⟩
      · refine ⟨i + 1, r', by simpa using h1, h2, ?_, h4⟩
        simpa [List.take_succ_cons, or_assoc] using h3
    · rintro ⟨i, r', h1, h2, h3, h4⟩
      cases i with
      | zero =>
        simp at h1; subst h1
        exact .inl ⟨h2.symm, by simpa using h3, h4⟩
      | succ i =>
        refine .inr ⟨i, r', by simpa using h1, h2, ?_, h4⟩
        simpa [List.take_succ_cons, or_assoc] using h3
theorem edges_sound {G : Gr} {p : Int × Int} (h : p ∈ G.edges) : G.has p.1 p.2 := by
  obtain ⟨i, r, h1, h2, _, h4⟩ := eFrom_mem.mp h
  exact ⟨r, List.mem_of_getElem? h1, h2, h4⟩
theorem edges_has {G : Gr} (hn : G.ids.Nodup) (J : Gi G) (hsym : ∀ a b, G.has a b → G.has b a) {x y : Int} : G.has x y ↔ (x, y) ∈ G.edges ∨ (y, x) ∈ G.edges := by
  constructor
  · rintro ⟨r, hr, rfl, e, he, rfl⟩
    obtain ⟨i, hi, hri⟩ := List.mem_iff_getElem.mp hr
    by_cases q : e.1 ∈ (G.rows.take i).map (·.n)
    · right
      obtain ⟨r2, hr2, e2⟩ := List.mem_map.mp q
      obtain ⟨j, hj, hrj⟩ := List.mem_iff_getElem.mp hr2
      rw [List.length_take] at hj
      rw [List.getElem_take] at hrj
      obtain ⟨r3, hr3, n3, e3, he3, q3⟩ := hsym r.n e.1 ⟨r, hr, rfl, e, he, rfl⟩
      have : r3 = r2 := nodup_inj hn hr3 (List.mem_of_mem_take hr2) (by show r3.n = r2.n; rw [n3, e2])
      subst this
      refine eFrom_mem.mpr ⟨j, r3, by rw [List.getElem?_eq_getElem (by omega), hrj], n3, ?_, e3, he3, q3⟩
      rw [List.nil_append]
      intro qq
      obtain ⟨r4, hr4, n4⟩ := List.mem_map.mp qq
      have : r4 = r := nodup_inj hn (List.mem_of_mem_take hr4) hr n4
      subst this
      obtain ⟨k, hk, hrk⟩ := List.mem_iff_getElem.mp hr4
      rw [List.length_take] at hk
      rw [List.getElem_take] at hrk
      have hki : k = i := by
        have hp := List.pairwise_iff_getElem.mp hn
        rcases Nat.lt_trichotomy k i with h | h | h
        · exact absurd (by simp [Gr.ids, hrk, hri]) (hp k i (by simp [Gr.ids]; omega) (by simpa [Gr.ids] using hi) h)
        · exact h
        · exact absurd (by simp [Gr.ids, hrk, hri]) (hp i k (by simpa [Gr.ids] using hi) (by simp [Gr.ids]; omega) h)
      omega
    · left
      exact eFrom_mem.mpr ⟨i, r, by rw [List.getElem?_eq_getElem hi, hri], rfl, by rw [List.nil_append]; exact q, e, he, rfl⟩
  · rintro (h | h)
    · exact edges_sound h
    · exact hsym _ _ (edges_sound h)
end Mine
end PL1
section W37
open PySem PySem.W PyProof.Rows PySem.Calls PySem.Spec
set_option maxRecDepth 100000
set_option maxHeartbeats 8000000
namespace Mine
section
variable {prog : Program} {w : World} {A : Around} {E : Value → Shared → Prop} {s : Shared} {G : Gr}
structure Conv (prog : Program) (w : World) (G : Gr) (h₀ h : Heap) (H : Gr) : Prop where
  I : GraphAt prog w h H
  J : Gi H
  ids : H.ids = (List.range G.rows.length).map fun (i : Nat) => (i : Int)
  more : H.more = []
  vs : H.vs = []
  new : ∀ a ∈ H.all, h₀.get? a = none
  has : ∀ a b, H.has a b ↔ ∃ x y, G.has x y ∧ a = G.ids.idxOf x ∧ b = G.ids.idxOf y
theorem sp_convert {Q : Value → Shared → Prop} (outer : List Env) (hfr : A.frames = some outer) (hff : s.heap.FunFrames {} outer) (hun : A.units + 20 < cLine) (hSb : ∀ b ∈ frs outer, 709 ≤ b ∧ b ∉ G.all)
    (Z : Gl w s.heap) (I : GraphAt prog w s.heap G) (J : Gi G) (hroom : A.depth + 6 < recursionLimit) (hh : A.handled = none) (hz : G.rows.length ≤ 50) (h0 : 0 < G.rows.length) (hsym : ∀ a b, G.has a b → G.has b a) (hloop : ∀ a b, G.has a b → a ≠ b)
    (h : ∀ h' g' tk H, Ext (frs outer ++ [647]) s.heap h' → Gl w h' → Slots (frs outer) s.heap h' → GM [] s.gens g' → Conv prog w G s.heap h' H → Q (.ref H.g) { s with heap := h', gens := g', toks := tk }) :
    wpAny (model prog w) A (call (.ref 652) [.ref G.g]) Q E s := by
  refine enterX Z (by omega) (by rfl) (by kernel_rfl) (binds := [("G", .ref G.g)]) (by kernel_rfl) (by intro L; rfl) (by rfl) (by rfl) ?_
  intro L h₁ tk C
  have Z₁ := Z.k C.ext
  have I₁ := I.k C.ext
  have hL := C.loc
  have cm : h₁.IsCell (L + 1) none := C.cell "mapping" (L + 1) (by rfl)
  have n := C.ns
  refine wpAny_execs_cons <| wpAny_Assign_Name <| Call_ <| nmB Z₁ (by kernel_rfl) (by rfl) PyProof.Rows.boot_dict (by decide) <| cwT <| wpAny_items_cons <| Call_ <| nmB Z₁ (by kernel_rfl) (by rfl) PyProof.Rows.boot_zip (by decide) <| cwT <| wpAny_items_cons <| gA n Z₁ I₁ (.ref G.nd) fun t₁ => wpAny_items_cons <| Call_ <| nmB Z₁ (by kernel_rfl) (by rfl) PyProof.Rows.boot_range (by decide) <| cwT <| wpAny_items_cons <| Call_ <| nmB Z₁ (by kernel_rfl) (by rfl) boot_len (by decide) <| cwB <| wpAny_items_cons <| nmL n rfl rfl <| wpAny_items_nil ?_
  obtain ⟨od₁, J₁, _⟩ := I₁.instAt
  refine len_inst (f := 412) (s := { s with heap := h₁, toks := t₁ }) Z₁ J₁ (by kernel_rfl) (by kernel_rfl) (sp_len (s := { s with heap := h₁, toks := t₁ }) Z₁ I₁ (by show A.depth + 1 < _; omega) (by omega) fun h₂ tk₂ t₂ e₂ => ⟨_, _, rfl, by omega, by omega, fun t₃ tk₃ => wpAny_items_nil ?_⟩)
  replace e₂ : Ext [] h₁ h₂ := e₂
  refine call_range_1 (wpAny_items_nil ?_)
  generalize hh₃ : Heap.push _ _ = h₃
  have e₃ : Ext [] h₂ h₃ := hh₃ ▸ Ext.push _ _
  have I₃ := (I₁.k e₂).k e₃
  have Z₃ := (Z₁.k e₂).k e₃
  obtain ⟨ep, hat⟩ := I₃.node.dictAt
  have hr₃ : IsRange h₃ h₂.objs.size 0 (G.rows.length : Int) 1 _ _ _ := hh₃ ▸ Heap.get?_push_size _ rfl
  have nlen : G.nodes.length = G.rows.length := by simp [Gr.nodes]
  refine call_zip_dr (n := G.rows.length) (I₃.lo mem_nd) ?_ ?_ hat hr₃ nlen fun h₄ z TI TO i1 i2 e₄ dz st₄ ne dTI dTO di1 di2 => ?_
  · exact small_one (by omega) (by omega) (by omega) (by omega)
  · rw [rangeSize_one]; split <;> omega
  replace e₄ : Ext [] h₃ h₄ := e₄
  have I₄ := I₃.k e₄
  have Z₄ := Z₃.k e₄
  refine wpAny_items_nil ?_
  refine call_dict_zip (kvs := G.nodes) hh (by omega) (by omega) (by simpa [Gr.nodes, Gr.ids, Function.comp_def] using I₃.ns) (by exact dictLive I₄.node) ne (by exact st₄) (by exact Z₄.big) fun h₅ tk₅ M mk e₅ nM hM hmk => ?_
  replace nM : New h₄ M := nM
  have e35 : Ext [] h₃ h₅ := ((Ext.of_keep e₄.keep _).app e₅).shed fun a ha => by
    simp only [List.mem_cons, List.not_mem_nil, or_false] at ha
    rcases ha with rfl | rfl | rfl | rfl
    · exact .inr dz
    · exact .inr di1
    · exact .inr di2
    · exact .inr dTO
  have e15 : Ext [] h₁ h₅ := (e₂.app e₃).app e35
  refine stC (cm.keeps e15.keep) (by rfl) (by rfl) fun h₆ cm₆ s₆ => ?_
  replace s₆ : Heap.SameBut (L + 1) h₅ h₆ := s₆
  have cN := C.new "mapping" (L + 1) (by rfl)
  have m₆ : Ext [] s.heap h₆ := (C.ext.app e15).loc cN.1 s₆
  have Z₆ := Z.k m₆
  have I₆ := I.k m₆
  have n₆ : h₆.Ns L _ := n.at' fun o e => s₆.extBut _ _ (Ne.symm cN.2) (e15.keep _ _ e)
  have nM₁ : New h₁ M := nM.back ((e₂.app e₃).app e₄).keep
  have hM₆ : h₆.DictOf (intKind prog w) M mk := hM.at fun o e => s₆.extBut _ _ (by obtain ⟨o', h', _⟩ := cm; exact nM₁.ne h') e
  refine wpAny_execs_cons <| wpAny_Assign_Name <| MethodCall_ <| nmL n₆ rfl rfl <| gb_meth Z₆ I₆.gb (f := 576) (by kernel_rfl) (by kernel_rfl) (I₆.bare (by decide)) <| cwF0 Z₆ (by kernel_rfl) <| sp_made_empty Z₆ (by show A.depth + 1 + 4 < _; omega) fun h₇ tk₇ H e₇ IH r1 r2 r3 dH => ?_
  replace e₇ : Ext [] h₆ h₇ := e₇
  replace dH : ∀ a ∈ H.all, h₆.get? a = none := dH
  refine stL (n₆.keeps e₇.keep) rfl fun h₈ n₈ s₈ => ?_
  replace s₈ : Heap.SameBut L h₇ h₈ := s₈
  have e₈ : Ext [L] h₇ h₈ := Ext.of_same s₈
  have m₈ : Ext [] s.heap h₈ := (m₆.app e₇).loc hL s₈
  have Z₈ := Z.k m₈
  have I₈ := I.k m₈
  have LH : ∀ a ∈ H.all, a ≠ L := fun a ha => by
    obtain ⟨o, ho⟩ := nsLive n₆
    exact dead_ne (dH a ha) ho
  have IH₈ : GraphAt prog w h₈ H := IH.to e₈ fun a ha q => LH a ha (List.mem_singleton.mp q)
  have HG : ∀ a ∈ H.all, ∀ b ∈ G.all, a ≠ b := fun a ha b hb => by
    obtain ⟨o, ho⟩ := I₆.live (List.mem_append.mp hb)
    exact dead_ne (dH a ha) ho
  refine wpAny_execs_cons <| wpAny_Expr_any <| MethodCall_ <| gA n₈ Z₈ IH₈ (.ref H.gr) fun t₈ => gmD IH₈.graph PySem.F.slot_dict_update PySem.F.type_dict_update <| cwB <| wpAny_items_cons <| gA n₈ Z₈ I₈ (.ref G.gr) fun t₉ => wpAny_items_nil <| dupd (HG _ mem_gr _ mem_gr) (I₈.lo mem_gr) IH₈.graph (Nat.zero_le _) I₈.graph fun h₉ hg₉ s₉ => ?_
  replace s₉ : Heap.SameBut H.gr h₈ h₉ := s₉
  have e₉ : Ext [H.gr] h₈ h₉ := Ext.of_same s₉
  have grn : s.heap.get? H.gr = none := dead m₆.keep (dH _ mem_gr)
  have m₉ : Ext [] s.heap h₉ := m₈.app' e₉ fun b hb => .inr (by rw [List.mem_singleton.mp hb]; exact grn)
  have Z₉ := Z.k m₉
  have I₉ := I.k m₉
  have IH₉ : GraphAt prog w h₉ H := IH₈.upd (IH₈.fix _ (Gr.fixed_iff.mpr (.inr (.inl rfl)))) IH₈.graph e₉ hg₉
  have n₉ : h₉.Ns L _ := n₈.at' fun o e => e₉ _ _ (fun q => LH _ mem_gr (List.mem_singleton.mp q).symm) e
  have e69 : Ext [L, H.gr] h₆ h₉ := ((Ext.of_keep e₇.keep _).app (e₈.mono fun b hb => by rw [List.mem_singleton.mp hb]; simp)).app (e₉.mono fun b hb => by rw [List.mem_singleton.mp hb]; simp)
  have gr6 : ∀ b o, h₆.get? b = some o → b ≠ H.gr := fun b o e => (dead_ne (dH _ mem_gr) e).symm
  obtain ⟨ocm, hocm, hdcm⟩ := id cm₆
  have cm₉ : h₉.IsCell (L + 1) (some (.ref M)) := ⟨ocm, e69 _ _ (by
    simp only [List.mem_cons, List.not_mem_nil, or_false, not_or]
    exact ⟨cN.2, gr6 _ _ hocm⟩) hocm, hdcm⟩
  obtain ⟨oM, hoM⟩ := dictLive hM₆
  have ML : M ≠ L := by obtain ⟨o, ho⟩ := nsLive n; exact nM₁.ne ho
  have hM₉ : h₉.DictOf (intKind prog w) M mk := hM₆.at fun o e => e69 _ _ (by
    simp only [List.mem_cons, List.not_mem_nil, or_false, not_or]
    exact ⟨ML, gr6 _ _ hoM⟩) e
  refine at_ h₉ s.gens s.drawn s.os fun t₁₀ => ?_
  refine wpAny_execs_cons <| wpAny_Expr_any <| MethodCall_ <| nmL n₉ rfl rfl <| gb_meth Z₉ IH₉.gb (f := 433) (by kernel_rfl) (by kernel_rfl) (IH₉.bare (by decide)) <| cwF (w := w) (by kernel_rfl) <| wpAny_items_cons <| gen_make (w := w) (c := 651) (Pl := 647) (cl := [("mapping", L + 1)]) (by rfl) (by kernel_rfl) (by decide) (by rfl) (by rfl) (by rfl) (by rfl) (by rfl) (by rfl) (by rfl) (by show A.depth + 1 < _; omega) (fun _ => rfl) ?_
  refine MethodCall_ <| gA n₉ Z₉ I₉ (.ref G.nd) fun t => gmD I₉.node PySem.F.slot_dict_items PySem.F.type_dict_items <| cwB0 <| ditems (I₉.lo mem_nd) I₉.node ?_
  obtain ⟨ep1, hat1⟩ := I₉.node.dictAt
  generalize hh₁₀ : Heap.push _ _ = h₁₀
  have e₁₀ : Ext [] h₉ h₁₀ := hh₁₀ ▸ Ext.push _ _
  have hV : h₁₀.IsItemsView h₉.objs.size G.nd := hh₁₀ ▸ ⟨_, Heap.get?_push_size _ rfl, rfl, rfl⟩
  dsimp only
  generalize h₉.objs.size = V at hV ⊢
  refine wpAny_pyIter_items hV (hat1.at' fun o e => e₁₀.keep _ _ e) ?_
  generalize hh₁₁ : Heap.push _ _ = h₁₁
  have e₁₁ : Ext [] h₁₀ h₁₁ := hh₁₁ ▸ Ext.push _ _
  have nI : New h₁₀ h₁₀.objs.size := New.pos' (Z₉.k e₁₀).big
  have hit : IsItemIter h₁₁ h₁₀.objs.size G.nd 0 G.nodes.length ep1 .none .none := hh₁₁ ▸ Heap.get?_push_size _ rfl
  dsimp only
  generalize h₁₀.objs.size = It at nI hit ⊢
  have e911 : Ext [] h₉ h₁₁ := e₁₀.app e₁₁
  have Z₁₁ := Z₉.k e911
  have I₁₁ := I₉.k e911
  have nI9 : New h₉ It := nI.back e₁₀.keep
  have b709 : ∀ b : Nat, 709 ≤ b → b ∉ ([647] : List Nat) := fun b hb q => by rw [List.mem_singleton.mp q] at hb; omega
  have nbig : ∀ a ∈ G.all, (709 : Nat) ≤ a := I.own
  have Lbig : 709 ≤ L := C.big
  refine ⟨Z₁₁, fun h₁₂ code e₁₂ Z₁₂ => ?_⟩
  have e912 : Ext [647] h₉ h₁₂ := (Ext.of_keep e911.keep _).app e₁₂
  have I₁₂ : GraphAt prog w h₁₂ G := I₁₁.to e₁₂ fun a ha => b709 a (nbig a ha)
  have cm₁₂ : h₁₂.IsCell (L + 1) (some (.ref M)) := let ⟨o, a, b⟩ := cm₉; ⟨o, e912 _ _ (b709 _ (by show 709 ≤ L + 1; omega)) a, b⟩
  have hM₁₂ : h₁₂.DictOf (intKind prog w) M mk := hM₉.at fun o e => e912 _ _ (b709 _ nM.2) e
  have hit₁₂ := e₁₂ _ _ (b709 _ nI.2) hit
  have hat₁₂ : h₁₂.DictAt (intKind prog w) G.nd G.nodes ep1 := hat1.at' fun o e => e912 _ _ (b709 _ (nbig _ mem_nd)) e
  have ndI : G.nd ≠ It := by obtain ⟨o, ho⟩ := dictLive I₉.node; exact fun q => nI9.ne ho q.symm
  have idn : (G.nodes.map (·.1)).Nodup := by simpa [Gr.nodes, Gr.ids, Function.comp_def] using I.ns
  have offI : ∀ b o, h₉.get? b = some o → b ≠ It := fun b o e q => nI9.ne e q.symm
  refine ⟨[It], [It, G.nd] ++ (G.rows.map (·.at_) ++ [L + 1, M]), G.nodes.length, PairIs (intKind prog w) G.nodes, NodeIs prog w true (fun i => (i : Int)), _, fun h => h.IsCell (L + 1) (some (.ref M)) ∧ h.DictOf (intKind prog w) M mk ∧ ∀ r ∈ G.rows, h.DictOf (strKind prog w) r.at_ [],
    fun A' ha => (Itr.items (knd := intKind prog w) ha It G.nd ndI G.nodes ep1 _ _ _).wide fun b hb => List.mem_append_left _ hb, ⟨⟨_, _, hit₁₂⟩, hat₁₂⟩, ⟨cm₁₂, hM₁₂, I₁₂.attr⟩, ?_, ?_, ?_, ?_, ?_⟩
  · intro b hb
    simp only [List.mem_append, List.mem_cons, List.not_mem_nil, or_false, List.mem_map] at hb
    rcases hb with (rfl | rfl) | ⟨r, hr, rfl⟩ | rfl | rfl
    · exact ⟨_, hit₁₂⟩
    · exact dictLive I₁₂.node
    · exact dictLive (I₁₂.attr r hr)
    · obtain ⟨o, ho, _⟩ := cm₁₂; exact ⟨o, ho⟩
    · exact dictLive hM₁₂
  · intro q
    have := nI.2
    rw [← List.mem_singleton.mp q] at this
    exact absurd this (by decide)
  · intro h h' ⟨b1, b2, b3⟩ k
    have ni : ∀ b o, h₉.get? b = some o → b ∉ ([It] : List Nat) := fun b o e q => offI b o e (List.mem_singleton.mp q)
    refine ⟨let ⟨o, a, b⟩ := b1; ⟨o, k _ (by simp) (by obtain ⟨o', h', _⟩ := cm₉; exact ni _ _ h') o a, b⟩, b2.at fun o e => k M (by simp) (by obtain ⟨o', h'⟩ := dictLive hM₉; exact ni _ _ h') o e, fun r hr => (b3 r hr).at fun o e => k r.at_ (by simp; exact .inr (.inr (.inl ⟨r, hr, rfl⟩))) (by obtain ⟨o', h'⟩ := dictLive (I₉.attr r hr); exact ni _ _ h') o e⟩
  · intro Cg A' E' i v s₁ mm fv ha hi hP hCf hCd ⟨b1, b2, b3⟩ hn
    obtain ⟨T, k, y, key, rfl, hk, hkey, hT⟩ := hP s₁.heap fun _ _ _ e => e
    obtain ⟨r, hr, rfl, rfl⟩ := nodes_item hk
    obtain ⟨tr, rfl⟩ := Value.isInt_shape (show key.isInt r.n = true from hkey)
    have hrm : r ∈ G.rows := List.mem_of_getElem? hr
    obtain ⟨tv, hval⟩ := hmk.at idn hk
    replace hCd : Cg ∉ [It, G.nd] ++ (G.rows.map (·.at_) ++ [L + 1, M]) := hCd
    have cM : M ≠ Cg := fun q => hCd (by rw [← q]; simp)
    have cC : L + 1 ≠ Cg := fun q => hCd (by rw [← q]; simp)
    have cA : r.at_ ≠ Cg := fun q => hCd (by rw [← q]; simp; exact .inr (.inr (.inl ⟨r, hrm, rfl⟩)))
    refine unp2I ha hT hn rfl rfl rfl fun h₅ tk₅ e₅ n₅ => ?_
    replace e₅ : Ext [Cg] s₁.heap h₅ := e₅
    have kC : ∀ b : Nat, b ≠ Cg → b ∉ ([Cg] : List Nat) := fun b n q => n (List.mem_singleton.mp q)
    have c1 : h₅.IsCell (L + 1) (some (.ref M)) := let ⟨o, a, b⟩ := b1; ⟨o, e₅ _ _ (kC _ cC) a, b⟩
    have c2 : h₅.DictOf (intKind prog w) M mk := DictOf.ext b2 e₅ (kC _ cM)
    have c3 : h₅.DictOf (strKind prog w) r.at_ [] := DictOf.ext (b3 r hrm) e₅ (kC _ cA)
    have lo : (r.at_ == sysModules) = false := notMods (I.own _ (List.mem_append_right _ (Gr.fixed_iff.mpr (.inr (.inr (.inr ⟨r, hrm, .inl rfl⟩))))))
    refine wpAny_Tuple <| wpAny_items_cons <| Subscript_ <| nmF c1 (by rfl) (by rfl) (by decide) <| nmL n₅ rfl rfl <| subD c2 (intKind_is _ _ _ _) hval <| wpAny_items_cons <| MethodCall_ <| nmL n₅ rfl rfl <| gmD c3 PySem.F.slot_dict_copy PySem.F.type_dict_copy <| cwB0 <| dcopy lo c3 (Nat.zero_le _) fun h₆ hc₆ k₆ => wpAny_items_nil ⟨(by show 2 ≤ 2 ^ 24; decide), ?_⟩
    replace k₆ : ∀ b o, h₅.get? b = some o → h₆.get? b = some o := k₆
    replace hc₆ : h₆.DictOf (strKind prog w) h₅.objs.size [] := hc₆
    have dd5 : h₅.get? h₅.objs.size = none := get?_size _
    have Cbig : 709 ≤ h₅.objs.size := by obtain ⟨o, a, _⟩ := c1; exact Nat.le_trans (show 709 ≤ L + 1 by omega) (Nat.le_of_lt (Heap.lt_size a))
    generalize hdd : h₅.objs.size = dd at hc₆ dd5 Cbig
    generalize hh₇ : Heap.push _ _ = h₇
    have e₇ : Ext [] h₆ h₇ := hh₇ ▸ Ext.push _ _
    have hT₇ : Tup h₇ h₆.objs.size #[.int i tv, .ref dd] := by
      rw [← hh₇]
      exact Heap.get?_push_size _ rfl
    have dU : h₆.get? h₆.objs.size = none := get?_size _
    dsimp only
    generalize h₆.objs.size = U at hT₇ dU ⊢
    have eA : Ext [Cg] s₁.heap h₇ := (e₅.app (Ext.of_keep k₆ _)).app (Ext.of_keep e₇.keep _)
    have hd₇ : h₇.DictOf (strKind prog w) dd [] := DictOf.ext hc₆ e₇ (fun h => nomatch h)
    have back : ∀ b, h₅.get? b = none → b ≠ Cg → s₁.heap.get? b = none := fun b q n => by
      cases q' : s₁.heap.get? b with
      | none => rfl
      | some o => exact nomatch q.symm.trans (e₅ _ _ (kC _ n) q')
    obtain ⟨oC, hoC⟩ := nsLive n₅
    refine ⟨h₇, _, _, [U, dd], rfl, ⟨fun h'' ag => ?_, fun b hb => .inr ?_⟩, eA, n₅.at' fun o e => e₇.keep _ _ (k₆ _ _ e)⟩
    · unfold NodeIs
      rw [if_pos rfl]
      exact ⟨U, tv, dd, rfl, ag U (by simp) _ hT₇, hd₇.at fun o e => ag dd (by simp) o e, Cbig⟩
    · simp only [List.mem_cons, List.not_mem_nil, or_false] at hb
      rcases hb with rfl | rfl
      · exact back _ (dead k₆ dU) (dead_ne dU (k₆ _ _ hoC))
      · exact back _ dd5 (dead_ne dd5 hoC)
  · intro a k Cg h₁₃ g₁₃ tk₁₃ e₁₃ eg₁₃ nCg na hkg hItr hlive
    replace e₁₃ : Ext [] h₁₂ h₁₃ := e₁₃
    replace eg₁₃ : GM [] s.gens g₁₃ := eg₁₃
    replace nCg : New h₁₂ Cg := nCg
    replace na : New h₁₂ a := na
    replace hkg : s.gens[k]? = none := hkg
    have e913 : Ext [647] h₉ h₁₃ := e912.app (Ext.of_keep e₁₃.keep _)
    have Z₁₃ := Z₁₂.k e₁₃
    have IH₁₃ : GraphAt prog w h₁₃ H := IH₉.to e913 fun a ha => b709 a (IH.own a ha)
    have n₁₃ : h₁₃.Ns L _ := n₉.at' fun o e => e913 _ _ (b709 _ Lbig) e
    obtain ⟨oL, hoL⟩ := nsLive n₁₃
    have upS : ∀ b o, s.heap.get? b = some o → 709 ≤ b → h₁₃.get? b = some o := fun b o e hb => e913 _ _ (b709 _ hb) (m₉.keep _ _ e)
    have JH : Gi H := ⟨by rw [r1]; exact Nat.zero_le _, by rw [r1]; exact fun _ h => nomatch h⟩
    have liveO : ∀ b ∈ frs outer, ∃ o, s.heap.get? b = some o := fun b hb => let ⟨_, o, ho, _⟩ := hff.mem hb; ⟨o, ho⟩
    have live9 : ∀ b o, h₉.get? b = some o → 709 ≤ b → b ≠ a ∧ b ≠ Cg ∧ b ≠ It := fun b o e hb => ⟨fun q => na.ne (e912 _ _ (b709 _ hb) e) q.symm, fun q => nCg.ne (e912 _ _ (b709 _ hb) e) q.symm, fun q => nI9.ne e q.symm⟩
    have ocm9 : ∃ o, h₉.get? (L + 1) = some o := let ⟨o, ho, _⟩ := cm₉; ⟨o, ho⟩
    have Hlive : ∀ b ∈ H.all, ∃ o, h₉.get? b = some o := fun b hb => IH₉.live (List.mem_append.mp hb)
    have Hdead : ∀ b ∈ H.all, s.heap.get? b = none := fun b hb => dead m₆.keep (dH b hb)
    refine wpAny_items_nil ⟨Z₁₃, ?_⟩
    refine add_nodes_tup hfr rfl (fun q => by cases q) hun n₁₃ ((Slots.of (F := [647]) ((Ext.of_keep m₉.keep _).app e913) fun b hb => b709 _ (hSb b hb).1).frames hff) Z₁₃ IH₁₃ JH (by omega) hh (src_gen hItr hlive) hlive ?_ ?_ ?_ ?_ ?_ ?_ ?_ fun h₁₄ g₁₄ tk₁₄ H1 e₁₄ sl₁₄ eg₁₄ AD => ?_
    · -- off the graph
      intro b hb q
      obtain ⟨o, ho⟩ := Hlive b q
      have hb9 := live9 b o ho (IH.own b q)
      simp only [List.mem_append, List.mem_cons, List.not_mem_nil, or_false, List.mem_map] at hb
      rcases hb with hb | hb | hb | (hb | hb) | ⟨r, hr, hb⟩ | hb | hb
      · exact hb9.1 hb
      · have := IH.own b q
        rw [hb] at this
        exact absurd this (by decide)
      · exact hb9.2.1 hb
      · exact hb9.2.2 hb
      · exact HG b q _ mem_nd hb
      · exact HG b q _ (List.mem_append_right _ (Gr.fixed_iff.mpr (.inr (.inr (.inr ⟨r, hr, .inl rfl⟩))))) hb.symm
      · exact dead_ne (dH b q) hocm hb
      · exact dead_ne (dH b q) hoM hb
    · intro b hb
      rcases List.mem_cons.mp hb with rfl | hb
      · simp
      · rw [List.mem_singleton.mp hb]; simp
    · intro b hb
      rcases List.mem_cons.mp hb with rfl | hb
      · exact nCg.2
      · rw [List.mem_singleton.mp hb]; exact nI.2
    · have : G.nodes.length = G.rows.length := by simp [Gr.nodes]
      rw [r1, this, List.length_nil]
      omega
    · intro b hb
      obtain ⟨o, ho⟩ : ∃ o, h₉.get? b = some o := by
        rcases List.mem_cons.mp hb with rfl | hb
        · exact nsLive n₉
        · obtain ⟨o, ho⟩ := liveO b hb; exact ⟨o, m₉.keep _ _ ho⟩
      have hbig : 709 ≤ b := by
        rcases List.mem_cons.mp hb with rfl | hb
        · exact Lbig
        · exact (hSb b hb).1
      have hb9 := live9 b o ho hbig
      have hGb : b ∉ G.all := by
        rcases List.mem_cons.mp hb with rfl | hb
        · exact I.all_new hL
        · exact (hSb b hb).2
      refine ⟨fun q => ?_, fun q => ?_, hbig⟩
      · simp only [List.mem_append, List.mem_cons, List.not_mem_nil, or_false, List.mem_map] at q
        rcases q with q | q | q | (q | q) | ⟨r, hr, q⟩ | q | q
        · exact hb9.1 q
        · rw [q] at hbig; exact absurd hbig (by decide)
        · exact hb9.2.1 q
        · exact hb9.2.2 q
        · exact hGb (q ▸ mem_nd)
        · exact hGb (q ▸ List.mem_append_right _ (Gr.fixed_iff.mpr (.inr (.inr (.inr ⟨r, hr, .inl rfl⟩)))))
        · rcases List.mem_cons.mp hb with r | r
          · exact cN.2 (q.symm.trans r)
          · obtain ⟨o', ho'⟩ := liveO b r
            exact dead_ne cN.1 ho' q.symm
        · rcases List.mem_cons.mp hb with r | r
          · exact ML (q.symm.trans r)
          · obtain ⟨o', ho'⟩ := liveO b r
            exact dead_ne (dead C.ext.keep nM₁.1) ho' q.symm
      · rcases List.mem_cons.mp hb with r | r
        · exact LH b q r
        · obtain ⟨o', ho'⟩ := liveO b r
          exact dead_ne (Hdead b q) ho' rfl
    · intro i _ q
      have : H.ids = [] := by rw [Gr.ids, r1]; rfl
      rw [this] at q; cases q
    · intro i j _ _ q
      exact Int.ofNat.inj q
    dsimp only
    replace e₁₄ : Ext (Cg :: [It] ++ H.all ++ (L :: frs outer)) h₁₃ h₁₄ := e₁₄
    replace sl₁₄ : Slots (L :: frs outer) h₁₃ h₁₄ := sl₁₄
    replace eg₁₄ : GM [k] g₁₃ g₁₄ := eg₁₄
    have hHg : H1.g = H.g := congrArg (·.1) AD.hd
    have hb14 : ∀ b ∈ Cg :: [It] ++ H.all ++ (L :: frs outer), 709 ≤ b := fun b hb => by
      simp only [List.mem_append, List.mem_cons, List.not_mem_nil, or_false] at hb
      rcases hb with ((rfl | rfl) | hb) | rfl | hb
      · exact nCg.2
      · exact nI.2
      · exact IH.own b hb
      · exact Lbig
      · exact (hSb b hb).1
    have off14 : ∀ b o, h₉.get? b = some o → 709 ≤ b → b ∉ H.all → b ≠ L → b ∉ frs outer → b ∉ Cg :: [It] ++ H.all ++ (L :: frs outer) := fun b o e hb n1 n2 n3 q => by
      have := live9 b o e hb
      simp only [List.mem_append, List.mem_cons, List.not_mem_nil, or_false] at q
      rcases q with ((q | q) | q) | q | q
      · exact this.2.1 q
      · exact this.2.2 q
      · exact n1 q
      · exact n2 q
      · exact n3 q
    have Z₁₄ := Z₁₃.ext e₁₄ hb14
    have GH : ∀ b ∈ G.all, b ∉ H.all := fun b hb q => HG b q b hb rfl
    have I₁₃ : GraphAt prog w h₁₃ G := I₁₂.k e₁₃
    have I₁₄ : GraphAt prog w h₁₄ G := I₁₃.to e₁₄ fun b hb => by
      obtain ⟨o, ho⟩ := I₉.live (List.mem_append.mp hb)
      exact off14 b o ho (I.own b hb) (GH b hb) (fun q => I.all_new hL (q ▸ hb)) fun q => (hSb b q).2 hb
    have n₁₄ : h₁₄.Ns L _ := nsSlots n₁₃ (sl₁₄ L (.head _))
    have nf : ∀ b o, h₆.get? b = some o → b ∉ H.all := fun b o e q => dead_ne (dH b q) e rfl
    have frO : ∀ b, s.heap.get? b = none → b ∉ frs outer := fun b d q => by obtain ⟨o, ho⟩ := liveO b q; rw [d] at ho; cases ho
    have cm₁₃ : h₁₃.IsCell (L + 1) (some (.ref M)) := cm₁₂.keeps e₁₃.keep
    obtain ⟨oc13, hoc13, hdc13⟩ := id cm₁₃
    obtain ⟨oc9, hoc9⟩ := ocm9
    have cm₁₄ : h₁₄.IsCell (L + 1) (some (.ref M)) := ⟨oc13, e₁₄ _ _ (off14 _ _ hoc9 (by show 709 ≤ L + 1; omega) (nf _ _ hocm) cN.2 (frO _ cN.1)) hoc13, hdc13⟩
    obtain ⟨oM9, hoM9⟩ := dictLive hM₉
    have hM₁₄ : h₁₄.DictOf (intKind prog w) M mk := (hM₁₂.at fun o e => e₁₃.keep _ _ e).at fun o e => e₁₄ _ _ (off14 _ _ hoM9 nM.2 (nf _ _ hoM) ML (frO _ (dead C.ext.keep nM₁.1))) e
    have IH₁₄ := AD.I
    have mH : ∀ z, z = "H" → (if z = "H" then some (Value.ref H.g) else none) = some (Value.ref H1.g) := fun z q => by rw [if_pos q, hHg]
    refine wpAny_execs_cons <| wpAny_Expr_any <| MethodCall_ <| nmL (v := .ref H1.g) n₁₄ rfl (by rw [hHg]; rfl) <| gb_meth Z₁₄ IH₁₄.gb (f := 492) (by kernel_rfl) (by kernel_rfl) (IH₁₄.bare (by decide)) <| cwF (w := w) (by kernel_rfl) <| wpAny_items_cons <| gen_make (w := w) (c := 651) (Pl := 647) (cl := [("mapping", L + 1)]) (by rfl) (by kernel_rfl) (by decide) (by rfl) (by rfl) (by rfl) (by rfl) (by rfl) (by rfl) (by rfl) (by show A.depth + 1 < _; omega) (fun _ => rfl) ?_
    refine Call_ <| nmG (v := .ref 645) Z₁₄ (by kernel_rfl) (by rfl) <| cwF (w := w) (by kernel_rfl) <| wpAny_items_cons <| nmL n₁₄ rfl rfl <| wpAny_items_nil ⟨Z₁₄, sp_edge_rows Z₁₄ I₁₄ J (by show A.depth + 1 + 1 < _; omega) (by exact hh) fun h₁₅ g₁₅ tk₁₅ D acc c e₁₅ eg₁₅ nD hD hsz hacc => ?_⟩
    replace e₁₅ : Ext [] h₁₄ h₁₅ := e₁₅
    replace nD : New h₁₄ D := nD
    replace eg₁₅ : GM [] g₁₄ g₁₅ := eg₁₅
    refine wpAny_pyIter_list (items := acc) ⟨_, hD, rfl, _, rfl⟩ ?_
    generalize hh₁₆ : Heap.push _ _ = h₁₆
    have e₁₆ : Ext [] h₁₅ h₁₆ := hh₁₆ ▸ Ext.push _ _
    have nI2 : New h₁₅ h₁₅.objs.size := New.pos' (Z₁₄.k e₁₅).big
    have hit2 : h₁₆.IsListIter h₁₅.objs.size D 0 := hh₁₆ ▸ ⟨_, Heap.get?_push_size _ rfl, rfl, rfl⟩
    dsimp only
    generalize h₁₅.objs.size = It2 at nI2 hit2 ⊢
    have e1416 : Ext [] h₁₄ h₁₆ := e₁₅.app e₁₆
    have Z₁₆ := Z₁₄.k e1416
    refine ⟨Z₁₆, fun h₁₇ code2 e₁₇ Z₁₇ => ?_⟩
    have e1417 : Ext [647] h₁₄ h₁₇ := (Ext.of_keep e1416.keep _).app e₁₇
    have e1517 : Ext [647] h₁₅ h₁₇ := (Ext.of_keep e₁₆.keep _).app e₁₇
    have I₁₇ : GraphAt prog w h₁₇ G := I₁₄.to e1417 fun a ha => b709 a (nbig a ha)
    have cm₁₇ : h₁₇.IsCell (L + 1) (some (.ref M)) := let ⟨o, a, b⟩ := cm₁₄; ⟨o, e1417 _ _ (b709 _ (by show 709 ≤ L + 1; omega)) a, b⟩
    have hM₁₇ : h₁₇.DictOf (intKind prog w) M mk := hM₁₄.at fun o e => e1417 _ _ (b709 _ nM.2) e
    have hit₁₇ : h₁₇.IsListIter It2 D 0 := hit2.at fun o e => e₁₇ _ _ (b709 _ nI2.2) e
    have hD₁₇ : h₁₇.IsList D acc := ⟨_, e1517 _ _ (b709 _ nD.2) hD, rfl, _, rfl⟩
    have kt₁₇ : KT h₁₅ h₁₇ := KT.of e1517 fun b hb o q => by
      rw [List.mem_singleton.mp hb] at q
      obtain ⟨ps, hps, _⟩ := (Z₁₄.k e₁₅).pool 647 (by decide)
      rw [hps] at q; cases q
      exact .inl (by intro q; cases q)
    have hacc₁₇ : ∀ j v, acc[j]? = some v → EDs G.edges G.dds j v h₁₇ := fun j v q => (hacc j v q).kt kt₁₇
    have DI2 : It2 ≠ D := nI2.ne hD
    let tl : List Nat := acc.toList.filterMap fun v => match v with | .ref T => some T | _ => none
    have mtl : ∀ (j T : Nat), acc[j]? = some (.ref T) → T ∈ tl := fun j T q => List.mem_filterMap.mpr ⟨.ref T, by
      have := Array.mem_of_getElem? q
      simpa using this, rfl⟩
    have tlT : ∀ T ∈ tl, ∃ j : Nat, acc[j]? = some (.ref T) := fun T q => by
      obtain ⟨v, hv, e⟩ := List.mem_filterMap.mp q
      obtain ⟨j, hj⟩ := List.mem_iff_getElem?.mp hv
      refine ⟨j, ?_⟩
      cases v <;> simp at e
      subst e
      simpa using hj
    have tlive : ∀ T ∈ tl, ∃ o, h₁₅.get? T = some o := fun T q => by
      obtain ⟨j, hj⟩ := tlT T q
      obtain ⟨T', tu, tv, d, e, _, hT⟩ := hacc j _ hj
      cases e; exact ⟨_, hT⟩
    refine ⟨[It2], [It2, D] ++ (tl ++ (G.dds ++ [L + 1, M])), acc.size, (fun i v _ => acc[i]? = some v), EdgeIs prog w (fun i => ((G.ids.idxOf (G.edges[i]!).1 : Nat) : Int)) (fun i => ((G.ids.idxOf (G.edges[i]!).2 : Nat) : Int)), _,
      fun h => (∀ (j : Nat) (v : Value), acc[j]? = some v → EDs G.edges G.dds j v h) ∧ h.IsCell (L + 1) (some (.ref M)) ∧ h.DictOf (intKind prog w) M mk ∧ ∀ d ∈ G.dds, h.DictOf (strKind prog w) d [],
      fun A' ha => (Itr.listT ha It2 D DI2 acc (fun i v q => by obtain ⟨T, _, _, _, e, _⟩ := hacc i v q; exact ⟨T, e⟩) _ _ _).wide fun b hb => List.mem_append_left _ hb, ⟨hit₁₇, hD₁₇⟩, ⟨hacc₁₇, cm₁₇, hM₁₇, ?_⟩, ?_, ?_, ?_, ?_, ?_⟩
    · intro d hd
      obtain ⟨r, hr, hd⟩ := List.mem_flatMap.mp hd
      obtain ⟨e, he, rfl⟩ := List.mem_map.mp hd
      exact I₁₇.dd r hr e he
    · intro b hb
      simp only [List.mem_append, List.mem_cons, List.not_mem_nil, or_false] at hb
      rcases hb with (rfl | rfl) | hb | hb | rfl | rfl
      · obtain ⟨o, ho, _⟩ := hit₁₇; exact ⟨o, ho⟩
      · obtain ⟨o, ho, _⟩ := hD₁₇; exact ⟨o, ho⟩
      · obtain ⟨j, hj⟩ := tlT b hb
        obtain ⟨T', tu, tv, d, e, _, hT⟩ := hacc₁₇ j _ hj
        cases e; exact ⟨_, hT⟩
      · obtain ⟨r, hr, hd⟩ := List.mem_flatMap.mp hb
        obtain ⟨e, he, rfl⟩ := List.mem_map.mp hd
        exact dictLive (I₁₇.dd r hr e he)
      · obtain ⟨o, ho, _⟩ := cm₁₇; exact ⟨o, ho⟩
      · exact dictLive hM₁₇
    · intro q
      have := nI2.2
      rw [← List.mem_singleton.mp q] at this
      exact absurd this (by decide)
    · intro h h' ⟨b0, b1, b2, b3⟩ kk
      have ni : ∀ b o, h₁₄.get? b = some o → b ∉ ([It2] : List Nat) := fun b o e q => nI2.ne (e₁₅.keep _ _ e) (List.mem_singleton.mp q).symm
      refine ⟨fun j v q => ?_, let ⟨o, a, b⟩ := b1; ⟨o, kk _ (by simp) (by obtain ⟨o', h', _⟩ := cm₁₄; exact ni _ _ h') o a, b⟩, b2.at fun o e => kk M (by simp) (by obtain ⟨o', h'⟩ := dictLive hM₁₄; exact ni _ _ h') o e, fun d hd => (b3 d hd).at fun o e => kk d (by simp [hd]) ?_ o e⟩
      · obtain ⟨T, tu, tv, d, rfl, md, hT⟩ := b0 j v q
        have mT := mtl j T q
        exact ⟨T, tu, tv, d, rfl, md, kk T (by simp [mT]) (fun q' => by obtain ⟨o', h'⟩ := tlive T mT; exact nI2.ne h' (List.mem_singleton.mp q').symm) _ hT⟩
      · obtain ⟨r, hr, hd⟩ := List.mem_flatMap.mp hd
        obtain ⟨ed, hed, rfl⟩ := List.mem_map.mp hd
        obtain ⟨o', h'⟩ := dictLive (I₁₄.dd r hr ed hed)
        exact ni _ _ h'
    · intro Cg2 A' E' i v s₁ mm fv ha hi hP hCf hCd ⟨b0, b1, b2, b3⟩ hn
      have hPi : acc[i]? = some v := hP s₁.heap fun _ _ _ e => e
      obtain ⟨T, tu, tv, d, rfl, md, hT⟩ := b0 i v hPi
      replace hCd : Cg2 ∉ [It2, D] ++ (tl ++ (G.dds ++ [L + 1, M])) := hCd
      have cM : M ≠ Cg2 := fun q => hCd (by rw [← q]; simp)
      have cC : L + 1 ≠ Cg2 := fun q => hCd (by rw [← q]; simp)
      have cD : d ≠ Cg2 := fun q => hCd (by rw [← q]; simp [md])
      have lt : i < G.edges.length := by rw [← hsz]; exact hi
      have hmem : G.edges[i]! ∈ G.edges := by rw [getElem!_pos G.edges i lt]; exact List.getElem_mem lt
      have hhas := edges_sound hmem
      have inId : ∀ x y, G.has x y → x ∈ G.ids ∧ y ∈ G.ids := fun x y ⟨r, hr, q1, e, he, q2⟩ => ⟨q1 ▸ List.mem_map_of_mem hr, q2 ▸ J.keys r hr e he⟩
      have hin := inId _ _ hhas
      have val : ∀ x, x ∈ G.ids → ∃ t, valueAt mk x = some (.int (G.ids.idxOf x : Nat) t) := fun x hx => by
        have hlt : G.ids.idxOf x < G.ids.length := List.idxOf_lt_length_iff.mpr hx
        have hlt' : G.ids.idxOf x < G.rows.length := by simpa [Gr.ids] using hlt
        have hg : G.nodes[G.ids.idxOf x]? = some (x, .ref (G.rows[G.ids.idxOf x]).at_) := by
          have e1 : G.ids[G.ids.idxOf x] = x := List.getElem_idxOf hlt
          simp only [Gr.nodes, List.getElem?_map, List.getElem?_eq_getElem hlt', Option.map_some]
          have e2 : (G.rows[G.ids.idxOf x]).n = x := by
            have : G.ids[G.ids.idxOf x] = (G.rows[G.ids.idxOf x]).n := List.getElem_map ..
            rw [← this]; exact e1
          rw [e2]
        exact hmk.at idn hg
      obtain ⟨t1, v1⟩ := val _ hin.1
      obtain ⟨t2, v2⟩ := val _ hin.2
      refine unp3 ha hT hn rfl rfl rfl rfl fun h₅ tk₅ e₅ n₅ => ?_
      replace e₅ : Ext [Cg2] s₁.heap h₅ := e₅
      have kC : ∀ b : Nat, b ≠ Cg2 → b ∉ ([Cg2] : List Nat) := fun b n q => n (List.mem_singleton.mp q)
      have c1 : h₅.IsCell (L + 1) (some (.ref M)) := let ⟨o, a, b⟩ := b1; ⟨o, e₅ _ _ (kC _ cC) a, b⟩
      have c2 : h₅.DictOf (intKind prog w) M mk := DictOf.ext b2 e₅ (kC _ cM)
      have c3 : h₅.DictOf (strKind prog w) d [] := DictOf.ext (b3 d md) e₅ (kC _ cD)
      have lo : (d == sysModules) = false := by
        obtain ⟨r, hr, hd⟩ := List.mem_flatMap.mp md
        obtain ⟨e, he, rfl⟩ := List.mem_map.mp hd
        exact notMods (I.own _ (mem_dd hr he))
      refine wpAny_Tuple <| wpAny_items_cons <| Subscript_ <| nmF c1 (by rfl) (by rfl) (by decide) <| nmL n₅ rfl rfl <| subD c2 (intKind_is _ _ _ _) v1 <| wpAny_items_cons <| Subscript_ <| nmF c1 (by rfl) (by rfl) (by decide) <| nmL n₅ rfl rfl <| subD c2 (intKind_is _ _ _ _) v2 <| wpAny_items_cons <| MethodCall_ <| nmL n₅ rfl rfl <| gmD c3 PySem.F.slot_dict_copy PySem.F.type_dict_copy <| cwB0 <| dcopy lo c3 (Nat.zero_le _) fun h₆' hc₆ k₆ => wpAny_items_nil ⟨(by show 3 ≤ 2 ^ 24; decide), ?_⟩
      replace k₆ : ∀ b o, h₅.get? b = some o → h₆'.get? b = some o := k₆
      replace hc₆ : h₆'.DictOf (strKind prog w) h₅.objs.size [] := hc₆
      have dd5 : h₅.get? h₅.objs.size = none := get?_size _
      have Cbig : 709 ≤ h₅.objs.size := by obtain ⟨o, a, _⟩ := c1; exact Nat.le_trans (show 709 ≤ L + 1 by omega) (Nat.le_of_lt (Heap.lt_size a))
      generalize hdd : h₅.objs.size = dd at hc₆ dd5 Cbig
      generalize hh₇ : Heap.push _ _ = h₇'
      have e₇' : Ext [] h₆' h₇' := hh₇ ▸ Ext.push _ _
      have hT₇ : Tup h₇' h₆'.objs.size #[.int (G.ids.idxOf (G.edges[i]!).1 : Nat) t1, .int (G.ids.idxOf (G.edges[i]!).2 : Nat) t2, .ref dd] := by
        rw [← hh₇]
        exact Heap.get?_push_size _ rfl
      have dU : h₆'.get? h₆'.objs.size = none := get?_size _
      dsimp only
      generalize h₆'.objs.size = U at hT₇ dU ⊢
      have eA : Ext [Cg2] s₁.heap h₇' := (e₅.app (Ext.of_keep k₆ _)).app (Ext.of_keep e₇'.keep _)
      have hd₇ : h₇'.DictOf (strKind prog w) dd [] := DictOf.ext hc₆ e₇' (fun h => nomatch h)
      have back : ∀ b, h₅.get? b = none → b ≠ Cg2 → s₁.heap.get? b = none := fun b q n => by
        cases q' : s₁.heap.get? b with
        | none => rfl
        | some o => exact nomatch q.symm.trans (e₅ _ _ (kC _ n) q')
      obtain ⟨oC, hoC⟩ := nsLive n₅
      refine ⟨h₇', _, _, [U, dd], rfl, ⟨fun h'' ag => ?_, fun b hb => .inr ?_⟩, eA, n₅.at' fun o e => e₇'.keep _ _ (k₆ _ _ e)⟩
      · exact ⟨U, t1, t2, rfl, .inr ⟨dd, ag U (by simp) _ hT₇, hd₇.at fun o e => ag dd (by simp) o e, Cbig⟩⟩
      · simp only [List.mem_cons, List.not_mem_nil, or_false] at hb
        rcases hb with rfl | rfl
        · exact back _ (dead k₆ dU) (dead_ne dU (k₆ _ _ hoC))
        · exact back _ dd5 (dead_ne dd5 hoC)
    · intro a2 k2 Cg2 h₁₈ g₁₈ tk₁₈ e₁₈ eg₁₈ nCg2 na2 hkg2 hItr2 hlive2
      replace e₁₈ : Ext [] h₁₇ h₁₈ := e₁₈
      replace eg₁₈ : GM [] g₁₅ g₁₈ := eg₁₈
      replace nCg2 : New h₁₇ Cg2 := nCg2
      replace na2 : New h₁₇ a2 := na2
      replace hkg2 : g₁₅[k2]? = none := hkg2
      have e1418 : Ext [647] h₁₄ h₁₈ := e1417.app (Ext.of_keep e₁₈.keep _)
      have Z₁₈ := Z₁₇.k e₁₈
      have H1all : ∀ b ∈ H1.all, 709 ≤ b := IH₁₄.own
      have IH₁₈ : GraphAt prog w h₁₈ H1 := IH₁₄.to e1418 fun b hb => b709 b (H1all b hb)
      have hids : H1.ids = (List.range G.rows.length).map fun (i : Nat) => (i : Int) := by
        rw [AD.ids, show H.ids = [] by rw [Gr.ids, r1]; rfl, List.nil_append]
        simp [Gr.nodes]
      have JH1 : Gi H1 := ⟨by rw [AD.len, r1]; simp [Gr.nodes]; omega, AD.J⟩
      have H1live : ∀ b ∈ H1.all, ∃ o, h₁₄.get? b = some o := fun b hb => IH₁₄.live (List.mem_append.mp hb)
      have H1new : ∀ b ∈ H1.all, h₆.get? b = none := fun b hb => by
        rcases AD.gr b hb with q | q
        · exact dH b q
        · cases q' : h₆.get? b with
          | none => rfl
          | some o =>
            have n1 : b ≠ L := dead_ne q hoL
            obtain ⟨o2, ho2⟩ := IH₁₃.live (List.mem_append.mp mem_gr)
            have n2 : b ≠ H.gr := dead_ne q ho2
            exact nomatch q.symm.trans (e913 _ _ (b709 _ (H1all b hb)) (e69 _ _ (by simp [n1, n2]) q'))
      have inI : ∀ i, i < acc.size → (G.ids.idxOf (G.edges[i]!).1 : Int) ∈ (List.range G.rows.length).map (fun (i : Nat) => (i : Int)) ∧ (G.ids.idxOf (G.edges[i]!).2 : Int) ∈ (List.range G.rows.length).map (fun (i : Nat) => (i : Int)) ∧ (G.ids.idxOf (G.edges[i]!).1 : Int) ≠ (G.ids.idxOf (G.edges[i]!).2 : Int) := fun i hi => by
        have lt : i < G.edges.length := by rw [← hsz]; exact hi
        have hmem : G.edges[i]! ∈ G.edges := by rw [getElem!_pos G.edges i lt]; exact List.getElem_mem lt
        have hhas := edges_sound hmem
        have hne := hloop _ _ hhas
        obtain ⟨r, hr, q1, e, he, q2⟩ := hhas
        have i1 : (G.edges[i]!).1 ∈ G.ids := q1 ▸ List.mem_map_of_mem hr
        have i2 : (G.edges[i]!).2 ∈ G.ids := q2 ▸ J.keys r hr e he
        have l1 := List.idxOf_lt_length_iff.mpr i1
        have l2 := List.idxOf_lt_length_iff.mpr i2
        refine ⟨List.mem_map.mpr ⟨_, List.mem_range.mpr (by simpa [Gr.ids] using l1), rfl⟩, List.mem_map.mpr ⟨_, List.mem_range.mpr (by simpa [Gr.ids] using l2), rfl⟩, fun q => hne ?_⟩
        have q' := Int.ofNat.inj q
        have a1 := List.getElem_idxOf l1
        have a2 := List.getElem_idxOf l2
        rw [← a1, ← a2]
        congr 1
      refine wpAny_items_nil ⟨Z₁₈, ?_⟩
      refine sp_add_edges_from Z₁₈ IH₁₈ JH1 (by show A.depth + 1 + 1 < _; omega) (by exact hh) (src_gen hItr2 hlive2) hlive2 ?_ ?_ ?_ ?_ ?_ ?_ fun h₁₉ g₁₉ tk₁₉ H2 e₁₉ eg₁₉ AE => ?_
      · intro b hb q
        obtain ⟨o, ho⟩ := H1live b q
        have hb7 := H1all b q
        simp only [List.mem_append, List.mem_cons, List.not_mem_nil, or_false] at hb
        rcases hb with hb | hb | hb | (hb | hb) | hb | hb | hb | hb
        · exact na2.ne (e1417 _ _ (b709 _ hb7) ho) hb.symm
        · rw [hb] at hb7; exact absurd hb7 (by decide)
        · exact nCg2.ne (e1417 _ _ (b709 _ hb7) ho) hb.symm
        · exact nI2.ne (e₁₅.keep _ _ ho) hb.symm
        · exact nD.ne ho hb.symm
        · obtain ⟨o', ho', hc'⟩ := IH₁₄.noTup (by have := congrArg (·.2.2.2.2.2.2) AD.hd; exact (show H1.vs = H.vs from this).trans r3) q
          obtain ⟨j, hj⟩ := tlT b hb
          obtain ⟨T', tu, tv, d, e, _, hT⟩ := hacc j _ hj
          cases e
          have hT' : h₁₅.get? b = _ := hT
          rw [e₁₅.keep _ _ ho'] at hT'
          cases hT'
          exact hc' rfl
        · obtain ⟨r, hr, hd⟩ := List.mem_flatMap.mp hb
          obtain ⟨ed, hed, rfl⟩ := List.mem_map.mp hd
          obtain ⟨o', ho'⟩ := dictLive (I₆.dd r hr ed hed)
          exact dead_ne (H1new _ q) ho' rfl
        · exact dead_ne (H1new _ q) hocm hb
        · exact dead_ne (H1new _ q) hoM hb
      · intro b hb
        rcases List.mem_cons.mp hb with rfl | hb
        · simp
        · rw [List.mem_singleton.mp hb]; simp
      · intro b hb
        rcases List.mem_cons.mp hb with rfl | hb
        · exact nCg2.2
        · rw [List.mem_singleton.mp hb]; exact nI2.2
      · intro i hi; rw [hids]; exact (inI i hi).1
      · intro i hi; rw [hids]; exact (inI i hi).2.1
      · intro i hi; exact (inI i hi).2.2
      dsimp only
      replace e₁₉ : Ext (Cg2 :: [It2] ++ H1.all) h₁₈ h₁₉ := e₁₉
      replace eg₁₉ : GM [k2] g₁₈ g₁₉ := eg₁₉
      have hH2g : H2.g = H.g := by
        have := congrArg (·.1) AE.sh
        exact (show H2.g = H1.g from this).trans hHg
      have n₁₈ : h₁₈.Ns L _ := n₁₄.at' fun o e => e1418 _ _ (b709 _ Lbig) e
      obtain ⟨oL14, hoL14⟩ := nsLive n₁₄
      obtain ⟨oL6, hoL6⟩ := nsLive n₆
      have LF : L ∉ Cg2 :: [It2] ++ H1.all := fun q => by
        simp only [List.mem_append, List.mem_cons, List.not_mem_nil, or_false] at q
        rcases q with (q | q) | q
        · exact nCg2.ne (e1417 _ _ (b709 _ Lbig) hoL14) q.symm
        · exact nI2.ne (e₁₅.keep _ _ hoL14) q.symm
        · exact dead_ne (H1new _ q) hoL6 rfl
      have n₁₉ : h₁₉.Ns L _ := n₁₈.at' fun o e => e₁₉ _ _ LF e
      refine wpAny_execs_cons <| wpAny_Return_some <| nmL (v := .ref H2.g) n₁₉ rfl (by rw [hH2g]; rfl) ?_
      have F14 : ∀ b ∈ Cg :: [It] ++ H.all ++ (L :: frs outer), (b ∈ frs outer ∨ s.heap.get? b = none) := fun b hb => by
        simp only [List.mem_append, List.mem_cons, List.not_mem_nil, or_false] at hb
        rcases hb with ((rfl | rfl) | hb) | rfl | hb
        · right
          cases q : s.heap.get? b with
          | none => rfl
          | some o => exact absurd rfl (nCg.ne (e912 _ _ (b709 _ nCg.2) (m₉.keep _ _ q)))
        · exact .inr (dead m₉.keep nI9.1)
        · exact .inr (Hdead b hb)
        · exact .inr hL
        · exact .inl hb
      have upL : ∀ b o, s.heap.get? b = some o → 709 ≤ b → ∃ o', h₁₄.get? b = some o' := fun b o e hb => by
        have h13 := e913 _ _ (b709 _ hb) (m₉.keep _ _ e)
        by_cases q : b ∈ frs outer
        · obtain ⟨sl, q'⟩ := sl₁₄ b (.tail _ q) _ h13
          exact ⟨_, q'⟩
        · exact ⟨o, e₁₄ _ _ (fun q' => (F14 b q').elim q fun q'' => nomatch q''.symm.trans e) h13⟩
      have deadL : ∀ b, 709 ≤ b → h₁₄.get? b = none → s.heap.get? b = none := fun b hb d => by
        cases q : s.heap.get? b with
        | none => rfl
        | some o => obtain ⟨o', ho'⟩ := upL b o q hb; rw [d] at ho'; cases ho'
      have dead18 : ∀ b, 709 ≤ b → h₁₈.get? b = none → h₁₄.get? b = none := fun b hb d => by
        cases q : h₁₄.get? b with
        | none => rfl
        | some o => exact nomatch d.symm.trans (e1418 _ _ (b709 _ hb) q)
      have F19 : ∀ b ∈ Cg2 :: [It2] ++ H1.all, s.heap.get? b = none ∧ 709 ≤ b := fun b hb => by
        simp only [List.mem_append, List.mem_cons, List.not_mem_nil, or_false] at hb
        rcases hb with (rfl | rfl) | hb
        · refine ⟨deadL _ nCg2.2 ?_, nCg2.2⟩
          cases q : h₁₄.get? b with
          | none => rfl
          | some o => exact absurd rfl (nCg2.ne (e1417 _ _ (b709 _ nCg2.2) q))
        · exact ⟨deadL _ nI2.2 (dead e₁₅.keep nI2.1), nI2.2⟩
        · exact ⟨dead m₆.keep (H1new b hb), H1all b hb⟩
      have e13 : Ext [647] s.heap h₁₃ := (Ext.of_keep m₉.keep _).app e913
      have eT : Ext (frs outer ++ [647]) s.heap h₁₉ := by
        have t1 : Ext (frs outer ++ [647]) s.heap h₁₃ := e13.mono fun b hb => List.mem_append_right _ hb
        have t2 : Ext (frs outer ++ [647]) s.heap h₁₄ := t1.app' e₁₄ fun b hb => (F14 b hb).imp (List.mem_append_left _) id
        have t3 : Ext (frs outer ++ [647]) s.heap h₁₈ := t2.app (e1418.mono fun b hb => List.mem_append_right _ hb)
        exact t3.app' e₁₉ fun b hb => .inr (F19 b hb).1
      have Z₁₉ : Gl w h₁₉ := Z₁₈.ext e₁₉ fun b hb => (F19 b hb).2
      have fr647 : ∀ b ∈ frs outer, b ∉ ([647] : List Nat) := fun b hb => b709 _ (hSb b hb).1
      have slT : Slots (frs outer) s.heap h₁₉ := (((Slots.of e13 fr647).trans (sl₁₄.mono fun b hb => .tail _ hb)).trans (Slots.of e1418 fr647)).trans (Slots.of e₁₉ fun b hb q => by
        obtain ⟨o, ho⟩ := liveO b hb
        exact dead_ne (F19 b q).1 ho rfl)
      refine h h₁₉ g₁₉ _ H2 eT Z₁₉ slT (((eg₁₃.new eg₁₄ hkg).trans eg₁₅).trans (eg₁₈.new eg₁₉ hkg2)) ⟨AE.I, AE.J, ?_, ?_, ?_, ?_, ?_⟩
      · rw [sh_ids AE.sh, hids]
      · exact (show H2.more = H1.more from congrArg (·.2.2.2.2.2.1) AE.sh).trans ((show H1.more = H.more from congrArg (·.2.2.2.2.2.1) AD.hd).trans r2)
      · exact (show H2.vs = H1.vs from congrArg (·.2.2.2.2.2.2.1) AE.sh).trans ((show H1.vs = H.vs from congrArg (·.2.2.2.2.2.2) AD.hd).trans r3)
      · intro b hb
        rcases AE.gr b hb with q | q
        · exact dead m₆.keep (H1new b q)
        · exact deadL b (AE.I.own b hb) (dead18 b (AE.I.own b hb) q)
      · intro x y
        rw [AE.has, AD.has]
        have noH : ¬ H.has x y := fun ⟨r, hr, _⟩ => by rw [r1] at hr; cases hr
        constructor
        · rintro (q | ⟨j, hj, q⟩)
          · exact absurd q noH
          · have lt : j < G.edges.length := by rw [← hsz]; exact hj
            have hmem : G.edges[j]! ∈ G.edges := by rw [getElem!_pos G.edges j lt]; exact List.getElem_mem lt
            have hhas := edges_sound hmem
            rcases q with ⟨q1, q2⟩ | ⟨q1, q2⟩
            · exact ⟨_, _, hhas, q1, q2⟩
            · exact ⟨_, _, hsym _ _ hhas, q1, q2⟩
        · rintro ⟨u, v, q, rfl, rfl⟩
          right
          have ids : G.ids.Nodup := I.ns
          rcases (edges_has ids J hsym).mp q with q | q
          · obtain ⟨j, hj, e⟩ := List.mem_iff_getElem.mp q
            refine ⟨j, by rw [hsz]; exact hj, .inl ?_⟩
            rw [getElem!_pos G.edges j hj, e]
            exact ⟨rfl, rfl⟩
          · obtain ⟨j, hj, e⟩ := List.mem_iff_getElem.mp q
            refine ⟨j, by rw [hsz]; exact hj, .inr ?_⟩
            rw [getElem!_pos G.edges j hj, e]
            exact ⟨rfl, rfl⟩
end
end Mine
end W37
section W38
open PySem PySem.W PyProof.Rows PySem.Calls PySem.Spec
set_option maxRecDepth 100000
set_option maxHeartbeats 8000000
namespace Mine
section
variable {prog : Program} {w : World} {A : Around} {E : Value → Shared → Prop} {s : Shared} {G : Gr} {env : Env}
theorem as_Subscript {M : Model} {o i : Expr} {pos : Pos} {v : Value} {Q : Unit → Shared → Prop} (h : wpAny M A (eval o env) (fun ov s₁ => wpAny M A (eval i env) (fun iv s₂ => wpAny M A (setItem ov iv v) Q E s₂) E s₁) E s)
    (hr : ∀ ov iv, (release (match i with | .Slice _ _ none _ => [iv, v, ov] | _ => [v, ov, iv]) [] : Sem Unit) = release [v, ov, iv] [] := by intros; rfl) : wpAny M A (assign (.Subscript o i pos) env v) Q E s := by
  rw [assign_Subscript]
  refine wpAny_bind (wpAny_holding (wpAny_mono h (fun ov s₁ h₁ => wpAny_bind (wpAny_holding (wpAny_mono h₁ (fun iv s₂ h₂ => wpAny_bind (wpAny_standAt (wpAny_bind (wpAny_holding (wpAny_mono h₂ (fun u s₃ h₃ => ?_) fun _ _ x => x))))) fun _ _ x => x))) fun _ _ x => x))
  cases u
  exact fun Γ p hΓ => by
    rw [Sem.wp_release]
    exact h₃
theorem sp_add_node (Z : Gl w s.heap) (I : GraphAt prog w s.heap G) (J : Gi G) (hroom : A.depth + 1 < recursionLimit) (hlen : G.rows.length < 100) {k : Int} {t : Tok} (hk : k ∉ G.ids) {Q : Value → Shared → Prop}
    (h : ∀ h' tk a b, Ext [G.ad, G.nd] s.heap h' → New s.heap a → New s.heap b → GraphAt prog w h' (G.addN k a b) → Q .none { s with heap := h', toks := tk }) : wpAny (model prog w) A (call (.ref 426) [.ref G.g, .int k t]) Q E s := by
  refine enterA' Z (Nat.lt_of_succ_lt hroom) (by rfl) (by kernel_rfl) (o := { cls := .type "dict", data := .dict #[] }) (binds := fun d => [("self", .ref G.g), ("node_for_adding", .int k t), ("attr", .ref d)]) (by intro d; kernel_rfl) (by rfl) (by kernel_rfl) (by intro d; kernel_rfl) (by rfl) (by rfl) ?_
  intro d L h₁ tk m hL hd hdL hx n₁
  have Z₁ := Z.k m
  have I₁ := I.k m
  have rid : G.rows.length ≤ 2 ^ 24 := by omega
  have nv : (valueAt G.nodes k).isSome = false := by
    rw [valueAt_none (by simpa [Gr.nodes, Gr.ids, Function.comp_def] using hk)]; rfl
  refine wpAny_execs_cons <| wpAny_If <| wpAny_isTrue_Compare1 <| nmL n₁ rfl rfl <| gA n₁ Z₁ I₁ (.ref G.nd) fun t₁ => inN (I₁.lo mem_nd) I₁.node nv fun t₂ => wpAny_truthy_bool ?_
  simp only [Bool.not_false, if_true]
  refine wpAny_execs_cons <| wpAny_If <| wpAny_isTrue_Compare1 <| nmL n₁ rfl rfl <| wpAny_Constant_none <| wpAny_is_other (by rfl) (by intro q; cases q) <| wpAny_truthy_bool ?_
  simp only [Bool.false_eq_true, if_false]
  refine wpAny_execs_nil ?_
  refine wpAny_execs_cons <| wpAny_Assign_Subscript <| MethodCall_ <| nmL n₁ rfl rfl <| ga_meth Z₁ I₁ (f := 359) (by kernel_rfl) (by kernel_rfl) (I₁.bare (by decide)) <| cwF0 Z₁ (by kernel_rfl) <| sp_inner Z₁ hroom fun b h₂ tk₂ e₂ newb hb₂ => ?_
  replace e₂ : Ext [] h₁ h₂ := e₂
  replace newb : New h₁ b := newb
  have Z₂ := Z₁.k e₂
  have I₂ := I₁.k e₂
  have n₂ := n₁.keeps e₂.keep
  refine at_ h₂ s.gens s.drawn s.os fun t₂ => ?_
  refine gA n₂ Z₂ I₂ (.ref G.ad) fun t₃ => nmL n₂ rfl rfl <| wpAny_setItem_pairs (knd := intKind prog w) (k := k) (intKind_is _ _ _ _) I₂.adj (fun h₃ ha₃ s₃ => ?_) (by simp only [Gr.adjs, List.length_map]; exact Nat.le_trans rid (Nat.le_of_ble_eq_true rfl))
  replace s₃ : Heap.SameBut G.ad h₂ h₃ := s₃
  have e₃ : Ext [G.ad] h₂ h₃ := Ext.of_same s₃
  refine at_ h₃ s.gens s.drawn s.os fun t₃ => ?_
  have nodm := I.nod
  simp only [Gr.muts, List.nodup_cons, List.mem_cons, not_or, List.mem_map, not_exists, not_and] at nodm
  obtain ⟨⟨q1, q2, q3⟩, ⟨q4, q5⟩, q6, q7⟩ := nodm
  have gad : G.g ≠ G.ad := fun q => I.fix G.g (Gr.fixed_iff.mpr (.inl rfl)) (Gr.muts_iff.mpr (.inr (.inr (.inl q))))
  have B₃ : GB prog w h₃ G := I₂.gb.ext e₃ (fun q => gad (List.mem_singleton.mp q)) (fun q => q2 (List.mem_singleton.mp q))
  have Z₃ : Gl w h₃ := Z₂.ext e₃ (by intro a ha; rw [List.mem_singleton.mp ha]; exact I.own _ mem_ad)
  have Lad : L ≠ G.ad := fun q => I.all_new hL (q ▸ mem_ad)
  have Lnd : L ≠ G.nd := fun q => I.all_new hL (q ▸ mem_nd)
  have n₃ : h₃.Ns L _ := n₂.at' fun o e => e₃ _ _ (fun q => Lad (List.mem_singleton.mp q)) e
  refine wpAny_execs_cons <| wpAny_Assign_two <| MethodCall_ <| nmL n₃ rfl rfl <| gb_meth Z₃ B₃ (f := 345) (by kernel_rfl) (by kernel_rfl) (I₁.bare (by decide)) <| cwF0 Z₃ (by kernel_rfl) <| sp_node_attr Z₃ hroom fun a h₄ tk₄ e₄ newa ha₄ => ?_
  replace e₄ : Ext [] h₃ h₄ := e₄
  replace newa : New h₃ a := newa
  refine wpAny_assign_Name (stL (n₃.keeps e₄.keep) rfl fun h₅ n₅ s₅ => ?_)
  replace s₅ : Heap.SameBut L h₄ h₅ := s₅
  have e₅ : Ext [L] h₄ h₅ := Ext.of_same s₅
  refine at_ h₅ s.gens s.drawn s.os fun t₅ => ?_
  have notL : ∀ b ∈ G.all, b ∉ ([L] : List Nat) := fun b hb q => I.all_new hL (List.mem_singleton.mp q ▸ hb)
  have B₅ : GB prog w h₅ G := (B₃.ext e₄ (fun h => nomatch h) (fun h => nomatch h)).ext e₅ (notL _ (List.mem_append_right _ (Gr.fixed_iff.mpr (.inl rfl)))) (notL _ mem_gd)
  have Z₅ : Gl w h₅ := (Z₃.k e₄).off Z fun a _ ⟨_, q⟩ o e => e₅ _ _ (fun r => by rw [List.mem_singleton.mp r, hL] at q; cases q) e
  have hnd₅ : h₅.DictOf (intKind prog w) G.nd G.nodes := DictOf.ext (DictOf.ext (DictOf.ext I₂.node e₃ fun q => q4 (List.mem_singleton.mp q)) e₄ (fun h => nomatch h)) e₅ (notL _ mem_nd)
  refine as_Subscript <| gB n₅ Z₅ B₅ (.ref G.nd) fun t₆ => nmL n₅ rfl rfl <| wpAny_setItem_pairs (knd := intKind prog w) (k := k) (intKind_is _ _ _ _) hnd₅ (fun h₆ hn₆ s₆ => ?_) (by simp only [Gr.nodes, List.length_map]; exact Nat.le_trans rid (Nat.le_of_ble_eq_true rfl))
  replace s₆ : Heap.SameBut G.nd h₅ h₆ := s₆
  have e₆ : Ext [G.nd] h₅ h₆ := Ext.of_same s₆
  have aL : a ≠ L := by obtain ⟨o, ho⟩ := nsLive n₃; exact newa.ne ho
  have and' : a ≠ G.nd := by
    have : h₃.DictOf (intKind prog w) G.nd G.nodes := DictOf.ext I₂.node e₃ fun q => q4 (List.mem_singleton.mp q)
    obtain ⟨o, ho⟩ := dictLive this; exact newa.ne ho
  have aad : a ≠ G.ad := by obtain ⟨o, ho⟩ := dictLive ha₃; exact newa.ne ho
  have bad : b ≠ G.ad := by obtain ⟨o, ho⟩ := dictLive I₁.adj; exact newb.ne ho
  have bnd : b ≠ G.nd := by obtain ⟨o, ho⟩ := dictLive I₁.node; exact newb.ne ho
  have bL : b ≠ L := by obtain ⟨o, ho⟩ := nsLive n₁; exact newb.ne ho
  have bd : d ≠ b := (newb.ne hx).symm
  have hb₃ : h₃.get? b = some { cls := .type "dict", data := .dict #[] } := e₃ _ _ (fun q => bad (List.mem_singleton.mp q)) hb₂
  have ab : a ≠ b := newa.ne hb₃
  have dall : ∀ x ∈ G.all, d ≠ x := fun x hx' q => I.all_new hd.1 (q ▸ hx')
  have d₃ : h₃.get? d = some { cls := .type "dict", data := .dict #[] } := e₃ _ _ (fun q => dall _ mem_ad (List.mem_singleton.mp q)) (e₂.keep _ _ hx)
  have da : a ≠ d := newa.ne d₃
  have d₆ : h₆.DictOf (strKind prog w) d [] := dictOf_empty (e₆ _ _ (fun q => dall _ mem_nd (List.mem_singleton.mp q)) (e₅ _ _ (fun q => hdL (List.mem_singleton.mp q)) (e₄.keep _ _ d₃)))
  have a₆ : h₆.DictOf (strKind prog w) a [] := dictOf_empty (e₆ _ _ (fun q => and' (List.mem_singleton.mp q)) (e₅ _ _ (fun q => aL (List.mem_singleton.mp q)) ha₄))
  have n₆ : h₆.Ns L _ := n₅.at' fun o e => e₆ _ _ (fun q => Lnd (List.mem_singleton.mp q)) e
  refine at_ h₆ s.gens s.drawn s.os fun t₆ => ?_
  refine wpAny_execs_cons <| wpAny_Expr_any <| MethodCall_ <| nmL n₆ rfl rfl <| gmD a₆ PySem.F.slot_dict_update PySem.F.type_dict_update <| cwB <| wpAny_items_cons <| nmL n₆ rfl rfl <| wpAny_items_nil <| dupd (by exact da) (notMods hd.2) a₆ (Nat.zero_le _) d₆ fun h₇ ha₇ s₇ => wpAny_execs_nil <| wpAny_execs_nil ?_
  replace s₇ : Heap.SameBut a h₆ h₇ := s₇
  have e₇ : Ext [a] h₆ h₇ := Ext.of_same s₇
  have da0 : s.heap.get? a = none := by
    cases q : s.heap.get? a with
    | none => rfl
    | some o => exact absurd rfl (newa.ne (e₃ _ _ (fun r => aad (List.mem_singleton.mp r)) (e₂.keep _ _ (m.keep _ _ q))))
  have db0 : s.heap.get? b = none := dead m.keep newb.1
  have eAll : Ext [G.ad, G.nd] s.heap h₇ := by
    have x1 : Ext [G.ad, G.nd] s.heap h₄ := ((Ext.of_keep (m.app e₂).keep _).app (e₃.mono fun b hb => by rw [List.mem_singleton.mp hb]; simp)).app (Ext.of_keep e₄.keep _)
    exact ((x1.app' e₅ fun b hb => .inr (by rw [List.mem_singleton.mp hb]; exact hL)).app (e₆.mono fun b hb => by rw [List.mem_singleton.mp hb]; simp)).app' e₇ fun b hb => .inr (by rw [List.mem_singleton.mp hb]; exact da0)
  have na7 : ∀ b : Nat, a ≠ b → b ∉ ([a] : List Nat) := fun b n q => n (List.mem_singleton.mp q).symm
  have nkA : k ∉ (G.adjs.map (·.1)) := by simpa [Gr.adjs, Function.comp_def, Gr.ids] using hk
  have nkN : k ∉ (G.nodes.map (·.1)) := by simpa [Gr.nodes, Function.comp_def, Gr.ids] using hk
  rw [stored_new nkA] at ha₃
  rw [stored_new nkN] at hn₆
  refine h h₇ _ a b eAll ⟨da0, newa.2⟩ ⟨db0, newb.2⟩ (I.addN eAll ?_ (DictOf.ext hn₆ e₇ (na7 _ and')) ?_ ha₇ (I.all_new db0) (I.all_new da0) ab newb.2 newa.2)
  · exact DictOf.ext (DictOf.ext (DictOf.ext (DictOf.ext ha₃ e₄ (fun h => nomatch h)) e₅ (notL _ mem_ad)) e₆ (fun q => q4 (List.mem_singleton.mp q).symm)) e₇ (na7 _ aad)
  · exact DictOf.ext (DictOf.ext (DictOf.ext (DictOf.ext (dictOf_empty hb₃) e₄ (fun h => nomatch h)) e₅ (fun q => bL (List.mem_singleton.mp q))) e₆ (fun q => bnd (List.mem_singleton.mp q))) e₇ (na7 _ ab)
end
end Mine
end W38
section W39
open PySem PySem.W PyProof.Rows PySem.Calls PySem.Spec
set_option maxRecDepth 100000
set_option maxHeartbeats 8000000
namespace Mine
section
variable {prog : Program} {w : World} {A : Around} {s : Shared} {env : Env}
theorem for_itrC {it : Value} {own dep Gs : List Nat} {tgt : Expr} {N : Nat} {P : Nat → Value → Heap → Prop} {St : Nat → Heap → Array GenState → Prop} {body : List Stmt} {R : Result → Shared → Prop} (W : Itr prog w A it own dep Gs tgt N P St)
    (Inv : Nat → Heap → Array GenState → Prop)
    (step : ∀ i h g tk v h₁ g₁ fv, i < N → Inv i h g → Itm dep h (P i) v h₁ fv → St (i + 1) h₁ g₁ → Ext own h h₁ → GM Gs g g₁ →
      wpAny (model prog w) A (assign tgt env v) (fun _ s₂ => wpC (model prog w) A (execs body env) (fun f s₃ => f = .next ∧ ∃ h' g' tk', s₃ = { s with heap := h', gens := g', toks := tk' } ∧ Inv (i + 1) h' g' ∧ St (i + 1) h' g') (fun _ _ => False) s₂) (fun _ _ => False)
        { s with heap := h₁, gens := g₁, toks := tk })
    (hR : ∀ h g tk h₁ g₁, Inv N h g → Ext own h h₁ → GM Gs g g₁ → R (.ok .next) { s with heap := h₁, gens := g₁, toks := tk })
    (st : St 0 s.heap s.gens) (inv : Inv 0 s.heap s.gens) : codeC (model prog w) A (.forLoop tgt it body [] env) R s := by
  refine c_loop rfl (fun n s' => ∃ i h g tk, s' = { s with heap := h, gens := g, toks := tk } ∧ i ≤ N ∧ n = N - i ∧ St i h g ∧ Inv i h g) (fun n s' hI => ?_) N ⟨0, s.heap, s.gens, s.toks, rfl, Nat.zero_le _, rfl, st, inv⟩
  show wpC _ _ ((forTurn tgt it body [] env).onRaise (fun x => do noteFrame x env; theTreesLotGoes x)) _ _ s'
  refine c_onRaise (wpC.mono (E := fun _ _ => False) ?_ (fun _ _ x => x) fun _ _ x => x.elim)
  simp only [forTurn]
  obtain ⟨i, h, g, tk, rfl, hi, rfl, hst, hinv⟩ := hI
  rcases Nat.lt_or_ge i N with hlt | hge
  · refine c_stand (c_bindA (wpAny_onRaise (wpAny_mono (W.next (fun _ _ => False) _ _ i hlt hst fun v h' g' tk' fv hP hst' he hg => step i h g tk' v h' g' fv hlt hinv hP hst' he hg) (fun r s₁ hr => ?_) fun _ _ x => x.elim)))
    cases r with
    | none => exact hr.elim
    | some v =>
      refine c_bindA (wpAny_mono hr (fun _ s₁ hr => ?_) fun _ _ x => x)
      refine c_bindA (wpAny_mono hr (fun _ s₂ h₂ => c_bind (h₂.mono (fun f s₃ h₃ => ?_) fun _ _ x => x)) fun _ _ x => x)
      obtain ⟨rfl, h', g', tk', rfl, hinv', hst'⟩ := h₃
      exact c_pure (.inl ⟨rfl, N - (i + 1), by omega, i + 1, h', g', tk', rfl, hlt, rfl, hst', hinv'⟩)
  · obtain rfl : i = N := Nat.le_antisymm hi hge
    refine c_stand (c_bindA (wpAny_onRaise (wpAny_mono (W.done (fun _ _ => False) (fun s₁ => R (.ok .next) s₁) _ hst fun h' g' tk' he hg => hR h g tk' h' g' hinv he hg) (fun r s₁ hr => ?_) fun _ _ x => x.elim)))
    cases r with
    | none => exact c_pure (.inr ⟨rfl, rfl, toCC (codeAny_block (wpAny_execs_nil hr))⟩)
    | some v => exact hr.elim
end
end Mine
end W39
section W40
open PySem PySem.W PyProof.Rows PySem.Calls PySem.Spec
set_option maxRecDepth 100000
set_option maxHeartbeats 8000000
namespace Mine
section
variable {prog : Program} {w : World}
theorem src_list {D : Nat} {items : Array Value} {P : Nat → Value → Heap → Prop} {h : Heap} {g : Array GenState} {dep₀ : List Nat} (hD : h.IsList D items) (hl : ∀ b ∈ dep₀, ∃ o, h.get? b = some o)
    (hP : ∀ i v h', items[i]? = some v → Agr dep₀ h h' → P i v h') : Src prog w (.ref D) [] (D :: dep₀) [] items.size P h g := by
  intro A E Q s hh hd ag agg hQ
  have hD' : s.heap.IsList D items := hD.at fun o e => ag D (.head _) o e
  refine wpAny_pyIter_list hD' ?_
  generalize hh₁ : Heap.push _ _ = h₁
  have e₁ : Ext [] s.heap h₁ := hh₁ ▸ Ext.push _ _
  have hit : h₁.IsListIter s.heap.objs.size D 0 := hh₁ ▸ ⟨_, Heap.get?_push_size _ rfl, rfl, rfl⟩
  have dI : s.heap.get? s.heap.objs.size = none := get?_size _
  generalize s.heap.objs.size = I at hit dI ⊢
  have live : ∀ b ∈ dep₀, ∃ o, s.heap.get? b = some o := fun b hb => let ⟨o, ho⟩ := hl b hb; ⟨o, ag b (.tail _ hb) o ho⟩
  have hne : D ≠ I := fun q => by obtain ⟨o, ho, _⟩ := hD'; rw [q, dI] at ho; cases ho
  have hn : ∀ b ∈ dep₀, b ∉ ([I] : List Nat) := fun b hb q => by obtain ⟨o, ho⟩ := live b hb; rw [List.mem_singleton.mp q, dI] at ho; cases ho
  refine hQ (.ref I) [I] (([I, D] : List Nat) ++ dep₀) h₁ s.toks _ (fun x p => ((Itr.ofWalks (Walks.list hh I D hne items) (fun i h st b hb => let ⟨o, ho, _⟩ := st.1; ⟨o, by rw [List.mem_singleton.mp hb]; exact ho⟩) x p).wide fun b hb => List.mem_append_left _ hb).onto (P' := P) (dep₀ := dep₀) h (fun b hb => List.mem_append_right _ hb) hn fun i v h₂ h₃ hi hv a => hP i v h₃ hv a)
    ⟨⟨hit, hD'.at fun o e => e₁.keep _ _ e⟩, fun b hb o e => e₁.keep _ _ (ag b (.tail _ hb) o e)⟩ e₁ (fun b hb => by rw [List.mem_singleton.mp hb]; exact .inr dI) (fun b hb => nomatch hb) (fun b hb => ?_) (fun b hb => ?_)
  · simp only [List.mem_append, List.mem_cons, List.not_mem_nil, or_false] at hb
    rcases hb with (rfl | rfl) | hb
    · exact .inr dI
    · exact .inl (.head _)
    · exact .inl (.tail _ hb)
  · simp only [List.mem_append, List.mem_cons, List.not_mem_nil, or_false] at hb
    rcases hb with (rfl | rfl) | hb
    · obtain ⟨o, ho, _⟩ := hit; exact ⟨o, ho⟩
    · obtain ⟨o, ho, _⟩ := hD'; exact ⟨o, e₁.keep _ _ ho⟩
    · obtain ⟨o, ho⟩ := live b hb; exact ⟨o, e₁.keep _ _ ho⟩
theorem src_range {r : Nat} {a b : Int} {n : Nat} {t u v : Tok} {h : Heap} {g : Array GenState} (hr : IsRange h r a b 1 t u v) (hsmall : Builtin.Range.small a b 1 = true) (hn : Builtin.Range.rangeSize a b 1 = (n : Int)) :
    Src prog w (.ref r) [] [r] [] n (NodeIs prog w false fun i => a + i) h g := by
  intro A E Q s hh hd ag agg hQ
  have hr' : IsRange s.heap r a b 1 t u v := ag r (.head _) _ hr
  refine wpAny_pyIter_range hr' hsmall ?_
  rw [hn]
  generalize hh₁ : Heap.push _ _ = h₁
  have e₁ : Ext [] s.heap h₁ := hh₁ ▸ Ext.push _ _
  have hit : IsRangeIter h₁ s.heap.objs.size a n 1 := hh₁ ▸ Heap.get?_push_size _ rfl
  have dI : s.heap.get? s.heap.objs.size = none := get?_size _
  generalize s.heap.objs.size = I at hit dI ⊢
  have W : ∀ x p, Itr prog w A (.ref I) [I] [I, r] [] (.Name x p) n (NodeIs prog w false fun i => a + i) (fun i h₂ _ => IsRangeIter h₂ I (a + (i : Nat) * 1) ((n : Int) - (i : Nat)) 1 ∧ Agr [] h h₂) := fun x p =>
    have := ((Itr.ofWalks (Walks.range (prog := prog) (w := w) hh I a 1 n) (fun i h st b hb => by cases List.mem_singleton.mp hb; exact ⟨_, st⟩) x p).wide (dep' := [I, r]) fun b hb => by rw [List.mem_singleton.mp hb]; exact .head _).onto (P' := NodeIs prog w false fun i => a + i) (dep₀ := []) h (fun b hb => nomatch hb) (fun b hb => nomatch hb) fun i v h₂ h₃ hi ⟨t, ht⟩ _ => by
        unfold NodeIs
        rw [if_neg (by decide)]
        exact ⟨t, by rw [ht, Int.mul_one]⟩
    this
  refine hQ (.ref I) [I] [I, r] h₁ s.toks _ W ⟨?_, fun _ h => nomatch h⟩ e₁ (fun b hb => by rw [List.mem_singleton.mp hb]; exact .inr dI) (fun b hb => nomatch hb) (fun b hb => ?_) (fun b hb => ?_)
  · show IsRangeIter h₁ I (a + ((0 : Nat) : Int) * 1) ((n : Int) - ((0 : Nat) : Int)) 1
    simpa using hit
  · simp only [List.mem_cons, List.not_mem_nil, or_false] at hb
    rcases hb with rfl | rfl
    · exact .inr dI
    · exact .inl (.head _)
  · simp only [List.mem_cons, List.not_mem_nil, or_false] at hb
    rcases hb with rfl | rfl
    · exact ⟨_, hit⟩
    · exact ⟨_, e₁.keep _ _ hr'⟩
end
end Mine
end W40
section W41
open PySem PySem.W PyProof.Rows PySem.Calls PySem.Spec
set_option maxRecDepth 100000
set_option maxHeartbeats 8000000
namespace Mine
section
variable {prog : Program} {w : World} {A : Around} {E : Value → Shared → Prop} {s : Shared} {env : Env}
theorem eg_gen {elts : List Expr} {kt kt2 : Nat} {pt pu pv po pt2 pos : Pos} {scope : Scope} {c D : Nat} {N : Int} {tn : Tok} {acc : Array Value} {cc : Nat} {es : List (Int × Int)} {u v : Nat → Int} {m : Str → Option Value} {Q : Value → Shared → Prop}
    (hsc : scope = { kind := .function, names := [((".0" : Str), .local), (("u" : Str), .local), (("v" : Str), .local), (("n" : Str), .free)], isGenerator := true, isCoroutine := false })
    (hcode : env.code = .ref 675) (hg : env.globals = mainGlobals) (hbi : env.builtins = builtinsNs) (hk : env.scope.kind = .function) (hO : env.kindOf "old_edges" = some .local) (hclos : closureFor scope env = pure [(("n" : Str), (c : Addr))])
    (hh : A.handled = none) (hroom : A.depth < recursionLimit)
    (Z : Gl w s.heap) (n : s.heap.Ns env.locals m) (hm : m "old_edges" = some (.ref D)) (nD : 709 ≤ D) (c9 : 709 ≤ c)
    (hD : s.heap.get? D = some { cls := .type "list", data := .seq acc cc }) (hacc : ∀ j v, acc[j]? = some v → PE es j v s.heap) (hc : s.heap.IsCell c (some (.int N tn)))
    (he : ∀ (A' : Around) (E' : Value → Shared → Prop) (Q' : List Value → Shared → Prop) (s' : Shared) (C : Nat) (code : Value) (m' : Str → Option Value) (i : Nat) (tu tv : Tok), i < acc.size → s'.heap.IsCell c (some (.int N tn)) → s'.heap.Ns C m' → m' "u" = some (.int (es[i]!).1 tu) → m' "v" = some (.int (es[i]!).2 tv) →
      (∀ t1 t2 tk, Q' [.int (u i) t1, .int (v i) t2] { s' with toks := tk }) → wpAny (model prog w) A' (spliced (backTo pt (starEach elts (genEnv scope [(("n" : Str), (c : Addr))] C code builtinsNs env)))) Q' E' s')
    (h : ∀ a own dep k h' g' tk, Src prog w (.ref a) own dep [k] acc.size (EdgeIs prog w u v) h' g' → Ext [671] s.heap h' → GM [] s.gens g' → Gl w h' → s.gens[k]? = none → (∀ b ∈ dep, ∃ o, h'.get? b = some o) → (∀ b ∈ own, b ∈ dep) → (∀ b ∈ own, New s.heap b) →
      (∀ b ∈ dep, New s.heap b ∨ b < 709 ∨ b = D ∨ b = c ∨ ∃ o, s.heap.get? b = some o ∧ o.cls = .type "tuple") → Q (.ref a) { s with heap := h', gens := g', toks := tk }) :
    wpAny (model prog w) A (eval (.GeneratorExp (.Tuple elts kt pt) [⟨.Tuple [.Name "u" pu, .Name "v" pv] kt2 pt2, .Name "old_edges" po, [], 0⟩] scope pos) env) Q E s := by
  subst hsc
  refine gen_make (w := w) (c := 675) (Pl := 671) (cl := [(("n" : Str), (c : Addr))]) hcode (by kernel_rfl) (by decide) hg hbi (by rfl) hclos (by rfl) (by rfl) (by rfl) hroom (fun _ => rfl) ?_
  refine nmL n hO hm (hk := hk) ?_
  refine wpAny_pyIter_list (items := acc) ⟨_, hD, rfl, _, rfl⟩ ?_
  generalize hh₁ : Heap.push _ _ = h₁
  have e₁ : Ext [] s.heap h₁ := hh₁ ▸ Ext.push _ _
  have nI : New s.heap s.heap.objs.size := New.pos Z
  have hit : h₁.IsListIter s.heap.objs.size D 0 := hh₁ ▸ ⟨_, Heap.get?_push_size _ rfl, rfl, rfl⟩
  dsimp only
  generalize s.heap.objs.size = It at nI hit ⊢
  have Z₁ := Z.k e₁
  refine ⟨Z₁, fun h₂ code e₂ Z₂ => ?_⟩
  have b671 : ∀ b : Nat, 709 ≤ b → b ∉ ([671] : List Nat) := fun b hb q => by rw [List.mem_singleton.mp q] at hb; omega
  have e02 : Ext [671] s.heap h₂ := (Ext.of_keep e₁.keep _).app e₂
  have c₂ : h₂.IsCell c (some (.int N tn)) := let ⟨o, a, b⟩ := hc; ⟨o, e02 _ _ (b671 _ c9) a, b⟩
  have hit₂ : h₂.IsListIter It D 0 := hit.at fun o e => e₂ _ _ (b671 _ nI.2) e
  have hD₂ : h₂.IsList D acc := ⟨_, e02 _ _ (b671 _ nD) hD, rfl, _, rfl⟩
  have DI : It ≠ D := nI.ne hD
  have tnot : ∀ T : Nat, (∃ o, s.heap.get? T = some o ∧ o.cls = .type "tuple") → T ∉ ([671] : List Nat) := fun T ⟨o, ho, hc⟩ q => by
    rw [List.mem_singleton.mp q] at ho
    obtain ⟨ps, hps, _⟩ := Z.pool 671 (by decide)
    rw [hps] at ho; cases ho; cases hc
  have acc₂ : ∀ j v, acc[j]? = some v → PE es j v h₂ := fun j v q => by
    obtain ⟨T, tu, tv, rfl, hT⟩ := hacc j v q
    exact ⟨T, tu, tv, rfl, e02 _ _ (tnot T ⟨_, hT, rfl⟩) hT⟩
  let tl : List Nat := acc.toList.filterMap fun v => match v with | .ref T => some T | _ => none
  have mtl : ∀ (j T : Nat), acc[j]? = some (.ref T) → T ∈ tl := fun j T q => List.mem_filterMap.mpr ⟨.ref T, by
    have := Array.mem_of_getElem? q
    simpa using this, rfl⟩
  have tlT : ∀ T ∈ tl, ∃ j : Nat, acc[j]? = some (.ref T) := fun T q => by
    obtain ⟨v, hv, e⟩ := List.mem_filterMap.mp q
    obtain ⟨j, hj⟩ := List.mem_iff_getElem?.mp hv
    refine ⟨j, ?_⟩
    cases v <;> simp at e
    subst e
    simpa using hj
  have tlive : ∀ T ∈ tl, ∃ o, s.heap.get? T = some o ∧ o.cls = .type "tuple" := fun T q => by
    obtain ⟨j, hj⟩ := tlT T q
    obtain ⟨T', tu, tv, e, hT⟩ := hacc j _ hj
    cases e; exact ⟨_, hT, rfl⟩
  have niI : ∀ b o, s.heap.get? b = some o → b ∉ ([It] : List Nat) := fun b o e q => nI.ne e (List.mem_singleton.mp q).symm
  refine ⟨[It], [It, D] ++ (tl ++ [c]), acc.size, (fun i v _ => acc[i]? = some v), EdgeIs prog w u v, _,
    fun h => (∀ (j : Nat) (v : Value), acc[j]? = some v → PE es j v h) ∧ h.IsCell c (some (.int N tn)),
    fun A' ha => (Itr.listT ha It D DI acc (fun i v q => by obtain ⟨T, _, _, e, _⟩ := hacc i v q; exact ⟨T, e⟩) _ _ _).wide fun b hb => List.mem_append_left _ hb, ⟨hit₂, hD₂⟩, ⟨acc₂, c₂⟩, ?_, ?_, ?_, ?_, ?_⟩
  · intro b hb
    simp only [List.mem_append, List.mem_cons, List.not_mem_nil, or_false] at hb
    rcases hb with (rfl | rfl) | hb | rfl
    · obtain ⟨o, ho, _⟩ := hit₂; exact ⟨o, ho⟩
    · obtain ⟨o, ho, _⟩ := hD₂; exact ⟨o, ho⟩
    · obtain ⟨o, ho, hc⟩ := tlive b hb
      exact ⟨o, e02 _ _ (tnot b ⟨o, ho, hc⟩) ho⟩
    · obtain ⟨o, ho, _⟩ := c₂; exact ⟨o, ho⟩
  · intro q
    have := nI.2
    rw [← List.mem_singleton.mp q] at this
    exact absurd this (by decide)
  · intro h h' ⟨b0, b1⟩ kk
    refine ⟨fun j v q => ?_, let ⟨o, a, b⟩ := b1; ⟨o, kk _ (by simp) (by obtain ⟨o', h', _⟩ := hc; exact niI _ _ h') o a, b⟩⟩
    obtain ⟨T, tu, tv, rfl, hT⟩ := b0 j v q
    have mT := mtl j T q
    exact ⟨T, tu, tv, rfl, kk T (by simp [mT]) (by obtain ⟨o', h', _⟩ := tlive T mT; exact niI _ _ h') _ hT⟩
  · intro Cg A' E' i v s₁ mm fv ha hi hP hCf hCd ⟨b0, b1⟩ hn
    have hPi : acc[i]? = some v := hP s₁.heap fun _ _ _ e => e
    obtain ⟨T, tu, tv, rfl, hT⟩ := b0 i v hPi
    replace hCd : Cg ∉ [It, D] ++ (tl ++ [c]) := hCd
    have cC : c ≠ Cg := fun q => hCd (by rw [← q]; simp)
    refine unp2I ha ⟨_, hT, rfl, _, rfl⟩ hn rfl rfl rfl fun h₅ tk₅ e₅ n₅ => ?_
    replace e₅ : Ext [Cg] s₁.heap h₅ := e₅
    have kC : ∀ b : Nat, b ≠ Cg → b ∉ ([Cg] : List Nat) := fun b n q => n (List.mem_singleton.mp q)
    have c1 : h₅.IsCell c (some (.int N tn)) := let ⟨o, a, b⟩ := b1; ⟨o, e₅ _ _ (kC _ cC) a, b⟩
    refine wpAny_Tuple <| he _ _ _ _ Cg code _ i tu tv hi c1 n₅ rfl rfl fun t1 t2 tk => ⟨(by show 2 ≤ 2 ^ 24; decide), ?_⟩
    generalize hh₇ : Heap.push _ _ = h₇
    have e₇ : Ext [] h₅ h₇ := hh₇ ▸ Ext.push _ _
    have hT₇ : Tup h₇ h₅.objs.size #[.int (u i) t1, .int (v i) t2] := by
      rw [← hh₇]
      exact Heap.get?_push_size _ rfl
    have dU : h₅.get? h₅.objs.size = none := get?_size _
    dsimp only
    generalize h₅.objs.size = U at hT₇ dU ⊢
    obtain ⟨oC, hoC⟩ := nsLive n₅
    refine ⟨h₇, _, _, [U], rfl, ⟨fun h'' ag => ?_, fun b hb => .inr ?_⟩, e₅.app (Ext.of_keep e₇.keep _), n₅.at' fun o e => e₇.keep _ _ e⟩
    · exact ⟨U, t1, t2, rfl, .inl (ag U (.head _) _ hT₇)⟩
    · rw [List.mem_singleton.mp hb]
      cases q' : s₁.heap.get? U with
      | none => rfl
      | some o => exact nomatch dU.symm.trans (e₅ _ _ (kC _ (dead_ne dU hoC)) q')
  · intro a k Cg h₃ g₃ tk₃ e₃ eg₃ nCg na hkg hItr hlive
    replace e₃ : Ext [] h₂ h₃ := e₃
    replace eg₃ : GM [] s.gens g₃ := eg₃
    replace nCg : New h₂ Cg := nCg
    replace na : New h₂ a := na
    replace hkg : s.gens[k]? = none := hkg
    have back : ∀ b, New h₂ b → New s.heap b := fun b nb => by
      refine ⟨?_, nb.2⟩
      cases q : s.heap.get? b with
      | none => rfl
      | some o => exact nomatch nb.1.symm.trans (e02 _ _ (b671 _ nb.2) q)
    refine h a _ _ k h₃ g₃ tk₃ (src_gen hItr hlive) (e02.app (Ext.of_keep e₃.keep _)) eg₃ (Z₂.k e₃) hkg hlive ?_ ?_ ?_
    · intro b hb
      rcases List.mem_cons.mp hb with rfl | hb
      · simp
      · rw [List.mem_singleton.mp hb]; simp
    · intro b hb
      rcases List.mem_cons.mp hb with rfl | hb
      · exact back _ nCg
      · rw [List.mem_singleton.mp hb]; exact nI
    · intro b hb
      simp only [List.mem_append, List.mem_cons, List.not_mem_nil, or_false] at hb
      rcases hb with rfl | rfl | rfl | (rfl | rfl) | hb | rfl
      · exact .inl (back _ na)
      · exact .inr (.inl (by decide))
      · exact .inl (back _ nCg)
      · exact .inl nI
      · exact .inr (.inr (.inl rfl))
      · exact .inr (.inr (.inr (.inr (tlive b hb))))
      · exact .inr (.inr (.inr (.inl rfl)))
end
end Mine
end W41
section W42
open PySem PySem.W PyProof.Rows PySem.Calls PySem.Spec
set_option maxRecDepth 100000
set_option maxHeartbeats 8000000
namespace Mine
section
variable {prog : Program} {w : World} {A : Around} {E : Value → Shared → Prop} {s : Shared} {env : Env}
theorem rg_gen {elts : List Expr} {kt : Nat} {pt pu p1 p2 p3 pos : Pos} {scope : Scope} {c : Nat} {N : Nat} {tn : Tok} {u v : Nat → Int} {Q : Value → Shared → Prop}
    (hsc : scope = { kind := .function, names := [((".0" : Str), .local), (("u" : Str), .local), (("n" : Str), .free)], isGenerator := true, isCoroutine := false })
    (hcode : env.code = .ref 675) (hg : env.globals = mainGlobals) (hbi : env.builtins = builtinsNs) (hk : env.scope.kind = .function) (hR : env.kindOf "range" = some .globalImplicit) (hN : env.kindOf "n" = some .cell) (hcl : env.cells.lookup ("n" : Str) = some c) (hclos : closureFor scope env = pure [(("n" : Str), (c : Addr))])
    (hroom : A.depth < recursionLimit) (hN9 : N < 1000)
    (Z : Gl w s.heap) (c9 : 709 ≤ c) (hc : s.heap.IsCell c (some (.int N tn)))
    (he : ∀ (A' : Around) (E' : Value → Shared → Prop) (Q' : List Value → Shared → Prop) (s' : Shared) (C : Nat) (code : Value) (m' : Str → Option Value) (i : Nat) (tu : Tok), i < N → s'.heap.IsCell c (some (.int N tn)) → s'.heap.Ns C m' → m' "u" = some (.int i tu) →
      (∀ t1 t2 tk, Q' [.int (u i) t1, .int (v i) t2] { s' with toks := tk }) → wpAny (model prog w) A' (spliced (backTo pt (starEach elts (genEnv scope [(("n" : Str), (c : Addr))] C code builtinsNs env)))) Q' E' s')
    (h : ∀ a own dep k h' g' tk, Src prog w (.ref a) own dep [k] N (EdgeIs prog w u v) h' g' → Ext [671] s.heap h' → GM [] s.gens g' → Gl w h' → s.gens[k]? = none → (∀ b ∈ dep, ∃ o, h'.get? b = some o) → (∀ b ∈ own, b ∈ dep) → (∀ b ∈ own, New s.heap b) →
      (∀ b ∈ dep, New s.heap b ∨ b < 709 ∨ b = c) → Q (.ref a) { s with heap := h', gens := g', toks := tk }) :
    wpAny (model prog w) A (eval (.GeneratorExp (.Tuple elts kt pt) [⟨.Name "u" pu, .Call (.Name "range" p1) [.Name "n" p2] [] p3, [], 0⟩] scope pos) env) Q E s := by
  subst hsc
  refine gen_make (w := w) (c := 675) (Pl := 671) (cl := [(("n" : Str), (c : Addr))]) hcode (by kernel_rfl) (by decide) hg hbi (by rfl) hclos (by rfl) (by rfl) (by rfl) hroom (fun _ => rfl) ?_
  refine Call_ <| nmB Z (by kernel_rfl) hR PyProof.Rows.boot_range (by decide) (hk := hk) (hg := hg) (hb := hbi) <| cwT <| wpAny_items_cons <| nmC hc hN hcl (hk := hk) <| wpAny_items_nil <| call_range_1 ?_
  generalize hh₀ : Heap.push _ _ = h₀
  have e₀ : Ext [] s.heap h₀ := hh₀ ▸ Ext.push _ _
  have hr₀ : IsRange h₀ s.heap.objs.size 0 N 1 _ _ _ := hh₀ ▸ Heap.get?_push_size _ rfl
  have Z₀ := Z.k e₀
  generalize s.heap.objs.size = R at hr₀ ⊢
  refine wpAny_pyIter_range hr₀ (small_one (by omega) (by omega) (by omega) (by omega)) ?_
  generalize hh₁ : Heap.push _ _ = h₁
  have e₁ : Ext [] h₀ h₁ := hh₁ ▸ Ext.push _ _
  have nI₀ : New h₀ h₀.objs.size := New.pos' Z₀.big
  have hit : IsRangeIter h₁ h₀.objs.size 0 (N : Nat) 1 := by
    have : Builtin.Range.rangeSize 0 N 1 = (N : Int) := by rw [rangeSize_one]; split <;> omega
    rw [← hh₁, this]
    exact Heap.get?_push_size _ rfl
  dsimp only
  generalize h₀.objs.size = It at nI₀ hit ⊢
  have nI : New s.heap It := nI₀.back e₀.keep
  have e01 : Ext [] s.heap h₁ := e₀.app e₁
  have Z₁ := Z.k e01
  refine ⟨Z₁, fun h₂ code e₂ Z₂ => ?_⟩
  have b671 : ∀ b : Nat, 709 ≤ b → b ∉ ([671] : List Nat) := fun b hb q => by rw [List.mem_singleton.mp q] at hb; omega
  have e02 : Ext [671] s.heap h₂ := (Ext.of_keep e01.keep _).app e₂
  have c₂ : h₂.IsCell c (some (.int N tn)) := let ⟨o, a, b⟩ := hc; ⟨o, e02 _ _ (b671 _ c9) a, b⟩
  have hit₂ : IsRangeIter h₂ It 0 (N : Nat) 1 := e₂ _ _ (b671 _ nI.2) hit
  have niI : ∀ b o, s.heap.get? b = some o → b ∉ ([It] : List Nat) := fun b o e q => nI.ne e (List.mem_singleton.mp q).symm
  have W : ∀ (A' : Around), A'.handled = none → Itr prog w A' (.ref It) [It] [It] [] (.Name "u" pu) N (fun i v _ => ∃ t, v = .int (0 + i * 1) t) (fun i h _ => IsRangeIter h It (0 + (i : Nat) * 1) ((N : Int) - (i : Nat)) 1) := fun A' ha =>
    Itr.ofWalks (Walks.range (prog := prog) (w := w) ha It 0 1 N) (fun i h st b hb => by cases List.mem_singleton.mp hb; exact ⟨_, st⟩) "u" pu
  refine ⟨[It], [It] ++ [c], N, (fun i v _ => ∃ t, v = .int (0 + i * 1) t), EdgeIs prog w u v, _,
    fun h => h.IsCell c (some (.int N tn)),
    fun A' ha => (W A' ha).wide fun b hb => List.mem_append_left _ hb, ?_, c₂, ?_, ?_, ?_, ?_, ?_⟩
  · show IsRangeIter h₂ It (0 + ((0 : Nat) : Int) * 1) ((N : Int) - ((0 : Nat) : Int)) 1
    simpa using hit₂
  · intro b hb
    simp only [List.mem_append, List.mem_cons, List.not_mem_nil, or_false] at hb
    rcases hb with rfl | rfl
    · exact ⟨_, hit₂⟩
    · obtain ⟨o, ho, _⟩ := c₂; exact ⟨o, ho⟩
  · intro q
    have := nI.2
    rw [← List.mem_singleton.mp q] at this
    exact absurd this (by decide)
  · intro h h' b1 kk
    exact let ⟨o, a, b⟩ := b1; ⟨o, kk _ (by simp) (by obtain ⟨o', h', _⟩ := hc; exact niI _ _ h') o a, b⟩
  · intro Cg A' E' i v s₁ mm fv ha hi hP hCf hCd b1 hn
    obtain ⟨tu, rfl⟩ := hP s₁.heap fun _ _ _ e => e
    replace hCd : Cg ∉ [It] ++ [c] := hCd
    have cC : c ≠ Cg := fun q => hCd (by rw [← q]; simp)
    refine wpAny_assign_Name <| stL hn rfl fun h₅ n₅ s₅ => ?_
    replace s₅ : Heap.SameBut Cg s₁.heap h₅ := s₅
    have e₅ : Ext [Cg] s₁.heap h₅ := Ext.of_same s₅
    have kC : ∀ b : Nat, b ≠ Cg → b ∉ ([Cg] : List Nat) := fun b n q => n (List.mem_singleton.mp q)
    have c1 : h₅.IsCell c (some (.int N tn)) := let ⟨o, a, b⟩ := b1; ⟨o, e₅ _ _ (kC _ cC) a, b⟩
    refine wpAny_Tuple <| he _ _ _ _ Cg code _ i tu hi c1 n₅ (by show some (Value.int (0 + (i : Int) * 1) tu) = _; rw [Int.mul_one, Int.zero_add]) fun t1 t2 tk => ⟨(by show 2 ≤ 2 ^ 24; decide), ?_⟩
    generalize hh₇ : Heap.push _ _ = h₇
    have e₇ : Ext [] h₅ h₇ := hh₇ ▸ Ext.push _ _
    have hT₇ : Tup h₇ h₅.objs.size #[.int (u i) t1, .int (v i) t2] := by
      rw [← hh₇]
      exact Heap.get?_push_size _ rfl
    have dU : h₅.get? h₅.objs.size = none := get?_size _
    dsimp only
    generalize h₅.objs.size = U at hT₇ dU ⊢
    obtain ⟨oC, hoC⟩ := nsLive n₅
    refine ⟨h₇, _, _, [U], rfl, ⟨fun h'' ag => ?_, fun b hb => .inr ?_⟩, e₅.app (Ext.of_keep e₇.keep _), n₅.at' fun o e => e₇.keep _ _ e⟩
    · exact ⟨U, t1, t2, rfl, .inl (ag U (.head _) _ hT₇)⟩
    · rw [List.mem_singleton.mp hb]
      cases q' : s₁.heap.get? U with
      | none => rfl
      | some o => exact nomatch dU.symm.trans (e₅ _ _ (kC _ (dead_ne dU hoC)) q')
  · intro a k Cg h₃ g₃ tk₃ e₃ eg₃ nCg na hkg hItr hlive
    replace e₃ : Ext [] h₂ h₃ := e₃
    replace eg₃ : GM [] s.gens g₃ := eg₃
    replace nCg : New h₂ Cg := nCg
    replace na : New h₂ a := na
    replace hkg : s.gens[k]? = none := hkg
    have back : ∀ b, New h₂ b → New s.heap b := fun b nb => by
      refine ⟨?_, nb.2⟩
      cases q : s.heap.get? b with
      | none => rfl
      | some o => exact nomatch nb.1.symm.trans (e02 _ _ (b671 _ nb.2) q)
    refine h a _ _ k h₃ g₃ tk₃ (src_gen hItr hlive) (e02.app (Ext.of_keep e₃.keep _)) eg₃ (Z₂.k e₃) hkg hlive ?_ ?_ ?_
    · intro b hb
      rcases List.mem_cons.mp hb with rfl | hb
      · simp
      · rw [List.mem_singleton.mp hb]; simp
    · intro b hb
      rcases List.mem_cons.mp hb with rfl | hb
      · exact back _ nCg
      · rw [List.mem_singleton.mp hb]; exact nI
    · intro b hb
      simp only [List.mem_append, List.mem_cons, List.not_mem_nil, or_false] at hb
      rcases hb with rfl | rfl | rfl | rfl | rfl
      · exact .inl (back _ na)
      · exact .inr (.inl (by decide))
      · exact .inl (back _ nCg)
      · exact .inl nI
      · exact .inr (.inr rfl)
end
end Mine
end W42
section W43
open PySem PySem.W PyProof.Rows PySem.Calls PySem.Spec
set_option maxRecDepth 100000
set_option maxHeartbeats 8000000
namespace Mine
section
variable {prog : Program} {w : World} {A : Around} {E : Value → Shared → Prop} {s : Shared} {env : Env}
theorem c_items_nil {pos : Pos} {Q : List Value → Shared → Prop} (h : Q [] s) : wpC (model prog w) A (spliced (backTo pos (starEach [] env))) Q E s := c_pure h
theorem c_items_cons {pos : Pos} {e : Expr} {rest : List Expr} {Q : List Value → Shared → Prop}
    (h : wpC (model prog w) A (eval e env) (fun v s₁ => wpC (model prog w) A (spliced (backTo pos (starEach rest env))) (fun vs s₂ => Q (v :: vs) s₂) E s₁) E s)
    (he : starEach (e :: rest) env = (false, eval e env) :: starEach rest env := by rfl) : wpC (model prog w) A (spliced (backTo pos (starEach (e :: rest) env))) Q E s := by
  rw [he]
  show wpC (model prog w) A (do
    let v ← eval e env
    let here ← (pure [v] : Sem (List Value))
    return here ++ (← holding here (spliced (backTo pos (starEach rest env))))) Q E s
  refine c_bind (h.mono (fun v s₁ h₁ => c_bind (c_pure ?_)) fun _ _ x => x)
  exact c_bind (c_holding (h₁.mono (fun vs s₂ h₂ => c_pure h₂) fun _ _ x => x))
theorem c_evalArgs {f : Value} {x : Sem Value} {rest : List (Bool × Sem Value)} {Q : Args → Shared → Prop}
    (h : wpC (model prog w) A (spliced ((false, x) :: rest)) (fun vs s' => Q ⟨vs, []⟩ s') E s) : wpC (model prog w) A (evalArgs f true ((false, x) :: rest) []) Q E s := by
  unfold evalArgs
  show wpC (model prog w) A (spliced ((false, x) :: rest) >>= _) Q E s
  refine c_bind (h.mono (fun vs s' h' => ?_) fun _ _ x => x)
  exact c_bind (c_pure (c_holding (c_bind (c_pure (c_bind (c_pure (c_pure h')))))))
theorem c_callWith {f : Value} {first : List Value} {args : List (Bool × Sem Value)} {P : Heap → Prop} {pos : Pos} {Q : Value → Shared → Prop} (hplain : (args.any (·.1)) = false)
    (hk : ∀ h, P h → ∃ k, (k = Keeper.frame ∨ k = Keeper.machine ∨ k = Keeper.boundFrame) ∧ Looks (model prog w) h (keeperOf f) k)
    (h : wpC (model prog w) A (evalArgs f true args []) (fun a s₁ => P s₁.heap ∧ wpC (model prog w) A (call f (first ++ a.pos) a.kw) Q E s₁) E s) : wpC (model prog w) A (callWith pos f first args []) Q E s := by
  unfold callWith
  refine c_bind (c_holding (h.mono (fun a s₁ h₁ => c_stand ?_) fun _ _ x => x))
  obtain ⟨k, hk', L⟩ := hk _ h₁.1
  simp only [hplain, List.any_nil, Bool.or_false]
  refine c_bind (toC (L.here ?_))
  have tail : ∀ {t : Sem Value}, wpC (model prog w) A t Q E s₁ → wpC (model prog w) A (t >>= fun r => holding [r] point >>= fun _ => pure r) Q E s₁ :=
    fun ht => c_bind (ht.mono (fun r s₂ hr => c_bindA (wpAny_holding (wpAny_point (c_pure hr)))) fun _ _ x => x)
  have marked (mk : Value) : wpC (model prog w) A (callMarked mk f (first ++ a.pos) a.kw) Q E s₁ := by
    unfold callMarked
    exact fun Γ p i k => by rw [Sem.wp_keep]; exact h₁.2 Γ p i k
  rcases hk' with rfl | rfl | rfl <;> dsimp only <;> first | exact tail h₁.2 | (split <;> first | exact tail h₁.2 | exact tail (marked _))
theorem c_cwF {f : Value} {first : List Value} {e : Expr} {rest : List Expr} {pos : Pos} {Q : Value → Shared → Prop} (hk : keepIn (KH w) f = true)
    (h : wpC (model prog w) A (spliced (backTo pos (starEach (e :: rest) env))) (fun vs s₁ => Gl w s₁.heap ∧ wpC (model prog w) A (call f (first ++ vs)) Q E s₁) E s)
    (he : starEach (e :: rest) env = (false, eval e env) :: starEach rest env := by rfl) (hp : (backTo pos (starEach rest env)).any (·.1) = false := by rfl) :
    wpC (model prog w) A (callWith pos f first (backTo pos (starEach (e :: rest) env)) []) Q E s := by
  rw [he] at h ⊢
  exact c_callWith (P := Gl w) (by show (false || (backTo pos (starEach rest env)).any (·.1)) = false; rw [hp]; rfl) (fun h G => keeps_K hk h G.X) (c_evalArgs h)
theorem c_callWith_type {T : String} {first : List Value} {args : List (Bool × Sem Value)} {pos : Pos} {Q : Value → Shared → Prop} (hplain : args.any (·.1) = false)
    (h : wpC (model prog w) A (evalArgs (.type T) true args []) (fun a s₁ => wpC (model prog w) A (call (.type T) (first ++ a.pos) a.kw) Q E s₁) E s) :
    wpC (model prog w) A (callWith pos (.type T) first args []) Q E s := by
  unfold callWith
  refine c_bind (c_holding (h.mono (fun a s₁ h₁ => c_stand ?_) fun _ _ x => x))
  simp only [hplain, List.any_nil, Bool.or_false]
  refine c_bind (c_pure ?_)
  exact c_bind (h₁.mono (fun r s₂ hr => c_bindA (wpAny_holding (wpAny_point (c_pure hr)))) fun _ _ x => x)
theorem c_cwT {T : String} {e : Expr} {rest : List Expr} {pos : Pos} {Q : Value → Shared → Prop}
    (h : wpC (model prog w) A (spliced (backTo pos (starEach (e :: rest) env))) (fun vs s₁ => wpC (model prog w) A (call (.type T) vs) Q E s₁) E s)
    (he : starEach (e :: rest) env = (false, eval e env) :: starEach rest env := by rfl) (hp : (backTo pos (starEach rest env)).any (·.1) = false := by rfl) :
    wpC (model prog w) A (callWith pos (.type T) [] (backTo pos (starEach (e :: rest) env)) []) Q E s := by
  rw [he] at h ⊢
  exact c_callWith_type (by show (false || (backTo pos (starEach rest env)).any (·.1)) = false; rw [hp]; rfl) (c_evalArgs h)
theorem c_Call {func : Expr} {args : List Expr} {pos : Pos} {Q : Value → Shared → Prop}
    (h : wpC (model prog w) A (eval func env) (fun f s₁ => wpC (model prog w) A (callWith pos f [] (backTo pos (starEach args env)) []) Q E s₁) E s)
    (he : eval (.Call func args [] pos) env = (do callWith pos (← eval func env) [] (backTo pos (starEach args env)) (backToKw pos (keywordEach [] env))) := by rfl) :
    wpC (model prog w) A (eval (.Call func args [] pos) env) Q E s := by
  rw [he]; exact c_bind h
end
end Mine
end W43
section W44
open PySem PySem.W PyProof.Rows PySem.Calls PySem.Spec
set_option maxRecDepth 100000
set_option maxHeartbeats 8000000
namespace Mine
section
variable {prog : Program} {w : World}
def stepP (N : Nat) (P : Int → Int → Prop) (a b : Int) : Prop := P a b ∨ (∃ x y, P x y ∧ (a = x ∧ b = y + N ∨ a = y + N ∧ b = x)) ∨ ∃ u : Nat, u < N ∧ (a = (u : Int) + N ∧ b = 2 * N ∨ a = 2 * N ∧ b = (u : Int) + N)
def mycN : Nat → Nat → Nat
  | 0, n => n
  | j + 1, n => 2 * mycN j n + 1
def mycP : Nat → Nat → (Int → Int → Prop) → Int → Int → Prop
  | 0, _, P => P
  | j + 1, n, P => stepP (mycN j n) (mycP j n P)
theorem stepP_symm {N : Nat} {P : Int → Int → Prop} (h : ∀ a b, P a b → P b a) {a b : Int} (x : stepP N P a b) : stepP N P b a := by
  rcases x with q | ⟨x, y, q, r | r⟩ | ⟨u, hu, r | r⟩
  · exact .inl (h _ _ q)
  · exact .inr (.inl ⟨x, y, q, .inr ⟨r.2, r.1⟩⟩)
  · exact .inr (.inl ⟨x, y, q, .inl ⟨r.2, r.1⟩⟩)
  · exact .inr (.inr ⟨u, hu, .inr ⟨r.2, r.1⟩⟩)
  · exact .inr (.inr ⟨u, hu, .inl ⟨r.2, r.1⟩⟩)
theorem mycP_symm {n : Nat} {P : Int → Int → Prop} (h : ∀ a b, P a b → P b a) : ∀ (j : Nat) {a b : Int}, mycP j n P a b → mycP j n P b a
  | 0, _, _ => h _ _
  | j + 1, _, _ => stepP_symm fun _ _ => mycP_symm h j
def OneView (G : Gr) : Prop := (G.more = [] ∧ G.vs = []) ∨ ∃ ev dv, G.more = [(("edges" : Str), Value.ref ev)] ∧ G.vs = [ev, dv]
theorem GraphAt.noTup2 {h : Heap} {G : Gr} (I : GraphAt prog w h G) (hv : OneView G) {a : Nat} (ha : a ∈ G.all) : ∃ o, h.get? a = some o ∧ o.cls ≠ .type "tuple" := by
  rcases hv with ⟨_, hv⟩ | ⟨ev, dv, hm, hv⟩
  · exact I.noTup hv ha
  · have ds : ∀ {K : Type} [DecidableEq K] {knd : KeyKind prog w K} {a : Nat} {kvs : List (K × Value)}, h.DictOf knd a kvs → ∃ o, h.get? a = some o ∧ o.cls ≠ .type "tuple" := fun x => by
      obtain ⟨o, es, ep, ho, hx, _⟩ := x
      exact ⟨o, ho, by rw [hx.1]; simp⟩
    rcases List.mem_append.mp ha with q | q
    · rcases Gr.muts_iff.mp q with rfl | rfl | rfl | ⟨r, hr, rfl⟩
      · obtain ⟨o, es, ep, ho, hx, _⟩ := I.dict
        exact ⟨o, ho, by rw [hx.1]; simp⟩
      · exact ds I.node
      · exact ds I.adj
      · exact ds (I.nbr r hr)
    · rcases Gr.fixed_iff.mp q with rfl | rfl | q | ⟨r, hr, rfl | ⟨e, he, rfl⟩⟩
      · exact ⟨_, I.inst, by simp⟩
      · exact ds I.graph
      · rcases I.more (("edges" : Str), Value.ref ev) (by rw [hm]; exact .head _) with q' | ⟨_, ev', dv', e1, e2, e3, e4, e5⟩
        · exact absurd (show ("edges" : Str) = "adj" from q'.1) (by decide)
        · cases e1
          rw [hv] at q e5
          have : dv' = dv := by
            rcases List.mem_cons.mp e5 with r | r
            · obtain ⟨o, es, ep, ho, hx, _⟩ := e3
              rw [r, e2] at ho; cases ho
              exact absurd hx.1 (by simp)
            · exact List.mem_singleton.mp r
          subst this
          rcases List.mem_cons.mp q with r | r
          · exact ⟨_, r ▸ e2, by simp⟩
          · obtain ⟨o, ho, hc⟩ := ds e3
            exact ⟨o, (List.mem_singleton.mp r) ▸ ho, hc⟩
      · exact ds (I.attr r hr)
      · exact ds (I.dd r hr e he)
theorem eRow_len (seen : List Int) (n : Int) (xs : List (Int × Nat)) : (eRow seen n xs).length ≤ xs.length := by
  unfold eRow
  rw [List.length_map]
  exact List.length_filter_le _ _
theorem eFrom_len {m : Nat} : ∀ (rs : List Row) (seen : List Int), (∀ r ∈ rs, r.es.length ≤ m) → (eFrom seen rs).length ≤ rs.length * m
  | [], _, _ => by simp [eFrom]
  | r :: rs, seen, h => by
    have h1 := eFrom_len rs (seen ++ [r.n]) fun x hx => h x (.tail _ hx)
    have h2 := eRow_len seen r.n r.es
    have h3 := h r (.head _)
    simp only [eFrom, List.length_append, List.length_cons]
    have : (rs.length + 1) * m = rs.length * m + m := by rw [Nat.add_mul, Nat.one_mul]
    omega
theorem edges_len {h : Heap} {G : Gr} (I : GraphAt prog w h G) (J : Gi G) (hz : G.rows.length ≤ 20) : G.edges.length ≤ 1000 := by
  have : ∀ r ∈ G.rows, r.es.length ≤ 20 := fun r hr => by
    have := nodup_len (I.keysNodup hr) (m := G.ids) fun a ha => by
      obtain ⟨e, he, rfl⟩ := List.mem_map.mp ha
      exact J.keys r hr e he
    simp only [List.length_map, Gr.ids] at this
    omega
  have := eFrom_len G.rows [] this
  have h2 : G.rows.length * 20 ≤ 20 * 20 := Nat.mul_le_mul_right _ hz
  unfold Gr.edges
  omega
def mPools : List Nat := [671, 647, 255]
structure MS (prog : Program) (w : World) (fo : List Nat) (h₀ : Heap) (g₀ : Array GenState) (N : Nat) (P : Int → Int → Prop) (h : Heap) (g : Array GenState) (H : Gr) : Prop where
  Z : Gl w h
  ext : Ext (fo ++ mPools) h₀ h
  sl : Slots fo h₀ h
  gm : GM [] g₀ g
  I : GraphAt prog w h H
  J : Gi H
  ids : H.ids = (List.range N).map fun (i : Nat) => (i : Int)
  one : OneView H
  new : ∀ a ∈ H.all, h₀.get? a = none
  has : ∀ a b, H.has a b ↔ P a b
section
variable {fo : List Nat} {h₀ h h' : Heap} {g₀ g g' : Array GenState} {N N' : Nat} {P P' : Int → Int → Prop} {H H' : Gr}
theorem MS.rows (M : MS prog w fo h₀ g₀ N P h g H) : H.rows.length = N := by
  have := congrArg List.length M.ids
  simpa [Gr.ids] using this
theorem MS.live (M : MS prog w fo h₀ g₀ N P h g H) {b : Nat} {o : Obj} (e : h₀.get? b = some o) (hb : 709 ≤ b) : ∃ o', h.get? b = some o' := by
  by_cases q : b ∈ fo
  · obtain ⟨sl, q'⟩ := M.sl b q o e
    exact ⟨_, q'⟩
  · refine ⟨o, M.ext b o (fun q' => ?_) e⟩
    rcases List.mem_append.mp q' with r | r
    · exact q r
    · simp only [mPools, List.mem_cons, List.not_mem_nil, or_false] at r
      rcases r with rfl | rfl | rfl <;> exact absurd hb (by decide)
theorem MS.dead (M : MS prog w fo h₀ g₀ N P h g H) {b : Nat} (e : h.get? b = none) (hb : 709 ≤ b) : h₀.get? b = none := by
  cases q : h₀.get? b with
  | none => rfl
  | some o => obtain ⟨o', ho'⟩ := M.live q hb; rw [e] at ho'; cases ho'
theorem MS.step (M : MS prog w fo h₀ g₀ N P h g H) {F : List Nat} (e : Ext F h h') (hF : ∀ b ∈ F, b ∈ mPools ∨ h₀.get? b = none) (hfo : ∀ b ∈ fo, 709 ≤ b ∧ ∃ o, h₀.get? b = some o) (Z : Gl w h') (eg : GM [] g g')
    (I : GraphAt prog w h' H') (J : Gi H') (ids : H'.ids = (List.range N').map fun (i : Nat) => (i : Int)) (one : OneView H') (gr : Grow h H H') (has : ∀ a b, H'.has a b ↔ P' a b) : MS prog w fo h₀ g₀ N' P' h' g' H' where
  Z := Z
  ext := M.ext.app' e fun b hb => (hF b hb).imp (List.mem_append_right _) id
  sl := M.sl.trans (Slots.of e fun b hb q => by
    obtain ⟨h9, o, ho⟩ := hfo b hb
    rcases hF b q with r | r
    · simp only [mPools, List.mem_cons, List.not_mem_nil, or_false] at r
      rcases r with rfl | rfl | rfl <;> exact absurd h9 (by decide)
    · rw [ho] at r; cases r)
  gm := M.gm.trans eg
  I := I
  J := J
  ids := ids
  one := one
  new := fun a ha => (gr a ha).elim (M.new a) fun q => M.dead q (I.own a ha)
  has := has
theorem MS.same (M : MS prog w fo h₀ g₀ N P h g H) {F : List Nat} (e : Ext F h h') (hF : ∀ b ∈ F, (b ∈ mPools ∨ h₀.get? b = none) ∧ b ∉ H.all) (hfo : ∀ b ∈ fo, 709 ≤ b ∧ ∃ o, h₀.get? b = some o) (Z : Gl w h') (eg : GM [] g g') : MS prog w fo h₀ g₀ N P h' g' H :=
  M.step e (fun b hb => (hF b hb).1) hfo Z eg (M.I.to e fun a ha q => (hF a q).2 ha) M.J M.ids M.one (fun _ ha => .inl ha) M.has
end
end
end Mine
end W44
section W45
open PySem PySem.W PyProof.Rows PySem.Calls PySem.Spec
set_option maxRecDepth 100000
set_option maxHeartbeats 8000000
namespace Mine
section
variable {prog : Program} {w : World} {A : Around} {E : Value → Shared → Prop} {s : Shared}
theorem OneView.of {G G' : Gr} (x : OneView G) (hm : G'.more = G.more) (hv : G'.vs = G.vs) : OneView G' := by
  unfold OneView
  rw [hm, hv]
  exact x
theorem MS.g9 {fo : List Nat} {h₀ h : Heap} {g₀ g : Array GenState} {N : Nat} {P : Int → Int → Prop} {H : Gr} (M : MS prog w fo h₀ g₀ N P h g H) {b : Nat} (hb : b ∈ H.all) : ∃ o, h.get? b = some o ∧ o.cls ≠ .type "tuple" := M.I.noTup2 M.one hb
theorem ms_edges {fo : List Nat} {h₀ h : Heap} {g₀ g : Array GenState} {N n : Nat} {P : Int → Int → Prop} {H : Gr} {u v : Nat → Int} {a k : Nat} {own dep : List Nat} {Q : Value → Shared → Prop}
    (M : MS prog w fo h₀ g₀ N P h g H) (hfo : ∀ b ∈ fo, 709 ≤ b ∧ ∃ o, h₀.get? b = some o) (hroom : A.depth + 1 < recursionLimit) (hh : A.handled = none)
    (X : Src prog w (.ref a) own dep [k] n (EdgeIs prog w u v) s.heap s.gens) (e₁ : Ext [671] h s.heap) (eg₁ : GM [] g s.gens) (Z₁ : Gl w s.heap) (hk : g[k]? = none) (hlive : ∀ b ∈ dep, ∃ o, s.heap.get? b = some o) (hod : ∀ b ∈ own, b ∈ dep) (hown : ∀ b ∈ own, New h b)
    (hdep : ∀ b ∈ dep, New h b ∨ b < 709 ∨ b ∉ H.all) (hu : ∀ i, i < n → u i ∈ H.ids) (hv : ∀ i, i < n → v i ∈ H.ids) (hne : ∀ i, i < n → u i ≠ v i)
    (hQ : ∀ h' g' tk H', MS prog w fo h₀ g₀ N (fun x y => P x y ∨ ∃ j, j < n ∧ ((x = u j ∧ y = v j) ∨ (x = v j ∧ y = u j))) h' g' H' → H'.g = H.g → Grow h H H' → (∀ b o, h.get? b = some o → 709 ≤ b → b ∉ H.all → h'.get? b = some o) → (∀ b o, h.get? b = some o → o.cls = .type "tuple" → h'.get? b = some o) → Q .none { s with heap := h', gens := g', toks := tk }) :
    wpAny (model prog w) A (call (.ref 492) [.ref H.g, .ref a]) Q E s := by
  have b671 : ∀ b : Nat, 709 ≤ b → b ∉ ([671] : List Nat) := fun b hb q => by rw [List.mem_singleton.mp q] at hb; omega
  have I₁ : GraphAt prog w s.heap H := M.I.to e₁ fun a ha => b671 a (M.I.own a ha)
  have offO : ∀ b ∈ own, b ∉ H.all := fun b hb => M.I.all_new (hown b hb).1
  refine sp_add_edges_from Z₁ I₁ M.J hroom hh X hlive (fun b hb q => ?_) hod (fun b hb => (hown b hb).2) hu hv hne fun h' g' tk H' e₂ eg₂ AD => ?_
  · rcases hdep b hb with r | r | r
    · exact M.I.all_new r.1 q
    · have : 709 ≤ b := M.I.own b q
      omega
    · exact r q
  · replace e₂ : Ext (own ++ H.all) s.heap h' := e₂
    replace eg₂ : GM [k] s.gens g' := eg₂
    have hd : ∀ b ∈ own ++ H.all, h₀.get? b = none ∧ 709 ≤ b := fun b hb => by
      rcases List.mem_append.mp hb with q | q
      · exact ⟨M.dead (hown b q).1 (hown b q).2, (hown b q).2⟩
      · exact ⟨M.new b q, M.I.own b q⟩
    have M₁ : MS prog w fo h₀ g₀ N P s.heap s.gens H := M.same e₁ (fun b hb => by
      rw [List.mem_singleton.mp hb]
      exact ⟨.inl (by decide), fun q => absurd (show 709 ≤ 671 from M.I.own _ q) (by decide)⟩) hfo Z₁ eg₁
    have gr : Grow h H H' := fun b hb => (AD.gr b hb).imp id fun q => by
      cases q' : h.get? b with
      | none => rfl
      | some o => exact nomatch q.symm.trans (e₁ _ _ (b671 _ (AD.I.own b hb)) q')
    have t671 : ∀ b o, h.get? b = some o → o.cls = .type "tuple" → b ∉ ([671] : List Nat) := fun b o e hc q => by
      rw [List.mem_singleton.mp q] at e
      obtain ⟨ps, hps, _⟩ := M.Z.pool 671 (by decide)
      rw [hps] at e; cases e; cases hc
    refine hQ h' g' tk H' { M₁.step (g' := s.gens) e₂ (fun b hb => .inr (hd b hb).1) hfo (Z₁.ext e₂ fun b hb => (hd b hb).2) (.refl _) AD.I AD.J (by rw [sh_ids AD.sh]; exact M.ids) (M.one.of (congrArg (·.2.2.2.2.2.1) AD.sh) (congrArg (·.2.2.2.2.2.2.1) AD.sh)) AD.gr (P' := fun x y => P x y ∨ ∃ j, j < n ∧ ((x = u j ∧ y = v j) ∨ (x = v j ∧ y = u j))) (fun x y => by rw [AD.has, M.has]) with gm := ?_ } (sh_g AD.sh) gr (fun b o e hb hn => e₂ _ _ (fun q => ?_) (e₁ _ _ (b671 _ hb) e)) fun b o e hc => e₂ _ _ (fun q => ?_) (e₁ _ _ (t671 b o e hc) e)
    · exact M.gm.trans (eg₁.new eg₂ hk)
    · rcases List.mem_append.mp q with r | r
      · exact (hown b r).ne e rfl
      · exact hn r
    · rcases List.mem_append.mp q with r | r
      · exact (hown b r).ne e rfl
      · obtain ⟨o', ho', hc'⟩ := M.g9 r
        rw [e] at ho'; cases ho'
        exact hc' hc
end
end Mine
end W45
section W46
open PySem PySem.W PyProof.Rows PySem.Calls PySem.Spec
set_option maxRecDepth 100000
set_option maxHeartbeats 8000000
namespace Mine
section
variable {prog : Program} {w : World} {A : Around} {E : Value → Shared → Prop} {s : Shared} {G : Gr}
theorem mem_irange {n : Nat} {x : Int} : x ∈ (List.range n).map (fun (i : Nat) => (i : Int)) ↔ 0 ≤ x ∧ x < n := by
  constructor
  · intro q
    obtain ⟨j, hj, rfl⟩ := List.mem_map.mp q
    have := List.mem_range.mp hj
    omega
  · rintro ⟨h1, h2⟩
    exact List.mem_map.mpr ⟨x.toNat, List.mem_range.mpr (by omega), by omega⟩
theorem MS.congr {fo : List Nat} {h₀ h : Heap} {g₀ g : Array GenState} {N : Nat} {P P' : Int → Int → Prop} {H : Gr} (M : MS prog w fo h₀ g₀ N P h g H) (hP : ∀ a b, P a b ↔ P' a b) : MS prog w fo h₀ g₀ N P' h g H := { M with has := fun a b => (M.has a b).trans (hP a b) }
theorem MS.inn {fo : List Nat} {h₀ h : Heap} {g₀ g : Array GenState} {N : Nat} {P : Int → Int → Prop} {H : Gr} (M : MS prog w fo h₀ g₀ N P h g H) {a b : Int} (x : P a b) : (0 ≤ a ∧ a < N) ∧ (0 ≤ b ∧ b < N) := by
  obtain ⟨r, hr, rfl, e, he, rfl⟩ := (M.has a b).mpr x
  have h1 : r.n ∈ H.ids := List.mem_map_of_mem hr
  have h2 := M.J.keys r hr e he
  rw [M.ids] at h1 h2
  exact ⟨mem_irange.mp h1, mem_irange.mp h2⟩
theorem stepP_of {N n : Nat} {P : Int → Int → Prop} {es : List (Int × Int)} (hn : n = es.length) (hP : ∀ x y, P x y ↔ (x, y) ∈ es ∨ (y, x) ∈ es) (a b : Int) :
    (((P a b ∨ ∃ j, j < n ∧ ((a = (es[j]!).1 ∧ b = (es[j]!).2 + N) ∨ (a = (es[j]!).2 + N ∧ b = (es[j]!).1))) ∨ ∃ j, j < n ∧ ((a = (es[j]!).1 + N ∧ b = (es[j]!).2) ∨ (a = (es[j]!).2 ∧ b = (es[j]!).1 + N))) ∨ ∃ j : Nat, j < N ∧ ((a = (j : Int) + N ∧ b = 2 * N) ∨ (a = 2 * N ∧ b = (j : Int) + N))) ↔ stepP N P a b := by
  subst hn
  have mem : ∀ j, j < es.length → ((es[j]!).1, (es[j]!).2) ∈ es := fun j hj => by
    rw [getElem!_pos es j hj]; exact List.getElem_mem hj
  have idx : ∀ x y, (x, y) ∈ es → ∃ j, j < es.length ∧ (es[j]!).1 = x ∧ (es[j]!).2 = y := fun x y q => by
    obtain ⟨j, hj, e⟩ := List.mem_iff_getElem.mp q
    exact ⟨j, hj, by rw [getElem!_pos es j hj, e], by rw [getElem!_pos es j hj, e]⟩
  constructor
  · rintro (((q | ⟨j, hj, q | q⟩) | ⟨j, hj, q | q⟩) | ⟨j, hj, q⟩)
    · exact .inl q
    · exact .inr (.inl ⟨_, _, (hP _ _).mpr (.inl (mem j hj)), .inl q⟩)
    · exact .inr (.inl ⟨_, _, (hP _ _).mpr (.inl (mem j hj)), .inr q⟩)
    · exact .inr (.inl ⟨_, _, (hP _ _).mpr (.inr (mem j hj)), .inr q⟩)
    · exact .inr (.inl ⟨_, _, (hP _ _).mpr (.inr (mem j hj)), .inl q⟩)
    · exact .inr (.inr ⟨j, hj, q⟩)
  · rintro (q | ⟨x, y, q, r⟩ | ⟨u, hu, q⟩)
    · exact .inl (.inl (.inl q))
    · left
      rcases (hP _ _).mp q with m | m
      · obtain ⟨j, hj, rfl, rfl⟩ := idx _ _ m
        exact .inl (.inr ⟨j, hj, r⟩)
      · obtain ⟨j, hj, rfl, rfl⟩ := idx _ _ m
        exact .inr ⟨j, hj, r.symm⟩
    · exact .inr ⟨u, hu, q⟩
theorem OneView.len {G : Gr} (x : OneView G) : G.more.length ≤ 1 := by
  rcases x with ⟨q, _⟩ | ⟨_, _, q, _⟩ <;> rw [q] <;> simp
theorem OneView.evd {h : Heap} {G : Gr} {ev dv : Nat} (x : OneView G) (I : GraphAt prog w h (G.evd ev dv)) : OneView (G.evd ev dv) := by
  rcases x with ⟨q, r⟩ | ⟨ev', dv', q, r⟩
  · exact .inr ⟨ev, dv, by simp [Gr.evd, q], by simp [Gr.evd, r]⟩
  · obtain ⟨o, es, ep, _, _, _, _, _, hn⟩ := I.dict
    simp [Gr.attrs, Gr.evd, q] at hn
theorem c_at {M : Model} {α : Type} {m : Sem α} {Q : α → Shared → Prop} {s : Shared} (h : Heap) (g : Array GenState) (d : Drawn) (o : OsState) (n : ∀ t, wpC M A m Q E ⟨h, g, d, t, o⟩) (e : s = ⟨h, g, d, s.toks, o⟩ := by rfl) : wpC M A m Q E s := by
  rw [e]; exact n s.toks
theorem deeper_frames {env : Env} {outer : List Env} (hfr : A.frames = some outer) : (A.deeper env).frames = some (env :: outer) := by
  show A.frames.map _ = _
  rw [hfr]; rfl
theorem range_double (N : Nat) : (List.range N).map (fun (i : Nat) => (i : Int)) ++ (List.range N).map (fun (i : Nat) => (N : Int) + i) = (List.range (2 * N)).map fun (i : Nat) => (i : Int) := by
  rw [Nat.two_mul, List.range_add, List.map_append, List.map_map]
  congr 1
theorem sp_myc {Q : Value → Shared → Prop} {args : List Value} {k : Nat} {ti : Tok} (hk : k ≤ 2) (outer : List Env) (hfr : A.frames = some outer) (hff : s.heap.FunFrames {} outer) (hun : A.units + 40 < cLine) (hSb : ∀ b ∈ frs outer, 709 ≤ b ∧ b ∉ G.all)
    (Z : Gl w s.heap) (I : GraphAt prog w s.heap G) (J : Gi G) (hroom : A.depth + 12 < recursionLimit) (hh : A.handled = none) (hz : G.rows.length ≤ 4) (h0 : 0 < G.rows.length) (hsym : ∀ a b, G.has a b → G.has b a) (hloop : ∀ a b, G.has a b → a ≠ b)
    (hargs : args = [.ref G.g] ∧ k = 1 ∧ ti = 1076 ∨ args = [.ref G.g, .int k ti])
    (h : ∀ h' g' tk H, MS prog w (frs outer) s.heap s.gens (mycN k G.rows.length) (mycP k G.rows.length fun a b => ∃ x y, G.has x y ∧ a = G.ids.idxOf x ∧ b = G.ids.idxOf y) h' g' H → Q (.ref H.g) { s with heap := h', gens := g', toks := tk }) :
    wpC (model prog w) A (call (.ref 676) args []) Q E s := by
  refine enterXC Z (by omega) (by rfl) (by kernel_rfl) (binds := [("G", .ref G.g), ("iterations", .int k ti)]) (by rcases hargs with ⟨rfl, rfl, rfl⟩ | rfl <;> kernel_rfl) (by intro L; rfl) (by rfl) (by rfl) ?_
  intro L h₁ tk C
  have Z₁ := Z.k C.ext
  have I₁ := I.k C.ext
  have hL := C.loc
  have Lbig : 709 ≤ L := C.big
  have Cbig : 709 ≤ L + 1 := Nat.le_succ_of_le Lbig
  have cN := C.new "n" (L + 1) (by rfl)
  have cm : h₁.IsCell (L + 1) none := C.cell "n" (L + 1) (by rfl)
  have n := C.ns
  obtain ⟨oL, hoL⟩ := nsLive n
  have liveO : ∀ b ∈ frs outer, ∃ o, s.heap.get? b = some o := fun b hb => let ⟨_, o, ho, _⟩ := hff.mem hb; ⟨o, ho⟩
  have hfo : ∀ b ∈ frs outer, 709 ≤ b ∧ ∃ o, s.heap.get? b = some o := fun b hb => ⟨(hSb b hb).1, liveO b hb⟩
  have hff₁ : h₁.FunFrames {} outer := (Slots.of C.ext (fun _ _ h => nomatch h)).frames hff
  refine c_cons <| c_Assign_Name <| toC <| Call_ <| nmG (v := .ref 652) Z₁ (by kernel_rfl) (by rfl) <| cwF (w := w) (by kernel_rfl) <| wpAny_items_cons <| nmL n rfl rfl <| wpAny_items_nil ⟨Z₁, ?_⟩
  refine sp_convert _ (deeper_frames hfr) ?_ ?_ ?_ Z₁ I₁ J (by show A.depth + 1 + 6 < _; omega) hh (by omega) h0 hsym hloop fun h₂ g₂ tk₂ H0 e₂ Z₂ sl₂ eg₂ CV => ?_
  · obtain ⟨oL, es, ep, hoL, hdL, _⟩ := id n
    exact ⟨(by intro q; cases q), ⟨L, oL, rfl, rfl, hoL, fun vs q => by rw [hdL] at q; cases q⟩, hff₁⟩
  · show A.units + 3 + 20 < cLine
    omega
  · intro b hb
    rcases List.mem_cons.mp hb with rfl | hb
    · exact ⟨Lbig, I.all_new hL⟩
    · exact hSb b hb
  replace e₂ : Ext ((L :: frs outer) ++ [647]) h₁ h₂ := e₂
  replace sl₂ : Slots (L :: frs outer) h₁ h₂ := sl₂
  replace eg₂ : GM [] s.gens g₂ := eg₂
  have n₂ : h₂.Ns L _ := nsSlots n (sl₂ L (.head _))
  have ff : ∀ b, s.heap.get? b = none → b ∉ frs outer := fun b d q => by obtain ⟨o, ho⟩ := liveO b q; rw [d] at ho; cases ho
  have cm₂ : h₂.IsCell (L + 1) none := let ⟨o, a, b⟩ := cm; ⟨o, e₂ _ _ (fun q => by
    simp only [List.mem_append, List.mem_cons, List.not_mem_nil, or_false] at q
    rcases q with (q | q) | q
    · exact cN.2 q
    · exact ff _ cN.1 q
    · exact absurd (show 709 ≤ L + 1 by omega) (by rw [q]; decide)) a, b⟩
  refine stL n₂ rfl fun h₃ n₃ s₃ => ?_
  replace s₃ : Heap.SameBut L h₂ h₃ := s₃
  have LH : ∀ a ∈ H0.all, a ≠ L := fun a ha => dead_ne (CV.new a ha) hoL
  have e₃ : Ext [L] h₂ h₃ := Ext.of_same s₃
  have L3 : ∀ b ∈ ([L] : List Nat), b = L := fun b hb => List.mem_singleton.mp hb
  have M₃ : MS prog w (frs outer) s.heap s.gens (mycN 0 G.rows.length) (mycP 0 G.rows.length fun a b => ∃ x y, G.has x y ∧ a = G.ids.idxOf x ∧ b = G.ids.idxOf y) h₃ g₂ H0 := by
    refine ⟨Z₂.ext e₃ fun b hb => by rw [L3 b hb]; exact Lbig, ?_, ?_, eg₂, CV.I.to e₃ fun a ha q => LH a ha (L3 a q), CV.J, CV.ids, .inl ⟨CV.more, CV.vs⟩, fun a ha => dead C.ext.keep (CV.new a ha), CV.has⟩
    · refine Ext.loc (Ext.app' (Ext.of_keep C.ext.keep _) e₂ fun b hb => ?_) hL s₃
      simp only [List.mem_append, List.mem_cons, List.not_mem_nil, or_false] at hb ⊢
      rcases hb with (rfl | hb) | rfl
      · exact .inr hL
      · exact .inl (.inl hb)
      · exact .inl (.inr (by decide))
    · refine ((Slots.of C.ext fun _ _ h => nomatch h).trans (sl₂.mono fun b hb => .tail _ hb)).trans (Slots.of e₃ fun b hb q => ?_)
      rw [L3 b q] at hb
      exact ff _ hL hb
  have cm₃ : h₃.IsCell (L + 1) none := let ⟨o, a, b⟩ := cm₂; ⟨o, e₃ _ _ (fun q => cN.2 (L3 _ q)) a, b⟩
  have offL₃ : L ∉ H0.all := fun q => LH _ q rfl
  have offC₃ : L + 1 ∉ H0.all := fun q => by obtain ⟨o, ho, _⟩ := cm; exact dead_ne (CV.new _ q) ho rfl
  obtain ⟨m₃, n₃, hm₃, hi₃⟩ : ∃ m, h₃.Ns L m ∧ m ("M" : Str) = some (.ref H0.g) ∧ m ("iterations" : Str) = some (.int k ti) := ⟨_, n₃, rfl, rfl⟩
  have P0s : ∀ a b : Int, (∃ x y, G.has x y ∧ a = G.ids.idxOf x ∧ b = G.ids.idxOf y) → (∃ x y, G.has x y ∧ b = G.ids.idxOf x ∧ a = G.ids.idxOf y) := fun a b ⟨x, y, q, r1, r2⟩ => ⟨y, x, hsym _ _ q, r2, r1⟩
  generalize hP0 : (fun a b : Int => ∃ x y, G.has x y ∧ a = G.ids.idxOf x ∧ b = G.ids.idxOf y) = P0 at M₃ h
  have P0s' : ∀ a b, P0 a b → P0 b a := fun a b => by rw [← hP0]; exact P0s a b
  clear P0s
  generalize hN0 : G.rows.length = N0 at M₃ h hz h0
  refine c_at h₃ g₂ s.drawn s.os fun t₃ => ?_
  refine c_cons <| c_For <| toC <| Call_ <| nmB M₃.Z (by kernel_rfl) (by rfl) PyProof.Rows.boot_range (by decide) <| cwT <| wpAny_items_cons <| nmL n₃ rfl hi₃ <| wpAny_items_nil <| call_range_1 ?_
  generalize hh₄ : Heap.push _ _ = h₄
  have e₄ : Ext [] h₃ h₄ := hh₄ ▸ Ext.push _ _
  have hr₄ : IsRange h₄ h₃.objs.size 0 k 1 _ _ _ := hh₄ ▸ Heap.get?_push_size _ rfl
  dsimp only
  generalize h₃.objs.size = R at hr₄ ⊢
  refine wpAny_pyIter_range hr₄ (small_one (by omega) (by omega) (by omega) (by omega)) ?_
  generalize hh₅ : Heap.push _ _ = h₅
  have e₅ : Ext [] h₄ h₅ := hh₅ ▸ Ext.push _ _
  have nI₄ : New h₄ h₄.objs.size := New.pos' (M₃.Z.k e₄).big
  have hit : IsRangeIter h₅ h₄.objs.size 0 (k : Nat) 1 := by
    have : Builtin.Range.rangeSize 0 k 1 = (k : Int) := by rw [rangeSize_one]; split <;> omega
    rw [← hh₅, this]
    exact Heap.get?_push_size _ rfl
  dsimp only
  generalize h₄.objs.size = It at nI₄ hit ⊢
  have nI : New h₃ It := nI₄.back e₄.keep
  have e35 : Ext [] h₃ h₅ := e₄.app e₅
  have M₅ := M₃.same e35 (fun _ h => nomatch h) hfo (M₃.Z.k e35) (.refl _)
  have dI : s.heap.get? It = none := M₃.dead nI.1 nI.2
  have dC : s.heap.get? (L + 1) = none := cN.1
  have IL : It ≠ L := fun q => by obtain ⟨o, ho⟩ := nsLive n₃; exact nI.ne ho q
  have IC : It ≠ L + 1 := fun q => by obtain ⟨o, ho, _⟩ := cm₃; exact nI.ne ho q
  have W : ∀ (A' : Around) (p : Pos), A'.handled = none → Itr prog w A' (.ref It) [It] [It] [] (.Name "i" p) k (fun i v _ => ∃ t, v = .int (0 + i * 1) t) (fun i h _ => IsRangeIter h It (0 + (i : Nat) * 1) ((k : Int) - (i : Nat)) 1) := fun A' p ha =>
    Itr.ofWalks (Walks.range (prog := prog) (w := w) ha It 0 1 k) (fun i h st b hb => by cases List.mem_singleton.mp hb; exact ⟨_, st⟩) "i" p
  refine for_itrC (W _ _ (by exact hh)) (fun i h g => ∃ H m x, MS prog w (frs outer) s.heap s.gens (mycN i N0) (mycP i N0 P0) h g H ∧ (L ∉ H.all ∧ L + 1 ∉ H.all ∧ It ∉ H.all) ∧ h.Ns L m ∧ m ("M" : Str) = some (.ref H.g) ∧ h.IsCell (L + 1) x) ?_ ?_ ?_ ?_
  · intro i h₀ g₀ tk₀ v h₁' g₁' fv hi ⟨H, m, x, M₀, off, n₀, hm₀, c₀⟩ hv st₁ e₀ eg₀
    replace e₀ : Ext [It] h₀ h₁' := e₀
    have hN : mycN i N0 ≤ 9 := by
      have : i = 0 ∨ i = 1 := by omega
      rcases this with rfl | rfl
      · show N0 ≤ 9; omega
      · show 2 * N0 + 1 ≤ 9; omega
    have hNext : mycN (i + 1) N0 = 2 * mycN i N0 + 1 := rfl
    have hPext : mycP (i + 1) N0 P0 = stepP (mycN i N0) (mycP i N0 P0) := rfl
    have hPs : ∀ a b, mycP i N0 P0 a b → mycP i N0 P0 b a := fun a b => mycP_symm P0s' i
    rw [hNext, hPext]
    generalize mycN i N0 = N at M₀ hN ⊢
    generalize mycP i N0 P0 = P at M₀ hPs ⊢
    obtain ⟨tv, rfl⟩ := hv.is h₁' fun _ _ _ e => e
    have M₁ := M₀.same e₀ (fun b hb => by rw [List.mem_singleton.mp hb]; exact ⟨.inr dI, off.2.2⟩) hfo (M₀.Z.ext e₀ fun b hb => by rw [List.mem_singleton.mp hb]; exact nI.2) eg₀
    have n₁ : h₁'.Ns L _ := n₀.at' fun o e => e₀ _ _ (fun q => IL (List.mem_singleton.mp q).symm) e
    have c₁ : h₁'.IsCell (L + 1) x := let ⟨o, a, b⟩ := c₀; ⟨o, e₀ _ _ (fun q => IC (List.mem_singleton.mp q).symm) a, b⟩
    refine wpAny_assign_Name <| stL n₁ rfl fun h₂ n₂ s₂ => ?_
    replace s₂ : Heap.SameBut L h₁' h₂ := s₂
    have e₂ : Ext [L] h₁' h₂ := Ext.of_same s₂
    have M₂ := M₁.same e₂ (fun b hb => by rw [L3 b hb]; exact ⟨.inr hL, off.1⟩) hfo (M₁.Z.ext e₂ fun b hb => by rw [L3 b hb]; exact Lbig) (.refl _)
    have c₂ : h₂.IsCell (L + 1) x := let ⟨o, a, b⟩ := c₁; ⟨o, e₂ _ _ (fun q => cN.2 (L3 _ q)) a, b⟩
    have it₂ : IsRangeIter h₂ It (0 + ((i + 1 : Nat) : Int) * 1) ((k : Int) - ((i + 1 : Nat) : Int)) 1 := e₂ _ _ (fun q => IL (L3 _ q)) st₁
    obtain ⟨m₂, n₂, hm₂⟩ : ∃ m, h₂.Ns L m ∧ m ("M" : Str) = some (.ref H.g) := ⟨_, n₂, hm₀⟩
    refine c_cons <| toC <| wpAny_Assign_Name <| MethodCall_ <| nmL n₂ rfl hm₂ <| gb_meth M₂.Z M₂.I.gb (f := 464) (by kernel_rfl) (by kernel_rfl) (M₂.I.bare (by decide)) <| cwF0 M₂.Z (by kernel_rfl) <| sp_number_of_nodes M₂.Z M₂.I (by show A.depth + 1 < _; omega) (by rw [M₂.rows]; omega) fun h₃' tk₃ t₃ e₃ => ?_
    replace e₃ : Ext [] h₂ h₃' := e₃
    rw [M₂.rows]
    refine stC (c₂.keeps e₃.keep) (by rfl) (by rfl) fun h₄' c₄ s₄ => ?_
    replace s₄ : Heap.SameBut (L + 1) h₃' h₄' := s₄
    have e₄ : Ext [L + 1] h₂ h₄' := (Ext.of_keep e₃.keep _).app (Ext.of_same s₄)
    have S1 : ∀ b ∈ ([L + 1] : List Nat), b = L + 1 := fun b hb => List.mem_singleton.mp hb
    have M₄ := M₂.same e₄ (fun b hb => by rw [S1 b hb]; exact ⟨.inr dC, off.2.1⟩) hfo (M₂.Z.ext e₄ fun b hb => by rw [S1 b hb]; omega) (.refl _)
    have n₄ : h₄'.Ns L _ := n₂.at' fun o e => e₄ _ _ (fun q => cN.2 (S1 _ q).symm) e
    have it₄ := e₄ _ _ (fun q => IC (S1 _ q)) it₂
    refine c_cons <| toC <| wpAny_Expr_any <| MethodCall_ <| nmL n₄ rfl hm₂ <| gb_meth M₄.Z M₄.I.gb (f := 433) (by kernel_rfl) (by kernel_rfl) (M₄.I.bare (by decide)) <| cwF (w := w) (by kernel_rfl) <| wpAny_items_cons <| Call_ <| nmB M₄.Z (by kernel_rfl) (by rfl) PyProof.Rows.boot_range (by decide) <| cwT <| wpAny_items_cons <| nmC c₄ (by rfl) (by rfl) <| wpAny_items_cons <| wpAny_BinOp <| wpAny_Constant_int <| nmC c₄ (by rfl) (by rfl) <| PySem.P.mul_int (hm := IntMulOk.of_left (by decide)) <| wpAny_items_nil <| call_range_2 <| wpAny_items_nil ?_
    generalize hh₅ : Heap.push _ _ = h₅'
    have e₅ : Ext [] h₄' h₅' := hh₅ ▸ Ext.push _ _
    have hr₅ : IsRange h₅' h₄'.objs.size N (2 * N) 1 _ _ _ := hh₅ ▸ Heap.get?_push_size _ rfl
    have nR : New h₄' h₄'.objs.size := New.pos' M₄.Z.big
    dsimp only
    generalize h₄'.objs.size = R₅ at hr₅ nR ⊢
    have M₅' := M₄.same e₅ (fun _ h => nomatch h) hfo (M₄.Z.k e₅) (.refl _)
    have one : ∀ {a b : Nat}, b ∈ ([a] : List Nat) → b = a := fun q => List.mem_singleton.mp q
    have sm₅ : Builtin.Range.small (N : Int) (2 * N) 1 = true := small_one (by omega) (by omega) (by omega) (by omega)
    have sz₅ : Builtin.Range.rangeSize (N : Int) (2 * N) 1 = (N : Int) := by rw [rangeSize_one]; split <;> omega
    refine ⟨M₅'.Z, sp_add_nodes_from false [] [] rfl (fun q => by cases q) M₅'.Z M₅'.I M₅'.J (by show A.depth + 1 + 1 < _; omega) (by exact hh) (src_range hr₅ sm₅ sz₅) (fun b hb => by rw [one hb]; exact ⟨_, hr₅⟩) (fun b hb => by rw [one hb]; exact M₄.I.all_new nR.1)
      (fun _ h => nomatch h) (fun _ h => nomatch h) (by rw [M₅'.rows]; omega) (fun _ h => nomatch h) (fun j hj q => ?_) (fun a b _ _ q => by omega) fun h₆ g₆ tk₆ H₆ e₆ _ eg₆ NA => ?_⟩
    · rw [M₅'.ids] at q
      obtain ⟨j', hj', q⟩ := List.mem_map.mp q
      have := List.mem_range.mp hj'
      omega
    replace e₆ : Ext H.all h₅' h₆ := e₆.mono fun b hb => by simpa using hb
    replace eg₆ : GM [] g₁' g₆ := eg₆
    have hd₆ : H₆.hd = H.hd := NA.hd
    have hg₆ : H₆.g = H.g := congrArg (·.1) hd₆
    have M₆ : MS prog w (frs outer) s.heap s.gens (2 * N) P h₆ g₆ H₆ := M₅'.step e₆ (fun b hb => .inr (M₅'.new b hb)) hfo (M₅'.Z.ext e₆ fun b hb => M₅'.I.own b hb) eg₆ NA.I ⟨by rw [NA.len, M₅'.rows]; omega, NA.J⟩ (NA.ids.trans (by rw [M₅'.ids]; exact range_double N)) (M₅'.one.of (congrArg (·.2.2.2.2.2.1) hd₆) (congrArg (·.2.2.2.2.2.2) hd₆)) NA.gr fun a b => (NA.has a b).trans (M₅'.has a b)
    have k₆ : ∀ b o, b ∉ H.all → h₄'.get? b = some o → h₆.get? b = some o := fun b o q e => e₆ _ _ q (e₅.keep _ _ e)
    have n₆ : h₆.Ns L _ := n₄.at' fun o e => k₆ _ _ off.1 e
    have c₆ : h₆.IsCell (L + 1) _ := let ⟨o, a, b⟩ := c₄; ⟨o, k₆ _ _ off.2.1 a, b⟩
    have it₆ := k₆ _ _ off.2.2 it₄
    have off₆ : L ∉ H₆.all ∧ L + 1 ∉ H₆.all ∧ It ∉ H₆.all := by
      obtain ⟨o1, x1⟩ := nsLive n₄
      obtain ⟨o2, x2, _⟩ := c₄
      exact ⟨NA.gr.off (e₅.keep _ _ x1) off.1, NA.gr.off (e₅.keep _ _ x2) off.2.1, NA.gr.off (e₅.keep _ _ it₄) off.2.2⟩
    have hm₆ : m₂ ("M" : Str) = some (.ref H₆.g) := by rw [hg₆]; exact hm₂
    refine c_cons <| c_Assign_Name <| c_Call <| toC <| nmB M₆.Z (by kernel_rfl) (by rfl) boot_list (by decide) <| c_cwT <| c_items_cons <| c_MethodCall <| nmL n₆ rfl hm₆ <| get_edges M₆.Z M₆.I (by show A.depth + 1 + 4 < _; omega) (by exact hh) (Nat.le_trans M₆.one.len (by decide)) fun h₇' tk₇ H₇ ev dv hG e₇ I₇ hev hdv mev mdv hval => ?_
    replace e₇ : Ext [H₆.gd] h₆ h₇' := e₇
    replace hG : H₇ = H₆ ∨ H₇ = H₆.evd ev dv ∧ New h₆ ev ∧ New h₆ dv := hG
    obtain ⟨hrows, hg₇, had₇, one₇, gr₇⟩ : H₇.rows = H₆.rows ∧ H₇.g = H₆.g ∧ H₇.ad = H₆.ad ∧ OneView H₇ ∧ Grow h₆ H₆ H₇ := by
      rcases hG with rfl | ⟨rfl, x1, x2⟩
      · exact ⟨rfl, rfl, rfl, M₆.one, fun _ ha => .inl ha⟩
      · refine ⟨rfl, rfl, rfl, M₆.one.evd I₇, fun a ha => ?_⟩
        rcases List.mem_append.mp ha with q | q
        · exact .inl (List.mem_append_left _ q)
        · rcases Gr.fixed_iff.mp q with q | q | q | q
          · exact .inl (List.mem_append_right _ (Gr.fixed_iff.mpr (.inl q)))
          · exact .inl (List.mem_append_right _ (Gr.fixed_iff.mpr (.inr (.inl q))))
          · rcases List.mem_append.mp (show a ∈ H₆.vs ++ [ev, dv] from q) with q | q
            · exact .inl (List.mem_append_right _ (Gr.fixed_iff.mpr (.inr (.inr (.inl q)))))
            · simp only [List.mem_cons, List.not_mem_nil, or_false] at q
              rcases q with rfl | rfl
              · exact .inr x1.1
              · exact .inr x2.1
          · exact .inl (List.mem_append_right _ (Gr.fixed_iff.mpr (.inr (.inr (.inr q)))))
    have ids₇ : H₇.ids = H₆.ids := by unfold Gr.ids; rw [hrows]
    have M₇ : MS prog w (frs outer) s.heap s.gens (2 * N) P h₇' g₆ H₇ := M₆.step e₇ (fun b hb => .inr (M₆.new b (by rw [one hb]; exact mem_gd))) hfo (M₆.Z.ext e₇ fun b hb => M₆.I.own b (by rw [one hb]; exact mem_gd)) (.refl _) I₇ ⟨by rw [hrows]; exact M₆.J.few, fun r hr e he => by rw [ids₇]; exact M₆.J.keys r (by rw [← hrows]; exact hr) e he⟩ (ids₇.trans M₆.ids) one₇ gr₇ fun a b => by
      rw [← M₆.has]
      unfold Gr.has
      rw [hrows]
    have k₇ : ∀ b o, b ∉ H₆.all → h₆.get? b = some o → h₇'.get? b = some o := fun b o q e => e₇ _ _ (fun r => q (by rw [one r]; exact mem_gd)) e
    refine cwI0 (f := 0) hev <| sp_ev_call M₇.Z hev (by show A.depth + 1 < _; omega) fun h₈ tk₈ e₈ => c_items_nil <| toC ?_
    replace e₈ : Ext [] h₇' h₈ := e₈
    have M₈ := M₇.same e₈ (fun _ h => nomatch h) hfo (M₇.Z.k e₈) (.refl _)
    have mvs : ∀ a ∈ H₇.vs, a ∈ H₇.all := fun a ha => List.mem_append_right _ (Gr.fixed_iff.mpr (.inr (.inr (.inl ha))))
    refine sp_list_edges (G := H₇) (dx := dv) M₈.Z M₈.I M₈.J ⟨e₈.keep _ _ hev, by rw [had₇]; exact DictOf.ext hdv e₈ fun h => nomatch h⟩ (by show A.depth + 1 + 2 < _; omega) (by exact hh) (by rw [M₈.rows]; omega) (edges_len M₈.I M₈.J (by rw [M₈.rows]; omega)) (M₈.I.own _ (mvs _ mev)) (M₈.I.own _ (mvs _ mdv)) fun h₉ g₉ tk₉ D acc cc e₉ Z₉ eg₉ nD hD hsz hacc => ?_
    replace e₉ : Ext [255] h₈ h₉ := e₉
    replace eg₉ : GM [] g₆ g₉ := eg₉
    replace nD : New h₈ D := nD
    have b255 : ∀ b : Nat, 709 ≤ b → b ∉ ([255] : List Nat) := fun b hb q => by rw [one q] at hb; omega
    have k₉ : ∀ b o, 709 ≤ b → b ∉ H₆.all → h₆.get? b = some o → h₉.get? b = some o := fun b o hb q e => e₉ _ _ (b255 _ hb) (e₈.keep _ _ (k₇ _ _ q e))
    have n₉ : h₉.Ns L _ := n₆.at' fun o e => k₉ _ _ Lbig off₆.1 e
    refine stL n₉ rfl fun h₁₀ n₁₀ s₁₀ => ?_
    replace s₁₀ : Heap.SameBut L h₉ h₁₀ := s₁₀
    have e₁₀ : Ext [L] h₉ h₁₀ := Ext.of_same s₁₀
    have k₁₀ : ∀ b o, 709 ≤ b → b ∉ H₆.all → b ≠ L → h₆.get? b = some o → h₁₀.get? b = some o := fun b o hb q r e => e₁₀ _ _ (fun q' => r (one q')) (k₉ _ _ hb q e)
    obtain ⟨oL6, hoL6⟩ := nsLive n₆
    obtain ⟨oC6, hoC6, hdC6⟩ := id c₆
    have off₇ : L ∉ H₇.all ∧ L + 1 ∉ H₇.all ∧ It ∉ H₇.all := ⟨gr₇.off hoL6 off₆.1, gr₇.off hoC6 off₆.2.1, gr₇.off it₆ off₆.2.2⟩
    have LD : L ≠ D := fun q => nD.ne (e₈.keep _ _ (k₇ _ _ off₆.1 hoL6)) q.symm
    have DH : D ∉ H₇.all := M₈.I.all_new nD.1
    have M₁₀ : MS prog w (frs outer) s.heap s.gens (2 * N) P h₁₀ g₉ H₇ := (M₈.same e₉ (fun b hb => by
      rw [one hb]
      exact ⟨.inl (by decide), fun q => absurd (show 709 ≤ 255 from M₈.I.own _ q) (by decide)⟩) hfo Z₉ eg₉).same e₁₀ (fun b hb => by rw [one hb]; exact ⟨.inr hL, off₇.1⟩) hfo (Z₉.ext e₁₀ fun b hb => by rw [one hb]; exact Lbig) (.refl _)
    have c₁₀ : h₁₀.IsCell (L + 1) (some (.int N t₃)) := ⟨oC6, k₁₀ _ _ (by omega) off₆.2.1 cN.2 hoC6, hdC6⟩
    have it₁₀ := k₁₀ _ _ nI.2 off₆.2.2 IL it₆
    have hD₁₀ := e₁₀ _ _ (fun q => LD (one q).symm) hD
    have hacc₁₀ : ∀ j v, acc[j]? = some v → PE H₇.edges j v h₁₀ := fun j v q => (hacc j v q).move fun T o _ e hc nt => e₁₀ _ _ (fun q => nt (noTup_ns n₉ _ (by rw [← one q]; exact e))) e
    obtain ⟨m₁₀, n₁₀, hm₁₀, hO₁₀⟩ : ∃ m, h₁₀.Ns L m ∧ m ("M" : Str) = some (.ref H₇.g) ∧ m ("old_edges" : Str) = some (.ref D) := ⟨_, n₁₀, by rw [hg₇]; exact hm₆, rfl⟩
    have hes : ∀ j, j < acc.size → (0 ≤ (H₇.edges[j]!).1 ∧ (H₇.edges[j]!).1 < N) ∧ (0 ≤ (H₇.edges[j]!).2 ∧ (H₇.edges[j]!).2 < N) := fun j hj => by
      rw [hsz] at hj
      have hmem : H₇.edges[j]! ∈ H₇.edges := by rw [getElem!_pos H₇.edges j hj]; exact List.getElem_mem hj
      exact M₀.inn ((M₁₀.has _ _).mp (edges_sound hmem))
    have dep7 : ∀ {H' : Gr} {h' : Heap}, (∀ b ∈ H'.all, ∃ o, h'.get? b = some o ∧ o.cls ≠ .type "tuple") → D ∉ H'.all → L + 1 ∉ H'.all → ∀ b, New h' b ∨ b < 709 ∨ b = D ∨ b = L + 1 ∨ (∃ o, h'.get? b = some o ∧ o.cls = .type "tuple") → New h' b ∨ b < 709 ∨ b ∉ H'.all := fun nt d1 d2 b hb => by
      rcases hb with q | q | rfl | rfl | ⟨o, ho, hc⟩
      · exact .inl q
      · exact .inr (.inl q)
      · exact .inr (.inr d1)
      · exact .inr (.inr d2)
      · exact .inr (.inr fun q => by obtain ⟨o', ho', hc'⟩ := nt b q; rw [ho] at ho'; cases ho'; exact hc' hc)
    refine c_cons <| toC <| wpAny_Expr_any <| MethodCall_ <| nmL n₁₀ rfl hm₁₀ <| gb_meth M₁₀.Z M₁₀.I.gb (f := 492) (by kernel_rfl) (by kernel_rfl) (M₁₀.I.bare (by decide)) <| cwF (w := w) (by kernel_rfl) <| wpAny_items_cons <| eg_gen (c := L + 1) (u := fun j => (H₇.edges[j]!).1) (v := fun j => (H₇.edges[j]!).2 + N) rfl rfl rfl rfl rfl rfl (by rfl) (by exact hh) (by show A.depth + 1 < _; omega) M₁₀.Z n₁₀ hO₁₀ nD.2 (by omega) hD₁₀ hacc₁₀ c₁₀
      (fun A' E' Q' s' C code m' j tu tv hj hc hn hu hv hQ => wpAny_items_cons <| nmL hn (by rfl) hu <| wpAny_items_cons <| wpAny_BinOp <| nmL hn (by rfl) hv <| nmF hc (by rfl) (by rfl) (by decide) <| PySem.P.add_int <| wpAny_items_nil <| hQ _ _ _)
      fun a own dep kg h₁₁ g₁₁ tk₁₁ X e₁₁ eg₁₁ Z₁₁ hk₁₁ hl hod hown hdep => wpAny_items_nil ⟨Z₁₁, ms_edges M₁₀ hfo (by show A.depth + 1 + 1 < _; omega) (by exact hh) X e₁₁ eg₁₁ Z₁₁ hk₁₁ hl hod hown (fun b hb => dep7 (fun b hb => M₁₀.g9 hb) DH off₇.2.1 b (hdep b hb))
        (fun j hj => by have := hes j hj; rw [M₁₀.ids]; exact mem_irange.mpr (by omega)) (fun j hj => by have := hes j hj; rw [M₁₀.ids]; exact mem_irange.mpr (by omega)) (fun j hj => by have := hes j hj; omega) fun h₁₂ g₁₂ tk₁₂ H₁₂ M₁₂ hg₁₂ gr₁₂ k₁₂ t₁₂ => ?_⟩
    have n₁₂ : h₁₂.Ns L _ := n₁₀.at' fun o e => k₁₂ _ _ e Lbig off₇.1
    obtain ⟨oL10, hoL10⟩ := nsLive n₁₀
    obtain ⟨oC10, hoC10, hdC10⟩ := id c₁₀
    have c₁₂ : h₁₂.IsCell (L + 1) (some (.int N t₃)) := ⟨oC10, k₁₂ _ _ hoC10 Cbig off₇.2.1, hdC10⟩
    have it₁₂ := k₁₂ _ _ it₁₀ nI.2 off₇.2.2
    have hD₁₂ := k₁₂ _ _ hD₁₀ nD.2 DH
    have off₁₂ : L ∉ H₁₂.all ∧ L + 1 ∉ H₁₂.all ∧ It ∉ H₁₂.all := ⟨gr₁₂.off hoL10 off₇.1, gr₁₂.off hoC10 off₇.2.1, gr₁₂.off it₁₀ off₇.2.2⟩
    have DH₁₂ : D ∉ H₁₂.all := gr₁₂.off hD₁₀ DH
    have hacc₁₂ : ∀ j v, acc[j]? = some v → PE H₇.edges j v h₁₂ := fun j v q => (hacc₁₀ j v q).move fun T o _ e hc _ => t₁₂ _ _ e hc
    have hm₁₂ : m₁₀ ("M" : Str) = some (.ref H₁₂.g) := by rw [hg₁₂]; exact hm₁₀
    refine c_cons <| toC <| wpAny_Expr_any <| MethodCall_ <| nmL n₁₂ rfl hm₁₂ <| gb_meth M₁₂.Z M₁₂.I.gb (f := 492) (by kernel_rfl) (by kernel_rfl) (M₁₂.I.bare (by decide)) <| cwF (w := w) (by kernel_rfl) <| wpAny_items_cons <| eg_gen (c := L + 1) (u := fun j => (H₇.edges[j]!).1 + N) (v := fun j => (H₇.edges[j]!).2) rfl rfl rfl rfl rfl rfl (by rfl) (by exact hh) (by show A.depth + 1 < _; omega) M₁₂.Z n₁₂ hO₁₀ nD.2 (by omega) hD₁₂ hacc₁₂ c₁₂
      (fun A' E' Q' s' C code m' j tu tv hj hc hn hu hv hQ => wpAny_items_cons <| wpAny_BinOp <| nmL hn (by rfl) hu <| nmF hc (by rfl) (by rfl) (by decide) <| PySem.P.add_int <| wpAny_items_cons <| nmL hn (by rfl) hv <| wpAny_items_nil <| hQ _ _ _)
      fun a own dep kg h₁₃ g₁₃ tk₁₃ X e₁₃ eg₁₃ Z₁₃ hk₁₃ hl hod hown hdep => wpAny_items_nil ⟨Z₁₃, ms_edges M₁₂ hfo (by show A.depth + 1 + 1 < _; omega) (by exact hh) X e₁₃ eg₁₃ Z₁₃ hk₁₃ hl hod hown (fun b hb => dep7 (fun b hb => M₁₂.g9 hb) DH₁₂ off₁₂.2.1 b (hdep b hb))
        (fun j hj => by have := hes j hj; rw [M₁₂.ids]; exact mem_irange.mpr (by omega)) (fun j hj => by have := hes j hj; rw [M₁₂.ids]; exact mem_irange.mpr (by omega)) (fun j hj => by have := hes j hj; omega) fun h₁₄ g₁₄ tk₁₄ H₁₄ M₁₄ hg₁₄ gr₁₄ k₁₄ t₁₄ => ?_⟩
    have n₁₄ : h₁₄.Ns L _ := n₁₂.at' fun o e => k₁₄ _ _ e Lbig off₁₂.1
    obtain ⟨oL12, hoL12⟩ := nsLive n₁₂
    obtain ⟨oC12, hoC12, hdC12⟩ := id c₁₂
    have c₁₄ : h₁₄.IsCell (L + 1) (some (.int N t₃)) := ⟨oC12, k₁₄ _ _ hoC12 Cbig off₁₂.2.1, hdC12⟩
    have it₁₄ := k₁₄ _ _ it₁₂ nI.2 off₁₂.2.2
    have off₁₄ : L ∉ H₁₄.all ∧ L + 1 ∉ H₁₄.all ∧ It ∉ H₁₄.all := ⟨gr₁₄.off hoL12 off₁₂.1, gr₁₄.off hoC12 off₁₂.2.1, gr₁₄.off it₁₂ off₁₂.2.2⟩
    have hm₁₄ : m₁₀ ("M" : Str) = some (.ref H₁₄.g) := by rw [hg₁₄]; exact hm₁₂
    refine c_cons <| toC <| wpAny_Expr_any <| MethodCall_ <| nmL n₁₄ rfl hm₁₄ <| gb_meth M₁₄.Z M₁₄.I.gb (f := 426) (by kernel_rfl) (by kernel_rfl) (M₁₄.I.bare (by decide)) <| cwF (w := w) (by kernel_rfl) <| wpAny_items_cons <| wpAny_BinOp <| wpAny_Constant_int <| nmC c₁₄ (by rfl) (by rfl) <| PySem.P.mul_int (hm := IntMulOk.of_left (by decide)) <| wpAny_items_nil ⟨M₁₄.Z, sp_add_node M₁₄.Z M₁₄.I M₁₄.J (by show A.depth + 1 + 1 < _; omega) (by rw [M₁₄.rows]; omega) (by
      rw [M₁₄.ids]
      intro q
      have := mem_irange.mp q
      omega) fun h₁₅ tk₁₅ na nb e₁₅ nna nnb I₁₅ => ?_⟩
    replace e₁₅ : Ext [H₁₄.ad, H₁₄.nd] h₁₄ h₁₅ := e₁₅
    replace nna : New h₁₄ na := nna
    replace nnb : New h₁₄ nb := nnb
    have gr₁₅ : Grow h₁₄ H₁₄ (H₁₄.addN (2 * N) na nb) := fun b hb => by
      rcases List.mem_append.mp hb with q | q
      · rcases addN_muts.mp q with q | rfl
        · exact .inl (List.mem_append_left _ q)
        · exact .inr nnb.1
      · rcases addN_fixed.mp q with q | rfl
        · exact .inl (List.mem_append_right _ q)
        · exact .inr nna.1
    have f₁₅ : ∀ b ∈ ([H₁₄.ad, H₁₄.nd] : List Nat), b ∈ H₁₄.all := fun b hb => by
      simp only [List.mem_cons, List.not_mem_nil, or_false] at hb
      rcases hb with rfl | rfl
      · exact mem_ad
      · exact mem_nd
    have ids₁₅ : (H₁₄.addN (2 * N) na nb).ids = (List.range (2 * N + 1)).map fun (i : Nat) => (i : Int) := by
      rw [addN_ids, M₁₄.ids, List.range_succ, List.map_append]
      rfl
    have M₁₅ := M₁₄.step (N' := 2 * N + 1) e₁₅ (fun b hb => .inr (M₁₄.new b (f₁₅ b hb))) hfo (M₁₄.Z.ext e₁₅ fun b hb => M₁₄.I.own b (f₁₅ b hb)) (.refl _) I₁₅ ⟨by have := M₁₄.rows; simp [Gr.addN, this]; omega, fun r hr e he => by
      rw [addN_ids]
      rcases List.mem_append.mp hr with q | q
      · exact List.mem_append_left _ (M₁₄.J.keys r q e he)
      · rw [List.mem_singleton.mp q] at he; cases he⟩ ids₁₅ (M₁₄.one.of rfl rfl) gr₁₅ fun a b => (addN_has H₁₄ (2 * N) na nb a b).trans (M₁₄.has a b)
    have k₁₅ : ∀ b o, h₁₄.get? b = some o → b ∉ H₁₄.all → h₁₅.get? b = some o := fun b o e q => e₁₅ _ _ (fun r => q (f₁₅ b r)) e
    have n₁₅ : h₁₅.Ns L _ := n₁₄.at' fun o e => k₁₅ _ _ e off₁₄.1
    obtain ⟨oL14, hoL14⟩ := nsLive n₁₄
    obtain ⟨oC14, hoC14, hdC14⟩ := id c₁₄
    have c₁₅ : h₁₅.IsCell (L + 1) (some (.int N t₃)) := ⟨oC14, k₁₅ _ _ hoC14 off₁₄.2.1, hdC14⟩
    have it₁₅ := k₁₅ _ _ it₁₄ off₁₄.2.2
    have off₁₅ : L ∉ (H₁₄.addN (2 * N) na nb).all ∧ L + 1 ∉ (H₁₄.addN (2 * N) na nb).all ∧ It ∉ (H₁₄.addN (2 * N) na nb).all := ⟨gr₁₅.off hoL14 off₁₄.1, gr₁₅.off hoC14 off₁₄.2.1, gr₁₅.off it₁₄ off₁₄.2.2⟩
    have hm₁₅ : m₁₀ ("M" : Str) = some (.ref (H₁₄.addN (2 * N) na nb).g) := hm₁₄
    refine c_cons <| toC <| wpAny_Expr_any <| MethodCall_ <| nmL n₁₅ rfl hm₁₅ <| gb_meth M₁₅.Z M₁₅.I.gb (f := 492) (by kernel_rfl) (by kernel_rfl) (M₁₅.I.bare (by decide)) <| cwF (w := w) (by kernel_rfl) <| wpAny_items_cons <| rg_gen (c := L + 1) (N := N) (u := fun j => (j : Int) + N) (v := fun j => 2 * N) rfl rfl rfl rfl rfl rfl rfl rfl (by rfl) (by show A.depth + 1 < _; omega) (by omega) M₁₅.Z Cbig c₁₅
      (fun A' E' Q' s' C code m' j tu hj hc hn hu hQ => wpAny_items_cons <| wpAny_BinOp <| nmL hn (by rfl) hu <| nmF hc (by rfl) (by rfl) (by decide) <| PySem.P.add_int <| wpAny_items_cons <| wpAny_BinOp <| wpAny_Constant_int <| nmF hc (by rfl) (by rfl) (by decide) <| PySem.P.mul_int (hm := IntMulOk.of_left (by decide)) <| wpAny_items_nil <| hQ _ _ _)
      fun a own dep kg h₁₆ g₁₆ tk₁₆ X e₁₆ eg₁₆ Z₁₆ hk₁₆ hl hod hown hdep => wpAny_items_nil ⟨Z₁₆, ms_edges M₁₅ hfo (by show A.depth + 1 + 1 < _; omega) (by exact hh) X e₁₆ eg₁₆ Z₁₆ hk₁₆ hl hod hown (fun b hb => by
          rcases hdep b hb with q | q | rfl
          · exact .inl q
          · exact .inr (.inl q)
          · exact .inr (.inr off₁₅.2.1))
        (fun j hj => by rw [ids₁₅]; exact mem_irange.mpr (by omega)) (fun j hj => by rw [ids₁₅]; exact mem_irange.mpr (by omega)) (fun j hj => by omega) fun h₁₇ g₁₇ tk₁₇ H₁₇ M₁₇ hg₁₇ gr₁₇ k₁₇ t₁₇ => ?_⟩
    have n₁₇ : h₁₇.Ns L _ := n₁₅.at' fun o e => k₁₇ _ _ e Lbig off₁₅.1
    obtain ⟨oL15, hoL15⟩ := nsLive n₁₅
    obtain ⟨oC15, hoC15, hdC15⟩ := id c₁₅
    refine c_nil ⟨rfl, h₁₇, g₁₇, _, rfl, ⟨H₁₇, m₁₀, _, M₁₇.congr ?_, ⟨gr₁₇.off hoL15 off₁₅.1, gr₁₇.off hoC15 off₁₅.2.1, gr₁₇.off it₁₅ off₁₅.2.2⟩, n₁₇, by rw [hg₁₇]; exact hm₁₅, ⟨oC15, k₁₇ _ _ hoC15 Cbig off₁₅.2.1, hdC15⟩⟩, k₁₇ _ _ it₁₅ nI.2 off₁₅.2.2⟩
    refine stepP_of hsz fun x y => ?_
    rw [← M₁₀.has]
    exact edges_has M₁₀.I.ns M₁₀.J (fun x y q => (M₁₀.has _ _).mpr (hPs _ _ ((M₁₀.has _ _).mp q)))
  · intro h₆ g₆ tk₆ h₇ g₇ ⟨H, m, x, M₆, off, n₆, hm₆, c₆⟩ e₇ eg₇
    replace e₇ : Ext [It] h₆ h₇ := e₇
    have M₇ := M₆.same e₇ (fun b hb => by rw [List.mem_singleton.mp hb]; exact ⟨.inr dI, off.2.2⟩) hfo (M₆.Z.ext e₇ fun b hb => by rw [List.mem_singleton.mp hb]; exact nI.2) eg₇
    have n₇ : h₇.Ns L _ := n₆.at' fun o e => e₇ _ _ (fun q => IL (List.mem_singleton.mp q).symm) e
    exact c_cons <| c_Return <| toC <| nmL n₇ rfl hm₆ <| h h₇ g₇ _ H M₇
  · show IsRangeIter h₅ It (0 + ((0 : Nat) : Int) * 1) ((k : Int) - ((0 : Nat) : Int)) 1
    simpa using hit
  · exact ⟨H0, m₃, none, M₅, ⟨offL₃, offC₃, M₃.I.all_new nI.1⟩, n₃.keeps e35.keep, hm₃, let ⟨o, a, b⟩ := cm₃; ⟨o, e35.keep _ _ a, b⟩⟩
end
end Mine
end W46
section W47
open PySem PySem.W PyProof.Rows PySem.Calls PySem.Spec
set_option maxRecDepth 100000
set_option maxHeartbeats 8000000
namespace Mine
theorem zip_no_len : typeLookup (.type "zip") "__len__" = pure none := by rw [typeLookup_type, builtinLookup_eq_fast]; kernel_rfl
theorem zip_no_hint : typeLookup (.type "zip") "__length_hint__" = pure none := by rw [typeLookup_type, builtinLookup_eq_fast]; kernel_rfl
section
variable {prog : Program} {w : World} {A : Around} {E : Value → Shared → Prop} {s : Shared}
theorem zip_end2 {z TI TO i1 i2 l1 l2 T k1 k2 : Nat} {xs ys : Array Value} {x : Value} {oT : Obj} {f1 : Bool} {Q : Option Value → Shared → Prop} (hh : A.handled = none) (D : ZipApart z TI TO i1 i2 l1 l2)
    (hz : ZipAt s.heap z TI TO (rawInt T) (.bool f1)) (hTI : Tup s.heap TI #[.ref i1, .ref i2]) (hT : s.heap.get? T = some oT)
    (h1 : s.heap.IsListIter i1 l1 k1) (h2 : s.heap.IsListIter i2 l2 k2) (hl1 : s.heap.IsList l1 xs) (hl2 : s.heap.IsList l2 ys) (hx : xs[k1]? = some x) (hy : ys[k2]? = none)
    (h : ∀ h', Ext [z, i1, i2] s.heap h' → Q none { s with heap := h' }) :
    wpAny (model prog w) A (pyNext (.ref z)) Q E s := by
  have hTz : s.TypeIs (.ref z) "zip" := ⟨_, hz, rfl⟩
  unfold pyNext
  refine wpAny_bind (wpAny_attempt (wpAny_callSpecial?_slot (name := Str.ofString "__next__") hTz PySem.F.slot_zip_next (wpAny_call_entry PySem.F.slot_zip_next hTz PySem.F.entry_zip_next ?_ (PySem.F.args_zip_next_1 _))))
  show wpAny _ _ (field (.ref z) 2 >>= _) _ _ _
  refine wpAny_bind (wpAny_field hz rfl (x := .bool false) rfl ?_)
  show wpAny _ _ (field (.ref z) 3 >>= _) _ _ _
  refine wpAny_bind (wpAny_field hz rfl (x := .ref TI) rfl ?_)
  refine wpAny_bind (wpAny_seqItems hTI rfl ?_)
  show wpAny _ _ (Builtin.SmallTypes.ownedTupleIsFree (.ref z) >>= _) _ _ _
  refine wpAny_bind ?_
  refine owned_out hz hT fun h₁ hz₁ e₁ => ?_
  simp only [Bool.false_eq_true, if_false]
  have nz : ∀ b : Nat, b ≠ z → b ∉ ([z] : List Nat) := fun b n q => n (List.mem_singleton.mp q)
  have a1 : h₁.IsListIter i1 l1 k1 := h1.at fun o e => e₁ _ _ (nz _ D.i1z) e
  have a2 : h₁.IsListIter i2 l2 k2 := h2.at fun o e => e₁ _ _ (nz _ D.i2z) e
  have b1 : h₁.IsList l1 xs := hl1.at fun o e => e₁ _ _ (nz _ D.l1z) e
  have b2 : h₁.IsList l2 ys := hl2.at fun o e => e₁ _ _ (nz _ D.l2z) e
  refine wpAny_bind ?_
  rw [← Array.forIn_toList]
  simp only [List.forIn_cons, List.forIn_nil]
  refine wpAny_bind (wpAny_bind (wpAny_holding ?_))
  show wpAny _ _ (Builtin.SmallTypes.nextOf (.ref i1) >>= _) _ _ _
  refine wpAny_bind (wpAny_nextOf_list_item (s := { s with heap := h₁ }) a1 b1 hx fun h₂ c1 s₂ => wpAny_pure ?_)
  replace s₂ : Heap.SameBut i1 h₁ h₂ := s₂
  refine wpAny_pure ?_
  refine wpAny_bind (wpAny_bind (wpAny_holding ?_))
  show wpAny _ _ (Builtin.SmallTypes.nextOf (.ref i2) >>= _) _ _ _
  refine wpAny_bind (wpAny_nextOf_list_end (s := { s with heap := h₂ }) (A := A.in1) hh (a2.extBut s₂.extBut D.i12.symm) (b2.extBut s₂.extBut D.l2i1) hy fun h₃ e he hc => ?_)
  obtain ⟨o, ho, hc⟩ := hc
  refine wpAny_bind (wpAny_isInstance (T := "StopIteration") (b := true) ⟨o, ho, hc⟩ isSubtype_stop ?_)
  exact wpAny_pure (h h₃ (((e₁.mono fun b hb => by rw [List.mem_singleton.mp hb]; simp).app ((Ext.of_same s₂).mono fun b hb => by rw [List.mem_singleton.mp hb]; simp)).app ((Ext.of_extBut he).mono fun b hb => by rw [List.mem_singleton.mp hb]; simp)))
theorem call_list_zip1 {z TI TO i1 i2 l1 l2 : Nat} {x x' y a b : Value} {Q : Value → Shared → Prop} (hh : A.handled = none) (D : ZipApart z TI TO i1 i2 l1 l2)
    (hz : IsZip s.heap z TI TO .none) (hTI : IsPair s.heap TI (.ref i1) (.ref i2)) (hTO : IsPair s.heap TO a b) (h1 : s.heap.IsListIter i1 l1 0) (h2 : s.heap.IsListIter i2 l2 0) (hl1 : s.heap.IsList l1 #[x, x']) (hl2 : s.heap.IsList l2 #[y])
    (h : ∀ h' tk S U c, Ext [z, TO, i1, i2] s.heap h' → s.heap.get? S = none → s.heap.objs.size ≤ S → h'.get? S = some { cls := .type "list", data := .seq #[.ref U] c } → s.heap.get? U = none → IsPair h' U x y → Q (.ref S) { s with heap := h', toks := tk }) :
    wpAny (model prog w) A (call (.type "list") [.ref z]) Q E s := by
  refine callType_codes (Q₁ := fun obj s₁ => obj = .ref s.heap.objs.size ∧ s₁ = { s with heap := s.heap.push { cls := .type "list", data := .seq #[] } }) PySem.F.called_list (PySem.F.typeCall_list_1 _) PySem.F.entry_list_init
    (code_list_new _ ⟨rfl, rfl⟩) fun obj s₁ h₁ => ?_
  obtain ⟨rfl, rfl⟩ := h₁
  have hS : (s.heap.push { cls := .type "list", data := .seq #[] }).get? s.heap.objs.size = some { cls := .type "list", data := .seq #[] } := Heap.get?_push_size _ rfl
  refine ⟨⟨_, hS, rfl⟩, PySem.F.args_list_init_2 _ _, ?_⟩
  have dS : s.heap.get? s.heap.objs.size = none := get?_size _
  have leS : s.heap.objs.size ≤ s.heap.objs.size := Nat.le_refl _
  show wpAny _ A.in1.in1 (do let old ← Builtin.List.listItems (.ref s.heap.objs.size); Builtin.List.listUpdate (.ref s.heap.objs.size) (fun _ => #[]); letGo old.toList.reverse; Builtin.List.listExtendWith (.ref s.heap.objs.size) (.ref z) .none) _ _ _
  refine wpAny_bind ?_
  unfold Builtin.List.listItems
  refine wpAny_bind (wpAny_seqItems hS rfl (wpAny_pure ?_))
  show wpAny _ A.in1.in1 (updateSeq s.heap.objs.size (fun _ => #[]) >>= fun _ => letGo (#[] : Array Value).toList.reverse >>= fun _ => Builtin.List.listExtendWith (.ref s.heap.objs.size) (.ref z) .none) _ _ _
  refine wpAny_bind (wpAny_updateSeq hS rfl ?_)
  generalize hSS : s.heap.objs.size = S at *
  have hS₂ : ∃ c, ((s.heap.push { cls := .type "list", data := .seq #[] }).update S (Obj.mapSeq (fun _ => (#[] : Array Value)))).get? S = some { cls := .type "list", data := .seq #[] c } := ⟨_, Heap.get?_update_self (Obj.mapSeq (fun _ => (#[] : Array Value))) hS rfl⟩
  have e₁ : Ext [] s.heap ((s.heap.push { cls := .type "list", data := .seq #[] }).update S (Obj.mapSeq (fun _ => (#[] : Array Value)))) := fun b o _ e => (Heap.get?_update_other _ _ (fun q : S = b => by
    have := Heap.lt_size e
    rw [← q, ← hSS] at this
    exact Nat.lt_irrefl _ this)).trans (Heap.get?_push_of_some _ e)
  refine wpAny_bind (wpAny_letGo ?_)
  generalize (s.heap.push { cls := .type "list", data := .seq #[] }).update S (Obj.mapSeq (fun _ => (#[] : Array Value))) = h₁ at *
  have Sz : S ≠ z := (dead_ne dS hz)
  have hz₁ : IsZip h₁ z TI TO .none := e₁.keep _ _ hz
  have hT₁ : ({ s with heap := h₁ } : Shared).TypeIs (.ref z) "zip" := ⟨_, hz₁, rfl⟩
  unfold Builtin.List.listExtendWith
  refine wpAny_bind (wpAny_typeOf hT₁ ?_)
  have q1 : Builtin.List.listSameRef (.ref S) (.ref z) = false := by simp [Builtin.List.listSameRef, Sz]
  have q2 : (Value.type "zip" == Value.type "list") = false := by decide
  have q3 : (Value.type "zip" == Value.type "tuple") = false := by decide
  simp only [q1, q2, q3, Bool.or_false, Bool.false_eq_true, if_false]
  refine wpAny_bind (wpAny_pyIter_zip hz₁ ?_)
  refine wpAny_bind (wpAny_holding ?_)
  unfold Builtin.List.listLengthHint
  refine wpAny_bind (wpAny_specialOf hT₁ zip_no_len ?_)
  show wpAny _ _ (specialOf (Value.ref z) (Str.ofString "__length_hint__") >>= _) _ _ _
  refine wpAny_bind (wpAny_specialOf hT₁ zip_no_hint ?_)
  refine wpAny_pure ?_
  obtain ⟨c₂, hS₂⟩ := hS₂
  have L1 : h₁.IsListIter i1 l1 0 := h1.at fun o e => e₁.keep _ _ e
  have L2 : h₁.IsListIter i2 l2 0 := h2.at fun o e => e₁.keep _ _ e
  have K1 : h₁.IsList l1 #[x, x'] := hl1.at fun o e => e₁.keep _ _ e
  have K2 : h₁.IsList l2 #[y] := hl2.at fun o e => e₁.keep _ _ e
  have nS : ∀ b : Nat, b ≠ S → b ∉ ([S] : List Nat) := fun b n q => n (List.mem_singleton.mp q)
  have Si1 : i1 ≠ S := by obtain ⟨o, ho, _⟩ := h1; exact (dead_ne dS ho).symm
  have Si2 : i2 ≠ S := by obtain ⟨o, ho, _⟩ := h2; exact (dead_ne dS ho).symm
  have Sl1 : l1 ≠ S := by obtain ⟨o, ho, _⟩ := hl1; exact (dead_ne dS ho).symm
  have Sl2 : l2 ≠ S := by obtain ⟨o, ho, _⟩ := hl2; exact (dead_ne dS ho).symm
  have STI : TI ≠ S := (dead_ne dS hTI).symm
  have STO : TO ≠ S := (dead_ne dS hTO).symm
  have loop : ∀ (h₃ : Heap) c₃, Ext [S] h₁ h₃ → h₃.get? S = some { cls := .type "list", data := .seq #[] c₃ } → codeAny (model prog w) A.in1 (.builtin "list.extend.loop" ⟨[.ref S, .ref z, .none], []⟩) (wants (fun r s₂ => r = .none ∧ Q (.ref S) s₂) E) { s with heap := h₃ } := by
    intro h₃ c₃ e₃ hS₃
    have z₃ : IsZip h₃ z TI TO .none := e₃ _ _ (nS _ Sz.symm) hz₁
    have TI₃ : IsPair h₃ TI (.ref i1) (.ref i2) := e₃ _ _ (nS _ STI) (e₁.keep _ _ hTI)
    have TO₃ : IsPair h₃ TO a b := e₃ _ _ (nS _ STO) (e₁.keep _ _ hTO)
    have L1₃ : h₃.IsListIter i1 l1 0 := L1.at fun o e => e₃ _ _ (nS _ Si1) e
    have L2₃ : h₃.IsListIter i2 l2 0 := L2.at fun o e => e₃ _ _ (nS _ Si2) e
    have K1₃ : h₃.IsList l1 #[x, x'] := K1.at fun o e => e₃ _ _ (nS _ Sl1) e
    have K2₃ : h₃.IsList l2 #[y] := K2.at fun o e => e₃ _ _ (nS _ Sl2) e
    refine codeAny_builtin PySem.F.entry_extend_loop ?_
    rw [Around.under_plainId PySem.F.plain_extend_loop _]
    show wpAny _ A.in1.in1 (pyNext (.ref z) >>= _) _ _ _
    refine wpAny_bind (wpAny_pyNext_zip_item (s := { s with heap := h₃ }) D z₃ TI₃ TO₃ L1₃ L2₃ K1₃ K2₃ rfl rfl fun h₄ z₄ TO₄ L1₄ L2₄ hU₄ _ k₄ => ?_)
    replace k₄ : ∀ c o, c ≠ z → c ≠ TO → c ≠ i1 → c ≠ i2 → h₃.get? c = some o → h₄.get? c = some o := k₄
    have dU : h₃.get? h₃.objs.size = none := get?_size _
    replace z₄ : ZipAt h₄ z TI TO (rawInt h₃.objs.size) (.bool false) := z₄
    replace hU₄ : IsPair h₄ h₃.objs.size x y := hU₄
    dsimp only
    generalize h₃.objs.size = U at z₄ hU₄ dU ⊢
    show wpAny _ A.in1.in1 (letOwnedTupleGo (.Name "x" default) (.ref z) (.ref U) >>= fun _ => updateSeq S (·.push (.ref U)) >>= fun _ => again (.builtin "list.extend.loop" ⟨[.ref S, .ref z, .none], []⟩)) _ _ _
    refine wpAny_bind (m := letOwnedTupleGo (.Name "x" default) (.ref z) (.ref U)) (wpAny_of_eq (a := ()) rfl ?_)
    have hS₄ : h₄.get? S = some { cls := .type "list", data := .seq #[] c₃ } := k₄ _ _ Sz STO.symm Si1.symm Si2.symm hS₃
    obtain ⟨c₅, hS₅⟩ : ∃ c', (h₄.update S (Obj.mapSeq (·.push (.ref U)))).get? S = some { cls := .type "list", data := .seq #[.ref U] c' } := ⟨_, Heap.get?_update_self (Obj.mapSeq (·.push (.ref U))) hS₄ rfl⟩
    have e₅ : Ext [S] h₄ (h₄.update S (Obj.mapSeq (·.push (.ref U)))) := fun b o n e => (Heap.get?_update_other _ _ (fun q => n (by rw [q]; exact .head _))).trans e
    refine wpAny_bind (wpAny_updateSeq hS₄ rfl (wpAny_pure ⟨plainId_quiet PySem.F.plain_extend_loop _, ?_⟩))
    generalize h₄.update S (Obj.mapSeq (·.push (.ref U))) = h₅ at hS₅ e₅ ⊢
    have US : U ≠ S := dead_ne dU hS₃
    have z₅ : ZipAt h₅ z TI TO (rawInt U) (.bool false) := e₅ _ _ (nS _ Sz.symm) z₄
    have TI₅ : IsPair h₅ TI (.ref i1) (.ref i2) := e₅ _ _ (nS _ STI) (k₄ _ _ D.TIz D.TITO D.TIi1 D.TIi2 TI₃)
    have U₅ : IsPair h₅ U x y := e₅ _ _ (nS _ US) hU₄
    refine codeAny_builtin PySem.F.entry_extend_loop ?_
    rw [Around.under_plainId PySem.F.plain_extend_loop _]
    show wpAny _ A.in1.in1 (pyNext (.ref z) >>= _) _ _ _
    refine wpAny_bind (zip_end2 (s := { s with heap := h₅ }) (xs := #[x, x']) (ys := #[y]) (x := x') (k1 := 1) (k2 := 1) (by exact hh) D z₅ TI₅ U₅ (L1₄.at fun o e => e₅ _ _ (nS _ Si1) e) (L2₄.at fun o e => e₅ _ _ (nS _ Si2) e) (K1₃.at fun o e => e₅ _ _ (nS _ Sl1) (k₄ _ _ D.l1z D.l1TO D.l1i1 D.l1i2 e)) (K2₃.at fun o e => e₅ _ _ (nS _ Sl2) (k₄ _ _ D.l2z D.l2TO D.l2i1 D.l2i2 e)) rfl rfl fun h₆ e₆ => ?_)
    replace e₆ : Ext [z, i1, i2] h₅ h₆ := e₆
    have Uz : U ≠ z := dead_ne dU z₃
    have Ui1 : U ≠ i1 := by obtain ⟨o, ho, _⟩ := L1₃; exact dead_ne dU ho
    have Ui2 : U ≠ i2 := by obtain ⟨o, ho, _⟩ := L2₃; exact dead_ne dU ho
    have n6 : ∀ b : Nat, b ≠ z → b ≠ i1 → b ≠ i2 → b ∉ ([z, i1, i2] : List Nat) := fun b q1 q2 q3 q => by simp only [List.mem_cons, List.not_mem_nil, or_false] at q; rcases q with q | q | q <;> contradiction
    refine wpAny_pure ⟨rfl, h h₆ _ S U c₅ ?_ dS leS (e₆ _ _ (n6 _ Sz Si1.symm Si2.symm) hS₅) ?_ (e₆ _ _ (n6 _ Uz Ui1 Ui2) U₅)⟩
    · intro b o n e
      simp only [List.mem_cons, List.not_mem_nil, or_false, not_or] at n
      have bS : b ≠ S := (dead_ne dS e).symm
      exact e₆ _ _ (n6 _ n.1 n.2.2.1 n.2.2.2) (e₅ _ _ (nS _ bS) (k₄ _ _ n.1 n.2.1 n.2.2.1 n.2.2.2 (e₃ _ _ (nS _ bS) (e₁.keep _ _ e))))
    · cases q : s.heap.get? U with
      | none => rfl
      | some o => exact nomatch dU.symm.trans (e₃ _ _ (nS _ US) (e₁.keep _ _ q))
  show wpAny _ A.in1.in1 (rule "list.extend.makes-room" >>= fun _ => Builtin.List.listTouch (.ref S) >>= fun _ =>
    again (.builtin "list.extend.loop" ⟨[.ref S, .ref z, .none], []⟩)) _ _ _
  refine wpAny_bind (wpAny_rule ?_)
  refine wpAny_bind ?_
  show wpAny _ A.in1.in1 (updateSeq S (·.push .none) >>= fun _ => updateSeq S (·.pop)) _ _ _
  refine wpAny_bind (wpAny_updateSeq hS₂ rfl ?_)
  have hS₄ := Heap.get?_update_self (Obj.mapSeq (·.push Value.none)) hS₂ rfl
  refine wpAny_updateSeq (hz := by seq_fits) hS₄ rfl ?_
  have hS₅ := Heap.get?_update_self (Obj.mapSeq (·.pop)) hS₄ rfl
  exact wpAny_pure ⟨plainId_quiet PySem.F.plain_extend_loop _, loop _ _ (fun b o n e => (Heap.get?_update_other _ _ (fun q => n (by rw [q]; exact .head _))).trans ((Heap.get?_update_other _ _ (fun q => n (by rw [q]; exact .head _))).trans e)) hS₅⟩
end
end Mine
end W47
section W48
open PySem PySem.W PyProof.Rows PySem.Calls PySem.Spec
set_option maxRecDepth 100000
set_option maxHeartbeats 8000000
namespace Mine
theorem slice1 (a b : Value) : slicePick #[a, b] (some 1) none none = #[b] := by
  simp [slicePick, sliceBounds, sliceRange]
  rfl
theorem push2 (h : Heap) (a b : Obj) (hb : b.isFreed = false) : ((h.push a).push b).get? (h.objs.size + 1) = some b := by
  have := Heap.get?_push_size (h.push a) hb
  rwa [Heap.size_push] at this
theorem dead_up (h : Heap) (j : Nat) : h.get? (h.objs.size + j) = none := by
  cases q : h.get? (h.objs.size + j) with
  | none => rfl
  | some o => exact absurd (Heap.lt_size q) (Nat.not_lt.mpr (Nat.le_add_right _ _))
theorem zip_apart {n a b : Nat} (ha : a < n) (hb : b < n) : ZipApart (n + 4) (n + 2) (n + 3) n (n + 1) a b := by
  constructor <;> (show (_ : Nat) ≠ _) <;> omega
section
variable {prog : Program} {w : World} {A : Around} {E : Value → Shared → Prop} {s : Shared} {Q : Value → Shared → Prop}
theorem sp_pairwise {D : Nat} {t0 t1 : Tok} (Z : Gl w s.heap) (hD : s.heap.IsList D #[.int 0 t0, .int 1 t1]) (hroom : A.depth < recursionLimit) (hh : A.handled = none)
    (h : ∀ h' tk S U c, Ext [] s.heap h' → New s.heap S → s.heap.get? U = none → h'.get? S = some { cls := .type "list", data := .seq #[.ref U] c } → Tup h' U #[.int 0 t0, .int 1 t1] → Q (.ref S) { s with heap := h', toks := tk }) :
    wpAny (model prog w) A (call (.ref 633) [.ref D]) Q E s := by
  refine enter' Z hroom (by rfl) (by kernel_rfl) (binds := [("nodes", .ref D), ("cyclic", .bool false)]) (by kernel_rfl) (by kernel_rfl) (by kernel_rfl) (by rfl) (by rfl) ?_
  intro L h₁ tk m hL n
  have Z₁ := Z.k m
  have hD₁ : h₁.IsList D _ := hD.at fun o e => m.keep _ _ e
  obtain ⟨oD, hoD, hcD, nDD, hdD⟩ := id hD₁
  refine wpAny_execs_cons <| wpAny_Assign_Name <| Call_ <| nmB Z₁ (by kernel_rfl) (by rfl) boot_list (by decide) <| cwT <| wpAny_items_cons <| nmL n rfl rfl <| wpAny_items_nil <| call_list_seq (s := { s with heap := h₁, toks := tk }) D (.inl rfl) hoD hcD hdD (fun h₂ c₂ k₂ hN => ?_) (by show 2 ≤ 2 ^ 24; decide)
  replace k₂ : ∀ b o, h₁.get? b = some o → h₂.get? b = some o := k₂
  have e₂ : Ext [] h₁ h₂ := Ext.of_keep k₂ []
  have nN : New h₁ h₁.objs.size := New.pos' Z₁.big
  replace hN : h₂.get? h₁.objs.size = some { cls := .type "list", dict := none, data := .seq #[.int 0 t0, .int 1 t1] c₂, slots := #[] } := hN
  dsimp only
  generalize h₁.objs.size = Nn at nN hN ⊢
  refine stL (n.keeps e₂.keep) rfl fun h₃ n₃ s₃ => ?_
  replace s₃ : Heap.SameBut L h₂ h₃ := s₃
  obtain ⟨oL, hoL⟩ := nsLive n
  have NL : Nn ≠ L := nN.ne hoL
  have m₃ : Ext [] s.heap h₃ := (m.app e₂).loc hL s₃
  have Z₃ := Z.k m₃
  have hN₃ : h₃.get? Nn = some { cls := .type "list", dict := none, data := .seq #[.int 0 t0, .int 1 t1] c₂, slots := #[] } := s₃.extBut _ _ NL hN
  refine wpAny_execs_cons <| wpAny_Assign_Name <| Call_ <| nmB Z₃ (by kernel_rfl) (by rfl) boot_list (by decide) <| cwT <| wpAny_items_cons <| Call_ <| nmB Z₃ (by kernel_rfl) (by rfl) PyProof.Rows.boot_zip (by decide) <| cwT <| wpAny_items_cons <| nmL n₃ rfl rfl <| wpAny_items_cons <| wpAny_Subscript_list_slice <| nmL n₃ rfl rfl <| wpAny_evalPart_some <| wpAny_Constant_int <| wpAny_evalPart_none ⟨_, _, _, _, rfl, ⟨_, hN₃, rfl, _, rfl⟩, by show 2 ≤ 2 ^ 24; decide, .int _ _, .none, wpAny_items_nil ?_⟩
  generalize hh₄ : Heap.push (Heap.push _ _) _ = h₄
  rw [slice1] at hh₄
  have hl2 : h₄.get? (h₃.objs.size + 1) = some { cls := .type "list", data := .seq #[.int 1 t1] } := by
    rw [← hh₄]
    exact push2 _ _ { cls := .type "list", data := .seq #[.int 1 t1] } rfl
  have e₄ : Ext [] h₃ h₄ := hh₄ ▸ (Ext.push _ _).app (Ext.push _ _)
  have d2 : h₃.get? (h₃.objs.size + 1) = none := dead_up h₃ 1
  dsimp only
  generalize h₃.objs.size + 1 = l2 at hl2 d2 ⊢
  have hN₄ := e₄.keep _ _ hN₃
  have Z₄ := Z₃.k e₄
  have N2 : Nn ≠ l2 := (dead_ne d2 hN₃).symm
  refine call_zip_2 (xs := #[.int 0 t0, .int 1 t1]) (ys := #[.int 1 t1]) ⟨_, hN₄, rfl, _, rfl⟩ ⟨_, hl2, rfl, _, rfl⟩ fun h₅ hz hTI hTO hi1 hi2 _ k₅ => wpAny_items_nil ?_
  replace k₅ : ∀ c o, h₄.get? c = some o → h₅.get? c = some o := k₅
  have big₄ : 709 ≤ h₄.objs.size := Z₄.big
  have lN : Nn < h₄.objs.size := Heap.lt_size hN₄
  have l2l : l2 < h₄.objs.size := Heap.lt_size hl2
  have e₅ : Ext [] h₄ h₅ := Ext.of_keep k₅ []
  have dz : ∀ j, h₄.get? (h₄.objs.size + j) = none := dead_up h₄
  have ap := zip_apart lN l2l
  refine call_list_zip1 (x' := .int 1 t1) (y := .int 1 t1) (by exact hh) ap hz hTI hTO hi1 hi2 ⟨_, e₅.keep _ _ hN₄, rfl, _, rfl⟩ ⟨_, e₅.keep _ _ hl2, rfl, _, rfl⟩ fun h₆ tk₆ S U c e₆ dS leS hS dU hU => ?_
  replace e₆ : Ext [h₄.objs.size + 4, h₄.objs.size + 3, h₄.objs.size, h₄.objs.size + 1] h₅ h₆ := e₆
  have m₅ : Ext [] s.heap h₅ := (m₃.app e₄).app e₅
  have dz5 : ∀ j, s.heap.get? (h₄.objs.size + j) = none := fun j => dead (m₃.app e₄).keep (dz j)
  have m₆ : Ext [] s.heap h₆ := m₅.app' e₆ fun b hb => .inr (by
    simp only [List.mem_cons, List.not_mem_nil, or_false] at hb
    rcases hb with rfl | rfl | rfl | rfl
    · exact dz5 4
    · exact dz5 3
    · exact dz5 0
    · exact dz5 1)
  replace dS : h₅.get? S = none := dS
  replace dU : h₅.get? U = none := dU
  replace leS : h₅.objs.size ≤ S := leS
  have dS0 := dead m₅.keep dS
  have dU0 := dead m₅.keep dU
  have S9 : 709 ≤ S := Nat.le_trans (Z₄.k e₅).big leS
  have n₆ : h₆.Ns L _ := n₃.at' fun o e => e₆ _ _ (fun q => by
    have e' := e₄.keep _ _ e
    simp only [List.mem_cons, List.not_mem_nil, or_false] at q
    rcases q with q | q | q | q
    · exact dead_ne (dz 4) e' q.symm
    · exact dead_ne (dz 3) e' q.symm
    · exact dead_ne (dz 0) e' q.symm
    · exact dead_ne (dz 1) e' q.symm) (e₅.keep _ _ (e₄.keep _ _ e))
  obtain ⟨oL6, hoL6⟩ := nsLive n₆
  obtain ⟨oL3, hoL3⟩ := nsLive n₃
  have LS : S ≠ L := dead_ne dS (e₅.keep _ _ (e₄.keep _ _ hoL3))
  have LU : U ≠ L := dead_ne dU (e₅.keep _ _ (e₄.keep _ _ hoL3))
  refine stL n₆ rfl fun h₇ n₇ s₇ => ?_
  replace s₇ : Heap.SameBut L h₆ h₇ := s₇
  refine wpAny_execs_cons <| wpAny_If <| wpAny_isTrue_BoolOp <| wpAny_allTrue_And_cons <| wpAny_isTrue_value <| nmL n₇ rfl rfl <| wpAny_truthy_bool ?_
  simp only [Bool.false_eq_true, if_false]
  refine wpAny_execs_nil ?_
  exact wpAny_execs_cons <| wpAny_Return_some <| nmL n₇ rfl rfl <| h h₇ _ S U c (m₆.loc hL s₇) ⟨dS0, S9⟩ dU0 (s₇.extBut _ _ LS hS) (s₇.extBut _ _ LU hU)
end
end Mine
end W48
section W49
open PySem PySem.W PyProof.Rows PySem.Calls PySem.Spec
set_option maxRecDepth 100000
set_option maxHeartbeats 8000000
namespace Mine
section
variable {prog : Program} {w : World}
theorem src_tuple {D : Nat} {items : Array Value} {P : Nat → Value → Heap → Prop} {h : Heap} {g : Array GenState} {dep₀ : List Nat} (hD : h.IsTuple D items) (hl : ∀ b ∈ dep₀, ∃ o, h.get? b = some o)
    (hP : ∀ i v h', items[i]? = some v → Agr dep₀ h h' → P i v h') : Src prog w (.ref D) [] (D :: dep₀) [] items.size P h g := by
  intro A E Q s hh hd ag agg hQ
  have hD' : s.heap.IsTuple D items := hD.at fun o e => ag D (.head _) o e
  refine wpAny_pyIter_tuple hD' ?_
  generalize hh₁ : Heap.push _ _ = h₁
  have e₁ : Ext [] s.heap h₁ := hh₁ ▸ Ext.push _ _
  have hit : h₁.IsTupleIter s.heap.objs.size D 0 := hh₁ ▸ ⟨_, Heap.get?_push_size _ rfl, rfl, rfl⟩
  have dI : s.heap.get? s.heap.objs.size = none := get?_size _
  generalize s.heap.objs.size = I at hit dI ⊢
  have live : ∀ b ∈ dep₀, ∃ o, s.heap.get? b = some o := fun b hb => let ⟨o, ho⟩ := hl b hb; ⟨o, ag b (.tail _ hb) o ho⟩
  have hne : D ≠ I := fun q => by obtain ⟨o, ho, _⟩ := hD'; rw [q, dI] at ho; cases ho
  have hn : ∀ b ∈ dep₀, b ∉ ([I] : List Nat) := fun b hb q => by obtain ⟨o, ho⟩ := live b hb; rw [List.mem_singleton.mp q, dI] at ho; cases ho
  refine hQ (.ref I) [I] (([I, D] : List Nat) ++ dep₀) h₁ s.toks _ (fun x p => ((Itr.ofWalks (Walks.tuple hh I D hne items) (fun i h st b hb => let ⟨o, ho, _⟩ := st.1; ⟨o, by rw [List.mem_singleton.mp hb]; exact ho⟩) x p).wide fun b hb => List.mem_append_left _ hb).onto (P' := P) (dep₀ := dep₀) h (fun b hb => List.mem_append_right _ hb) hn fun i v h₂ h₃ hi hv a => hP i v h₃ hv a)
    ⟨⟨hit, hD'.at fun o e => e₁.keep _ _ e⟩, fun b hb o e => e₁.keep _ _ (ag b (.tail _ hb) o e)⟩ e₁ (fun b hb => by rw [List.mem_singleton.mp hb]; exact .inr dI) (fun b hb => nomatch hb) (fun b hb => ?_) (fun b hb => ?_)
  · simp only [List.mem_append, List.mem_cons, List.not_mem_nil, or_false] at hb
    rcases hb with (rfl | rfl) | hb
    · exact .inr dI
    · exact .inl (.head _)
    · exact .inl (.tail _ hb)
  · simp only [List.mem_append, List.mem_cons, List.not_mem_nil, or_false] at hb
    rcases hb with (rfl | rfl) | hb
    · obtain ⟨o, ho, _⟩ := hit; exact ⟨o, ho⟩
    · obtain ⟨o, ho, _⟩ := hD'; exact ⟨o, e₁.keep _ _ ho⟩
    · obtain ⟨o, ho⟩ := live b hb; exact ⟨o, e₁.keep _ _ ho⟩
end
section
variable {prog : Program} {w : World} {A : Around} {E : Value → Shared → Prop} {s : Shared} {Q : Value → Shared → Prop}
theorem sp_non_int {n : Nat} {t : Tok} (Z : Gl w s.heap) (hroom : A.depth < recursionLimit) (hh : A.handled = none) (hn : n < 1000)
    (h : ∀ h' tk T D acc c, Ext [] s.heap h' → s.heap.get? T = none → New s.heap D → Tup h' T #[.int n t, .ref D] → h'.get? D = some { cls := .type "list", data := .seq acc c } → acc.size = n → (∀ (j : Nat) (v : Value), acc[j]? = some v → ∃ t, v = .int (j : Nat) t) → Q (.ref T) { s with heap := h', toks := tk }) :
    wpAny (model prog w) A (call (.ref 640) [.int n t]) Q E s := by
  refine enter' Z hroom (by rfl) (by kernel_rfl) (binds := [("n", .int n t)]) (by kernel_rfl) (by kernel_rfl) (by kernel_rfl) (by rfl) (by rfl) ?_
  intro L h₁ tk m hL n₁
  have Z₁ := Z.k m
  refine wpAny_execs_cons <| wpAny_If <| wpAny_isTrue_value <| Call_ <| nmB Z₁ (by kernel_rfl) (by rfl) boot_isinstance (by decide) <| cwB <| wpAny_items_cons <| nmL n₁ rfl rfl <| wpAny_items_cons <| nmB Z₁ (by kernel_rfl) (by rfl) PyProof.Rows.boot_int (by decide) <| wpAny_items_nil <| PySem.IsiPair.int_int <| wpAny_truthy_bool ?_
  simp only [if_true]
  refine wpAny_execs_cons <| wpAny_If <| wpAny_isTrue_Compare1 <| nmL n₁ rfl rfl <| wpAny_Constant_int <| PyProof.Rows.lt_int <| wpAny_truthy_bool ?_
  rw [show decide ((n : Int) < 0) = false from by simp]
  simp only [Bool.false_eq_true, if_false]
  refine wpAny_execs_nil ?_
  refine wpAny_execs_cons <| wpAny_Return_some <| wpAny_Tuple <| wpAny_items_cons <| nmL n₁ rfl rfl <| wpAny_items_cons <| Call_ <| nmB Z₁ (by kernel_rfl) (by rfl) boot_list (by decide) <| cwT <| wpAny_items_cons <| Call_ <| nmB Z₁ (by kernel_rfl) (by rfl) PyProof.Rows.boot_range (by decide) <| cwT <| wpAny_items_cons <| nmL n₁ rfl rfl <| wpAny_items_nil <| call_range_1 <| wpAny_items_nil ?_
  generalize hh₂ : Heap.push _ _ = h₂
  have e₂ : Ext [] h₁ h₂ := hh₂ ▸ Ext.push _ _
  have hr₂ : IsRange h₂ h₁.objs.size 0 n 1 _ _ _ := hh₂ ▸ Heap.get?_push_size _ rfl
  dsimp only
  generalize h₁.objs.size = R at hr₂ ⊢
  have Z₂ := Z₁.k e₂
  refine call_list_range (n := n) (by exact hh) hr₂ (small_one (by omega) (by omega) (by omega) (by omega)) (by rw [rangeSize_one]; split <;> omega) (by omega) fun h₃ tk₃ acc c k₃ hD hacc => wpAny_items_nil ?_
  replace k₃ : ∀ b o, h₂.get? b = some o → h₃.get? b = some o := k₃
  replace hD : h₃.get? h₂.objs.size = some { cls := .type "list", dict := none, data := .seq acc c, slots := #[] } := hD
  have nD₂ : New h₂ h₂.objs.size := New.pos' Z₂.big
  generalize h₂.objs.size = D at hD nD₂ ⊢
  have m₃ : Ext [] s.heap h₃ := (m.app e₂).app (Ext.of_keep k₃ [])
  refine ⟨(by show 2 ≤ 2 ^ 24; decide), ?_⟩
  generalize hh₄ : Heap.push _ _ = h₄
  have e₄ : Ext [] h₃ h₄ := hh₄ ▸ Ext.push _ _
  have hT : Tup h₄ h₃.objs.size #[.int n t, .ref D] := by rw [← hh₄]; exact Heap.get?_push_size _ rfl
  have dT : h₃.get? h₃.objs.size = none := get?_size _
  dsimp only
  generalize h₃.objs.size = T at hT dT ⊢
  exact h h₄ _ T D acc c (m₃.app e₄) (dead m₃.keep dT) (nD₂.back (m.app e₂).keep) hT (e₄.keep _ _ hD) hacc.1 fun j v q => by
    obtain ⟨t, ht⟩ := hacc.2 j v q
    exact ⟨t, by rw [ht, Int.mul_one, Int.zero_add]⟩
theorem sp_non_list {D : Nat} {items : Array Value} (Z : Gl w s.heap) (hroom : A.depth < recursionLimit) (hh : A.handled = none) (hD : s.heap.IsList D items) (hz : items.size ≤ 1000)
    (h : ∀ h' tk T T2, Ext [] s.heap h' → s.heap.get? T = none → s.heap.get? T2 = none → Tup h' T #[.ref D, .ref T2] → Tup h' T2 items → Q (.ref T) { s with heap := h', toks := tk }) :
    wpAny (model prog w) A (call (.ref 640) [.ref D]) Q E s := by
  refine enter' Z hroom (by rfl) (by kernel_rfl) (binds := [("n", .ref D)]) (by kernel_rfl) (by kernel_rfl) (by kernel_rfl) (by rfl) (by rfl) ?_
  intro L h₁ tk m hL n₁
  have Z₁ := Z.k m
  have hD₁ : h₁.IsList D items := hD.at fun o e => m.keep _ _ e
  obtain ⟨oD, hoD, hcD, nD, hdD⟩ := id hD₁
  refine wpAny_execs_cons <| wpAny_If <| wpAny_isTrue_value <| Call_ <| nmB Z₁ (by kernel_rfl) (by rfl) boot_isinstance (by decide) <| cwB <| wpAny_items_cons <| nmL n₁ rfl rfl <| wpAny_items_cons <| nmB Z₁ (by kernel_rfl) (by rfl) PyProof.Rows.boot_int (by decide) <| wpAny_items_nil <| PySem.IsiPair.list_int (s := { s with heap := h₁, toks := tk }) hoD hcD <| wpAny_truthy_bool ?_
  simp only [Bool.false_eq_true, if_false]
  refine wpAny_execs_nil ?_
  refine at_ h₁ s.gens s.drawn s.os fun t₁ => ?_
  refine wpAny_execs_cons <| wpAny_Return_some <| wpAny_Tuple <| wpAny_items_cons <| nmL n₁ rfl rfl <| wpAny_items_cons <| Call_ <| nmB Z₁ (by kernel_rfl) (by rfl) PyProof.Rows.boot_tuple (by decide) <| cwT <| wpAny_items_cons <| nmL n₁ rfl rfl <| wpAny_items_nil <| call_tuple_list (s := { s with heap := h₁, toks := t₁ }) hD₁ (fun h₂ k₂ => wpAny_items_nil ?_) (by have := sizeLine_eq; omega)
  replace k₂ : ∀ b o, h₁.get? b = some o → h₂.get? b = some o := k₂
  refine ⟨(by show 2 ≤ 2 ^ 24; decide), ?_⟩
  generalize hh₃ : Heap.push h₂ _ = h₃
  have e₃ : Ext [] h₂ h₃ := hh₃ ▸ Ext.push _ _
  have hT2 : Tup h₃ h₂.objs.size items := by rw [← hh₃]; exact Heap.get?_push_size _ rfl
  have d2 : h₂.get? h₂.objs.size = none := get?_size _
  dsimp only
  generalize h₂.objs.size = T2 at hT2 d2 ⊢
  have m₃ : Ext [] s.heap h₃ := (m.app (Ext.of_keep k₂ [])).app e₃
  generalize hh₄ : Heap.push h₃ _ = h₄
  have e₄ : Ext [] h₃ h₄ := hh₄ ▸ Ext.push _ _
  have hT : Tup h₄ h₃.objs.size #[.ref D, .ref T2] := by rw [← hh₄]; exact Heap.get?_push_size _ rfl
  have dT : h₃.get? h₃.objs.size = none := get?_size _
  generalize h₃.objs.size = T at hT dT ⊢
  exact h h₄ _ T T2 (m₃.app e₄) (dead m₃.keep dT) (dead (m.app (Ext.of_keep k₂ [])).keep d2) hT (e₄.keep _ _ hT2)
def Nums (h : Heap) (y n : Nat) : Prop := ∃ items : Array Value, (h.IsList y items ∨ h.IsTuple y items) ∧ items.size = n ∧ ∀ (j : Nat) (v : Value), items[j]? = some v → ∃ t, v = .int (j : Nat) t
theorem Nums.at {h h' : Heap} {y n : Nat} (x : Nums h y n) (k : ∀ o, h.get? y = some o → h'.get? y = some o) : Nums h' y n :=
  let ⟨items, a, b, c⟩ := x; ⟨items, a.imp (fun q => q.at k) (fun q => q.at k), b, c⟩
theorem Nums.live {h : Heap} {y n : Nat} (x : Nums h y n) : ∃ o, h.get? y = some o := by
  obtain ⟨_, ⟨o, ho, _⟩ | ⟨o, ho, _⟩, _⟩ := x <;> exact ⟨o, ho⟩
theorem Nums.src {h : Heap} {g : Array GenState} {y n : Nat} (x : Nums h y n) : Src prog w (.ref y) [] [y] [] n (NodeIs prog w false fun i => (i : Int)) h g := by
  obtain ⟨items, a, rfl, c⟩ := x
  have hP : ∀ (i : Nat) (v : Value) (h' : Heap), items[i]? = some v → Agr [] h h' → NodeIs prog w false (fun i => (i : Int)) i v h' := fun i v h' q _ => by
    unfold NodeIs
    rw [if_neg (by decide)]
    exact c i v q
  rcases a with a | a
  · exact src_list a (fun _ h => nomatch h) hP
  · exact src_tuple a (fun _ h => nomatch h) hP
theorem sp_non {x : Value} {n : Nat} (Z : Gl w s.heap) (hroom : A.depth < recursionLimit) (hh : A.handled = none) (hn : n < 10)
    (hx : (∃ t, x = .int n t) ∨ ∃ D items, x = .ref D ∧ s.heap.IsList D items ∧ items.size = n ∧ ∀ (j : Nat) (v : Value), items[j]? = some v → ∃ t, v = .int (j : Nat) t)
    (h : ∀ h' tk T a y, Ext [] s.heap h' → Tup h' T #[a, .ref y] → s.heap.get? y = none → Nums h' y n → Q (.ref T) { s with heap := h', toks := tk }) :
    wpAny (model prog w) A (call (.ref 640) [x]) Q E s := by
  rcases hx with ⟨t, rfl⟩ | ⟨D, items, rfl, hD, hz, hi⟩
  · exact sp_non_int Z hroom hh (by omega) fun h' tk T D acc c e _ nD hT hD hsz hacc => h h' tk T _ D e hT nD.1 ⟨acc, .inl ⟨_, hD, rfl, _, rfl⟩, hsz, hacc⟩
  · exact sp_non_list Z hroom hh hD (by omega) fun h' tk T T2 e _ d2 hT hT2 => h h' tk T _ T2 e hT d2 ⟨items, .inr ⟨_, hT2, rfl, _, rfl⟩, hz, hi⟩
structure Bare (prog : Program) (w : World) (h₀ h : Heap) (N : Nat) (H : Gr) : Prop where
  I : GraphAt prog w h H
  J : Gi H
  ids : H.ids = (List.range N).map fun (i : Nat) => (i : Int)
  more : H.more = []
  vs : H.vs = []
  new : ∀ a ∈ H.all, h₀.get? a = none
  no : ∀ a b, ¬ H.has a b
theorem sp_empty {x : Value} {args : List Value} {n : Nat} (Z : Gl w s.heap) (hroom : A.depth + 4 < recursionLimit) (hh : A.handled = none) (hn : n < 10)
    (hx : (∃ t, x = .int n t) ∨ ∃ D items, x = .ref D ∧ s.heap.IsList D items ∧ items.size = n ∧ ∀ (j : Nat) (v : Value), items[j]? = some v → ∃ t, v = .int (j : Nat) t)
    (ha : args = [x] ∨ args = [x, .none])
    (h : ∀ h' g' tk H, Ext [] s.heap h' → GM [] s.gens g' → Bare prog w s.heap h' n H → Q (.ref H.g) { s with heap := h', gens := g', toks := tk }) :
    wpAny (model prog w) A (call (.ref 660) args) Q E s := by
  refine enter' Z (Nat.lt_of_le_of_lt (Nat.le_add_right _ 4) hroom) (by rfl) (by kernel_rfl) (binds := [("n", x), ("create_using", .none)]) (by rcases ha with rfl | rfl <;> kernel_rfl) (by kernel_rfl) (by kernel_rfl) (by rfl) (by rfl) ?_
  intro L h₁ tk m hL n₁
  have Z₁ := Z.k m
  refine wpAny_execs_cons <| wpAny_If <| wpAny_isTrue_Compare1 <| nmL n₁ rfl rfl <| wpAny_Constant_none <| wpAny_is_self (by rfl) <| wpAny_truthy_bool ?_
  simp only [if_true]
  refine wpAny_execs_cons <| wpAny_Assign_Name <| Call_ <| nmG (v := .ref 617) Z₁ (by kernel_rfl) (by rfl) <| cwF0 Z₁ (by kernel_rfl) <| sp_Graph Z₁ (by show A.depth + 1 + 3 < _; omega) fun h₂ tk₂ H e₂ IH r1 r2 r3 dH => ?_
  replace e₂ : Ext [] h₁ h₂ := e₂
  replace dH : ∀ a ∈ H.all, h₁.get? a = none := dH
  refine stL (n₁.keeps e₂.keep) rfl fun h₃ n₃ s₃ => ?_
  replace s₃ : Heap.SameBut L h₂ h₃ := s₃
  obtain ⟨oL, hoL⟩ := nsLive n₁
  have e₃ : Ext [L] h₂ h₃ := Ext.of_same s₃
  have m₃ : Ext [] s.heap h₃ := (m.app e₂).loc hL s₃
  have Z₃ := Z.k m₃
  have I₃ : GraphAt prog w h₃ H := IH.to e₃ fun a ha q => dead_ne (dH a ha) hoL (List.mem_singleton.mp q)
  refine wpAny_execs_nil ?_
  refine at_ h₃ s.gens s.drawn s.os fun t₃ => ?_
  refine wpAny_execs_cons <| PyProof.Rows.Assign_Tuple <| Call_ <| nmG (v := .ref 640) Z₃ (by kernel_rfl) (by rfl) <| cwF (w := w) (by kernel_rfl) <| wpAny_items_cons <| nmL n₃ rfl rfl <| wpAny_items_nil ⟨Z₃, sp_non Z₃ (by show A.depth + 1 < _; omega) (by exact hh) hn (hx.imp id fun ⟨D, items, a, b, c⟩ => ⟨D, items, a, b.at fun o e => m₃.keep _ _ e, c⟩) fun h₄ tk₄ T a y e₄ hT dy hy => ?_⟩
  replace e₄ : Ext [] h₃ h₄ := e₄
  replace dy : h₃.get? y = none := dy
  have n₄ := n₃.keeps e₄.keep
  refine unp2I (by exact hh) ⟨_, hT, rfl, _, rfl⟩ n₄ rfl rfl rfl fun h₅ tk₅ e₅ n₅ => ?_
  replace e₅ : Ext [L] h₄ h₅ := e₅
  have m₅ : Ext [] s.heap h₅ := (m₃.app e₄).app' e₅ fun b hb => .inr (by rw [List.mem_singleton.mp hb]; exact hL)
  have Z₅ := Z.k m₅
  have LH : L ∉ H.all := fun q => dead_ne (dH L q) hoL rfl
  have I₅ : GraphAt prog w h₅ H := (I₃.k e₄).to e₅ fun a ha q => LH (by rw [← List.mem_singleton.mp q]; exact ha)
  obtain ⟨oL3, hoL3⟩ := nsLive n₃
  have yL : y ≠ L := dead_ne dy hoL3
  have hy₅ : Nums h₅ y n := hy.at fun o e => e₅ _ _ (fun q => yL (List.mem_singleton.mp q)) e
  have yH : y ∉ H.all := I₃.all_new dy
  have JH : Gi H := ⟨by rw [r1]; exact Nat.zero_le _, by rw [r1]; exact fun _ h => nomatch h⟩
  have Hids : H.ids = [] := by rw [Gr.ids, r1]; rfl
  refine wpAny_execs_cons <| wpAny_Expr_any <| MethodCall_ <| nmL n₅ rfl rfl <| gb_meth Z₅ I₅.gb (f := 433) (by kernel_rfl) (by kernel_rfl) (I₅.bare (by decide)) <| cwF (w := w) (by kernel_rfl) <| wpAny_items_cons <| nmL n₅ rfl rfl <| wpAny_items_nil ⟨Z₅, sp_add_nodes_from false [] [] rfl (fun q => by cases q) Z₅ I₅ JH (by show A.depth + 1 + 1 < _; omega) (by exact hh) hy₅.src (fun b hb => by rw [List.mem_singleton.mp hb]; exact hy₅.live) (fun b hb => by rw [List.mem_singleton.mp hb]; exact yH)
      (fun _ h => nomatch h) (fun _ h => nomatch h) (by rw [r1, List.length_nil]; omega) (fun _ h => nomatch h) (fun j _ q => by rw [Hids] at q; cases q) (fun a b _ _ q => by omega) fun h₆ g₆ tk₆ H₆ e₆ _ eg₆ NA => ?_⟩
  replace e₆ : Ext H.all h₅ h₆ := e₆.mono fun b hb => by simpa using hb
  replace eg₆ : GM [] s.gens g₆ := eg₆
  have hd₆ : H₆.hd = H.hd := NA.hd
  have hg₆ : H₆.g = H.g := congrArg (·.1) hd₆
  have n₆ : h₆.Ns L _ := n₅.at' fun o e => e₆ _ _ LH e
  have dH0 : ∀ a ∈ H.all, s.heap.get? a = none := fun a ha => dead m.keep (dH a ha)
  have m₆ : Ext [] s.heap h₆ := m₅.app' e₆ fun b hb => .inr (dH0 b hb)
  refine wpAny_execs_cons <| wpAny_Return_some <| nmL (v := .ref H₆.g) n₆ rfl (by rw [hg₆]; rfl) <| h h₆ g₆ _ H₆ m₆ eg₆ ⟨NA.I, ⟨by rw [NA.len, r1, List.length_nil]; omega, NA.J⟩, by rw [NA.ids, Hids, List.nil_append], (congrArg (·.2.2.2.2.2.1) hd₆).trans r2, (congrArg (·.2.2.2.2.2.2) hd₆).trans r3, fun a ha => ?_, fun a b q => ?_⟩
  · rcases NA.gr a ha with q | q
    · exact dH0 a q
    · exact dead m₅.keep q
  · obtain ⟨r, hr, _⟩ := (NA.has a b).mp q
    rw [r1] at hr; cases hr
end
end Mine
end W49
section W50
open PySem PySem.W PyProof.Rows PySem.Calls PySem.Spec
set_option maxRecDepth 100000
set_option maxHeartbeats 8000000
namespace Mine
section
variable {prog : Program} {w : World} {A : Around} {E : Value → Shared → Prop} {s : Shared} {Q : Value → Shared → Prop}
structure Fresh (prog : Program) (w : World) (h₀ h : Heap) (N : Nat) (P : Int → Int → Prop) (H : Gr) : Prop where
  I : GraphAt prog w h H
  J : Gi H
  ids : H.ids = (List.range N).map fun (i : Nat) => (i : Int)
  more : H.more = []
  vs : H.vs = []
  new : ∀ a ∈ H.all, h₀.get? a = none
  has : ∀ a b, H.has a b ↔ P a b
theorem sp_path2 {t : Tok} (Z : Gl w s.heap) (hroom : A.depth + 6 < recursionLimit) (hh : A.handled = none)
    (h : ∀ h' g' tk H, Ext [] s.heap h' → GM [] s.gens g' → Fresh prog w s.heap h' 2 (fun a b => a = 0 ∧ b = 1 ∨ a = 1 ∧ b = 0) H → Q (.ref H.g) { s with heap := h', gens := g', toks := tk }) :
    wpAny (model prog w) A (call (.ref 668) [.int 2 t]) Q E s := by
  refine enter' Z (Nat.lt_of_le_of_lt (Nat.le_add_right _ 6) hroom) (by rfl) (by kernel_rfl) (binds := [("n", .int 2 t), ("create_using", .none)]) (by kernel_rfl) (by kernel_rfl) (by kernel_rfl) (by rfl) (by rfl) ?_
  intro L h₁ tk m hL n₁
  have Z₁ := Z.k m
  refine wpAny_execs_cons <| PyProof.Rows.Assign_Tuple <| Call_ <| nmG (v := .ref 640) Z₁ (by kernel_rfl) (by rfl) <| cwF (w := w) (by kernel_rfl) <| wpAny_items_cons <| nmL n₁ rfl rfl <| wpAny_items_nil ⟨Z₁, sp_non_int (n := 2) Z₁ (by show A.depth + 1 < _; omega) (by exact hh) (by decide) fun h₂ tk₂ T D acc c e₂ _ nD hT hD hsz hacc => ?_⟩
  replace e₂ : Ext [] h₁ h₂ := e₂
  replace nD : New h₁ D := nD
  have n₂ := n₁.keeps e₂.keep
  obtain ⟨oL, hoL⟩ := nsLive n₁
  have DL : D ≠ L := nD.ne hoL
  obtain ⟨t0, t1, rfl⟩ : ∃ t0 t1, acc = #[.int 0 t0, .int 1 t1] := by
    obtain ⟨l⟩ := acc
    match l, hsz with
    | [a, b], _ =>
      obtain ⟨t0, q0⟩ := hacc 0 a rfl
      obtain ⟨t1, q1⟩ := hacc 1 b rfl
      exact ⟨t0, t1, by rw [q0, q1]; rfl⟩
  refine unp2I (by exact hh) ⟨_, hT, rfl, _, rfl⟩ n₂ rfl rfl rfl fun h₃ tk₃ e₃ n₃ => ?_
  replace e₃ : Ext [L] h₂ h₃ := e₃
  have one : ∀ {a b : Nat}, b ∈ ([a] : List Nat) → b = a := fun q => List.mem_singleton.mp q
  have m₃ : Ext [] s.heap h₃ := (m.app e₂).app' e₃ fun b hb => .inr (by rw [one hb]; exact hL)
  have Z₃ := Z.k m₃
  have hD₃ := e₃ _ _ (fun q => DL (one q)) hD
  refine at_ h₃ s.gens s.drawn s.os fun t₃ => ?_
  refine wpAny_execs_cons <| wpAny_Assign_Name <| Call_ <| nmG (v := .ref 660) Z₃ (by kernel_rfl) (by rfl) <| cwF (w := w) (by kernel_rfl) <| wpAny_items_cons <| nmL n₃ rfl rfl <| wpAny_items_cons <| nmL n₃ rfl rfl <| wpAny_items_nil ⟨Z₃, sp_empty (n := 2) Z₃ (by show A.depth + 1 + 4 < _; omega) (by exact hh) (by decide) (.inr ⟨D, _, rfl, ⟨_, hD₃, rfl, _, rfl⟩, rfl, hacc⟩) (.inr rfl) fun h₄ g₄ tk₄ H e₄ eg₄ B => ?_⟩
  replace e₄ : Ext [] h₃ h₄ := e₄
  replace eg₄ : GM [] s.gens g₄ := eg₄
  replace B : Bare prog w h₃ h₄ 2 H := B
  refine stL (n₃.keeps e₄.keep) rfl fun h₅ n₅ s₅ => ?_
  replace s₅ : Heap.SameBut L h₄ h₅ := s₅
  have e₅ : Ext [L] h₄ h₅ := Ext.of_same s₅
  obtain ⟨oL3, hoL3⟩ := nsLive n₃
  have LH : ∀ a ∈ H.all, a ≠ L := fun a ha => dead_ne (B.new a ha) hoL3
  have I₅ : GraphAt prog w h₅ H := B.I.to e₅ fun a ha q => LH a ha (one q)
  have m₅ : Ext [] s.heap h₅ := (m₃.app e₄).loc hL s₅
  have Z₅ := Z.k m₅
  have hD₅ := e₅ _ _ (fun q => DL (one q)) (e₄.keep _ _ hD₃)
  refine at_ h₅ g₄ s.drawn s.os fun t₅ => ?_
  refine wpAny_execs_cons <| wpAny_Expr_any <| MethodCall_ <| nmL n₅ rfl rfl <| gb_meth Z₅ I₅.gb (f := 492) (by kernel_rfl) (by kernel_rfl) (I₅.bare (by decide)) <| cwF (w := w) (by kernel_rfl) <| wpAny_items_cons <| Call_ <| nmG (v := .ref 633) Z₅ (by kernel_rfl) (by rfl) <| cwF (w := w) (by kernel_rfl) <| wpAny_items_cons <| nmL n₅ rfl rfl <| wpAny_items_nil ⟨Z₅, sp_pairwise Z₅ ⟨_, hD₅, rfl, _, rfl⟩ (by show A.depth + 1 < _; omega) (by exact hh) fun h₆ tk₆ S U c₆ e₆ nS dU hS hU => wpAny_items_nil ?_⟩
  replace e₆ : Ext [] h₅ h₆ := e₆
  replace nS : New h₅ S := nS
  replace dU : h₅.get? U = none := dU
  have Z₆ := Z₅.k e₆
  have I₆ := I₅.k e₆
  have m₆ : Ext [] s.heap h₆ := m₅.app e₆
  have hr : H.rows.length = 2 := by simpa [Gr.ids] using congrArg List.length B.ids
  have X : Src prog w (.ref S) [] [S, U] [] 1 (EdgeIs prog w (fun _ => 0) (fun _ => 1)) h₆ g₄ := src_list (items := #[.ref U]) (dep₀ := [U]) ⟨_, hS, rfl, _, rfl⟩ (fun b hb => by rw [one hb]; exact ⟨_, hU⟩) fun i v h' q a => by
    have q' : i < 1 := by
      have := Array.getElem?_eq_some_iff.mp q
      obtain ⟨l, _⟩ := this
      exact l
    have : i = 0 := by omega
    subst this
    cases q
    exact ⟨U, _, _, rfl, .inl (a U (.head _) _ hU)⟩
  refine ⟨Z₆, sp_add_edges_from (N := 1) (u := fun _ => 0) (v := fun _ => 1) Z₆ I₆ B.J (by show A.depth + 1 + 1 < _; omega) (by exact hh) X (fun b hb => ?_) (fun b hb => ?_) (fun _ h => nomatch h) (fun _ h => nomatch h) (fun _ _ => ?_) (fun _ _ => ?_) (fun _ _ => by decide) fun h₇ g₇ tk₇ H₇ e₇ eg₇ AE => ?_⟩
  · simp only [List.mem_cons, List.not_mem_nil, or_false] at hb
    rcases hb with rfl | rfl
    · exact ⟨_, hS⟩
    · exact ⟨_, hU⟩
  · simp only [List.mem_cons, List.not_mem_nil, or_false] at hb
    rcases hb with rfl | rfl
    · exact I₅.all_new nS.1
    · exact I₅.all_new dU
  · rw [B.ids]; decide
  · rw [B.ids]; decide
  replace e₇ : Ext H.all h₆ h₇ := e₇.mono fun b hb => by simpa using hb
  replace eg₇ : GM [] g₄ g₇ := eg₇
  have dH0 : ∀ a ∈ H.all, s.heap.get? a = none := fun a ha => dead m₃.keep (B.new a ha)
  have m₇ : Ext [] s.heap h₇ := m₆.app' e₇ fun b hb => .inr (dH0 b hb)
  have n₇ : h₇.Ns L _ := (n₅.keeps e₆.keep).at' fun o e => e₇ _ _ (fun q => LH _ q rfl) e
  have hg₇ : H₇.g = H.g := sh_g AE.sh
  refine wpAny_execs_cons <| wpAny_Return_some <| nmL (v := .ref H₇.g) n₇ rfl (by rw [hg₇]; rfl) <| h h₇ g₇ _ H₇ m₇ (eg₄.trans eg₇) ⟨AE.I, AE.J, (sh_ids AE.sh).trans B.ids, (congrArg (·.2.2.2.2.2.1) AE.sh).trans B.more, (congrArg (·.2.2.2.2.2.2.1) AE.sh).trans B.vs, fun a ha => ?_, fun a b => ?_⟩
  · rcases AE.gr a ha with q | q
    · exact dH0 a q
    · exact dead m₆.keep q
  · rw [AE.has]
    constructor
    · rintro (q | ⟨_, _, q⟩)
      · exact absurd q (B.no a b)
      · exact q
    · exact fun q => .inr ⟨0, by decide, q⟩
end
end Mine
end W50
section W51
open PySem PySem.W PyProof.Rows PySem.Calls PySem.Spec
set_option maxRecDepth 100000
set_option maxHeartbeats 8000000
namespace Mine
section
variable {prog : Program} {w : World} {A : Around} {E : Value → Shared → Prop} {s : Shared}
theorem own_obj_in {K : Frag} {h : Heap} {C : Addr} {bmB : List Value} {newId : String} (X : K.In h) (q : excIn K C bmB newId = true) :
    ∃ bm N nm qn bs hdct sn sub ab col dd k0 k1 k2 k3 k5 mN, h.get? C = some (excClassObj nm qn C N bs bm hdct sn sub ab col dd k0 k1 k2 k3 k5 newId) ∧ h.Ns N mN ∧ mN "__init__" = none ∧ OwnTail h bmB bm := by
  unfold excIn at q
  split at q
  · rename_i dd cd sl ho
    split at q
    · rename_i C' bm k0 k1 k2 k3 n k5 hm hs
      simp only [Bool.and_eq_true, beq_iff_eq, Bool.not_eq_true'] at q
      obtain ⟨⟨⟨⟨⟨rfl, rfl⟩, hdel⟩, ht⟩, hok⟩, hni⟩ := q
      obtain ⟨nm, bs, mro, ns, qn, hd, sn, sub, ab, col, del⟩ := cd
      dsimp only at hm hdel hok hni
      subst hm hdel
      have hsl : sl = #[k0, k1, k2, k3, some (.builtin n), k5] := by
        obtain ⟨l⟩ := sl
        simp only at hs
        rw [hs]
      subst hsl
      exact ⟨bm, ns, nm, qn, bs, hd, sn, sub, ab, col, dd, k0, k1, k2, k3, k5, _, X _ _ ho, .of_isNs (isNs_of_in X hok), nsMap_none_of_in X hok hni, tail_of_in X ht⟩
    · cases q
  · cases q
theorem nx_obj {h : Heap} (Z : Gl w h) : ∃ bm N nm qn bs hdct sn sub ab col dd k0 k1 k2 k3 k5 mN, h.get? 44 = some (excClassObj nm qn 44 N bs bm hdct sn sub ab col dd k0 k1 k2 k3 k5 "Exception.__new__") ∧ h.Ns N mN ∧ mN "__init__" = none ∧ OwnTail h [.type "Exception", .type "BaseException", .type "object"] bm :=
  own_obj_in Z.X (by kernel_rfl)
theorem raise_nx {env : Env} {x : Str} {kc : Nat} {np cp cpos pos : Pos} {Q : Flow → Shared → Prop} (Z : Gl w s.heap) (hh : A.handled = none) (hx : env.kindOf "NetworkXError" = some .globalImplicit) (hk : env.scope.kind = .function) (hg : env.globals = mainGlobals)
    (h : ∀ h' e tk vs, Heap.MadeExcOf s.heap h' e (.ref 44) vs → E (.ref e) { s with heap := h', toks := tk }) :
    wpAny (model prog w) A (exec (.Raise (some (.Call (.Name "NetworkXError" np) [.Constant (.str x) kc cp] [] cpos)) none pos) env) Q E s := by
  obtain ⟨tl, N, nm, q, bs, hdct, sn, sub, ab, col, dd, k0, k1, k2, k3, k5, mN, hC, hN, hni, T⟩ := nx_obj Z
  refine wpAny_Raise_call_subT (C := 44) (nm := nm) (q := q) (N := N) (bs := bs) (bm := tl) (hdct := hdct) (sn := sn) (sub := sub) (ab := ab) (col := col) (dd := dd) (k0 := k0) (k1 := k1) (k2 := k2) (k3 := k3) (k5 := k5)
    PySem.F.excBase_Exception (mN := mN) (T.hasType PySem.F.excBase_Exception.hasBase) hh (by rfl) hni (nmG (v := .ref 44) Z (by kernel_rfl) hx (hk := hk) (hg := hg) ⟨rfl, ?_⟩)
  refine Calls.evalArgs_plain (wpAny_items_cons (wpAny_Constant_str <| wpAny_items_nil ?_))
  exact ⟨rfl, (by show 1 ≤ 2 ^ 24; decide), hC, hN, T, fun h' e hm => h h' e _ _ hm⟩
theorem sp_mg0 {t : Tok} {Q : Value → Shared → Prop} (base : Heap) (outer : List Env) (hfr : A.frames = some outer) (hff : s.heap.FunFrames base outer) (hkb : base.StaysIn s.heap) (Z : Gl w s.heap) (hroom : A.depth < recursionLimit) (hh : A.handled = none)
    (h : ∀ h' e a0 tk, Heap.FlyingW base outer e (.ref 44) a0 h' → s.heap.UpToSlots h' → E (.ref e) { s with heap := h', toks := tk }) :
    wpC (model prog w) A (call (.ref 683) [.int 0 t] []) Q E s := by
  refine enterC Z hroom (by rfl) (by kernel_rfl) (binds := [("n", .int 0 t)]) (by kernel_rfl) (by kernel_rfl) (by kernel_rfl) (by rfl) (by rfl) ?_
  intro L h₁ tk m hL n
  have Z₁ := Z.k m
  refine c_cons <| c_If <| toC <| wpAny_isTrue_Compare1 <| nmL n rfl rfl <| wpAny_Constant_int <| PyProof.Rows.lt_int <| wpAny_truthy_bool ?_
  rw [show decide ((0 : Int) < 1) = true from by decide]
  simp only [if_true]
  refine c_cons <| toC <| raise_nx (s := { s with heap := h₁, toks := _ }) Z₁ (by exact hh) rfl rfl rfl fun h₂ e tk₂ vs hm => ?_
  replace hm : Heap.MadeExcOf h₁ h₂ e (.ref 44) vs := hm
  have hb : base.StaysIn h₁ := fun b o q => m.keep _ _ (hkb b o q)
  have hbL : base.get? L = none := by
    cases q : base.get? L with
    | none => rfl
    | some o => have := hkb _ _ q; rw [hL] at this; cases this
  have hl : h₁.FunFrames base outer := hff.of_keeps fun b o e _ => ⟨o, m.keep _ _ e, rfl⟩
  have hlL : ∃ o, h₁.get? L = some o ∧ ∀ vs, o.data ≠ .fields vs := by
    obtain ⟨o, es, ep, ho, hd, _⟩ := n
    exact ⟨o, ho, fun vs q => by rw [hd] at q; cases q⟩
  obtain ⟨oL, hoL, hdL⟩ := hlL
  refine wpAny_leaves_madeW (s := { s with heap := h₂, toks := tk₂ }) (base := base) (h := h₁) (deeper_frames hfr) rfl hb ⟨(by intro q; cases q), ⟨L, oL, rfl, hbL, hoL, hdL⟩, hl⟩ hm fun h₃ t hfl _ _ hup => ?_
  refine h h₃ e _ _ hfl ((Heap.UpToSlots.of_keeps m.keep).trans ((Heap.UpToSlots.of_keeps hm.keeps).trans hup))
theorem sp_mg1 {t : Tok} {Q : Value → Shared → Prop} (Z : Gl w s.heap) (hroom : A.depth + 6 < recursionLimit) (hh : A.handled = none)
    (h : ∀ h' g' tk H, Ext [] s.heap h' → GM [] s.gens g' → Bare prog w s.heap h' 1 H → Q (.ref H.g) { s with heap := h', gens := g', toks := tk }) :
    wpAny (model prog w) A (call (.ref 683) [.int 1 t]) Q E s := by
  refine enter' Z (Nat.lt_of_le_of_lt (Nat.le_add_right _ 6) hroom) (by rfl) (by kernel_rfl) (binds := [("n", .int 1 t)]) (by kernel_rfl) (by kernel_rfl) (by kernel_rfl) (by rfl) (by rfl) ?_
  intro L h₁ tk m hL n
  have Z₁ := Z.k m
  refine wpAny_execs_cons <| wpAny_If <| wpAny_isTrue_Compare1 <| nmL n rfl rfl <| wpAny_Constant_int <| PyProof.Rows.lt_int <| wpAny_truthy_bool ?_
  rw [show decide ((1 : Int) < 1) = false from by decide]
  simp only [Bool.false_eq_true, if_false]
  refine wpAny_execs_nil ?_
  refine wpAny_execs_cons <| wpAny_If <| wpAny_isTrue_Compare1 <| nmL n rfl rfl <| wpAny_Constant_int <| PyProof.Rows.eq_int <| wpAny_truthy_bool ?_
  rw [show ((1 : Int) == 1) = true from by decide]
  simp only [if_true]
  refine at_ h₁ s.gens s.drawn s.os fun t₁ => ?_
  refine wpAny_execs_cons <| wpAny_Return_some <| Call_ <| nmG (v := .ref 660) Z₁ (by kernel_rfl) (by rfl) <| cwF (w := w) (by kernel_rfl) <| wpAny_items_cons <| wpAny_Constant_int <| wpAny_items_nil ⟨Z₁, sp_empty (n := 1) (s := { s with heap := h₁, toks := _ }) Z₁ (by show A.depth + 1 + 4 < _; omega) (by exact hh) (by decide) (.inl ⟨_, rfl⟩) (.inl rfl) fun h₂ g₂ tk₂ H e₂ eg₂ B => ?_⟩
  replace e₂ : Ext [] h₁ h₂ := e₂
  replace B : Bare prog w h₁ h₂ 1 H := B
  exact h h₂ g₂ _ H (m.app e₂) eg₂ ⟨B.I, B.J, B.ids, B.more, B.vs, fun a ha => dead m.keep (B.new a ha), B.no⟩
theorem MS.rebase {fo : List Nat} {hs h₀ h : Heap} {gs g₀ g : Array GenState} {N L : Nat} {P : Int → Int → Prop} {H : Gr} (M : MS prog w (L :: fo) h₀ g₀ N P h g H) (e : Ext [] hs h₀) (eg : GM [] gs g₀) (hL : hs.get? L = none) : MS prog w fo hs gs N P h g H where
  Z := M.Z
  ext := fun b o n q => M.ext b o (fun m => by
    rcases List.mem_cons.mp m with rfl | m
    · rw [hL] at q; cases q
    · exact n m) (e.keep _ _ q)
  sl := (Slots.of e fun _ _ h => nomatch h).trans (M.sl.mono fun b hb => .tail _ hb)
  gm := eg.trans M.gm
  I := M.I
  J := M.J
  ids := M.ids
  one := M.one
  new := fun a ha => Mine.dead e.keep (M.new a ha)
  has := M.has
theorem sp_mgn {k : Nat} {t : Tok} {Q : Value → Shared → Prop} (hk : k ≤ 2) (outer : List Env) (hfr : A.frames = some outer) (hff : s.heap.FunFrames {} outer) (hun : A.units + 60 < cLine) (hSb : ∀ b ∈ frs outer, 709 ≤ b)
    (Z : Gl w s.heap) (hroom : A.depth + 14 < recursionLimit) (hh : A.handled = none)
    (h : ∀ h' g' tk H, MS prog w (frs outer) s.heap s.gens (mycN k 2) (mycP k 2 fun a b => a = 0 ∧ b = 1 ∨ a = 1 ∧ b = 0) h' g' H → Q (.ref H.g) { s with heap := h', gens := g', toks := tk }) :
    wpC (model prog w) A (call (.ref 683) [.int (k + 2 : Nat) t] []) Q E s := by
  refine enterXC Z (Nat.lt_of_le_of_lt (Nat.le_add_right _ 14) hroom) (by rfl) (by kernel_rfl) (binds := [("n", .int (k + 2 : Nat) t)]) (by kernel_rfl) (by intro L; rfl) (by rfl) (by rfl) ?_
  intro L h₁ tk C
  have m := C.ext
  have hL := C.loc
  have n := C.ns
  have Z₁ := Z.k m
  refine c_cons <| c_If <| toC <| wpAny_isTrue_Compare1 <| nmL n rfl rfl <| wpAny_Constant_int <| PyProof.Rows.lt_int <| wpAny_truthy_bool ?_
  rw [show decide (((k + 2 : Nat) : Int) < 1) = false from decide_eq_false (by omega)]
  simp only [Bool.false_eq_true, if_false]
  refine c_nil ?_
  refine c_cons <| c_If <| toC <| wpAny_isTrue_Compare1 <| nmL n rfl rfl <| wpAny_Constant_int <| PyProof.Rows.eq_int <| wpAny_truthy_bool ?_
  rw [show (((k + 2 : Nat) : Int) == 1) = false from beq_eq_false_iff_ne.mpr (by omega)]
  simp only [Bool.false_eq_true, if_false]
  refine c_at h₁ s.gens s.drawn s.os fun t₁ => ?_
  have liveO : ∀ b ∈ frs outer, ∃ o, s.heap.get? b = some o := fun b hb => let ⟨_, o, ho, _⟩ := hff.mem hb; ⟨o, ho⟩
  have L9 : 709 ≤ L := C.big
  refine c_cons <| c_Return <| c_Call <| toC <| nmG (v := .ref 676) Z₁ (by kernel_rfl) (by rfl) <| c_cwF (w := w) (by kernel_rfl) <| c_items_cons <| toC <| Call_ <| nmG (v := .ref 668) Z₁ (by kernel_rfl) (by rfl) <| cwF (w := w) (by kernel_rfl) <| wpAny_items_cons <| wpAny_Constant_int <| wpAny_items_nil ⟨Z₁, sp_path2 (s := { s with heap := h₁, toks := _ }) Z₁ (by show A.depth + 1 + 6 < _; omega) (by exact hh) fun h₂ g₂ tk₂ H e₂ eg₂ F => ?_⟩
  replace e₂ : Ext [] h₁ h₂ := e₂
  replace eg₂ : GM [] s.gens g₂ := eg₂
  replace F : Fresh prog w h₁ h₂ 2 _ H := F
  have Z₂ := Z₁.k e₂
  have n₂ := n.keeps e₂.keep
  have m₂ : Ext [] s.heap h₂ := m.app e₂
  refine c_items_cons <| toC <| wpAny_BinOp <| nmL n₂ rfl rfl <| wpAny_Constant_int <| PySem.P.sub_int <| toC (wpAny_items_nil ⟨Z₂, ?_⟩)
  rw [show (((k + 2 : Nat) : Int) - 2) = (k : Int) from by omega]
  refine c_at h₂ g₂ s.drawn s.os fun t₂ => ?_
  have hrow : H.rows.length = 2 := by simpa [Gr.ids] using congrArg List.length F.ids
  obtain ⟨oL, hoL⟩ := nsLive n
  refine sp_myc (k := k) hk _ (deeper_frames hfr) ?_ (by show A.units + 3 + 40 < cLine; omega) ?_ Z₂ F.I F.J (by show A.depth + 1 + 12 < _; omega) (by exact hh) (by omega) (by omega) ?_ ?_ (.inr rfl) fun h₃ g₃ tk₃ H₃ M => ?_
  · obtain ⟨oL, es, ep, hoL, hdL, _⟩ := id n₂
    exact ⟨(by intro q; cases q), ⟨L, oL, rfl, rfl, hoL, fun vs q => by rw [hdL] at q; cases q⟩, (Slots.of m₂ fun _ _ h => nomatch h).frames hff⟩
  · intro b hb
    rcases List.mem_cons.mp hb with rfl | hb
    · exact ⟨L9, fun q => dead_ne (F.new _ q) hoL rfl⟩
    · obtain ⟨o, ho⟩ := liveO b hb
      exact ⟨hSb b hb, fun q => dead_ne (F.new _ q) (m.keep _ _ ho) rfl⟩
  · intro a b q
    rw [F.has] at q ⊢
    omega
  · intro a b q
    rw [F.has] at q
    omega
  · replace M : MS prog w (L :: frs outer) h₂ g₂ (mycN k H.rows.length) (mycP k H.rows.length _) h₃ g₃ H₃ := M
    rw [hrow] at M
    have hP : (fun a b : Int => ∃ x y, H.has x y ∧ a = H.ids.idxOf x ∧ b = H.ids.idxOf y) = fun a b => a = 0 ∧ b = 1 ∨ a = 1 ∧ b = 0 := by
      funext a b
      refine propext ⟨?_, ?_⟩
      · rintro ⟨x, y, q, rfl, rfl⟩
        rw [F.ids]
        rcases (F.has _ _).mp q with ⟨rfl, rfl⟩ | ⟨rfl, rfl⟩
        · exact .inl ⟨by decide, by decide⟩
        · exact .inr ⟨by decide, by decide⟩
      · rintro (⟨rfl, rfl⟩ | ⟨rfl, rfl⟩)
        · exact ⟨0, 1, (F.has _ _).mpr (.inl ⟨rfl, rfl⟩), by rw [F.ids]; decide, by rw [F.ids]; decide⟩
        · exact ⟨1, 0, (F.has _ _).mpr (.inr ⟨rfl, rfl⟩), by rw [F.ids]; decide, by rw [F.ids]; decide⟩
    rw [hP] at M
    exact h h₃ g₃ _ H₃ (M.rebase m₂ eg₂ hL)
end
end Mine
end W51
section W52
open PySem PySem.W PyProof.Rows PySem.Calls PySem.Spec
set_option maxRecDepth 100000
set_option maxHeartbeats 8000000
namespace Mine
def IL (h : Heap) (S : Nat) (ns : List Nat) : Prop := ∃ vs, h.PlainList S vs.toArray ∧ IntsAre vs (ns.map fun (n : Nat) => (n : Int))
theorem IL.at {h h' : Heap} {S : Nat} {ns : List Nat} (x : IL h S ns) (k : ∀ o, h.get? S = some o → h'.get? S = some o) : IL h' S ns :=
  let ⟨vs, a, b⟩ := x; ⟨vs, a.at k, b⟩
theorem IL.ext {h h' : Heap} {F : List Nat} {S : Nat} {ns : List Nat} (x : IL h S ns) (e : Ext F h h') (n : S ∉ F) : IL h' S ns := x.at fun o q => e _ _ n q
theorem IL.live {h : Heap} {S : Nat} {ns : List Nat} (x : IL h S ns) : ∃ o, h.get? S = some o := let ⟨_, ⟨_, e⟩, _⟩ := x; ⟨_, e⟩
theorem intsAre_get : ∀ {vs : List Value} {ns : List Int}, IntsAre vs ns → ∀ (i : Nat) (n : Int), ns[i]? = some n → ∃ t, vs[i]? = some (.int n t)
  | _, _, .nil, i, n, h => by simp at h
  | _, _, .cons m t h, 0, n, e => by simp at e; subst e; exact ⟨t, rfl⟩
  | _, _, .cons m t h, i + 1, n, e => by
    simp only [List.getElem?_cons_succ] at e ⊢
    exact intsAre_get h i n e
theorem IL.len {h : Heap} {S : Nat} {ns : List Nat} (x : IL h S ns) : ∃ vs, h.PlainList S vs.toArray ∧ IntsAre vs (ns.map fun (n : Nat) => (n : Int)) ∧ vs.length = ns.length := by
  obtain ⟨vs, a, b⟩ := x
  exact ⟨vs, a, b, by simpa using b.length⟩
section
variable {prog : Program} {w : World} {A : Around} {E : Value → Shared → Prop} {s : Shared} {S : Nat} {ns : List Nat} {Q : Value → Shared → Prop}
theorem il_len (x : IL s.heap S ns) (hz : ns.length < 1000) (h : ∀ t tk, Q (.int ns.length t) { s with toks := tk }) : wpAny (model prog w) A (call (.builtin "len") [.ref S]) Q E s := by
  obtain ⟨vs, a, b, hl⟩ := x.len
  refine call_len_list a.isList (by rw [List.size_toArray, hl]; omega) ?_
  rw [List.size_toArray, hl]
  exact h _ _
theorem il_get {k : Int} {i : Nat} {t : Tok} (x : IL s.heap S ns) (hk : k = i) (hi : i < ns.length) (hz : ns.length < 1000) (h : ∀ t, Q (.int (ns[i]! : Nat) t) s) : wpAny (model prog w) A (getItem (.ref S) (.int k t)) Q E s := by
  subst hk
  obtain ⟨vs, a, b⟩ := x
  obtain ⟨t', ht⟩ := intsAre_get b i (ns[i]! : Nat) (by rw [List.getElem?_map, List.getElem?_eq_getElem hi, getElem!_pos ns i hi]; rfl)
  exact wpAny_getItem_list (x := .int (ns[i]! : Nat) t') a.isList (by omega) (by omega) (by simpa using ht) (h t')
theorem il_ne_nil {b : Nat} (x : IL s.heap S ns) (hb : s.heap.IsList b #[]) (hu : A.units < cLine) (h : Q (.bool (!ns.isEmpty)) s) : wpAny (model prog w) A (compareOp .NotEq (.ref S) (.ref b)) Q E s := by
  obtain ⟨vs, a, c, hl⟩ := x.len
  cases ns with
  | nil =>
    refine PySem.SeqAt.RcNeAt.lists (e := fun _ => true) a.isList hb (by rw [List.size_toArray, hl]; rfl) hu (fun j h1 h2 => nomatch h2) prog w E Q ?_
    simpa [hl] using h
  | cons n r => exact PySem.SeqAt.RcNeAt.lists_lengths a.isList hb (by rw [List.size_toArray, hl]; rfl) hu prog w E Q h
theorem il_eq_nil {b : Nat} (x : IL s.heap S ns) (hb : s.heap.IsList b #[]) (hu : A.units < cLine) (h : Q (.bool ns.isEmpty) s) : wpAny (model prog w) A (compareOp .Eq (.ref S) (.ref b)) Q E s := by
  obtain ⟨vs, a, c, hl⟩ := x.len
  cases ns with
  | nil =>
    refine PySem.SeqAt.RcAt.lists (e := fun _ => true) a.isList hb (by rw [List.size_toArray, hl]; rfl) hu (fun j h1 h2 => nomatch h2) prog w E Q ?_
    simpa [hl] using h
  | cons n r => exact PySem.SeqAt.RcAt.lists_lengths a.isList hb (by rw [List.size_toArray, hl]; rfl) hu prog w E Q h
theorem any_cast (ns : List Nat) (k : Nat) : (ns.map fun (n : Nat) => (n : Int)).any (· == (k : Int)) = ns.any (· == k) := by
  rw [List.any_map]
  congr 1
  funext n
  by_cases h : n = k
  · subst h; simp
  · have : (n : Int) ≠ k := by omega
    show ((n : Int) == (k : Int)) = (n == k)
    rw [beq_eq_false_iff_ne.mpr this, beq_eq_false_iff_ne.mpr h]
theorem il_notin {k : Nat} {t : Tok} (x : IL s.heap S ns) (h : Q (.bool (!(ns.any (· == k)))) s) : wpAny (model prog w) A (compareOp .NotIn (.int k t) (.ref S)) Q E s := by
  obtain ⟨vs, a, b⟩ := x
  refine notin_list_ints a.isList b ?_
  rw [any_cast]; exact h
theorem il_in {k : Nat} {t : Tok} (x : IL s.heap S ns) (h : Q (.bool (ns.any (· == k))) s) : wpAny (model prog w) A (compareOp .In (.int k t) (.ref S)) Q E s := by
  obtain ⟨vs, a, b⟩ := x
  refine in_list_ints a.isList b ?_
  rw [any_cast]; exact h
theorem il_max (x : IL s.heap S ns) (hh : A.handled = none) (hne : ns ≠ []) (h : ∀ h' tk (M : Nat) t, Ext [] s.heap h' → M ∈ ns → (∀ a ∈ ns, a ≤ M) → Q (.int M t) { s with heap := h', toks := tk }) : wpAny (model prog w) A (call (.builtin "max") [.ref S]) Q E s := by
  obtain ⟨vs, a, b, hl⟩ := x.len
  obtain ⟨xs, hxs⟩ := b.allInts.items
  have hl' : s.heap.IsList S (intItems xs) := hxs ▸ a.isList
  have hsz : 0 < xs.size := by
    have : vs.toArray.size = xs.size := by rw [hxs]; simp [intItems]
    rw [List.size_toArray, hl] at this
    rw [← this]
    exact List.length_pos_iff.mpr hne
  refine max_intList hh hl' hsz fun v h' tk hv hk => ?_
  obtain ⟨t, rfl⟩ := intItems_at hv
  obtain ⟨h1, h2⟩ := argBest_gt (numAt xs) (xs.size - 1)
  have hn : (xs.toList.map (·.1)) = ns.map fun (n : Nat) => (n : Int) := by
    rw [← nums_intItems, ← hxs]; exact b.numsOf
  have hlen : (ns.map fun (n : Nat) => (n : Int)).length = xs.size := by rw [← hn]; simp
  have hmem : numAt xs (argBest (fun i j => decide (numAt xs i > numAt xs j)) (xs.size - 1)) ∈ ns.map fun (n : Nat) => (n : Int) := by
    rw [numAt_eq, hn]; exact getD_mem (by omega)
  obtain ⟨M, hM, hMe⟩ := List.mem_map.mp hmem
  rw [← hMe]
  refine h h' tk M t (Ext.of_keep hk []) hM fun a ha => ?_
  obtain ⟨j, hj, e⟩ := mem_getD (List.mem_map_of_mem (f := fun (n : Nat) => (n : Int)) ha)
  have h3 := h2 j (by omega)
  rw [← hMe, numAt_eq, hn, e] at h3
  omega
theorem il_append {k : Nat} {t : Tok} (x : IL s.heap S ns) (hz : ns.length < 1000) (h : ∀ h', Heap.SameBut S s.heap h' → IL h' S (ns ++ [k]) → Q .none { s with heap := h' }) : wpAny (model prog w) A (call (.builtin "list.append") [.ref S, .int k t]) Q E s := by
  obtain ⟨vs, a, b, hl⟩ := x.len
  refine wpAny_list_append_plain a (fun h' hp hs => h h' hs ⟨vs ++ [.int k t], by simpa using hp, ?_⟩) (by rw [List.size_toArray, hl]; have := sizeLine_eq; omega)
  rw [List.map_append]
  exact b.append (.cons _ _ .nil)
theorem il_pop (x : IL s.heap S ns) (hz : ns.length < 1000) (hne : ns ≠ []) (h : ∀ h' t, Heap.SameBut S s.heap h' → IL h' S ns.dropLast → Q (.int (ns.getLastD 0 : Nat) t) { s with heap := h' }) : wpAny (model prog w) A (call (.builtin "list.pop") [.ref S]) Q E s := by
  obtain ⟨vs, ⟨c, hS⟩, b, hl⟩ := x.len
  have hpos : 0 < ns.length := List.length_pos_iff.mpr hne
  have hlast : ns[ns.length - 1]? = some (ns.getLastD 0) := by
    rw [← List.getLast?_eq_getElem?, List.getLastD_eq_getLast?]
    cases q : ns.getLast? with
    | none => exact absurd (List.getLast?_eq_none_iff.mp q) hne
    | some y => rfl
  obtain ⟨t, ht⟩ := intsAre_get b (ns.length - 1) (ns.getLastD 0 : Nat) (by rw [List.getElem?_map, hlast]; rfl)
  have hT : s.TypeIs (.ref S) "list" := ⟨_, hS, rfl⟩
  have hsz : vs.toArray.size ≤ sizeLine := by rw [List.size_toArray, hl]; have := sizeLine_eq; omega
  refine call_meets PySem.F.slot_list_pop hT PySem.F.entry_list_pop (PySem.F.args_list_pop_1 _) (MeetsSeq.list_pop_last S vs.toArray c (.int (ns.getLastD 0 : Nat) t) (by rw [List.size_toArray, hl]; simpa using ht) hsz) ⟨hS, ?_⟩
  have hu := Heap.get?_update_self (Obj.mapSeq fun xs => xs.eraseIdxIfInBounds (vs.toArray.size - 1)) hS rfl
  have harr : vs.toArray.eraseIdxIfInBounds (vs.toArray.size - 1) = vs.dropLast.toArray := by
    unfold Array.eraseIdxIfInBounds
    rw [dif_pos (by rw [List.size_toArray, hl]; omega)]
    rw [List.eraseIdx_toArray]
    simp
  refine h _ t (Heap.SameBut.update ..) ⟨vs.dropLast, ?_, ?_⟩
  · rw [← harr]
    exact ⟨_, hu.trans (by simp only [Obj.mapSeq]; rfl)⟩
  · have := b.take (ns.length - 1)
    rw [← List.map_take] at this
    rw [List.dropLast_eq_take, List.dropLast_eq_take, hl]
    exact this
end
theorem used_max : ∀ {cs : List Nat} {M : Nat}, M ∈ cs → (∀ a ∈ cs, a ≤ M) → cs.foldl (fun a c => max a (c + 1)) 0 = M + 1 := by
  have up : ∀ (cs : List Nat) (b : Nat), b ≤ cs.foldl (fun a c => max a (c + 1)) b := by
    intro cs
    induction cs with
    | nil => intro b; exact Nat.le_refl _
    | cons c r ih => intro b; exact Nat.le_trans (Nat.le_max_left b (c + 1)) (ih _)
  have lo : ∀ (cs : List Nat) (b M : Nat), M ∈ cs → M + 1 ≤ cs.foldl (fun a c => max a (c + 1)) b := by
    intro cs
    induction cs with
    | nil => intro b M h; cases h
    | cons c r ih =>
      intro b M h
      rcases List.mem_cons.mp h with rfl | h
      · exact Nat.le_trans (Nat.le_max_right b (M + 1)) (up r _)
      · exact ih _ _ h
  have hi : ∀ (cs : List Nat) (b M : Nat), b ≤ M + 1 → (∀ a ∈ cs, a ≤ M) → cs.foldl (fun a c => max a (c + 1)) b ≤ M + 1 := by
    intro cs
    induction cs with
    | nil => intro b M h _; exact h
    | cons c r ih =>
      intro b M h h2
      exact ih _ _ (Nat.max_le.mpr ⟨h, Nat.succ_le_succ (h2 c (.head _))⟩) fun a ha => h2 a (.tail _ ha)
  intro cs M h1 h2
  exact Nat.le_antisymm (hi cs 0 M (Nat.zero_le _) h2) (lo cs 0 M h1)
end Mine
end W52
section W53
open PySem PySem.W PyProof.Rows PySem.Calls PySem.Spec
set_option maxRecDepth 100000
set_option maxHeartbeats 8000000
namespace Mine
theorem intsAre_of : ∀ {vs : List Value} {ns : List Nat}, vs.length = ns.length → (∀ (j : Nat) (v : Value), vs[j]? = some v → ∃ (k : Nat) (t : Tok), v = .int k t ∧ ns[j]? = some k) → IntsAre vs (ns.map fun (n : Nat) => (n : Int))
  | [], [], _, _ => .nil
  | v :: vs, n :: ns, hl, h => by
    obtain ⟨k, t, rfl, e⟩ := h 0 v rfl
    simp at e; subst e
    exact .cons _ _ (intsAre_of (by simpa using hl) fun j v q => by
      have := h (j + 1) v (by simpa using q)
      simpa using this)
theorem paired_ints {p : Nat → Bool} {f : Nat → Nat} {pV : Value → Bool} {F : Value → Value → Prop} (hp : ∀ (k : Nat) t, pV (.int k t) = p k) (hF : ∀ (k : Nat) t y, F (.int k t) y → ∃ t', y = .int (f k : Nat) t') :
    ∀ {vs : List Value} {ns : List Nat} {ys : List Value}, IntsAre vs (ns.map fun (n : Nat) => (n : Int)) → Paired F (vs.filter pV) ys → IntsAre ys (((ns.filter p).map f).map fun (n : Nat) => (n : Int))
  | [], [], ys, _, h => by
    cases h; exact .nil
  | [], _ :: _, _, h, _ => nomatch h
  | v :: vs, [], _, h, _ => nomatch h
  | v :: vs, n :: ns, ys, hi, h => by
    cases hi with
    | cons n t hi =>
      rw [List.filter_cons, hp] at h
      rw [List.filter_cons]
      by_cases q : p n = true
      · rw [if_pos q] at h ⊢
        cases h with
        | cons f1 h1 =>
          obtain ⟨t', rfl⟩ := hF _ _ _ f1
          exact .cons _ _ (paired_ints hp hF hi h1)
      · rw [if_neg q] at h ⊢
        exact paired_ints hp hF hi h
section
variable {prog : Program} {w : World} {A : Around} {E : Value → Shared → Prop} {s : Shared} {env : Env}
abbrev pOf (p : Nat → Bool) : Value → Bool := fun v => match v with | .int k _ => p k.toNat | _ => false
abbrev fOf (f : Nat → Nat) : Value → Value → Prop := fun v y => ∀ (k : Nat) t, v = .int k t → ∃ t', y = .int (f k : Nat) t'
abbrev TestsTo (prog : Program) (w : World) (A : Around) (env : Env) (scope : Scope) (cl : List (Str × Addr)) (x : Str) (test : Expr) (wr : List Nat) (vals : List Nat) (p : Nat → Bool) (h₂ : Heap) : Prop :=
  ∀ (C : Nat) (k : Nat) (t : Tok) (s₃ : Shared) m₃ E' (Q' : Bool → Shared → Prop), k ∈ vals → s₃.heap.Ns C m₃ → m₃ x = some (.int k t) → (∀ b o, b ∉ wr → h₂.get? b = some o → s₃.heap.get? b = some o) →
    (∀ h' tk, Ext [] s₃.heap h' → Q' (p k) { s₃ with heap := h', toks := tk }) → wpAny (model prog w) A (isTrue test (compEnvC scope cl C env) (eval test (compEnvC scope cl C env))) Q' E' s₃
abbrev GivesTo (prog : Program) (w : World) (A : Around) (env : Env) (scope : Scope) (cl : List (Str × Addr)) (x : Str) (elt : Expr) (wr : List Nat) (vals : List Nat) (p : Nat → Bool) (f : Nat → Nat) (h₂ : Heap) : Prop :=
  ∀ (C : Nat) (k : Nat) (t : Tok) (s₃ : Shared) m₃ E' (Q' : Value → Shared → Prop), k ∈ vals → p k = true → s₃.heap.Ns C m₃ → m₃ x = some (.int k t) → (∀ b o, b ∉ wr → h₂.get? b = some o → s₃.heap.get? b = some o) →
    (∀ h' tk t', Ext [] s₃.heap h' → Q' (.int (f k : Nat) t') { s₃ with heap := h', toks := tk }) → wpAny (model prog w) A (eval elt (compEnvC scope cl C env)) Q' E' s₃
theorem il_quiet {elt test : Expr} {x : Str} {scope : Scope} {cl : List (Str × Addr)} {wr vals : List Nat} {P : Nat → Value → Prop} {p : Nat → Bool} {f : Nat → Nat} {s₂ : Shared} (hP : ∀ i v, P i v → ∃ (k : Nat) (t : Tok), v = .int k t ∧ vals[i]? = some k)
    (ht : TestsTo prog w A env scope cl x test wr vals p s₂.heap) (he : GivesTo prog w A env scope cl x elt wr vals p f s₂.heap) : QuietOnC prog w A env scope cl x [test] elt wr P (pOf p) (fOf f) s₂ := by
  refine ⟨?_, ?_⟩
  · intro C i v s₃ m₃ E' _ hv hn hm hk _
    obtain ⟨k, t, rfl, q⟩ := hP i v hv
    simp only [List.forIn_cons, List.forIn_nil, if_true]
    exact wpAny_bind (wpAny_bind (ht C k t s₃ m₃ E' _ (List.mem_of_getElem? q) hn hm hk fun h' tk e => wpAny_pure (wpAny_pure ⟨rfl, _, _, rfl, fun _ _ q => e.keep _ _ q⟩)))
  · intro C i v s₃ m₃ E' _ hv hpv hn hm hk _
    obtain ⟨k, t, rfl, q⟩ := hP i v hv
    refine he C k t s₃ m₃ E' _ (List.mem_of_getElem? q) hpv hn hm hk fun h' tk t' e => ⟨fun k' t'' q => ?_, _, _, rfl, fun _ _ q => e.keep _ _ q⟩
    cases q; exact ⟨t', rfl⟩
theorem il_quiet0 {elt : Expr} {x : Str} {scope : Scope} {cl : List (Str × Addr)} {wr vals : List Nat} {P : Nat → Value → Prop} {f : Nat → Nat} {s₂ : Shared} (hP : ∀ i v, P i v → ∃ (k : Nat) (t : Tok), v = .int k t ∧ vals[i]? = some k)
    (he : GivesTo prog w A env scope cl x elt wr vals (fun _ => true) f s₂.heap) : QuietOnC prog w A env scope cl x [] elt wr P (pOf fun _ => true) (fOf f) s₂ := by
  refine ⟨?_, ?_⟩
  · intro C i v s₃ m₃ E' _ hv hn hm hk _
    obtain ⟨k, t, rfl, q⟩ := hP i v hv
    exact wpAny_tests_nil ⟨rfl, _, _, rfl, fun _ _ e => e⟩
  · intro C i v s₃ m₃ E' _ hv hpv hn hm hk _
    obtain ⟨k, t, rfl, q⟩ := hP i v hv
    refine he C k t s₃ m₃ E' _ (List.mem_of_getElem? q) rfl hn hm hk fun h' tk t' e => ⟨fun k' t'' q => ?_, _, _, rfl, fun _ _ q => e.keep _ _ q⟩
    cases q; exact ⟨t', rfl⟩
theorem il_made {vals : List Nat} {P : Nat → Value → Prop} {p : Nat → Bool} {f : Nat → Nat} {h' : Heap} {D n : Nat} {ys : Array Value} {vs : List Value} (hl : vals.length = n) (hP : ∀ i v, P i v → ∃ (k : Nat) (t : Tok), v = .int k t ∧ vals[i]? = some k)
    (hpl : h'.PlainList D ys) (hlen : vs.length = n) (hPv : ∀ j v, vs[j]? = some v → P j v) (hF : Paired (fOf f) (vs.filter (pOf p)) ys.toList) : IL h' D ((vals.filter p).map f) :=
  ⟨ys.toList, by simpa using hpl, paired_ints (fun k t => rfl) (fun k t y q => q k t rfl) (intsAre_of (ns := vals) (by rw [hlen, hl]) fun j v q => hP j v (hPv j v q)) hF⟩
theorem il_comp {elt iter : Expr} {ifs : List Expr} {x : Str} {px : Pos} {scope : Scope} {cl : List (Str × Addr)} {pos : Pos} {Q : Value → Shared → Prop} (p : Nat → Bool) (f : Nat → Nat)
    (hclos : closureFor scope env = pure cl) (hcell : ∀ y ∈ scope.names, y.2 ≠ .cell) (hkind : scope.kind = .function)
    (hnames : ∀ y ∈ scope.names, y.2 = .local → scope.names.lookup y.1 = some .local) (hx : scope.names.lookup x = some .local)
    (h : wpAny (model prog w) A (eval iter env) (fun xv s₁ => wpAny (model prog w) A (pyIter xv) (fun it s₂ => ∃ I fp wr n P St, it = .ref I ∧ Walks prog w A I fp wr n P St ∧ n ≤ 1000 ∧ St 0 s₂.heap ∧ (∀ b ∈ fp, b < s₂.heap.objs.size) ∧
      ∃ vals : List Nat, vals.length = n ∧ (∀ i v, P i v → ∃ (k : Nat) (t : Tok), v = .int k t ∧ vals[i]? = some k) ∧ QuietOnC prog w A env scope cl x ifs elt wr P (pOf p) (fOf f) s₂ ∧
      (∀ D h' tk, s₂.heap.get? D = none → IL h' D ((vals.filter p).map f) → Ext wr s₂.heap h' → Q (.ref D) { s₂ with heap := h', toks := tk })) E s₁) E s)
    (hs : ∀ x, foldedSetIterable iter env x = pure x := by intro _; rfl) :
    wpAny (model prog w) A (eval (.ListComp elt [⟨.Name x px, iter, ifs, 0⟩] scope pos) env) Q E s := by
  refine wpAny_ListComp_free (pOf p) (fOf f) hclos hcell hkind hnames hx (wpAny_mono h (fun xv s₁ h₁ => wpAny_mono h₁ (fun it s₂ h₂ => ?_) fun _ _ e => e) fun _ _ e => e) hs
  obtain ⟨I, fp, wr, n, P, St, rfl, W, hsz, hst, hfp, vals, hl, hP, hq, hQ⟩ := h₂
  exact ⟨I, fp, wr, n, P, St, rfl, W, by have := sizeLine_eq; omega, hst, hfp, hq, fun D h' tk ys vs hD _ hpl hlen hPv hF hk => hQ D h' tk hD (il_made hl hP hpl hlen hPv hF) hk⟩
theorem il_compA {elt iter : Expr} {ifs : List Expr} {x y : Str} {px py : Pos} {scope : Scope} {cl : List (Str × Addr)} {pos spos : Pos} {Q : Flow → Shared → Prop} (p : Nat → Bool) (f : Nat → Nat)
    (hsw : swapsWith (.ListComp elt [⟨.Name x px, iter, ifs, 0⟩] scope pos) (some (.Name y py)) spos.line env = pure true)
    (hclos : closureFor scope env = pure cl) (hcell : ∀ y ∈ scope.names, y.2 ≠ .cell) (hkind : scope.kind = .function)
    (hnames : ∀ y ∈ scope.names, y.2 = .local → scope.names.lookup y.1 = some .local) (hx : scope.names.lookup x = some .local)
    (hy : env.kindOf y = some .local) (hp : (env.scope.kind == .class || (env.scope.kind == .module && env.locals != env.globals)) = false)
    (h : wpAny (model prog w) A (eval iter env) (fun xv s₁ => wpAny (model prog w) A (pyIter xv) (fun it s₂ => ∃ I fp wr n P St m, it = .ref I ∧ Walks prog w A I fp wr n P St ∧ n ≤ 1000 ∧ St 0 s₂.heap ∧ (∀ b ∈ fp, b < s₂.heap.objs.size) ∧
      env.locals ∉ wr ∧ s₂.heap.Ns env.locals m ∧
      ∃ vals : List Nat, vals.length = n ∧ (∀ i v, P i v → ∃ (k : Nat) (t : Tok), v = .int k t ∧ vals[i]? = some k) ∧ QuietOnC prog w A env scope cl x ifs elt wr P (pOf p) (fOf f) s₂ ∧
      (∀ D h' tk, s₂.heap.get? D = none → IL h' D ((vals.filter p).map f) → h'.Ns env.locals (fun z => if z = y then some (.ref D) else m z) → Ext (env.locals :: wr) s₂.heap h' → Q .next { s₂ with heap := h', toks := tk })) E s₁) E s)
    (hs : ∀ x, foldedSetIterable iter env x = pure x := by intro _; rfl) :
    wpAny (model prog w) A (exec (.Assign [.Name y py] (.ListComp elt [⟨.Name x px, iter, ifs, 0⟩] scope pos) spos) env) Q E s := by
  refine wpAny_Assign_ListComp_free (pOf p) (fOf f) hsw hclos hcell hkind hnames hx hy hp (wpAny_mono h (fun xv s₁ h₁ => wpAny_mono h₁ (fun it s₂ h₂ => ?_) fun _ _ e => e) fun _ _ e => e) hs
  obtain ⟨I, fp, wr, n, P, St, m, rfl, W, hsz, hst, hfp, hL, hn, vals, hl, hP, hq, hQ⟩ := h₂
  exact ⟨I, fp, wr, n, P, St, m, rfl, W, by have := sizeLine_eq; omega, hst, hfp, hL, hn, hq, fun D h' tk ys vs hD _ hpl hlen hPv hF hn' hk => hQ D h' tk hD (il_made hl hP hpl hlen hPv hF) hn' fun b o nb e => hk b o (fun q => nb (q ▸ .head _)) (fun q => nb (.tail _ q)) e⟩
end
end Mine
end W53
section W54
open PySem PySem.W PyProof.Rows PySem.Calls PySem.Spec
set_option maxRecDepth 100000
set_option maxHeartbeats 8000000
namespace Mine
structure RL (h : Heap) (R : Nat) (fv : List Nat) (rows : List (List Nat)) : Prop where
  top : R ∈ fv
  is : ∃ acc c, h.get? R = some { cls := .type "list", data := .seq acc c } ∧ acc.size = rows.length ∧ ∀ (j : Nat) (v : Value), acc[j]? = some v → ∃ S, S ∈ fv ∧ v = .ref S ∧ IL h S (rows[j]!)
theorem RL.at {h h' : Heap} {R : Nat} {fv : List Nat} {rows : List (List Nat)} (x : RL h R fv rows) (k : ∀ b ∈ fv, ∀ o, h.get? b = some o → h'.get? b = some o) : RL h' R fv rows where
  top := x.top
  is := let ⟨acc, c, a, b, d⟩ := x.is; ⟨acc, c, k R x.top _ a, b, fun j v q => let ⟨S, hS, e, il⟩ := d j v q; ⟨S, hS, e, il.at fun o z => k S hS o z⟩⟩
section
variable {prog : Program} {w : World} {A : Around} {E : Value → Shared → Prop} {s : Shared} {Q : Value → Shared → Prop} {R : Nat} {fv : List Nat} {rows : List (List Nat)}
theorem rl_len (x : RL s.heap R fv rows) (hz : rows.length < 1000) (h : ∀ t tk, Q (.int rows.length t) { s with toks := tk }) : wpAny (model prog w) A (call (.builtin "len") [.ref R]) Q E s := by
  obtain ⟨acc, c, a, b, d⟩ := x.is
  refine call_len_list ⟨_, a, rfl, _, rfl⟩ (by rw [b]; omega) ?_
  rw [b]
  exact h _ _
theorem rl_get {k : Int} {i : Nat} {t : Tok} (x : RL s.heap R fv rows) (hk : k = i) (hi : i < rows.length) (hz : rows.length < 1000) (h : ∀ S, S ∈ fv → IL s.heap S (rows[i]!) → Q (.ref S) s) : wpAny (model prog w) A (getItem (.ref R) (.int k t)) Q E s := by
  subst hk
  obtain ⟨acc, c, a, b, d⟩ := x.is
  have hi' : i < acc.size := by omega
  obtain ⟨S, hS, e, il⟩ := d i acc[i] (Array.getElem?_eq_getElem hi')
  refine wpAny_getItem_list (x := .ref S) ⟨_, a, rfl, _, rfl⟩ (by omega) (by omega) ?_ (h S hS il)
  rw [← e]
  simpa using Array.getElem?_eq_getElem hi'
theorem subL {value slice : Expr} {l : Nat} {items : Array Value} {k : Int} {u : Tok} (hl : s.heap.IsList l items) (h : wpAny (model prog w) A (getItem (.ref l) (.int k u)) Q E s)
    (hs : subscripted slice false (.ref l) (.int k u) = operate [.ref l, .int k u] (getItem (.ref l) (.int k u)) := by with_unfolding_all rfl) (ht : ∀ r, letTemporaryGo value (.ref l) r = pure () := by intro _; with_unfolding_all rfl) : wpAny (model prog w) A (subscriptTail value slice (.ref l) (.int k u)) Q E s :=
  PyProof.Rows.subscriptTail_builtin hl.typeIs list_getitem_lookup h hs ht
theorem IL.isList {h : Heap} {S : Nat} {ns : List Nat} (x : IL h S ns) : ∃ vs, h.IsList S vs := let ⟨_, a, _⟩ := x; ⟨_, a.isList⟩
theorem il_iter {S : Nat} {ns : List Nat} (x : IL s.heap S ns) (h : ∀ h' I vs, Ext [] s.heap h' → s.heap.get? I = none → s.heap.objs.size ≤ I → I < h'.objs.size → S < h'.objs.size → I ≠ S → (h'.IsListIter I S 0 ∧ h'.IsList S vs) → vs.size = ns.length → (∀ (j : Nat) (v : Value), vs[j]? = some v → ∃ (k : Nat) (t : Tok), v = .int k t ∧ ns[j]? = some k) → Q (.ref I) { s with heap := h' }) :
    wpAny (model prog w) A (pyIter (.ref S)) Q E s := by
  obtain ⟨vs, a, b, hl⟩ := x.len
  refine wpAny_pyIter_list a.isList ?_
  generalize hh₁ : Heap.push _ _ = h₁
  have e₁ : Ext [] s.heap h₁ := hh₁ ▸ Ext.push _ _
  have hit : h₁.IsListIter s.heap.objs.size S 0 := hh₁ ▸ ⟨_, Heap.get?_push_size _ rfl, rfl, rfl⟩
  have dI : s.heap.get? s.heap.objs.size = none := get?_size _
  have le : s.heap.objs.size ≤ s.heap.objs.size := Nat.le_refl _
  generalize hI : s.heap.objs.size = I at hit dI ⊢
  have hS : h₁.IsList S vs.toArray := a.isList.at fun o e => e₁.keep _ _ e
  refine h h₁ I vs.toArray e₁ dI (Nat.le_of_eq hI) ?_ ?_ ?_ ⟨hit, hS⟩ (by rw [List.size_toArray, hl]) fun j v q => ?_
  · obtain ⟨o, ho, _⟩ := hit; exact Heap.lt_size ho
  · obtain ⟨o, ho, _⟩ := hS; exact Heap.lt_size ho
  · obtain ⟨o, ho, _⟩ := a.isList; exact dead_ne dI ho
  · have q' : vs[j]? = some v := by simpa using q
    have hj : j < ns.length := by
      have := (List.getElem?_eq_some_iff.mp q').1
      omega
    obtain ⟨t, ht⟩ := intsAre_get b j (ns[j] : Nat) (by rw [List.getElem?_map, List.getElem?_eq_getElem hj]; rfl)
    rw [q'] at ht
    cases ht
    exact ⟨_, _, rfl, List.getElem?_eq_getElem hj⟩
theorem range_iter {r : Nat} {a n : Nat} {b : Int} {t u v : Tok} (hr : IsRange s.heap r a b 1 t u v) (ha : a < 10000) (hb : -1000 < b ∧ b < 10000) (hn : (b - a).toNat = n) (h : ∀ h' I, Ext [] s.heap h' → s.heap.get? I = none → s.heap.objs.size ≤ I → I < h'.objs.size → IsRangeIter h' I a n 1 → Q (.ref I) { s with heap := h' }) :
    wpAny (model prog w) A (pyIter (.ref r)) Q E s := by
  refine wpAny_pyIter_range hr (small_one (by omega) (by omega) (by omega) (by omega)) ?_
  have hsz : Builtin.Range.rangeSize a b 1 = (n : Int) := by rw [rangeSize_one]; split <;> omega
  rw [hsz]
  generalize hh₁ : Heap.push _ _ = h₁
  have e₁ : Ext [] s.heap h₁ := hh₁ ▸ Ext.push _ _
  have hit : IsRangeIter h₁ s.heap.objs.size a n 1 := hh₁ ▸ Heap.get?_push_size _ rfl
  have dI : s.heap.get? s.heap.objs.size = none := get?_size _
  generalize hI : s.heap.objs.size = I at hit dI ⊢
  exact h h₁ I e₁ dI (Nat.le_of_eq hI) (Heap.lt_size hit) hit
theorem range_vals {a n : Nat} : ∀ (i : Nat) (v : Value), i < n → (∃ t, v = Value.int ((a : Int) + i * 1) t) → ∃ (k : Nat) (t : Tok), v = .int k t ∧ (List.range' a n)[i]? = some k := fun i v hi ⟨t, e⟩ =>
  ⟨a + i, t, by rw [e, Int.mul_one]; rfl, by rw [List.getElem?_range' hi, Nat.one_mul]⟩
theorem walksLt {I : Addr} {fp wr : List Addr} {n : Nat} {P : Nat → Value → Prop} {St : Nat → Heap → Prop} (W : Walks prog w A I fp wr n P St) : Walks prog w A I fp wr n (fun i v => i < n ∧ P i v) St where
  sub := W.sub
  frame := W.frame
  item := fun i s Q E hi st hQ => W.item i s Q E hi st fun v h' tk hP st' k => hQ v h' tk ⟨hi, hP⟩ st' k
  done := W.done
  self := W.self
theorem free_of {adj : Nat → Nat → Bool} {most here : Nat} {cs row : List Nat} (hrow : ∀ k, k ∈ row ↔ adj cs.length k = true) :
    ((List.range' here (min most (usedOf cs + 1) - here)).filter fun c => !(((row.filter fun k => decide (k < cs.length)).map fun k => cs[k]!).any (· == c))).map (fun c => c) = freeOf adj most cs here := by
  rw [List.map_id']
  unfold freeOf
  congr 1
  funext c
  congr 1
  rw [Bool.eq_iff_iff]
  simp only [List.any_eq_true, List.mem_map, List.mem_filter, decide_eq_true_eq, List.mem_range, Bool.and_eq_true, beq_iff_eq]
  constructor
  · rintro ⟨x, ⟨k, ⟨h1, h2⟩, rfl⟩, h3⟩
    exact ⟨k, h2, (hrow k).mp h1, h3⟩
  · rintro ⟨k, h2, h1, h3⟩
    exact ⟨_, ⟨k, ⟨(hrow k).mpr h1, h2⟩, rfl⟩, h3⟩
theorem free_lt {adj : Nat → Nat → Bool} {most here c : Nat} {cs : List Nat} (h : c ∈ freeOf adj most cs here) : c < most := by
  unfold freeOf at h
  have := (List.mem_filter.mp h).1
  rw [List.mem_range'_1] at this
  omega
theorem sp_fits {most fuel : Nat} {t : Tok} {b : Bool} (adj : Nat → Nat → Bool) (Z : Gl w s.heap) (X : RL s.heap R fv rows) (hadj : ∀ i, i < rows.length → ∀ k, k ∈ rows[i]! ↔ adj i k = true) (hn : rows.length ≤ 30) (hr : ∀ i, i < rows.length → (rows[i]!).length ≤ 100) (hm : most ≤ 100)
    (hrun : fitsRun rows.length adj most fuel [] 0 = some b) (hroom : A.depth < recursionLimit) (hh : A.handled = none) (hu : A.units + 20 < cLine)
    (h : ∀ h' tk, Ext [] s.heap h' → Q (.bool b) { s with heap := h', toks := tk }) : wpAny (model prog w) A (call (.ref 693) [.ref R, .int most t]) Q E s := by
  refine enterX Z hroom (by rfl) (by kernel_rfl) (binds := [("rows", .ref R), ("most", .int most t)]) (by kernel_rfl) (by intro L; rfl) (by rfl) (by rfl) ?_
  intro L h₁ tk C
  have Z₁ := Z.k C.ext
  have n := C.ns
  have c1 : h₁.IsCell (L + 1) none := C.cell "colours" (L + 1) (by rfl)
  have c2 : h₁.IsCell (L + 2) none := C.cell "seen" (L + 2) (by rfl)
  have X₁ := X.at fun b _ o e => C.ext.keep _ _ e
  refine wpAny_execs_cons <| PyProof.Rows.Assign_Tuple <| wpAny_Tuple <| wpAny_items_cons <| wpAny_List <| wpAny_items_nil ⟨by decide, wpAny_items_cons <| wpAny_Constant_int <| wpAny_items_nil ⟨(by show 2 ≤ 2 ^ 24; decide), ?_⟩⟩
  generalize hh₂ : Heap.push h₁ _ = h₂
  have e₂ : Ext [] h₁ h₂ := hh₂ ▸ Ext.push _ _
  have hC₂ : IL h₂ h₁.objs.size [] := ⟨[], ⟨0, hh₂ ▸ Heap.get?_push_size _ rfl⟩, .nil⟩
  have nC₁ : New h₁ h₁.objs.size := New.pos' Z₁.big
  dsimp only
  generalize h₁.objs.size = Cl at hC₂ nC₁ ⊢
  generalize hh₃ : Heap.push h₂ _ = h₃
  have e₃ : Ext [] h₂ h₃ := hh₃ ▸ Ext.push _ _
  have hT₃ : Tup h₃ h₂.objs.size #[.ref Cl, .int 0 _] := hh₃ ▸ Heap.get?_push_size _ rfl
  have dT : h₂.get? h₂.objs.size = none := get?_size _
  generalize h₂.objs.size = T at hT₃ dT ⊢
  have e13 : Ext [] h₁ h₃ := e₂.app e₃
  have cN1 := C.new "colours" (L + 1) (by rfl)
  have cN2 := C.new "seen" (L + 2) (by rfl)
  refine at_ h₃ s.gens s.drawn s.os fun t₃ => ?_
  refine wpAny_assign_Tuple (by exact hh) ⟨_, hT₃, rfl, _, rfl⟩ rfl rfl fun h₄ x₄ => ?_
  have k₄ : ∀ b o, h₃.get? b = some o → h₄.get? b = some o := fun b o q => x₄ b o (Nat.ne_of_lt (Heap.lt_size q)) q
  have e14 : Ext [] h₁ h₄ := e13.app (Ext.of_keep k₄ [])
  show wpAny _ _ (do holding [.int 0 _] (assign (.Name "colours" _) _ (.ref Cl)); holding [] (assign (.Name "here" _) _ (.int 0 _)); pure ()) _ _ _
  refine wpAny_bind <| wpAny_holding <| wpAny_assign_Name <| stC (c1.keeps e14.keep) (by rfl) (by rfl) fun h₅ c₅ s₅ => ?_
  replace s₅ : Heap.SameBut (L + 1) h₄ h₅ := s₅
  have n₄ := n.keeps e14.keep
  have e₅ : Ext [L + 1] h₄ h₅ := Ext.of_same s₅
  have one : ∀ {a b : Nat}, b ∈ ([a] : List Nat) → b = a := fun q => List.mem_singleton.mp q
  have n₅ : h₅.Ns L _ := n₄.at' fun o e => e₅ _ _ (fun q => cN1.2 (one q).symm) e
  refine wpAny_bind <| wpAny_holding <| wpAny_assign_Name <| stL n₅ rfl fun h₆ n₆ s₆ => wpAny_pure ?_
  replace s₆ : Heap.SameBut L h₅ h₆ := s₆
  have e₆ : Ext [L] h₅ h₆ := Ext.of_same s₆
  have hL := C.loc
  have m₆ : Ext [] s.heap h₆ := ((C.ext.app e14).loc cN1.1 s₅).loc hL s₆
  have LC1 : L + 1 ≠ L := cN1.2
  have LC2 : L + 2 ≠ L := cN2.2
  have CC : L + 2 ≠ L + 1 := by omega
  have ClL : Cl ≠ L := by obtain ⟨o, ho⟩ := nsLive n; exact nC₁.ne ho
  have ClC1 : Cl ≠ L + 1 := by obtain ⟨o, ho, _⟩ := c1; exact nC₁.ne ho
  have ClC2 : Cl ≠ L + 2 := by obtain ⟨o, ho, _⟩ := c2; exact nC₁.ne ho
  have c1₆ : h₆.IsCell (L + 1) (some (.ref Cl)) := let ⟨o, a, b⟩ := c₅; ⟨o, e₆ _ _ (fun q => LC1 (one q)) a, b⟩
  have c2₆ : h₆.IsCell (L + 2) none := let ⟨o, a, b⟩ := c2; ⟨o, e₆ _ _ (fun q => LC2 (one q)) (e₅ _ _ (fun q => CC (one q)) (e14.keep _ _ a)), b⟩
  have hC₆ : IL h₆ Cl [] := hC₂.at fun o q => e₆ _ _ (fun q => ClL (one q)) (e₅ _ _ (fun q => ClC1 (one q)) (k₄ _ _ (e₃.keep _ _ q)))
  obtain ⟨m6, n₆, hr₆, hm₆, hh₆⟩ : ∃ m, h₆.Ns L m ∧ m ("rows" : Str) = some (.ref R) ∧ m ("most" : Str) = some (.int most t) ∧ ∃ th, m ("here" : Str) = some (.int (0 : Nat) th) := ⟨_, n₆, rfl, rfl, _, rfl⟩
  have dCl : s.heap.get? Cl = none := dead C.ext.keep nC₁.1
  have big : 709 ≤ L := C.big
  refine at_ h₆ s.gens s.drawn s.os fun t₆ => ?_
  refine wpAny_execs_cons <| wpAny_While <| codeAny_whileLoop (fun f s' => ∃ h₂ tk₂ cs here m x2 th, s' = ⟨h₂, s.gens, s.drawn, tk₂, s.os⟩ ∧ Ext [] s.heap h₂ ∧ h₂.Ns L m ∧ m ("rows" : Str) = some (.ref R) ∧ m ("most" : Str) = some (.int most t) ∧ m ("here" : Str) = some (.int (here : Nat) th) ∧
    h₂.IsCell (L + 1) (some (.ref Cl)) ∧ h₂.IsCell (L + 2) x2 ∧ IL h₂ Cl cs ∧ cs.length ≤ rows.length ∧ (∀ c ∈ cs, c ≤ 100) ∧ here ≤ 101 ∧ fitsRun rows.length adj most f cs here = some b) ?_ fuel ?_
  · rintro f s' ⟨h₂, tk₂, cs, here, m, x2, th, rfl, m₂, n₂, hr₂, hm₂, hh₂, c1₂, c2₂, hC₂, hle, hcs, hhe, hrun⟩
    cases f with
    | zero => exact nomatch hrun
    | succ f =>
    have Z₂ := Z.k m₂
    have X₂ := X.at fun b _ o e => m₂.keep _ _ e
    refine wpAny_isTrue_Compare1 <| Call_ <| nmB Z₂ (by kernel_rfl) (by rfl) boot_len (by decide) <| cwB <| wpAny_items_cons <| nmC c1₂ (by rfl) (by rfl) <| wpAny_items_nil <| il_len (s := ⟨h₂, s.gens, s.drawn, tk₂, s.os⟩) hC₂ (by omega) fun t1 tk1 => Call_ <| nmB (s := ⟨h₂, s.gens, s.drawn, tk1, s.os⟩) Z₂ (by kernel_rfl) (by rfl) boot_len (by decide) <| cwB <| wpAny_items_cons <| nmL n₂ rfl hr₂ <| wpAny_items_nil <| rl_len X₂ (by omega) fun t2 tk2 => PyProof.Rows.lt_int <| wpAny_truthy_bool ?_
    simp only [fitsRun] at hrun
    by_cases hlt : cs.length < rows.length
    · rw [if_pos hlt] at hrun
      rw [show decide ((cs.length : Int) < rows.length) = true from decide_eq_true (by omega)]
      simp only [if_true]
      have hs30 : cs.length < 1000 := by omega
      have hI0 : ∀ (b : Nat) o, h₂.get? b = some o → s.heap.get? b = none ∨ ∃ o', s.heap.get? b = some o' := fun b o _ => by cases q : s.heap.get? b <;> simp
      refine wpAny_execs_cons <| wpAny_Assign_Name <| wpAny_mono (Q := fun v s₃ => ∃ h₃ tk₃ t₃, v = .int (usedOf cs : Nat) t₃ ∧ s₃ = ⟨h₃, s.gens, s.drawn, tk₃, s.os⟩ ∧ Ext [] h₂ h₃) ?_ (fun v s₃ hv => ?_) fun _ _ e => e
      · refine wpAny_IfExp <| wpAny_isTrue_Compare1 <| nmC (s := ⟨h₂, s.gens, s.drawn, tk2, s.os⟩) c1₂ (by rfl) (by rfl) <| wpAny_List <| wpAny_items_nil ⟨by decide, ?_⟩
        generalize hh₃ : Heap.push _ _ = h₃
        have e₃ : Ext [] h₂ h₃ := hh₃ ▸ Ext.push _ _
        have hb : h₃.IsList h₂.objs.size #[] := hh₃ ▸ ⟨_, Heap.get?_push_size _ rfl, rfl, _, rfl⟩
        dsimp only
        generalize h₂.objs.size = B at hb ⊢
        have hC₃ := hC₂.ext e₃ (fun h => nomatch h)
        refine il_ne_nil hC₃ hb (by show A.units + 3 < cLine; omega) <| wpAny_truthy_bool ?_
        by_cases hnil : cs = []
        · subst hnil
          simp only [List.isEmpty_nil, Bool.not_true, Bool.false_eq_true, if_false]
          exact wpAny_Constant_int ⟨h₃, _, _, rfl, rfl, e₃⟩
        · rw [show (!cs.isEmpty) = true from by simp [hnil]]
          simp only [if_true]
          refine wpAny_BinOp <| Call_ <| nmB (Z₂.k e₃) (by kernel_rfl) (by rfl) PyProof.Rows.boot_max (by decide) <| cwB <| wpAny_items_cons <| nmC (c1₂.keeps e₃.keep) (by rfl) (by rfl) <| wpAny_items_nil <| il_max hC₃ (by exact hh) hnil fun h₄ tk₄ M tM e₄ hM hmax => wpAny_Constant_int <| PySem.P.add_int ⟨h₄, _, _, congrArg (Value.int · _) (show ((M : Int) + 1) = ((usedOf cs : Nat) : Int) from by rw [show usedOf cs = M + 1 from used_max hM hmax]; rfl), rfl, e₃.app e₄⟩
      obtain ⟨h₃, tk₃, t₃, rfl, rfl, e₃⟩ := hv
      refine stL (s := ⟨h₃, s.gens, s.drawn, tk₃, s.os⟩) (n₂.keeps e₃.keep) rfl fun h₄ n₄ s₄ => ?_
      replace s₄ : Heap.SameBut L h₃ h₄ := s₄
      have e₄ : Ext [L] h₂ h₄ := (Ext.of_keep e₃.keep _).app (Ext.of_same s₄)
      have m₄ : Ext [] s.heap h₄ := (m₂.app e₃).loc hL s₄
      have Z₄ := Z.k m₄
      have X₄ := X.at fun b _ o e => m₄.keep _ _ e
      have nL : ∀ {b : Nat}, b ≠ L → b ∉ ([L] : List Nat) := fun n q => n (one q)
      have c1₄ : h₄.IsCell (L + 1) (some (.ref Cl)) := let ⟨o, a, b⟩ := c1₂; ⟨o, e₄ _ _ (nL LC1) a, b⟩
      have c2₄ : h₄.IsCell (L + 2) x2 := let ⟨o, a, b⟩ := c2₂; ⟨o, e₄ _ _ (nL LC2) a, b⟩
      have hC₄ := hC₂.ext e₄ (nL ClL)
      obtain ⟨m4, n₄, hr₄, hm₄, hh₄, hu₄⟩ : ∃ m, h₄.Ns L m ∧ m ("rows" : Str) = some (.ref R) ∧ m ("most" : Str) = some (.int most t) ∧ m ("here" : Str) = some (.int (here : Nat) th) ∧ m ("used" : Str) = some (.int (usedOf cs : Nat) t₃) := ⟨_, n₄, hr₂, hm₂, hh₂, rfl⟩
      refine at_ h₄ s.gens s.drawn s.os fun t₄ => ?_
      refine wpAny_execs_cons <| wpAny_Assign_Name <| il_comp (cl := [(("colours" : Str), (L + 1 : Nat))]) (fun k => decide (k < cs.length)) (fun k => cs[k]!) (by rfl) (by decide) (by rfl) (by decide) (by rfl) ?_
      obtain ⟨accR, cR, hRR, _⟩ := X₄.is
      refine PyProof.Rows.Subscript_ <| nmL n₄ rfl hr₄ <| Call_ <| nmB (s := ⟨h₄, s.gens, s.drawn, t₄, s.os⟩) Z₄ (by kernel_rfl) (by rfl) boot_len (by decide) <| cwB <| wpAny_items_cons <| nmC c1₄ (by rfl) (by rfl) <| wpAny_items_nil <| il_len hC₄ hs30 fun t1 tk1 => subL ⟨_, hRR, rfl, _, rfl⟩ <| rl_get X₄ rfl hlt (by omega) fun S hS il => il_iter il fun h₅ I vs e₅ dI leI ltI ltS IS st hsz hv =>
        ⟨I, [I, S], [I], vs.size, (fun i v => vs[i]? = some v), _, rfl, Walks.list (by exact hh) I S IS.symm vs, by rw [hsz]; have := hr _ hlt; omega, st, ?_, rows[cs.length]!, hsz.symm, hv, il_quiet hv ?_ ?_, fun D h₆ tk₆ dD hDl e₆ => ?_⟩
      · intro b hb
        simp only [List.mem_cons, List.not_mem_nil, or_false] at hb
        rcases hb with rfl | rfl
        · exact ltI
        · exact ltS
      · intro C' k tk' s₃ m₃ E' Q' hk hn hm' keep hQ
        have e' : Ext [I] h₅ s₃.heap := keep
        have I9 : 709 ≤ I := Nat.le_trans Z₄.big leI
        have Z₅ : Gl w s₃.heap := (Z₄.k e₅).ext e' fun b hb => by rw [one hb]; exact I9
        have c5 : s₃.heap.IsCell (L + 1) (some (.ref Cl)) := let ⟨o, a, b⟩ := c1₄; ⟨o, e' _ _ (fun q => dead_ne dI a (one q).symm) (e₅.keep _ _ a), b⟩
        have C5 : IL s₃.heap Cl cs := hC₄.at fun o q => e' _ _ (fun z => dead_ne dI q (one z).symm) (e₅.keep _ _ q)
        refine wpAny_isTrue_Compare1 <| nmL hn (by rfl) hm' <| Call_ <| nmB Z₅ (by kernel_rfl) (by rfl) boot_len (by decide) <| cwB <| wpAny_items_cons <| nmC c5 (by rfl) (by rfl) <| wpAny_items_nil <| il_len C5 hs30 fun t1 tk1 => PyProof.Rows.lt_int <| wpAny_truthy_bool ?_
        rw [show decide ((k : Int) < cs.length) = decide (k < cs.length) from by simp]
        exact hQ s₃.heap tk1 (fun _ _ _ e => e)
      · intro C' k tk' s₃ m₃ E' Q' hk hpk hn hm' keep hQ
        have e' : Ext [I] h₅ s₃.heap := keep
        have c5 : s₃.heap.IsCell (L + 1) (some (.ref Cl)) := let ⟨o, a, b⟩ := c1₄; ⟨o, e' _ _ (fun q => dead_ne dI a (one q).symm) (e₅.keep _ _ a), b⟩
        have C5 : IL s₃.heap Cl cs := hC₄.at fun o q => e' _ _ (fun z => dead_ne dI q (one z).symm) (e₅.keep _ _ q)
        obtain ⟨vC, hvC⟩ := C5.isList
        exact PyProof.Rows.Subscript_ <| nmC c5 (by rfl) (by rfl) <| nmL hn (by rfl) hm' <| subL hvC <| il_get C5 rfl (of_decide_eq_true hpk) hs30 fun t1 => hQ s₃.heap s₃.toks t1 (fun _ _ _ e => e)
      replace e₆ : Ext [I] h₅ h₆ := e₆
      replace dD : h₅.get? D = none := dD
      have e46 : Ext [] h₄ h₆ := ((Ext.of_keep e₅.keep [I]).app e₆).shed fun b hb => by rw [one hb]; exact .inr dI
      have m₆ : Ext [] s.heap h₆ := m₄.app e46
      have dD4 : h₄.get? D = none := dead e₅.keep dD
      refine stC (s := ⟨h₆, s.gens, s.drawn, tk₆, s.os⟩) (c2₄.keeps e46.keep) (by rfl) (by rfl) fun h₇ c2₇ s₇ => ?_
      replace s₇ : Heap.SameBut (L + 2) h₆ h₇ := s₇
      have e₇ : Ext [L + 2] h₆ h₇ := Ext.of_same s₇
      have m₇ : Ext [] s.heap h₇ := m₆.loc cN2.1 s₇
      have Z₇ := Z.k m₇
      have n2 : ∀ {b : Nat}, b ≠ L + 2 → b ∉ ([L + 2] : List Nat) := fun n q => n (one q)
      have n₇ : h₇.Ns L m4 := (n₄.keeps e46.keep).at' fun o e => e₇ _ _ (n2 LC2.symm) e
      have c1₇ : h₇.IsCell (L + 1) (some (.ref Cl)) := let ⟨o, a, b⟩ := c1₄; ⟨o, e₇ _ _ (n2 (by omega)) (e46.keep _ _ a), b⟩
      have hC₇ : IL h₇ Cl cs := hC₄.at fun o q => e₇ _ _ (n2 ClC2) (e46.keep _ _ q)
      have DC2 : D ≠ L + 2 := by obtain ⟨o, a, _⟩ := c2₄; exact dead_ne dD4 a
      have DL : D ≠ L := by obtain ⟨o, a⟩ := nsLive n₄; exact dead_ne dD4 a
      have hD₇ := hDl.ext e₇ (n2 DC2)
      refine at_ h₇ s.gens s.drawn s.os fun t₇ => ?_
      generalize hsl : ((rows[cs.length]!).filter fun k => decide (k < cs.length)).map (fun k => cs[k]!) = sl at hDl hD₇
      refine wpAny_execs_cons <| il_compA (cl := [(("seen" : Str), (L + 2 : Nat))]) (fun c => !(sl.any (· == c))) (fun c => c) (by rfl) (by rfl) (by decide) (by rfl) (by decide) (by rfl) (by rfl) (by rfl) ?_
      refine Call_ <| nmB (s := ⟨h₇, s.gens, s.drawn, t₇, s.os⟩) Z₇ (by kernel_rfl) (by rfl) PyProof.Rows.boot_range (by decide) <| cwT <| wpAny_items_cons <| nmL n₇ rfl hh₄ <| wpAny_items_cons <| Call_ <| nmB Z₇ (by kernel_rfl) (by rfl) PyProof.Rows.boot_min (by decide) <| cwB <| wpAny_items_cons <| nmL n₇ rfl hm₄ <| wpAny_items_cons <| wpAny_BinOp <| nmL n₇ rfl hu₄ <| wpAny_Constant_int <| PySem.P.add_int <| wpAny_items_nil <| min_two_ints (by exact hh) fun h₈ tk₈ k₈ => ?_
      replace k₈ : ∀ b o, h₇.get? b = some o → h₈.get? b = some o := k₈
      obtain ⟨tm, htm⟩ : ∃ tm, (if ((usedOf cs : Nat) : Int) + 1 < (most : Int) then Value.int (((usedOf cs : Nat) : Int) + 1) (⟨h₇, s.gens, s.drawn, t₇ + 1, s.os⟩ : Shared).toks else Value.int most t) = .int (min most (usedOf cs + 1) : Nat) tm := by
        split
        · exact ⟨_, by rw [Nat.min_eq_right (by omega)]; rfl⟩
        · exact ⟨_, by rw [Nat.min_eq_left (by omega)]⟩
      have e₈ : Ext [] h₇ h₈ := Ext.of_keep k₈ []
      rw [htm]
      refine wpAny_items_nil <| call_range_2 ?_
      generalize hh₉ : Heap.push h₈ _ = h₉
      have e₉ : Ext [] h₈ h₉ := hh₉ ▸ Ext.push _ _
      have hr₉ : IsRange h₉ h₈.objs.size (here : Nat) (min most (usedOf cs + 1) : Nat) 1 _ _ _ := hh₉ ▸ Heap.get?_push_size _ rfl
      dsimp only
      generalize h₈.objs.size = Rg at hr₉ ⊢
      have e79 : Ext [] h₇ h₉ := e₈.app e₉
      have hmin : min most (usedOf cs + 1) ≤ 100 := Nat.le_trans (Nat.min_le_left _ _) hm
      refine range_iter (n := min most (usedOf cs + 1) - here) hr₉ (by omega) ⟨by omega, by omega⟩ (by omega) fun h₁₀ I2 e₁₀ dI2 leI2 ltI2 hit2 =>
        ⟨I2, [I2], [I2], min most (usedOf cs + 1) - here, _, _, m4, rfl, walksLt (Walks.range (by exact hh) I2 (here : Nat) 1 _), by omega, ?_, ?_, ?_, ?_, List.range' here (min most (usedOf cs + 1) - here), List.length_range', fun i v hv => range_vals i v hv.1 hv.2, il_quiet (fun i v hv => range_vals i v hv.1 hv.2) ?_ ?_, fun D2 h₁₁ tk₁₁ dD2 hD2 n₁₁ e₁₁ => ?_⟩
      · show IsRangeIter h₁₀ I2 (((here : Nat) : Int) + ((0 : Nat) : Int) * 1) (((min most (usedOf cs + 1) - here : Nat) : Int) - ((0 : Nat) : Int)) 1
        simpa using hit2
      · intro b hb
        rw [one hb]; exact ltI2
      · intro q
        obtain ⟨o, ho⟩ := nsLive (n₇.keeps e79.keep)
        exact dead_ne dI2 ho (one q).symm
      · exact (n₇.keeps e79.keep).keeps e₁₀.keep
      · intro C' k tk' s₃ m₃ E' Q' hk hn hm' keep hQ
        have e' : Ext [I2] h₁₀ s₃.heap := keep
        have c5 : s₃.heap.IsCell (L + 2) (some (.ref D)) := let ⟨o, a, b⟩ := c2₇; ⟨o, e' _ _ (fun q => dead_ne dI2 (e79.keep _ _ a) (one q).symm) (e₁₀.keep _ _ (e79.keep _ _ a)), b⟩
        have D5 : IL s₃.heap D sl := hD₇.at fun o q => e' _ _ (fun z => dead_ne dI2 (e79.keep _ _ q) (one z).symm) (e₁₀.keep _ _ (e79.keep _ _ q))
        exact wpAny_isTrue_Compare1 <| nmL hn (by rfl) hm' <| nmC c5 (by rfl) (by rfl) <| il_notin D5 <| wpAny_truthy_bool <| hQ s₃.heap s₃.toks (fun _ _ _ e => e)
      · intro C' k tk' s₃ m₃ E' Q' hk hpk hn hm' keep hQ
        exact nmL hn (by rfl) hm' <| hQ s₃.heap s₃.toks tk' (fun _ _ _ e => e)
      replace dD2 : h₁₀.get? D2 = none := dD2
      replace e₁₁ : Ext [L, I2] h₁₀ h₁₁ := e₁₁
      rw [← hsl, free_of (hadj _ hlt)] at hD2
      have e710 : Ext [] h₇ h₁₀ := e79.app e₁₀
      have dI27 : h₇.get? I2 = none := dead e79.keep dI2
      have dI2s : s.heap.get? I2 = none := dead m₇.keep dI27
      have m₁₁ : Ext [] s.heap h₁₁ := (m₇.app e710).app' e₁₁ fun b hb => .inr (by
        simp only [List.mem_cons, List.not_mem_nil, or_false] at hb
        rcases hb with rfl | rfl
        · exact hL
        · exact dI2s)
      have k711 : ∀ b o, b ≠ L → h₇.get? b = some o → h₁₁.get? b = some o := fun b o n q => e₁₁ _ _ (fun z => by
        simp only [List.mem_cons, List.not_mem_nil, or_false] at z
        rcases z with z | z
        · exact n z
        · exact dead_ne dI27 q z.symm) (e710.keep _ _ q)
      have Z₁₁ := Z.k m₁₁
      have c1₁₁ : h₁₁.IsCell (L + 1) (some (.ref Cl)) := let ⟨o, a, b⟩ := c1₇; ⟨o, k711 _ _ LC1 a, b⟩
      have c2₁₁ : h₁₁.IsCell (L + 2) (some (.ref D)) := let ⟨o, a, b⟩ := c2₇; ⟨o, k711 _ _ LC2 a, b⟩
      have hC₁₁ : IL h₁₁ Cl cs := hC₇.at fun o q => k711 _ _ ClL q
      obtain ⟨m11, n₁₁, hr₁₁, hm₁₁, hh₁₁, hf₁₁⟩ : ∃ m, h₁₁.Ns L m ∧ m ("rows" : Str) = some (.ref R) ∧ m ("most" : Str) = some (.int most t) ∧ m ("here" : Str) = some (.int (here : Nat) th) ∧ m ("free" : Str) = some (.ref D2) := ⟨_, n₁₁, hr₄, hm₄, hh₄, rfl⟩
      refine at_ h₁₁ s.gens s.drawn s.os fun t₁₁ => ?_
      refine wpAny_execs_cons <| wpAny_If <| wpAny_isTrue_Compare1 <| nmL n₁₁ rfl hf₁₁ <| wpAny_List <| wpAny_items_nil ⟨by decide, ?_⟩
      generalize hh₁₂ : Heap.push _ _ = h₁₂
      have e₁₂ : Ext [] h₁₁ h₁₂ := hh₁₂ ▸ Ext.push _ _
      have hb : h₁₂.IsList h₁₁.objs.size #[] := hh₁₂ ▸ ⟨_, Heap.get?_push_size _ rfl, rfl, _, rfl⟩
      dsimp only
      generalize h₁₁.objs.size = B at hb ⊢
      have hD₁₂ := hD2.ext e₁₂ (fun h => nomatch h)
      have m₁₂ := m₁₁.app e₁₂
      have Z₁₂ := Z.k m₁₂
      have n₁₂ := n₁₁.keeps e₁₂.keep
      have c1₁₂ : h₁₂.IsCell (L + 1) (some (.ref Cl)) := c1₁₁.keeps e₁₂.keep
      have c2₁₂ : h₁₂.IsCell (L + 2) (some (.ref D)) := c2₁₁.keeps e₁₂.keep
      have hC₁₂ : IL h₁₂ Cl cs := hC₁₁.ext e₁₂ (fun h => nomatch h)
      refine il_ne_nil hD₁₂ hb (by show A.units + 3 < cLine; omega) <| wpAny_truthy_bool ?_
      cases hf : freeOf adj most cs here with
      | cons c r =>
        rw [hf] at hrun hD₁₂
        have hc100 : c ≤ 100 := Nat.le_trans (Nat.le_of_lt (free_lt (by rw [hf]; exact .head _))) hm
        simp only [List.isEmpty_cons, Bool.not_false, if_true]
        refine at_ h₁₂ s.gens s.drawn s.os fun t₁₂ => ?_
        obtain ⟨vC, ⟨cC, hCo⟩, _⟩ := id hC₁₂
        obtain ⟨vD, hvD⟩ := hD₁₂.isList
        have hrl : (c :: r).length < 1000 := by
          have := List.length_filter_le (fun c => !((List.range cs.length).any fun k => adj cs.length k && cs[k]! == c)) (List.range' here (min most (usedOf cs + 1) - here))
          rw [List.length_range'] at this
          have h2 : (freeOf adj most cs here).length ≤ min most (usedOf cs + 1) - here := this
          rw [hf] at h2
          omega
        refine wpAny_execs_cons <| wpAny_Expr_any <| MethodCall_ <| nmC c1₁₂ (by rfl) (by rfl) <| gmB (s := ⟨h₁₂, s.gens, s.drawn, t₁₂, s.os⟩) hCo rfl rfl PySem.F.plainAttrs_list PySem.F.slot_list_append PySem.F.type_list_append <| cwB <| wpAny_items_cons <| PyProof.Rows.Subscript_ <| nmL n₁₂ rfl hf₁₁ <| wpAny_Constant_int <| subL hvD <| il_get hD₁₂ (i := 0) rfl (Nat.zero_lt_succ _) hrl fun t1 => wpAny_items_nil <| il_append hC₁₂ hs30 fun h₁₃ s₁₃ hC₁₃ => ?_
        replace s₁₃ : Heap.SameBut Cl h₁₂ h₁₃ := s₁₃
        replace hC₁₃ : IL h₁₃ Cl (cs ++ [c]) := hC₁₃
        have e₁₃ : Ext [Cl] h₁₂ h₁₃ := Ext.of_same s₁₃
        have nCl : ∀ {b : Nat}, b ≠ Cl → b ∉ ([Cl] : List Nat) := fun n q => n (one q)
        have n₁₃ : h₁₃.Ns L m11 := n₁₂.at' fun o e => e₁₃ _ _ (nCl ClL.symm) e
        refine wpAny_execs_cons <| wpAny_Assign_Name <| wpAny_Constant_int <| stL n₁₃ rfl fun h₁₄ n₁₄ s₁₄ => ?_
        replace s₁₄ : Heap.SameBut L h₁₃ h₁₄ := s₁₄
        have e₁₄ : Ext [L] h₁₃ h₁₄ := Ext.of_same s₁₄
        have m₁₄ : Ext [] s.heap h₁₄ := ((m₁₂.app' e₁₃ fun b hb => .inr (by rw [one hb]; exact dCl))).loc hL s₁₄
        obtain ⟨m14, n₁₄, hr₁₄, hm₁₄, th₁₄, hh₁₄⟩ : ∃ m, h₁₄.Ns L m ∧ m ("rows" : Str) = some (.ref R) ∧ m ("most" : Str) = some (.int most t) ∧ ∃ th, m ("here" : Str) = some (.int (0 : Nat) th) := ⟨_, n₁₄, hr₁₁, hm₁₁, _, rfl⟩
        refine at_ h₁₄ s.gens s.drawn s.os fun t₁₄ => ?_
        refine wpAny_execs_nil <| wpAny_execs_nil ⟨f, Nat.lt_succ_self f, h₁₄, t₁₄, cs ++ [c], 0, m14, some (.ref D), th₁₄, rfl, m₁₄, n₁₄, hr₁₄, hm₁₄, hh₁₄, ?_, ?_, hC₁₃.ext e₁₄ (nL ClL), by rw [List.length_append]; simp; omega, ?_, Nat.zero_le _, hrun⟩
        · exact let ⟨o, a, b⟩ := c1₁₂; ⟨o, e₁₄ _ _ (nL LC1) (e₁₃ _ _ (nCl ClC1.symm) a), b⟩
        · exact let ⟨o, a, b⟩ := c2₁₂; ⟨o, e₁₄ _ _ (nL LC2) (e₁₃ _ _ (nCl ClC2.symm) a), b⟩
        · intro c' hc'
          rcases List.mem_append.mp hc' with q | q
          · exact hcs c' q
          · rw [List.mem_singleton.mp q]; exact hc100
      | nil =>
        rw [hf] at hrun hD₁₂
        simp only [List.isEmpty_nil, Bool.not_true, Bool.false_eq_true, if_false]
        refine at_ h₁₂ s.gens s.drawn s.os fun t₁₂ => ?_
        refine wpAny_execs_cons <| wpAny_If <| wpAny_isTrue_Compare1 <| nmC (s := ⟨h₁₂, s.gens, s.drawn, t₁₂, s.os⟩) c1₁₂ (by rfl) (by rfl) <| wpAny_List <| wpAny_items_nil ⟨by decide, ?_⟩
        generalize hh₁₃ : Heap.push _ _ = h₁₃
        have e₁₃ : Ext [] h₁₂ h₁₃ := hh₁₃ ▸ Ext.push _ _
        have hb' : h₁₃.IsList h₁₂.objs.size #[] := hh₁₃ ▸ ⟨_, Heap.get?_push_size _ rfl, rfl, _, rfl⟩
        dsimp only
        generalize h₁₂.objs.size = B' at hb' ⊢
        have hC₁₃ := hC₁₂.ext e₁₃ (fun h => nomatch h)
        have m₁₃ := m₁₂.app e₁₃
        refine il_eq_nil hC₁₃ hb' (by show A.units + 3 < cLine; omega) <| wpAny_truthy_bool ?_
        dsimp only at hrun
        by_cases hnil : cs = []
        · rw [if_pos hnil] at hrun
          cases hrun
          rw [show cs.isEmpty = true from by simp [hnil]]
          simp only [if_true]
          exact wpAny_execs_cons <| wpAny_Return_some <| wpAny_Constant_bool <| h h₁₃ _ m₁₃
        · rw [if_neg hnil] at hrun
          rw [show cs.isEmpty = false from by simp [hnil]]
          simp only [Bool.false_eq_true, if_false]
          have n₁₃ := n₁₂.keeps e₁₃.keep
          have c1₁₃ : h₁₃.IsCell (L + 1) (some (.ref Cl)) := c1₁₂.keeps e₁₃.keep
          have c2₁₃ : h₁₃.IsCell (L + 2) (some (.ref D)) := c2₁₂.keeps e₁₃.keep
          obtain ⟨vC, ⟨cC, hCo⟩, _⟩ := id hC₁₃
          refine at_ h₁₃ s.gens s.drawn s.os fun t₁₃ => ?_
          refine wpAny_execs_cons <| wpAny_Assign_Name <| wpAny_BinOp <| MethodCall_ <| nmC c1₁₃ (by rfl) (by rfl) <| gmB (s := ⟨h₁₃, s.gens, s.drawn, t₁₃, s.os⟩) hCo rfl rfl PySem.F.plainAttrs_list PySem.F.slot_list_pop PySem.F.type_list_pop <| cwB0 <| il_pop hC₁₃ hs30 hnil fun h₁₄ tp s₁₄ hC₁₄ => wpAny_Constant_int <| PySem.P.add_int ?_
          replace s₁₄ : Heap.SameBut Cl h₁₃ h₁₄ := s₁₄
          replace hC₁₄ : IL h₁₄ Cl cs.dropLast := hC₁₄
          have e₁₄ : Ext [Cl] h₁₃ h₁₄ := Ext.of_same s₁₄
          have nCl : ∀ {b : Nat}, b ≠ Cl → b ∉ ([Cl] : List Nat) := fun n q => n (one q)
          have n₁₄ : h₁₄.Ns L m11 := n₁₃.at' fun o e => e₁₄ _ _ (nCl ClL.symm) e
          have hlast : cs.getLastD 0 ∈ cs := by
            rw [List.getLastD_eq_getLast?]
            cases q : cs.getLast? with
            | none => exact absurd (List.getLast?_eq_none_iff.mp q) hnil
            | some y => exact List.mem_of_getLast? q
          refine stL n₁₄ rfl fun h₁₅ n₁₅ s₁₅ => ?_
          replace s₁₅ : Heap.SameBut L h₁₄ h₁₅ := s₁₅
          have e₁₅ : Ext [L] h₁₄ h₁₅ := Ext.of_same s₁₅
          have m₁₅ : Ext [] s.heap h₁₅ := ((m₁₃.app' e₁₄ fun b hb => .inr (by rw [one hb]; exact dCl))).loc hL s₁₅
          obtain ⟨m15, n₁₅, hr₁₅, hm₁₅, th₁₅, hh₁₅⟩ : ∃ m, h₁₅.Ns L m ∧ m ("rows" : Str) = some (.ref R) ∧ m ("most" : Str) = some (.int most t) ∧ ∃ th, m ("here" : Str) = some (.int (cs.getLastD 0 + 1 : Nat) th) := ⟨_, n₁₅, hr₁₁, hm₁₁, _, rfl⟩
          refine at_ h₁₅ s.gens s.drawn s.os fun t₁₅ => ?_
          refine wpAny_execs_nil <| wpAny_execs_nil <| wpAny_execs_nil ⟨f, Nat.lt_succ_self f, h₁₅, t₁₅, cs.dropLast, cs.getLastD 0 + 1, m15, some (.ref D), th₁₅, rfl, m₁₅, n₁₅, hr₁₅, hm₁₅, hh₁₅, ?_, ?_, hC₁₄.ext e₁₅ (nL ClL), by rw [List.length_dropLast]; omega, fun c' hc' => hcs c' ((List.dropLast_sublist cs).subset hc'), Nat.succ_le_succ (hcs _ hlast), hrun⟩
          · exact let ⟨o, a, b⟩ := c1₁₃; ⟨o, e₁₅ _ _ (nL LC1) (e₁₄ _ _ (nCl ClC1.symm) a), b⟩
          · exact let ⟨o, a, b⟩ := c2₁₃; ⟨o, e₁₅ _ _ (nL LC2) (e₁₄ _ _ (nCl ClC2.symm) a), b⟩
    · rw [if_neg hlt] at hrun
      cases hrun
      rw [show decide ((cs.length : Int) < rows.length) = false from decide_eq_false (by omega)]
      simp only [Bool.false_eq_true, if_false]
      exact wpAny_execs_nil <| wpAny_execs_cons <| wpAny_Return_some <| wpAny_Constant_bool <| h h₂ _ m₂
  · exact ⟨h₆, t₆, [], 0, m6, none, hh₆.choose, rfl, m₆, n₆, hr₆, hm₆, hh₆.choose_spec, c1₆, c2₆, hC₆, Nat.zero_le _, (fun _ h => nomatch h), Nat.zero_le _, hrun⟩
end
end Mine
end W54
section W55
open PySem PySem.W PyProof.Rows PySem.Calls PySem.Spec
set_option maxRecDepth 100000
set_option maxHeartbeats 8000000
namespace Mine
section
variable {prog : Program} {w : World} {A : Around} {E : Value → Shared → Prop} {s : Shared} {Q : Value → Shared → Prop} {R : Nat} {fv : List Nat} {rows : List (List Nat)}
theorem subT {value slice : Expr} {l : Nat} {items : Array Value} {k : Int} {u : Tok} (hl : s.heap.IsList l items) (h : wpAny (model prog w) A (getItem (.ref l) (.int k u)) Q E s)
    (hs : subscripted slice false (.ref l) (.int k u) = operate [.ref l, .int k u] (getItem (.ref l) (.int k u)) := by with_unfolding_all rfl) : wpAny (model prog w) A (subscriptTail value slice (.ref l) (.int k u)) Q E s :=
  tail_any hl.typeIs list_getitem_lookup h hs
theorem sp_least {fuel c : Nat} (adj : Nat → Nat → Bool) (Z : Gl w s.heap) (X : RL s.heap R fv rows) (hadj : ∀ i, i < rows.length → ∀ k, k ∈ rows[i]! ↔ adj i k = true) (hn : rows.length ≤ 30) (hr : ∀ i, i < rows.length → (rows[i]!).length ≤ 100)
    (hrun : ∀ m, m ≤ rows.length → (fitsRun rows.length adj m fuel [] 0).isSome = true) (hc : leastOf rows.length adj fuel = some c) (hroom : A.depth + 1 < recursionLimit) (hh : A.handled = none) (hu : A.units + 40 < cLine)
    (h : ∀ h' tk t, Ext [] s.heap h' → Q (.int c t) { s with heap := h', toks := tk }) : wpAny (model prog w) A (call (.ref 698) [.ref R]) Q E s := by
  refine enterX Z (by omega) (by rfl) (by kernel_rfl) (binds := [("rows", .ref R)]) (by kernel_rfl) (by intro L; rfl) (by rfl) (by rfl) ?_
  intro L h₁ tk C
  have Z₁ := Z.k C.ext
  have n := C.ns
  have c1 : h₁.IsCell (L + 1) (some (.ref R)) := C.cell "rows" (L + 1) (by rfl)
  have X₁ := X.at fun b _ o e => C.ext.keep _ _ e
  have one : ∀ {a b : Nat}, b ∈ ([a] : List Nat) → b = a := fun q => List.mem_singleton.mp q
  refine wpAny_execs_cons <| wpAny_Return_some <| PyProof.Rows.Subscript_ <| il_comp (cl := [(("rows" : Str), (L + 1 : Nat))]) (fun m => fitsRun rows.length adj m fuel [] 0 == some true) (fun m => m) (by rfl) (by decide) (by rfl) (by decide) (by rfl) ?_
  refine Call_ <| nmB (s := ⟨h₁, s.gens, s.drawn, tk, s.os⟩) Z₁ (by kernel_rfl) (by rfl) PyProof.Rows.boot_range (by decide) <| cwT <| wpAny_items_cons <| wpAny_BinOp <| Call_ <| nmB Z₁ (by kernel_rfl) (by rfl) boot_len (by decide) <| cwB <| wpAny_items_cons <| nmC c1 (by rfl) (by rfl) <| wpAny_items_nil <| rl_len X₁ (by omega) fun t1 tk1 => wpAny_Constant_int <| PySem.P.add_int <| wpAny_items_nil <| call_range_1 ?_
  generalize hh₂ : Heap.push h₁ _ = h₂
  have e₂ : Ext [] h₁ h₂ := hh₂ ▸ Ext.push _ _
  have hr₂ : IsRange h₂ h₁.objs.size (0 : Nat) (rows.length + 1 : Nat) 1 _ _ _ := hh₂ ▸ Heap.get?_push_size _ rfl
  dsimp only
  generalize h₁.objs.size = Rg at hr₂ ⊢
  refine range_iter (n := rows.length + 1) hr₂ (by omega) ⟨by omega, by omega⟩ (by omega) fun h₃ I e₃ dI leI ltI hit =>
    ⟨I, [I], [I], rows.length + 1, _, _, rfl, walksLt (Walks.range (by exact hh) I (0 : Nat) 1 _), by omega, ?_, ?_, List.range' 0 (rows.length + 1), List.length_range', fun i v hv => range_vals i v hv.1 hv.2, il_quiet (fun i v hv => range_vals i v hv.1 hv.2) ?_ ?_, fun D h₄ tk₄ dD hD e₄ => ?_⟩
  · show IsRangeIter h₃ I (((0 : Nat) : Int) + ((0 : Nat) : Int) * 1) (((rows.length + 1 : Nat) : Int) - ((0 : Nat) : Int)) 1
    simpa using hit
  · intro b hb
    rw [one hb]; exact ltI
  · intro C' k tk' s₃ m₃ E' Q' hk hn' hm' keep hQ
    have e' : Ext [I] h₃ s₃.heap := keep
    have dI1 : h₁.get? I = none := dead e₂.keep dI
    have kk : ∀ b o, h₁.get? b = some o → s₃.heap.get? b = some o := fun b o q => e' _ _ (fun z => dead_ne dI1 q (one z).symm) (e₃.keep _ _ (e₂.keep _ _ q))
    have Z₃ := Z₁.keep kk
    have X₃ := X₁.at fun b _ o e => kk _ _ e
    have c3 : s₃.heap.IsCell (L + 1) (some (.ref R)) := c1.keeps kk
    have hk' : k ≤ rows.length := by have := List.mem_range'_1.mp hk; omega
    obtain ⟨b, hb⟩ := Option.isSome_iff_exists.mp (hrun k hk')
    refine wpAny_isTrue_value <| Call_ <| nmG (v := .ref 693) Z₃ (by kernel_rfl) (by rfl) <| cwF (w := w) (by kernel_rfl) <| wpAny_items_cons <| nmC c3 (by rfl) (by rfl) <| wpAny_items_cons <| nmL hn' (by rfl) hm' <| wpAny_items_nil ⟨Z₃, sp_fits adj Z₃ X₃ hadj hn hr (by omega) hb (by show A.depth + 1 < _; omega) (by exact hh) (by show A.units + 3 + 20 < cLine; omega) fun h' tk e => wpAny_truthy_bool ?_⟩
    have this : Q' (fitsRun rows.length adj k fuel [] 0 == some true) { s₃ with heap := h', toks := tk } := hQ h' tk e
    rw [hb] at this
    cases b <;> exact this
  · intro C' k tk' s₃ m₃ E' Q' hk hpk hn' hm' keep hQ
    exact nmL hn' (by rfl) hm' <| hQ s₃.heap s₃.toks tk' (fun _ _ _ e => e)
  replace e₄ : Ext [I] h₃ h₄ := e₄
  replace dD : h₃.get? D = none := dD
  have dI1 : h₁.get? I = none := dead e₂.keep dI
  have m₄ : Ext [] s.heap h₄ := (C.ext.app (e₂.app e₃)).app' e₄ fun b hb => .inr (by rw [one hb]; exact dead C.ext.keep dI1)
  rw [List.map_id', ← List.range_eq_range'] at hD
  obtain ⟨vD, hvD⟩ := hD.isList
  unfold leastOf at hc
  have hlen : ((List.range (rows.length + 1)).filter fun m => fitsRun rows.length adj m fuel [] 0 == some true).length < 1000 := by
    have := List.length_filter_le (fun m => fitsRun rows.length adj m fuel [] 0 == some true) (List.range (rows.length + 1))
    rw [List.length_range] at this
    omega
  have hhd : ((List.range (rows.length + 1)).filter fun m => fitsRun rows.length adj m fuel [] 0 == some true)[0]? = some c := by
    rw [← List.head?_eq_getElem?, List.head?_filter]; exact hc
  have h0 : 0 < ((List.range (rows.length + 1)).filter fun m => fitsRun rows.length adj m fuel [] 0 == some true).length := (List.getElem?_eq_some_iff.mp hhd).1
  refine wpAny_Constant_int <| subT hvD <| il_get hD (i := 0) rfl h0 hlen fun t1 => ?_
  rw [getElem!_pos _ 0 h0, (List.getElem?_eq_some_iff.mp hhd).2]
  exact h h₄ _ t1 m₄
end
end Mine
end W55
section W56
open PySem PySem.W PyProof.Rows PySem.Calls PySem.Spec
set_option maxRecDepth 100000
set_option maxHeartbeats 8000000
namespace Mine
def turnOf (pos : Pos) (target : Expr) (ifs : List Expr) (it : Value) (env : Env) (inner next : Sem Fin) : Sem Fin := do
  standAt pos
  match ← pyNext it with
  | none => pure (.done .next)
  | some v =>
    letOwnedTupleGo target it v
    assign target env v
    let mut ok := true
    for c in ifs do
      if ok then ok ← isTrue c env (eval c env)
    if ok then inner else next
abbrev clause (t i : Expr) (f : List Expr) : Comprehension := ⟨t, i, f, 0⟩
theorem turn0 (elt t0 i0 t1 i1 t2 i2 : Expr) (f0 f1 f2 : List Expr) (scope : Scope) (pos : Pos) (it acc : Value) (env : Env) :
    compTurn (.ListComp elt [⟨t0, i0, f0, 0⟩, ⟨t1, i1, f1, 0⟩, ⟨t2, i2, f2, 0⟩] scope pos) 0 it acc env = turnOf i0.pos t0 f0 it env (do
        let x ← eval i1 env
        standAt i1.pos
        let x ← foldedSetIterable i1 env x
        let _ ← runOwn (.compStart (.ListComp elt [⟨t0, i0, f0, 0⟩, ⟨t1, i1, f1, 0⟩, ⟨t2, i2, f2, 0⟩] scope pos) 1 (← holding [x] (pyIter x)) acc env) env
        again (.compLoop (.ListComp elt [⟨t0, i0, f0, 0⟩, ⟨t1, i1, f1, 0⟩, ⟨t2, i2, f2, 0⟩] scope pos) 0 it acc env))
      (again (.compLoop (.ListComp elt [⟨t0, i0, f0, 0⟩, ⟨t1, i1, f1, 0⟩, ⟨t2, i2, f2, 0⟩] scope pos) 0 it acc env)) := by rfl
theorem turn1 (elt t0 i0 t1 i1 t2 i2 : Expr) (f0 f1 f2 : List Expr) (scope : Scope) (pos : Pos) (it acc : Value) (env : Env) :
    compTurn (.ListComp elt [⟨t0, i0, f0, 0⟩, ⟨t1, i1, f1, 0⟩, ⟨t2, i2, f2, 0⟩] scope pos) 1 it acc env = turnOf i1.pos t1 f1 it env (do
        let x ← eval i2 env
        standAt i2.pos
        let x ← foldedSetIterable i2 env x
        let _ ← runOwn (.compStart (.ListComp elt [⟨t0, i0, f0, 0⟩, ⟨t1, i1, f1, 0⟩, ⟨t2, i2, f2, 0⟩] scope pos) 2 (← holding [x] (pyIter x)) acc env) env
        again (.compLoop (.ListComp elt [⟨t0, i0, f0, 0⟩, ⟨t1, i1, f1, 0⟩, ⟨t2, i2, f2, 0⟩] scope pos) 1 it acc env))
      (again (.compLoop (.ListComp elt [⟨t0, i0, f0, 0⟩, ⟨t1, i1, f1, 0⟩, ⟨t2, i2, f2, 0⟩] scope pos) 1 it acc env)) := by rfl
theorem turn2 (elt t0 i0 t1 i1 t2 i2 : Expr) (f0 f1 f2 : List Expr) (scope : Scope) (pos : Pos) (it acc : Value) (env : Env) :
    compTurn (.ListComp elt [⟨t0, i0, f0, 0⟩, ⟨t1, i1, f1, 0⟩, ⟨t2, i2, f2, 0⟩] scope pos) 2 it acc env = turnOf i2.pos t2 f2 it env ((eval elt env >>= fun x => call (.builtin "list.append") [acc, x] >>= fun _ => pure ()) >>= fun _ => again (.compLoop (.ListComp elt [⟨t0, i0, f0, 0⟩, ⟨t1, i1, f1, 0⟩, ⟨t2, i2, f2, 0⟩] scope pos) 2 it acc env))
      (again (.compLoop (.ListComp elt [⟨t0, i0, f0, 0⟩, ⟨t1, i1, f1, 0⟩, ⟨t2, i2, f2, 0⟩] scope pos) 2 it acc env)) := by rfl
abbrev testsOf (ifs : List Expr) (env : Env) : Sem Bool := forIn ifs true fun c r => if r = true then do let ok ← isTrue c env (eval c env); pure (ForInStep.yield ok) else pure (ForInStep.yield r)
section
variable {M : Model} {A : Around} {E : Value → Shared → Prop} {s : Shared} {env : Env}
theorem turn_any {pos : Pos} {target : Expr} {ifs : List Expr} {it : Value} {inner next : Sem Fin} {Q : Fin → Shared → Prop} (ht : ∀ v, letOwnedTupleGo target it v = pure ())
    (h : wpAny M A (pyNext it) (fun r s₁ => match r with
      | none => Q (.done .next) s₁
      | some v => wpAny M A (assign target env v) (fun _ s₂ => wpAny M A (testsOf ifs env) (fun ok s₃ =>
          if ok = true then wpAny M A inner Q E s₃ else wpAny M A next Q E s₃) E s₂) E s₁) E s) : wpAny M A (turnOf pos target ifs it env inner next) Q E s := by
  unfold turnOf
  refine wpAny_bind (wpAny_standAt (wpAny_bind (wpAny_mono h (fun r s₁ h₁ => ?_) fun _ _ h' => h')))
  cases r with
  | none => exact wpAny_pure h₁
  | some v =>
    refine wpAny_bind (wpAny_of_eq (ht v) ?_)
    refine wpAny_bind (wpAny_mono h₁ (fun _ s₂ h₂ => wpAny_bind (wpAny_mono h₂ (fun ok s₃ h₃ => ?_) fun _ _ h' => h')) fun _ _ h' => h')
    cases ok with
    | false => exact h₃
    | true => exact h₃
end
structure T3 (h₁ : Heap) (D C k : Nat) (mf : (Str → Option Value) → Prop) (h : Heap) : Prop where
  keep : ∀ b o, h₁.get? b = some o → h.get? b = some o
  acc : ∃ (ys : Array Value) (c : Nat), h.get? D = some { cls := .type "list", data := .seq ys c } ∧ ys.size = k
  ns : ∃ m, h.Ns C m ∧ mf m
theorem T3.at {h₁ h h' : Heap} {D C k : Nat} {mf : (Str → Option Value) → Prop} (x : T3 h₁ D C k mf h) {wr : List Nat} (e : Ext wr h h') (hw : ∀ b ∈ wr, h₁.get? b = none) (hD : D ∉ wr) (hC : C ∉ wr) : T3 h₁ D C k mf h' where
  keep := fun b o q => e b o (fun m => nomatch (hw b m).symm.trans q) (x.keep b o q)
  acc := let ⟨ys, c, a, b⟩ := x.acc; ⟨ys, c, e _ _ hD a, b⟩
  ns := let ⟨m, a, b⟩ := x.ns; ⟨m, a.at' fun o q => e _ _ hC q, b⟩
theorem sum_take_le (l : List Nat) (i : Nat) : (l.take i).sum ≤ l.sum := by
  have : (l.take i).sum + (l.drop i).sum = l.sum := by rw [← List.sum_append, List.take_append_drop]
  omega
theorem sum_step (p : Nat → Bool) (f : Nat → Nat) (ns : List Nat) (i v : Nat) (h : ns[i]? = some v) : (((ns.take (i + 1)).filter p).map f).sum = (((ns.take i).filter p).map f).sum + (if p v then f v else 0) := by
  rw [take_succ_filter p ns i v h, List.map_append, List.sum_append]
  cases p v <;> simp
theorem sum_part_le (p : Nat → Bool) (f : Nat → Nat) (ns : List Nat) (i : Nat) : (((ns.take i).filter p).map f).sum ≤ ((ns.filter p).map f).sum := by
  have : (((ns.take i).filter p).map f).sum + (((ns.drop i).filter p).map f).sum = ((ns.filter p).map f).sum := by
    rw [← List.sum_append, ← List.map_append, ← List.filter_append, List.take_append_drop]
  omega
section
variable {prog : Program} {w : World} {A : Around} {E : Value → Shared → Prop} {s : Shared} {env : Env}
theorem level {c : Code} {x : Str} {px pos : Pos} {ifs : List Expr} {inner : Sem Fin} {hand : Value → Sem Unit} {ns : List Nat} {I D : Nat} {fp wr : List Nat} {P : Nat → Value → Prop} {St : Nat → Heap → Prop} {h₁ : Heap} {k : Nat} {R : Result → Shared → Prop}
    (p : Nat → Bool) (f : Nat → Nat) (mf : (Str → Option Value) → Prop) (hq : c.quiet = true) (hA : A.under c = A) (hden : (model prog w).den c = (turnOf pos (.Name x px) ifs (.ref I) env inner (again c)).onRaise hand)
    (W : Walks prog w A I fp wr ns.length P St) (hP : ∀ i v, P i v → ∃ (j : Nat) (t : Tok), v = .int j t ∧ ns[i]? = some j) (hx : env.kindOf x = some .local) (hsc : (env.scope.kind == .class || (env.scope.kind == .module && env.locals != env.globals)) = false)
    (hw : ∀ b ∈ wr, h₁.get? b = none) (hD₁ : h₁.get? D = none) (hC₁ : h₁.get? env.locals = none) (hD : D ∉ fp) (hC : env.locals ∉ fp) (hDC : D ≠ env.locals) (hmf : ∀ m v, mf m → mf (fun y => if y = x then some v else m y))
    (hk : k + ((ns.filter p).map f).sum < 1000000)
    (htest : ∀ (v : Nat) (t : Tok) (s₀ : Shared) (k' : Nat), v ∈ ns → T3 h₁ D env.locals k' (fun m => mf m ∧ m x = some (.int v t)) s₀.heap → wpAny (model prog w) A (testsOf ifs env) (fun ok s₃ => ok = p v ∧ ∃ h' tk, s₃ = { s₀ with heap := h', toks := tk } ∧ Ext [] s₀.heap h') (fun _ _ => False) s₀)
    (hin : ∀ (v : Nat) (t : Tok) (s₀ : Shared) (k' : Nat), v ∈ ns → p v = true → k' + f v < 1000000 → T3 h₁ D env.locals k' (fun m => mf m ∧ m x = some (.int v t)) s₀.heap → ∀ Q : Fin → Shared → Prop, (∀ h' tk, Ext [D, env.locals] s₀.heap h' → T3 h₁ D env.locals (k' + f v) mf h' → Q (.again c) { s₀ with heap := h', toks := tk }) → wpAny (model prog w) A inner Q (fun _ _ => False) s₀)
    (hR : ∀ h' tk, Ext (D :: env.locals :: wr) s.heap h' → T3 h₁ D env.locals (k + ((ns.filter p).map f).sum) mf h' → R (.ok .next) { s with heap := h', toks := tk })
    (t0 : T3 h₁ D env.locals k mf s.heap) (st : St 0 s.heap) : codeAny (model prog w) A c R s := by
  have hDw : D ∉ wr := fun q => hD (W.sub _ q)
  have hCw : env.locals ∉ wr := fun q => hC (W.sub _ q)
  refine codeAny_loop hq (fun n s' => ∃ i h tk, s' = { s with heap := h, toks := tk } ∧ i ≤ ns.length ∧ n = ns.length - i ∧ Ext (D :: env.locals :: wr) s.heap h ∧ St i h ∧ T3 h₁ D env.locals (k + (((ns.take i).filter p).map f).sum) mf h) ?_ ns.length ⟨0, s.heap, s.toks, rfl, Nat.zero_le _, rfl, Ext.of_keep (fun _ _ e => e) _, st, by simpa using t0⟩
  rintro n s' ⟨i, h, tk, rfl, hi, rfl, e, st, T⟩
  rw [hA, hden]
  refine wpAny_onRaise (wpAny_mono (E := fun _ _ => False) (turn_any (fun _ => rfl) ?_) (fun _ _ q => q) fun _ _ q => q.elim)
  rcases Nat.lt_or_ge i ns.length with hlt | hge
  · refine W.item i _ _ _ hlt st fun v h₂ tk₂ hPv st₂ kp₂ => ?_
    obtain ⟨j, t, rfl, hj⟩ := hP i v hPv
    replace kp₂ : Ext wr h h₂ := kp₂
    have T₂ := T.at kp₂ hw hDw hCw
    obtain ⟨m, n₂, hm⟩ := T₂.ns
    refine wpAny_assign_Name (stL n₂ hx (fun h₃ n₃ s₃ => ?_) hsc)
    replace s₃ : Heap.SameBut env.locals h₂ h₃ := s₃
    have e₃ : Ext [env.locals] h₂ h₃ := Ext.of_same s₃
    have one : ∀ {a b : Nat}, b ∈ ([a] : List Nat) → b = a := fun q => List.mem_singleton.mp q
    have T₃ : T3 h₁ D env.locals (k + (((ns.take i).filter p).map f).sum) (fun m => mf m ∧ m x = some (.int j t)) h₃ := by
      refine ⟨fun b o q => e₃ _ _ (fun z => nomatch (one z ▸ hC₁).symm.trans q) (T₂.keep b o q), ?_, _, n₃, hmf _ _ hm, by simp⟩
      obtain ⟨ys, c', a, b⟩ := T₂.acc
      exact ⟨ys, c', e₃ _ _ (fun z => hDC (one z)) a, b⟩
    have st₃ : St (i + 1) h₃ := W.frame _ _ _ st₂ fun b hb o q => e₃ _ _ (fun z => hC (one z ▸ hb)) q
    have mem := List.mem_of_getElem? hj
    have hsum := sum_step p f ns i j hj
    have hle := sum_part_le p f ns (i + 1)
    have e13 : Ext (D :: env.locals :: wr) s.heap h₃ := (e.app (kp₂.mono fun a ha => .tail _ (.tail _ ha))).app (e₃.mono fun a ha => by rw [one ha]; simp)
    refine wpAny_mono (htest j t _ _ mem T₃) (fun ok s₄ h₄ => ?_) fun _ _ q => q.elim
    obtain ⟨rfl, h₄, tk₄, rfl, e₄⟩ := h₄
    replace e₄ : Ext [] h₃ h₄ := e₄
    have T₄ := T₃.at e₄ (fun _ q => nomatch q) (fun q => nomatch q) (fun q => nomatch q)
    have st₄ : St (i + 1) h₄ := W.frame _ _ _ st₃ fun b hb o q => e₄.keep _ _ q
    by_cases hp : p j = true
    · rw [hp] at hsum ⊢
      simp only [if_true] at hsum ⊢
      refine hin j t _ _ mem hp (by omega) T₄ _ fun h₅ tk₅ e₅ T₅ => ?_
      replace e₅ : Ext [D, env.locals] h₄ h₅ := e₅
      refine ⟨rfl, ns.length - (i + 1), by omega, i + 1, h₅, tk₅, rfl, hlt, rfl, ?_, ?_, ?_⟩
      · exact (e13.app (Ext.of_keep e₄.keep _)).app (e₅.mono fun a ha => by
          simp only [List.mem_cons, List.not_mem_nil, or_false] at ha ⊢
          rcases ha with rfl | rfl <;> simp)
      · refine W.frame _ _ _ st₄ fun b hb o q => e₅ _ _ (fun z => ?_) q
        simp only [List.mem_cons, List.not_mem_nil, or_false] at z
        rcases z with rfl | rfl
        · exact hD hb
        · exact hC hb
      · rw [hsum, ← Nat.add_assoc]; exact T₅
    · rw [if_neg hp]
      have hp' : p j = false := by simpa using hp
      rw [hp'] at hsum
      simp only [Bool.false_eq_true, if_false, Nat.add_zero] at hsum
      refine wpAny_pure ⟨rfl, ns.length - (i + 1), by omega, i + 1, h₄, tk₄, rfl, hlt, rfl, e13.app (Ext.of_keep e₄.keep _), st₄, ?_⟩
      rw [hsum]
      exact ⟨T₄.keep, T₄.acc, let ⟨m, a, b⟩ := T₄.ns; ⟨m, a, b.1⟩⟩
  · obtain rfl : i = ns.length := Nat.le_antisymm hi hge
    refine W.done _ _ _ st fun h₂ tk₂ kp₂ => ?_
    replace kp₂ : Ext wr h h₂ := kp₂
    have T₂ := T.at kp₂ hw hDw hCw
    rw [List.take_length] at T₂
    exact hR h₂ tk₂ (e.app (kp₂.mono fun a ha => .tail _ (.tail _ ha))) T₂
end
end Mine
end W56
section W57
open PySem PySem.W PyProof.Rows PySem.Calls PySem.Spec
set_option maxRecDepth 100000
set_option maxHeartbeats 8000000
namespace Mine
section
variable {M : Model} {A : Around} {E : Value → Shared → Prop} {s : Shared} {env : Env}
theorem comp_list {elt target iter : Expr} {ifs : List Expr} {rest : List Comprehension} {scope : Scope} {pos : Pos} {cl : List (Str × Addr)} {Q : Value → Shared → Prop}
    (hclos : closureFor scope env = pure cl) (hkind : scope.kind = .function) (hnames : ∀ x ∈ scope.names, x.2 = .local → scope.names.lookup x.1 = some .local)
    (h : wpAny M A (eval iter env) (fun x s₁ => wpAny M A (pyIter x) (fun it s₂ => wpAny M A (newList []) (fun acc s₃ => wpAny M A (newFunctionEnv scope env.globals cl [] env.qual none .none (some env)) (fun cenv s₄ =>
      codeAny M A (.compStart (.ListComp elt (⟨target, iter, ifs, 0⟩ :: rest) scope pos) 0 it acc { cenv with scope := relabel scope env })
        (fun r s' => (∃ f, r = .ok f) ∧ ∃ m, s'.heap.Ns cenv.locals m ∧ ∀ h', Heap.SameBut cenv.locals s'.heap h' → Q acc { s' with heap := h' }) s₄) E s₃) E s₂) E s₁) E s)
    (hs : ∀ x, foldedSetIterable iter env x = pure x := by intro _; rfl) :
    wpAny M A (eval (.ListComp elt (⟨target, iter, ifs, 0⟩ :: rest) scope pos) env) Q E s := by
  rw [eval_ListComp]
  refine wpAny_comprehension_free (use := none) rfl hs hclos hkind hnames (wpAny_mono h (fun xv s₁ h₁ => wpAny_mono h₁ (fun it s₂ h₂ => wpAny_mono h₂ (fun acc s₃ h₃ => wpAny_mono h₃ (fun cenv s₄ h₄ => codeAny_mono h₄ fun r s' hr => ?_) fun _ _ e => e) fun _ _ e => e) fun _ _ e => e) fun _ _ e => e)
  obtain ⟨⟨f, rfl⟩, m, hn, hq⟩ := hr
  exact ⟨m, hn, hq⟩
theorem descend {i : Expr} {e : Expr} {d : Nat} {acc : Value} {c : Code} {Q : Fin → Shared → Prop} (hs : ∀ x, foldedSetIterable i env x = pure x)
    (h : wpAny M A (eval i env) (fun xv s₁ => wpAny M A (pyIter xv) (fun it s₂ => codeAny M A (.compStart e d it acc env) (fun r s' => (∃ f, r = .ok f) ∧ Q (.again c) s') s₂) (fun _ _ => False) s₁) (fun _ _ => False) s) :
    wpAny M A (do
        let x ← eval i env
        standAt i.pos
        let x ← foldedSetIterable i env x
        let _ ← runOwn (.compStart e d (← holding [x] (pyIter x)) acc env) env
        again c) Q E s := by
  refine wpAny_bind (wpAny_mono h (fun xv s₁ h₁ => ?_) fun _ _ q => q.elim)
  refine wpAny_bind (wpAny_standAt (wpAny_bind (wpAny_of_eq (hs xv) (wpAny_bind (wpAny_holding (wpAny_mono h₁ (fun it s₂ h₂ => ?_) fun _ _ q => q.elim))))))
  refine wpAny_bind (wpAny_runOwn (codeAny_mono h₂ fun r s' hr => ?_))
  obtain ⟨⟨f, rfl⟩, hq⟩ := hr
  exact wpAny_pure hq
end
section
variable {prog : Program} {w : World} {A : Around} {s : Shared} {env : Env} {R : Result → Shared → Prop}
theorem start1 {elt t0 i0 t1 i1 t2 i2 : Expr} {f0 f1 f2 : List Expr} {scope : Scope} {pos : Pos} {it acc : Value}
    (h0 : codeAny (model prog w) A (.compLoop (.ListComp elt [⟨t0, i0, f0, 0⟩, ⟨t1, i1, f1, 0⟩, ⟨t2, i2, f2, 0⟩] scope pos) 1 it acc env) R s)
    (h : wpAny (model prog w) A (pyIter it) (fun it' s' => codeAny (model prog w) A (.compLoop (.ListComp elt [⟨t0, i0, f0, 0⟩, ⟨t1, i1, f1, 0⟩, ⟨t2, i2, f2, 0⟩] scope pos) 1 it' acc env) R s') (fun _ _ => False) s) :
    codeAny (model prog w) A (.compStart (.ListComp elt [⟨t0, i0, f0, 0⟩, ⟨t1, i1, f1, 0⟩, ⟨t2, i2, f2, 0⟩] scope pos) 1 it acc env) R s := by
  refine codeAny_of_tree ?_
  show wpAny _ _ ((compStart (.ListComp elt [⟨t0, i0, f0, 0⟩, ⟨t1, i1, f1, 0⟩, ⟨t2, i2, f2, 0⟩] scope pos) 1 it acc env).onRaise (fun x => do noteFrame x env; standAt theWindowsPlace)) _ _ s
  refine wpAny_onRaise (wpAny_mono (E := fun _ _ => False) ?_ (fun _ _ q => q) fun _ _ q => q.elim)
  unfold compStart
  show wpAny _ _ (ask >>= _) _ _ s
  refine wpAny_bind (wpAny_askSetting (wpAny_ite ?_))
  split
  · exact wpAny_bind (wpAny_pure (wpAny_pure (And.intro rfl h0)))
  · refine wpAny_bind (wpAny_rule ?_)
    show wpAny _ _ (standAt i1.pos >>= _) _ _ s
    exact wpAny_bind (wpAny_standAt (wpAny_bind (wpAny_mono h (fun it' s' h' => wpAny_pure (And.intro rfl h')) fun _ _ x => x)))
theorem start2 {elt t0 i0 t1 i1 t2 i2 : Expr} {f0 f1 f2 : List Expr} {scope : Scope} {pos : Pos} {it acc : Value}
    (h0 : codeAny (model prog w) A (.compLoop (.ListComp elt [⟨t0, i0, f0, 0⟩, ⟨t1, i1, f1, 0⟩, ⟨t2, i2, f2, 0⟩] scope pos) 2 it acc env) R s)
    (h : wpAny (model prog w) A (pyIter it) (fun it' s' => codeAny (model prog w) A (.compLoop (.ListComp elt [⟨t0, i0, f0, 0⟩, ⟨t1, i1, f1, 0⟩, ⟨t2, i2, f2, 0⟩] scope pos) 2 it' acc env) R s') (fun _ _ => False) s) :
    codeAny (model prog w) A (.compStart (.ListComp elt [⟨t0, i0, f0, 0⟩, ⟨t1, i1, f1, 0⟩, ⟨t2, i2, f2, 0⟩] scope pos) 2 it acc env) R s := by
  refine codeAny_of_tree ?_
  show wpAny _ _ ((compStart (.ListComp elt [⟨t0, i0, f0, 0⟩, ⟨t1, i1, f1, 0⟩, ⟨t2, i2, f2, 0⟩] scope pos) 2 it acc env).onRaise (fun x => do noteFrame x env; standAt theWindowsPlace)) _ _ s
  refine wpAny_onRaise (wpAny_mono (E := fun _ _ => False) ?_ (fun _ _ q => q) fun _ _ q => q.elim)
  unfold compStart
  show wpAny _ _ (ask >>= _) _ _ s
  refine wpAny_bind (wpAny_askSetting (wpAny_ite ?_))
  split
  · exact wpAny_bind (wpAny_pure (wpAny_pure (And.intro rfl h0)))
  · refine wpAny_bind (wpAny_rule ?_)
    show wpAny _ _ (standAt i2.pos >>= _) _ _ s
    exact wpAny_bind (wpAny_standAt (wpAny_bind (wpAny_mono h (fun it' s' h' => wpAny_pure (And.intro rfl h')) fun _ _ x => x)))
theorem T3.weak {h₁ h : Heap} {D C k : Nat} {mf mf' : (Str → Option Value) → Prop} (x : T3 h₁ D C k mf h) (w : ∀ m, mf m → mf' m) : T3 h₁ D C k mf' h := ⟨x.keep, x.acc, let ⟨m, a, b⟩ := x.ns; ⟨m, a, w m b⟩⟩
end
end Mine
end W57
section W58
open PySem PySem.W PyProof.Rows PySem.Calls PySem.Spec
set_option maxRecDepth 100000
set_option maxHeartbeats 8000000
namespace Mine
def thr2 (rows : List (List Nat)) (a b : Nat) : Nat := (((rows[b]!).filter fun c => decide (b < c) && (rows[a]!).any (· == c)).map fun _ => 1).sum
def thr1 (rows : List (List Nat)) (a : Nat) : Nat := (((rows[a]!).filter fun b => decide (a < b)).map fun b => thr2 rows a b).sum
def thr0 (rows : List (List Nat)) : Nat := (((List.range' 0 rows.length).filter fun _ => true).map fun a => thr1 rows a).sum
theorem sum_le {l : List Nat} {f : Nat → Nat} {B : Nat} (h : ∀ a ∈ l, f a ≤ B) : (l.map f).sum ≤ l.length * B := by
  induction l with
  | nil => simp
  | cons a r ih =>
    rw [List.map_cons, List.sum_cons, List.length_cons, Nat.add_mul, Nat.one_mul, Nat.add_comm]
    exact Nat.add_le_add (ih fun b hb => h b (.tail _ hb)) (h a (.head _))
theorem sum_filter_le {l : List Nat} {p : Nat → Bool} {f : Nat → Nat} {B m : Nat} (hl : l.length ≤ m) (h : ∀ a ∈ l, f a ≤ B) : ((l.filter p).map f).sum ≤ m * B :=
  Nat.le_trans (sum_le fun a ha => h a (List.mem_filter.mp ha).1) (Nat.mul_le_mul_right B (Nat.le_trans (List.length_filter_le p l) hl))
section
variable {prog : Program} {w : World} {A : Around} {E : Value → Shared → Prop} {s : Shared} {Q : Value → Shared → Prop} {R : Nat} {fv : List Nat} {rows : List (List Nat)}
theorem decide_gt (a b : Nat) : decide ((a : Int) > b) = decide (b < a) := by
  by_cases h : b < a
  · rw [decide_eq_true h]; exact decide_eq_true (by omega)
  · rw [decide_eq_false h]; exact decide_eq_false (by omega)
theorem rl_get2 {h₂ : Heap} {k : Int} {i : Nat} {t : Tok} (x : RL h₂ R fv rows) (kp : ∀ b o, h₂.get? b = some o → s.heap.get? b = some o) (hk : k = i) (hi : i < rows.length) (hz : rows.length < 1000) (h : ∀ S, IL h₂ S (rows[i]!) → IL s.heap S (rows[i]!) → Q (.ref S) s) : wpAny (model prog w) A (getItem (.ref R) (.int k t)) Q E s := by
  subst hk
  obtain ⟨acc, c, a, b, d⟩ := x.is
  have hi' : i < acc.size := by omega
  obtain ⟨S, hS, e, il⟩ := d i acc[i] (Array.getElem?_eq_getElem hi')
  refine wpAny_getItem_list (x := .ref S) ⟨_, kp _ _ a, rfl, _, rfl⟩ (by omega) (by omega) ?_ (h S il (il.at fun o q => kp _ _ q))
  rw [← e]
  simpa using Array.getElem?_eq_getElem hi'
theorem sp_threes (Z : Gl w s.heap) (X : RL s.heap R fv rows) (hn : rows.length ≤ 30) (hr : ∀ i, i < rows.length → (rows[i]!).length ≤ 100) (hin : ∀ i, i < rows.length → ∀ k ∈ rows[i]!, k < rows.length)
    (hroom : A.depth + 1 < recursionLimit) (hh : A.handled = none) (h : ∀ h' tk t, Ext [] s.heap h' → Q (.int (thr0 rows) t) { s with heap := h', toks := tk }) : wpAny (model prog w) A (call (.ref 703) [.ref R]) Q E s := by
  have b2 : ∀ a b, b < rows.length → thr2 rows a b ≤ 100 := fun a b hb => by
    have := sum_filter_le (l := rows[b]!) (p := fun c => decide (b < c) && (rows[a]!).any (· == c)) (f := fun _ => 1) (B := 1) (hr b hb) fun _ _ => Nat.le_refl _
    simpa [thr2] using this
  have b1 : ∀ a, a < rows.length → thr1 rows a ≤ 10000 := fun a ha => by
    have := sum_filter_le (l := rows[a]!) (p := fun b => decide (a < b)) (f := thr2 rows a) (B := 100) (hr a ha) fun b hb => b2 a b (hin a ha b hb)
    simpa [thr1] using this
  have b0 : thr0 rows ≤ 300000 := by
    have := sum_filter_le (l := List.range' 0 rows.length) (p := fun _ => true) (f := thr1 rows) (B := 10000) (m := 30) (by rw [List.length_range']; exact hn) fun a ha => b1 a (by have := List.mem_range'_1.mp ha; omega)
    simpa [thr0] using this
  refine enterX Z (by omega) (by rfl) (by kernel_rfl) (binds := [("rows", .ref R)]) (by kernel_rfl) (by intro L; rfl) (by rfl) (by rfl) ?_
  intro L h₁ tk C
  have Z₁ := Z.k C.ext
  have c1 : h₁.IsCell (L + 1) (some (.ref R)) := C.cell "rows" (L + 1) (by rfl)
  have X₁ := X.at fun b _ o e => C.ext.keep _ _ e
  have one : ∀ {a b : Nat}, b ∈ ([a] : List Nat) → b = a := fun q => List.mem_singleton.mp q
  refine wpAny_execs_cons <| wpAny_Return_some <| Call_ <| nmB (s := ⟨h₁, s.gens, s.drawn, tk, s.os⟩) Z₁ (by kernel_rfl) (by rfl) boot_len (by decide) <| cwB <| wpAny_items_cons <| comp_list (cl := [(("rows" : Str), (L + 1 : Nat))]) (by rfl) (by rfl) (by decide) ?_
  refine Call_ <| nmB (s := ⟨h₁, s.gens, s.drawn, tk, s.os⟩) Z₁ (by kernel_rfl) (by rfl) PyProof.Rows.boot_range (by decide) <| cwT <| wpAny_items_cons <| Call_ <| nmB Z₁ (by kernel_rfl) (by rfl) boot_len (by decide) <| cwB <| wpAny_items_cons <| nmC c1 (by rfl) (by rfl) <| wpAny_items_nil <| rl_len X₁ (by omega) fun t1 tk1 => wpAny_items_nil <| call_range_1 ?_
  generalize hh₂ : Heap.push h₁ _ = h₂
  have e₂ : Ext [] h₁ h₂ := hh₂ ▸ Ext.push _ _
  have hr₂ : IsRange h₂ h₁.objs.size (0 : Nat) (rows.length : Nat) 1 _ _ _ := hh₂ ▸ Heap.get?_push_size _ rfl
  dsimp only
  generalize h₁.objs.size = Rg at hr₂ ⊢
  have X₂ := X₁.at fun b _ o e => e₂.keep _ _ e
  have c2 : h₂.IsCell (L + 1) (some (.ref R)) := c1.keeps e₂.keep
  refine range_iter (n := rows.length) hr₂ (by omega) ⟨by omega, by omega⟩ (by omega) fun h₃ I e₃ dI leI ltI hit => ?_
  replace e₃ : Ext [] h₂ h₃ := e₃
  replace dI : h₂.get? I = none := dI
  have hit' : IsRangeIter h₃ I (((0 : Nat) : Int) + ((0 : Nat) : Int) * 1) (((rows.length : Nat) : Int) - ((0 : Nat) : Int)) 1 := by simpa using hit
  have Z₃ := (Z₁.k e₂).k e₃
  refine comp_pre Z₃ (by decide) (by rfl) fun D Cl h₄ tk₄ nD nC nDC e₄ hD₄ hC₄ => ?_
  replace nD : New h₃ D := nD
  replace nC : New h₃ Cl := nC
  replace e₄ : Ext [] h₃ h₄ := e₄
  have dD : h₂.get? D = none := dead e₃.keep nD.1
  have dC : h₂.get? Cl = none := dead e₃.keep nC.1
  have ID : D ≠ I := nD.ne hit
  have IC : Cl ≠ I := nC.ne hit
  have W0 : ∀ B : Around, B.handled = none → Walks prog w B I [I] [I] (List.range' 0 rows.length).length (fun i v => i < rows.length ∧ ∃ t, v = .int (((0 : Nat) : Int) + (i : Int) * 1) t) (fun i h => IsRangeIter h I (((0 : Nat) : Int) + (i : Int) * 1) (((rows.length : Nat) : Int) - (i : Int)) 1) := fun B hb => by
    rw [List.length_range']; exact walksLt (Walks.range hb I ((0 : Nat) : Int) 1 rows.length)
  have T₄ : T3 h₂ D Cl 0 (fun _ => True) h₄ := ⟨fun b o q => e₄.keep _ _ (e₃.keep _ _ q), ⟨#[], 0, hD₄, rfl⟩, _, hC₄, trivial⟩
  have hst₄ : IsRangeIter h₄ I (((0 : Nat) : Int) + ((0 : Nat) : Int) * 1) (((rows.length : Nat) : Int) - ((0 : Nat) : Int)) 1 := e₄.keep _ _ hit'
  refine (fun x => codeAny_compStart_list x ((W0 _ (by exact hh)).self 0 _ _ _ hst₄ x)) ?_
  refine level (ns := List.range' 0 rows.length) (h₁ := h₂) (k := 0) (fun _ => true) (thr1 rows) (fun _ => True) rfl rfl
    (show _ = _ from (congrArg (fun t => Sem.onRaise t _) (turn0 ..))) (W0 _ (by exact hh)) (fun i v q => range_vals i v q.1 q.2) (by rfl) (by rfl) (fun b hb => one hb ▸ dI) dD dC (fun q => ID (one q)) (fun q => IC (one q)) nDC (fun _ _ _ => trivial)
    (by rw [Nat.zero_add]; show thr0 rows < _; omega) (fun v t s₀ k' _ T => wpAny_tests_nil ⟨rfl, _, _, rfl, Ext.refl _⟩) ?_ ?_ T₄ hst₄
  · -- for other in rows[one]
    intro a ta s₀ k' ha _ hk' T Q₁ hQ₁
    have ha' : a < rows.length := by have := List.mem_range'_1.mp ha; omega
    obtain ⟨m, nm, _, hm⟩ := T.ns
    have X₅ := X₂.at fun b _ o e => T.keep _ _ e
    have c5 : s₀.heap.IsCell (L + 1) (some (.ref R)) := c2.keeps T.keep
    obtain ⟨accR, cR, hR, _⟩ := id X₅.is
    have lR : s₀.heap.IsList R accR := ⟨_, hR, rfl, _, rfl⟩
    refine descend (fun _ => rfl) <| PyProof.Rows.Subscript_ <| nmC c5 (by rfl) (by rfl) <| nmL nm (by rfl) hm <| subL lR <| rl_get2 X₂ T.keep (i := a) rfl ha' (by omega) fun S₁ ilB ilS₁ => il_iter ilS₁ fun h₆ I₁ vs₁ e₆ dI₁ _ _ _ IS₁ hit₁ sz₁ vals₁ => ?_
    replace e₆ : Ext [] s₀.heap h₆ := e₆
    obtain ⟨oS₁, hoS₁⟩ : ∃ o, h₂.get? S₁ = some o := ilB.live
    have W1 : ∀ B : Around, B.handled = none → Walks prog w B I₁ [I₁, S₁] [I₁] (rows[a]!).length (fun i v => vs₁[i]? = some v) (fun i h => h.IsListIter I₁ S₁ i ∧ h.IsList S₁ vs₁) := fun B hb => by
      rw [← sz₁]; exact Walks.list hb I₁ S₁ (Ne.symm IS₁) vs₁
    have dI₁' : h₂.get? I₁ = none := dead T.keep dI₁
    obtain ⟨yD, cD, hD, _⟩ := T.acc
    have ID₁ : I₁ ≠ D := dead_ne dI₁ hD
    obtain ⟨oC, hoC⟩ := nsLive nm
    have IC₁ : I₁ ≠ Cl := dead_ne dI₁ hoC
    have SD₁ : D ≠ S₁ := dead_ne dD hoS₁
    have SC₁ : Cl ≠ S₁ := dead_ne dC hoS₁
    have T₆ : T3 h₂ D Cl k' (fun m => ∃ t, m ("one" : Str) = some (.int (a : Nat) t)) h₆ := (T.at e₆ (fun _ q => nomatch q) (fun q => nomatch q) (fun q => nomatch q)).weak fun m q => ⟨_, q.2⟩
    refine (fun x => start1 x ((W1 _ (by exact hh)).self 0 _ _ _ hit₁ x)) ?_
    refine level (ns := rows[a]!) (h₁ := h₂) (k := k') (fun b => decide (a < b)) (thr2 rows a) (fun m => ∃ t, m ("one" : Str) = some (.int (a : Nat) t)) rfl rfl
      (show _ = _ from (congrArg (fun t => Sem.onRaise t _) (turn1 ..))) (W1 _ (by exact hh)) (fun i v q => vals₁ i v q) (by rfl) (by rfl) (fun b hb => one hb ▸ dI₁') dD dC ?_ ?_ nDC (fun m v ⟨t, q⟩ => ⟨t, q⟩)
      hk' ?_ ?_ ?_ T₆ hit₁
    · intro q
      simp only [List.mem_cons, List.not_mem_nil, or_false] at q
      exact q.elim (fun z => ID₁ z.symm) SD₁
    · intro q
      simp only [List.mem_cons, List.not_mem_nil, or_false] at q
      exact q.elim (fun z => IC₁ z.symm) SC₁
    · -- other > one
      intro b tb s₁ k₁ hb T'
      obtain ⟨m', nm', ⟨t₁, h1⟩, h2⟩ := T'.ns
      refine wpAny_tests_one <| wpAny_isTrue_Compare1 <| nmL nm' (by rfl) h2 <| nmL nm' (by rfl) h1 <| PySem.P.gt_int <| wpAny_truthy_bool ⟨decide_gt b a, _, _, rfl, Ext.refl _⟩
    · -- for third in rows[other]
      intro b tb s₁ k₁ hb hab hk₁ T' Q₂ hQ₂
      have hb' : b < rows.length := hin a ha' b hb
      obtain ⟨m', nm', ⟨t₁, h1⟩, h2⟩ := T'.ns
      have X₇ := X₂.at fun b _ o e => T'.keep _ _ e
      have c7 : s₁.heap.IsCell (L + 1) (some (.ref R)) := c2.keeps T'.keep
      obtain ⟨accR', cR', hR', _⟩ := id X₇.is
      have lR' : s₁.heap.IsList R accR' := ⟨_, hR', rfl, _, rfl⟩
      refine descend (fun _ => rfl) <| PyProof.Rows.Subscript_ <| nmC c7 (by rfl) (by rfl) <| nmL nm' (by rfl) h2 <| subL lR' <| rl_get2 X₂ T'.keep (i := b) rfl hb' (by omega) fun S₂ ilB₂ ilS₂ => il_iter ilS₂ fun h₈ I₂ vs₂ e₈ dI₂ _ _ _ IS₂ hit₂ sz₂ vals₂ => ?_
      replace e₈ : Ext [] s₁.heap h₈ := e₈
      obtain ⟨oS₂, hoS₂⟩ : ∃ o, h₂.get? S₂ = some o := ilB₂.live
      have W2 : ∀ B : Around, B.handled = none → Walks prog w B I₂ [I₂, S₂] [I₂] (rows[b]!).length (fun i v => vs₂[i]? = some v) (fun i h => h.IsListIter I₂ S₂ i ∧ h.IsList S₂ vs₂) := fun B hb => by
        rw [← sz₂]; exact Walks.list hb I₂ S₂ (Ne.symm IS₂) vs₂
      have dI₂' : h₂.get? I₂ = none := dead T'.keep dI₂
      obtain ⟨yD', cD', hD', _⟩ := T'.acc
      have ID₂ : I₂ ≠ D := dead_ne dI₂ hD'
      obtain ⟨oC', hoC'⟩ := nsLive nm'
      have IC₂ : I₂ ≠ Cl := dead_ne dI₂ hoC'
      have SD₂ : D ≠ S₂ := dead_ne dD hoS₂
      have SC₂ : Cl ≠ S₂ := dead_ne dC hoS₂
      have T₈ : T3 h₂ D Cl k₁ (fun m => (∃ t, m ("one" : Str) = some (.int (a : Nat) t)) ∧ ∃ t, m ("other" : Str) = some (.int (b : Nat) t)) h₈ := (T'.at e₈ (fun _ q => nomatch q) (fun q => nomatch q) (fun q => nomatch q)).weak fun m q => ⟨q.1, _, q.2⟩
      refine (fun x => start2 x ((W2 _ (by exact hh)).self 0 _ _ _ hit₂ x)) ?_
      refine level (ns := rows[b]!) (h₁ := h₂) (k := k₁) (fun c => decide (b < c) && (rows[a]!).any (· == c)) (fun _ => 1) (fun m => (∃ t, m ("one" : Str) = some (.int (a : Nat) t)) ∧ ∃ t, m ("other" : Str) = some (.int (b : Nat) t)) rfl rfl
        (show _ = _ from (congrArg (fun t => Sem.onRaise t _) (turn2 ..))) (W2 _ (by exact hh)) (fun i v q => vals₂ i v q) (by rfl) (by rfl) (fun b hb => one hb ▸ dI₂') dD dC ?_ ?_ nDC (fun m v ⟨⟨t, q⟩, ⟨t', q'⟩⟩ => ⟨⟨t, q⟩, ⟨t', q'⟩⟩)
        hk₁ ?_ ?_ ?_ T₈ hit₂
      · intro q
        simp only [List.mem_cons, List.not_mem_nil, or_false] at q
        exact q.elim (fun z => ID₂ z.symm) SD₂
      · intro q
        simp only [List.mem_cons, List.not_mem_nil, or_false] at q
        exact q.elim (fun z => IC₂ z.symm) SC₂
      · -- third > other and third in rows[one]
        intro c tc s₂ k₂ hc T''
        obtain ⟨m'', nm'', ⟨⟨u₁, h1''⟩, ⟨u₂, h2''⟩⟩, h3''⟩ := T''.ns
        refine wpAny_tests_one <| wpAny_isTrue_BoolOp <| wpAny_allTrue_And_cons <| wpAny_isTrue_Compare1 <| nmL nm'' (by rfl) h3'' <| nmL nm'' (by rfl) h2'' <| PySem.P.gt_int <| wpAny_truthy_bool ?_
        rw [decide_gt c b]
        by_cases hbc : b < c
        · rw [decide_eq_true hbc]
          simp only [if_true, Bool.true_and]
          have X₉ := X₂.at fun b _ o e => T''.keep _ _ e
          have c9 : s₂.heap.IsCell (L + 1) (some (.ref R)) := c2.keeps T''.keep
          obtain ⟨accR'', cR'', hR'', _⟩ := id X₉.is
          have lR'' : s₂.heap.IsList R accR'' := ⟨_, hR'', rfl, _, rfl⟩
          refine wpAny_allTrue_And_cons <| wpAny_isTrue_Compare1 <| nmL nm'' (by rfl) h3'' <| PyProof.Rows.Subscript_ <| nmC c9 (by rfl) (by rfl) <| nmL nm'' (by rfl) h1'' <| subL lR'' <| rl_get2 X₂ T''.keep (i := a) rfl ha' (by omega) fun S₃ _ ilS₃ => il_in ilS₃ <| wpAny_truthy_bool ?_
          split
          · rename_i q
            exact wpAny_allTrue_And_nil ⟨q.symm, _, _, rfl, Ext.refl _⟩
          · rename_i q
            exact ⟨((Bool.not_eq_true _).mp q).symm, _, _, rfl, Ext.refl _⟩
        · rw [decide_eq_false hbc]
          simp only [Bool.false_eq_true, if_false, Bool.false_and]
          exact ⟨trivial, _, _, rfl, Ext.refl _⟩
      · intro c tc s₂ k₂ hc hpc hk₂ T'' Q₃ hQ₃
        obtain ⟨yD₂, cD₂, hD₂, hyD⟩ := T''.acc
        refine wpAny_bind <| wpAny_bind <| wpAny_Constant_int <| wpAny_bind <| wpAny_list_append_plain ⟨cD₂, hD₂⟩ (fun h' hl' hs' => wpAny_pure <| wpAny_pure ?_) (by show yD₂.size ≤ _; have := sizeLine_eq; omega)
        replace hs' : Heap.SameBut D s₂.heap h' := hs'
        obtain ⟨cD₃, hD₃⟩ := hl'
        have eD : Ext [D] s₂.heap h' := Ext.of_same hs'
        refine hQ₃ h' _ (eD.mono fun a ha => by rw [one ha]; simp) ⟨fun b o q => eD _ _ (fun z => dead_ne dD q (one z).symm) (T''.keep _ _ q), ⟨_, cD₃, hD₃, by rw [Array.size_push, hyD]⟩, ?_⟩
        obtain ⟨m'', nm'', q1, _⟩ := T''.ns
        exact ⟨m'', nm''.at' fun o q => eD _ _ (fun z => nDC (one z).symm) q, q1⟩
      · intro h' tk' e' T''
        refine ⟨⟨_, rfl⟩, hQ₂ h' tk' ?_ (T''.weak fun _ q => q.1)⟩
        exact (Ext.of_keep e₈.keep _).app' e' fun b hb => by
          simp only [List.mem_cons, List.not_mem_nil, or_false] at hb ⊢
          rcases hb with rfl | rfl | rfl
          · exact .inl (.inl rfl)
          · exact .inl (.inr rfl)
          · exact .inr dI₂
    · intro h' tk' e' T'
      refine ⟨⟨_, rfl⟩, hQ₁ h' tk' ?_ (T'.weak fun _ _ => trivial)⟩
      exact (Ext.of_keep e₆.keep _).app' e' fun b hb => by
        simp only [List.mem_cons, List.not_mem_nil, or_false] at hb ⊢
        rcases hb with rfl | rfl | rfl
        · exact .inl (.inl rfl)
        · exact .inl (.inr rfl)
        · exact .inr dI₁
  · intro h' tk' e' T'
    obtain ⟨m, nm, _⟩ := T'.ns
    obtain ⟨yD, cD, hD, hyD⟩ := T'.acc
    rw [Nat.zero_add] at hyD
    refine ⟨⟨_, rfl⟩, m, nm, fun h₅ s₅ => ?_⟩
    replace s₅ : Heap.SameBut Cl h' h₅ := s₅
    have hD₅ : h₅.get? D = some { cls := .type "list", data := .seq yD cD } := s₅.extBut _ _ nDC hD
    have k₅ : Ext [] s.heap h₅ := fun b o _ q => s₅.extBut _ _ (dead_ne (dead (C.ext.app e₂).keep dC) q).symm (T'.keep _ _ (e₂.keep _ _ (C.ext.keep _ _ q)))
    refine wpAny_items_nil <| call_len_list ⟨_, hD₅, rfl, _, rfl⟩ (by rw [hyD]; show ((thr0 rows : Nat) : Int) < _; omega) ?_
    rw [hyD]
    exact h h₅ _ _ k₅
end
end Mine
end W58
section W59
open PySem PySem.W PyProof.Rows PySem.Calls PySem.Spec PySem.SeqAt PyProof.V
set_option maxRecDepth 100000
set_option maxHeartbeats 8000000
namespace Mine
abbrev zs (l : List Nat) : List Int := l.map fun (n : Nat) => (n : Int)
def Gr.nbs (G : Gr) : List (List Nat) := G.rows.map fun r => r.es.map fun e => G.ids.idxOf e.1
theorem out_nbs (G : Gr) : G.out = G.nbs.map zs := by
  unfold Gr.out Gr.nbs zs
  simp [List.map_map, Function.comp_def]
theorem nbs_length (G : Gr) : G.nbs.length = G.rows.length := by simp [Gr.nbs]
theorem Ints.il {h : Heap} {S : Nat} {l : List Nat} (x : Ints h S (zs l)) : IL h S l := by
  obtain ⟨acc, c, a, b, d⟩ := x.is
  refine ⟨acc.toList, ⟨c, by simpa using a⟩, intsAre_of (by simpa [zs] using b) fun j v q => ?_⟩
  have q' : acc[j]? = some v := by simpa using q
  obtain ⟨t, rfl⟩ := d j v q'
  have hj : j < l.length := by
    have := (Array.getElem?_eq_some_iff.mp q').1
    simp [zs] at b
    omega
  refine ⟨l[j], t, ?_, List.getElem?_eq_getElem hj⟩
  congr 1
  rw [getElem!_pos _ j (by simpa [zs] using hj)]
  simp [zs]
theorem RowsAt.rl {h : Heap} {R : Nat} {fv : List Nat} {ls : List (List Nat)} (x : RowsAt h R fv (ls.map zs)) : RL h R fv ls where
  top := x.top
  is := by
    obtain ⟨acc, c, a, b, d⟩ := x.is
    refine ⟨acc, c, a, by simpa using b, fun j v q => ?_⟩
    obtain ⟨S, hS, e, i⟩ := d j v q
    refine ⟨S, hS, e, Ints.il ?_⟩
    have hj : j < ls.length := by
      have := (Array.getElem?_eq_some_iff.mp q).1
      simp at b
      omega
    rw [getElem!_pos _ j (by simpa using hj)] at i
    rw [getElem!_pos _ j hj]
    simpa using i
theorem intsAre_inj : ∀ {vs : List Value} {a b : List Int}, IntsAre vs a → IntsAre vs b → a = b
  | _, _, _, .nil, .nil => rfl
  | _, _, _, .cons _ _ h, .cons _ _ h' => by rw [intsAre_inj h h']
theorem zs_inj {a b : List Nat} (h : zs a = zs b) : a = b := List.map_inj_right (fun _ _ q => Int.ofNat.inj q) |>.mp h
theorem IL.inj {h : Heap} {S : Nat} {a b : List Nat} (x : IL h S a) (y : IL h S b) : a = b := by
  obtain ⟨vs, ⟨c, e⟩, i⟩ := x
  obtain ⟨vs', ⟨c', e'⟩, i'⟩ := y
  rw [e] at e'
  have : vs = vs' := by
    have := Option.some.inj e'
    injection this with _ _ h3
    injection h3 with h4
    simpa using h4
  subst this
  exact zs_inj (intsAre_inj i i')
abbrev dOf (ls : List (List Nat)) : PyData := .list (ls.map fun l => .list ((zs l).map PyData.int))
theorem il_reads {h : Heap} {S : Nat} {l : List Nat} (x : IL h S l) : Reads h (.ref S) (.list ((zs l).map PyData.int)) [S] := by
  obtain ⟨vs, a, b⟩ := x
  exact reads_of_ints a.isList b
theorem rl_reads {h : Heap} {R : Nat} {fv : List Nat} {ls : List (List Nat)} (x : RL h R fv ls) : ∃ as, Reads h (.ref R) (dOf ls) as := by
  obtain ⟨acc, c, a, b, d⟩ := x.is
  have : ∀ (vs : List Value) (ls : List (List Nat)), vs.length = ls.length → (∀ (j : Nat) (v : Value), vs[j]? = some v → ∃ S, v = .ref S ∧ IL h S (ls[j]!)) → ∃ as, ReadsAll h vs (ls.map fun l => .list ((zs l).map PyData.int)) as := by
    intro vs
    induction vs with
    | nil =>
      intro ls hl _
      cases ls with
      | nil => exact ⟨[], .nil⟩
      | cons _ _ => cases hl
    | cons v vs ih =>
      intro ls hl hv
      cases ls with
      | nil => cases hl
      | cons l ls =>
        obtain ⟨S, rfl, x⟩ := hv 0 v rfl
        obtain ⟨as, r⟩ := ih ls (by simpa using hl) fun j v q => by
          have := hv (j + 1) v (by simpa using q)
          simpa using this
        exact ⟨_, .cons (il_reads (by simpa using x)) r⟩
  obtain ⟨as, r⟩ := this acc.toList ls (by simpa using b) fun j v q => by
    obtain ⟨S, _, e, i⟩ := d j v (by simpa using q)
    exact ⟨S, e, i⟩
  exact ⟨_, Reads.list a rfl rfl r⟩
theorem depth_rows : ∀ ls : List (List Nat), PyData.depthAll (ls.map fun l => .list ((zs l).map PyData.int)) ≤ 3
  | [] => by simp [PyData.depthAll]
  | l :: r => by
    have h1 := depth_rows r
    have h2 := PySem.W.depthAll_ints (zs l)
    simp only [List.map_cons, PyData.depthAll, PyData.depth]
    omega
theorem canLay_rows : ∀ ls : List (List Nat), PyData.canLayAll0 (ls.map fun l => .list ((zs l).map PyData.int)) = true
  | [] => by simp [PyData.canLayAll0]
  | l :: r => by
    simp only [List.map_cons, PyData.canLayAll0, PyData.canLay0, canLay_rows r, canLayAll0_ints, Bool.and_self]
theorem shaped_rows (ls : List (List Nat)) : shaped (dOf ls) = true := by
  have h1 := depth_rows ls
  have h2 : PyData.depth (dOf ls) ≤ 64 := by simp only [PyData.depth]; omega
  show (PyData.canLay0 (dOf ls) && decide (PyData.depth (dOf ls) ≤ 64)) = true
  rw [Bool.and_eq_true]
  exact ⟨by simp only [PyData.canLay0]; exact canLay_rows ls, decide_eq_true h2⟩
theorem noMix_rows : ∀ ls : List (List Nat), noMixAll (ls.map fun l => .list ((zs l).map PyData.int)) (ls.map fun l => .list ((zs l).map PyData.int)) = true
  | [] => by simp [noMixAll]
  | l :: r => by
    simp only [List.map_cons, noMixAll, noMix, noMix_rows r, noMix_ints, Bool.and_self]
theorem same_rows : ∀ ls : List (List Nat), PySem.Spec.sameAll (ls.map fun l => .list ((zs l).map PyData.int)) (ls.map fun l => .list ((zs l).map PyData.int)) = true
  | [] => by simp [PySem.Spec.sameAll]
  | l :: r => by
    simp only [List.map_cons, PySem.Spec.sameAll, PySem.Spec.same, same_rows r, same_ints, decide_true, Bool.and_self]
section
variable {prog : Program} {w : World} {A : Around} {E : Value → Shared → Prop} {s : Shared} {Q : Value → Shared → Prop} {env : Env}
theorem rl_ne {R T : Nat} {fv gv : List Nat} {ls : List (List Nat)} (x : RL s.heap R fv ls) (y : RL s.heap T gv ls) (hu : A.units + 64 < cLine) (h : Q (.bool false) s) : wpAny (model prog w) A (compareOp .NotEq (.ref R) (.ref T)) Q E s := by
  obtain ⟨as, r⟩ := rl_reads x
  obtain ⟨bs, r'⟩ := rl_reads y
  refine ne_dataH_same r r' (shaped_rows ls) (shaped_rows ls) hu (by simp only [noMix]; exact noMix_rows ls) ?_
  simp only [PySem.Spec.same]
  rw [same_rows]
  exact h
theorem il_sum {S : Nat} {ns : List Nat} (x : IL s.heap S ns) (hh : A.handled = none) (h : ∀ h' tk t, Ext [] s.heap h' → Q (.int (ns.sum : Nat) t) { s with heap := h', toks := tk }) : wpAny (model prog w) A (call (.builtin "sum") [.ref S]) Q E s := by
  obtain ⟨vs, a, b⟩ := x
  obtain ⟨xs, hx⟩ := b.allInts.items
  have hl := a.isList
  have hn : numsOf vs.toArray.toList = zs ns := by rw [show vs.toArray.toList = vs from rfl, b.numsOf]
  rw [hx] at hl hn
  rw [nums_intItems] at hn
  refine sum_intListG hh hl fun h' tk t' hk => ?_
  rw [preSum_eq, List.take_of_length_le (by simp), hn]
  have : (zs ns).sum = ((ns.sum : Nat) : Int) := by
    clear hn hl a b hx h
    induction ns with
    | nil => rfl
    | cons n r ih => simp only [zs, List.map_cons, List.sum_cons] at ih ⊢; rw [ih]; omega
  rw [this]
  exact h h' tk t' (Ext.of_keep hk [])
theorem sorted_uniq : ∀ {a b : List Int}, a.Perm b → a.Pairwise (· ≤ ·) → b.Pairwise (· ≤ ·) → a = b := by
  intro a
  induction a with
  | nil => intro b p _ _; exact (List.nil_perm.mp p).symm ▸ rfl
  | cons x a ih =>
    intro b p ha hb
    cases b with
    | nil => exact absurd p.symm (by simp)
    | cons y b =>
      have hxy : x ≤ y := by
        rcases List.mem_cons.mp (p.symm.subset (.head b)) with q | q
        · omega
        · exact (List.pairwise_cons.mp ha).1 y q
      have hyx : y ≤ x := by
        rcases List.mem_cons.mp (p.subset (.head a)) with q | q
        · omega
        · exact (List.pairwise_cons.mp hb).1 x q
      obtain rfl : x = y := Int.le_antisymm hxy hyx
      rw [ih (List.Perm.cons_inv p) (List.pairwise_cons.mp ha).2 (List.pairwise_cons.mp hb).2]
theorem il_sorted {S : Nat} {ns : List Nat} (x : IL s.heap S ns) (hz : ns.length < 64) (h : ∀ h' T vs' ns', Ext [] s.heap h' → s.heap.get? T = none → h'.IsList T (List.toArray vs') → IntsAre vs' ns' → ns'.Perm (zs ns) → ns'.Pairwise (· ≤ ·) → Q (.ref T) { s with heap := h' }) :
    wpAny (model prog w) A (call (.builtin "sorted") [.ref S]) Q E s := by
  obtain ⟨vs, a, b, hl⟩ := x.len
  refine sorted_ints a.isList b (by omega) fun out ns' a1 a2 a3 => ?_
  obtain ⟨e, he⟩ := sortedAll_at s.heap vs out
  exact h _ _ out.toList ns' (Ext.of_keep (fun _ _ => sortedAll_old) []) (dead_up s.heap 1) ⟨_, he, rfl, _, rfl⟩ a1 a2 a3
end
end Mine
end W59
section W60
open PySem PySem.W PyProof.Rows PySem.Calls PySem.Spec PySem.SeqAt PyProof.V
set_option maxRecDepth 100000
set_option maxHeartbeats 8000000
namespace Mine
section
variable {prog : Program} {w : World} {A : Around} {E : Value → Shared → Prop} {s : Shared} {env : Env}
abbrev rowScope : Scope := { kind := .function, names := [(".0", .local), ("row", .local), ("len", .globalImplicit)], isGenerator := false, isCoroutine := false, more := [] }
theorem rl_lens {iter : Expr} {px p1 p2 p3 pos : Pos} {R : Nat} {fv : List Nat} {ls : List (List Nat)} {Q : Value → Shared → Prop} (Z : Gl w s.heap) (X : RL s.heap R fv ls) (hz : ls.length ≤ 30) (hr : ∀ i, i < ls.length → (ls[i]!).length ≤ 100) (hh : A.handled = none) (hg : env.globals = mainGlobals) (hb : env.builtins = builtinsNs)
    (hi : ∀ (Q' : Value → Shared → Prop), Q' (.ref R) s → wpAny (model prog w) A (eval iter env) Q' E s) (hs : ∀ x, foldedSetIterable iter env x = pure x)
    (h : ∀ h' tk D, Ext [] s.heap h' → s.heap.get? D = none → IL h' D (ls.map List.length) → Q (.ref D) { s with heap := h', toks := tk }) :
    wpAny (model prog w) A (eval (.ListComp (.Call (.Name "len" p1) [.Name "row" p2] [] p3) [⟨.Name "row" px, iter, [], 0⟩] rowScope pos) env) Q E s := by
  obtain ⟨acc, c, hR, hsz, hrow⟩ := id X.is
  have lR : s.heap.IsList R acc := ⟨_, hR, rfl, _, rfl⟩
  refine wpAny_ListComp_free (cl := []) (fun _ => true) (fun v y => ∃ S l t, v = .ref S ∧ IL s.heap S l ∧ y = .int (l.length : Nat) t) (by rfl) (by decide) (by rfl) (by decide) (by rfl) (hi _ ?_) hs
  refine wpAny_pyIter_list lR ?_
  generalize hh₁ : Heap.push _ _ = h₁
  have e₁ : Ext [] s.heap h₁ := hh₁ ▸ Ext.push _ _
  have hit : h₁.IsListIter s.heap.objs.size R 0 := hh₁ ▸ ⟨_, Heap.get?_push_size _ rfl, rfl, rfl⟩
  have dI : s.heap.get? s.heap.objs.size = none := get?_size _
  generalize s.heap.objs.size = I at hit dI ⊢
  have hR₁ := e₁.keep _ _ hR
  have RI : R ≠ I := (dead_ne dI hR).symm
  have one : ∀ {a b : Nat}, b ∈ ([a] : List Nat) → b = a := fun q => List.mem_singleton.mp q
  refine ⟨I, _, _, _, _, _, rfl, Walks.list (by exact hh) I R RI acc, by rw [hsz]; have := sizeLine_eq; omega, ⟨hit, ⟨_, hR₁, rfl, _, rfl⟩⟩, ?_, ⟨?_, ?_⟩, ?_⟩
  · intro b hb
    simp only [List.mem_cons, List.not_mem_nil, or_false] at hb
    rcases hb with rfl | rfl
    · obtain ⟨o, ho, _⟩ := hit; exact Heap.lt_size ho
    · exact Heap.lt_size hR₁
  · intro C i v s₃ m₃ E' _ _ _ _ _ _
    exact wpAny_tests_nil ⟨rfl, _, _, rfl, fun _ _ e => e⟩
  · intro C i v s₃ m₃ E' _ hP _ hn hm hk _
    have hi' : i < ls.length := by have := (Array.getElem?_eq_some_iff.mp hP).1; omega
    obtain ⟨S, _, rfl, il⟩ := hrow i v hP
    have k₃ : ∀ b o, s.heap.get? b = some o → s₃.heap.get? b = some o := fun b o q => hk b o (fun z => dead_ne dI q (one z).symm) (e₁.keep _ _ q)
    have Z₃ := Z.keep k₃
    have il₃ : IL s₃.heap S (ls[i]!) := il.at fun o q => k₃ _ _ q
    have hlen := hr i hi'
    exact Call_ <| nmB Z₃ (by kernel_rfl) (by rfl) boot_len (by decide) (hg := hg) (hb := hb) (cwB <| wpAny_items_cons <| nmL hn (by rfl) hm <| wpAny_items_nil <| il_len il₃ (by omega) fun t tk => ⟨⟨S, _, t, rfl, il, rfl⟩, _, _, rfl, fun _ _ e => e⟩)
  · intro D h' tk ys vs hD _ hpl hlen hPv hF hk
    have e' : Ext [] s.heap h' := e₁.app' (F' := [I]) hk fun b hb => .inr (by rw [one hb]; exact dI)
    refine h h' tk D e' (dead e₁.keep hD) ⟨ys.toList, by simpa using hpl, intsAre_of ?_ fun j y hy => ?_⟩
    · have := hF.length
      rw [List.filter_eq_self.mpr (fun _ _ => rfl)] at this
      rw [← this, hlen, hsz, List.length_map]
    · rw [List.filter_eq_self.mpr (fun _ _ => rfl)] at hF
      obtain ⟨v, hv, S, l, t, rfl, il, rfl⟩ := paired_get hF hy
      have hj := hPv j _ hv
      have hj' : j < ls.length := by have := (Array.getElem?_eq_some_iff.mp hj).1; omega
      obtain ⟨S', _, e, il'⟩ := hrow j _ hj
      cases e
      rw [il.inj il']
      exact ⟨_, t, rfl, by rw [List.getElem?_map, List.getElem?_eq_getElem hj', getElem!_pos ls j hj']; rfl⟩
end
end Mine
end W60
section PL3
open PySem PySem.W PyProof.Rows PySem.Calls PySem.Spec
set_option maxRecDepth 100000
set_option maxHeartbeats 8000000
namespace Mine
structure RowsOf (n : Nat) (adj : Nat → Nat → Bool) (rows : List (List Nat)) : Prop where
  len : rows.length = n
  nd : ∀ i, i < n → (rows[i]!).Nodup
  mem : ∀ i, i < n → ∀ k, k ∈ rows[i]! ↔ adj i k = true
theorem nodup_filter {α : Type} {l : List α} (p : α → Bool) (h : l.Nodup) : (l.filter p).Nodup := h.sublist List.filter_sublist
theorem row_perm {n : Nat} {f : Nat → Bool} {l : List Nat} (hd : l.Nodup) (hm : ∀ k, k ∈ l ↔ f k = true) (hf : ∀ k, f k = true → k < n) : l.Perm ((List.range n).filter f) := by
  refine (List.perm_ext_iff_of_nodup hd (nodup_filter f List.nodup_range)).mpr fun k => ?_
  rw [hm, List.mem_filter, List.mem_range]
  exact ⟨fun q => ⟨hf k q, q⟩, fun q => q.2⟩
theorem sum_filter_if (l : List Nat) (p : Nat → Bool) (f : Nat → Nat) : ((l.filter p).map f).sum = (l.map fun a => if p a then f a else 0).sum := by
  induction l with
  | nil => rfl
  | cons a r ih =>
    rw [List.filter_cons]
    cases q : p a <;> simp [q, ih]
theorem sum_one (l : List Nat) : (l.map fun _ => 1).sum = l.length := by
  induction l with
  | nil => rfl
  | cons a r ih => simp only [List.map_cons, List.sum_cons, List.length_cons, ih]; omega
section
variable {n : Nat} {adj : Nat → Nat → Bool} {rows : List (List Nat)}
theorem RowsOf.perm (X : RowsOf n adj rows) (hin : ∀ i k, adj i k = true → k < n) {i : Nat} (hi : i < n) : (rows[i]!).Perm ((List.range n).filter (adj i)) := row_perm (X.nd i hi) (X.mem i hi) (hin i)
theorem RowsOf.row_len (X : RowsOf n adj rows) (hin : ∀ i k, adj i k = true → k < n) {i : Nat} (hi : i < n) : (rows[i]!).length = (List.range n).countP (adj i) := by
  rw [(X.perm hin hi).length_eq, List.countP_eq_length_filter]
theorem RowsOf.row_le (X : RowsOf n adj rows) (hin : ∀ i k, adj i k = true → k < n) {i : Nat} (hi : i < n) : (rows[i]!).length ≤ n := by
  rw [X.row_len hin hi]
  have := List.countP_le_length (p := adj i) (l := List.range n)
  simpa using this
theorem map_eq_range (l : List (List Nat)) (f : List Nat → Nat) : l.map f = (List.range l.length).map fun i => f (l[i]!) := by
  refine List.ext_getElem (by simp) fun i h1 h2 => ?_
  have h1' : i < l.length := by simpa using h1
  simp only [List.getElem_map, List.getElem_range]
  rw [getElem!_pos l i h1']
theorem RowsOf.degs (X : RowsOf n adj rows) (hin : ∀ i k, adj i k = true → k < n) : (rows.map List.length).sum = degs n adj := by
  rw [map_eq_range, X.len]
  unfold Mine.degs
  congr 1
  refine List.map_congr_left fun i hi => X.row_len hin (List.mem_range.mp hi)
theorem RowsOf.threes (X : RowsOf n adj rows) (hin : ∀ i k, adj i k = true → k < n) : thr0 rows = threes n adj := by
  unfold thr0 Mine.threes
  rw [List.filter_eq_self.mpr (fun _ _ => rfl), X.len, ← List.range_eq_range']
  congr 1
  refine List.map_congr_left fun a ha => ?_
  have ha := List.mem_range.mp ha
  unfold thr1
  rw [(((X.perm hin ha).filter fun b => decide (a < b)).map fun b => thr2 rows a b).sum_nat, List.filter_filter, sum_filter_if]
  congr 1
  refine List.map_congr_left fun b hb => ?_
  have hb := List.mem_range.mp hb
  rw [Bool.and_comm]
  congr 1
  unfold thr2
  rw [sum_one, ← List.countP_eq_length_filter, (X.perm hin hb).countP_eq, List.countP_filter]
  refine List.countP_congr fun c hc => ?_
  have hany : (rows[a]!).any (· == c) = adj a c := by
    rw [Bool.eq_iff_iff, List.any_eq_true]
    constructor
    · rintro ⟨x, hx, q⟩
      rw [beq_iff_eq] at q
      exact (X.mem a ha c).mp (q ▸ hx)
    · intro q
      exact ⟨c, (X.mem a ha c).mpr q, by simp⟩
  rw [hany]
  simp only [Bool.and_eq_true]
  constructor
  · rintro ⟨⟨h1, h2⟩, h3⟩; exact ⟨h3, h1, h2⟩
  · rintro ⟨h3, h1, h2⟩; exact ⟨⟨h1, h2⟩, h3⟩
end
def stepNET : Nat × Nat × Nat → Nat × Nat × Nat | (n, e, t) => (2 * n + 1, 3 * e + n, 4 * t)
def iterNET : Nat → Nat × Nat × Nat → Nat × Nat × Nat
  | 0, x => x
  | r + 1, x => stepNET (iterNET r x)
def mycBj : Nat → Nat → (Nat → Nat → Bool) → Nat → Nat → Bool
  | 0, _, adj => adj
  | j + 1, n, adj => mycB (mycN j n) (mycBj j n adj)
theorem mycB_in {n : Nat} {adj : Nat → Nat → Bool} (h : ∀ i k, adj i k = true → i < n ∧ k < n) : ∀ i k, mycB n adj i k = true → i < 2 * n + 1 ∧ k < 2 * n + 1 := by
  intro i k q
  unfold mycB at q
  split at q
  · split at q
    · have := h _ _ q; omega
    · rw [Bool.and_eq_true, decide_eq_true_eq] at q; omega
  · split at q
    · split at q
      · have := h _ _ q; omega
      · rw [beq_iff_eq] at q; omega
    · simp only [Bool.and_eq_true, decide_eq_true_eq, beq_iff_eq] at q; omega
theorem mycBj_in {n : Nat} {adj : Nat → Nat → Bool} (h : ∀ i k, adj i k = true → i < n ∧ k < n) : ∀ j i k, mycBj j n adj i k = true → i < mycN j n ∧ k < mycN j n
  | 0, i, k, q => h i k q
  | j + 1, i, k, q => mycB_in (mycBj_in h j) i k q
theorem mycB_sym {n : Nat} {adj : Nat → Nat → Bool} (h : ∀ i k, adj i k = true → i < n ∧ k < n) (hs : ∀ i k, adj i k = adj k i) : ∀ i k, mycB n adj i k = mycB n adj k i := by
  have imp : ∀ i k, mycB n adj i k = true → mycB n adj k i = true := by
    intro i k q
    have b := mycB_in h i k q
    unfold mycB at q ⊢
    split at q
    · rename_i hi
      split at q
      · rename_i hk
        rw [if_pos hk, if_pos hi, hs]; exact q
      · rename_i hk
        rw [Bool.and_eq_true, decide_eq_true_eq] at q
        rw [if_neg hk, if_pos q.1, if_pos hi, hs]; exact q.2
    · rename_i hi
      split at q
      · rename_i hi2
        split at q
        · rename_i hk
          rw [if_pos hk, if_neg hi, Bool.and_eq_true, decide_eq_true_eq, hs]
          exact ⟨hi2, q⟩
        · rename_i hk
          rw [beq_iff_eq] at q
          subst q
          rw [if_neg (by omega), if_neg (by omega)]
          rw [beq_self_eq_true, Bool.true_and, Bool.and_eq_true, decide_eq_true_eq, decide_eq_true_eq]
          exact ⟨by omega, by omega⟩
      · simp only [Bool.and_eq_true, decide_eq_true_eq, beq_iff_eq] at q
        obtain ⟨⟨rfl, q1⟩, q2⟩ := q
        rw [if_neg (by omega), if_pos q2, if_neg (by omega), beq_iff_eq]
  intro i k
  rw [Bool.eq_iff_iff]
  exact ⟨imp i k, imp k i⟩
theorem mycBj_sym {n : Nat} {adj : Nat → Nat → Bool} (h : ∀ i k, adj i k = true → i < n ∧ k < n) (hs : ∀ i k, adj i k = adj k i) : ∀ j i k, mycBj j n adj i k = mycBj j n adj k i
  | 0, i, k => hs i k
  | j + 1, i, k => mycB_sym (mycBj_in h j) (mycBj_sym h hs j) i k
abbrev Says (P : Int → Int → Prop) (adj : Nat → Nat → Bool) : Prop := ∀ a b : Int, P a b ↔ ∃ i k : Nat, a = i ∧ b = k ∧ adj i k = true
theorem stepP_says {N : Nat} {P : Int → Int → Prop} {adj : Nat → Nat → Bool} (h : ∀ i k, adj i k = true → i < N ∧ k < N) (hs : ∀ i k, adj i k = adj k i) (S : Says P adj) : Says (stepP N P) (mycB N adj) := by
  intro a b
  unfold stepP
  constructor
  · rintro (q | ⟨x, y, q, (⟨rfl, rfl⟩ | ⟨rfl, rfl⟩)⟩ | ⟨u, hu, (⟨rfl, rfl⟩ | ⟨rfl, rfl⟩)⟩)
    · obtain ⟨i, k, rfl, rfl, q'⟩ := (S _ _).mp q
      obtain ⟨h1, h2⟩ := h _ _ q'
      exact ⟨i, k, rfl, rfl, by unfold mycB; rw [if_pos h1, if_pos h2]; exact q'⟩
    · obtain ⟨i, k, rfl, rfl, q'⟩ := (S _ _).mp q
      obtain ⟨h1, h2⟩ := h _ _ q'
      refine ⟨i, k + N, rfl, by omega, ?_⟩
      unfold mycB
      rw [if_pos h1, if_neg (by omega), Bool.and_eq_true, decide_eq_true_eq, Nat.add_sub_cancel]
      exact ⟨by omega, q'⟩
    · obtain ⟨i, k, rfl, rfl, q'⟩ := (S _ _).mp q
      obtain ⟨h1, h2⟩ := h _ _ q'
      refine ⟨k + N, i, by omega, rfl, ?_⟩
      unfold mycB
      rw [if_neg (by omega), if_pos (by omega), if_pos h1, Nat.add_sub_cancel, hs]
      exact q'
    · refine ⟨u + N, 2 * N, by omega, by omega, ?_⟩
      unfold mycB
      rw [if_neg (by omega), if_pos (by omega), if_neg (by omega), beq_iff_eq]
    · refine ⟨2 * N, u + N, by omega, by omega, ?_⟩
      unfold mycB
      rw [if_neg (by omega), if_neg (by omega), beq_self_eq_true, Bool.true_and, Bool.and_eq_true, decide_eq_true_eq, decide_eq_true_eq]
      exact ⟨by omega, by omega⟩
  · rintro ⟨i, k, rfl, rfl, q⟩
    unfold mycB at q
    split at q
    · rename_i hi
      split at q
      · exact .inl ((S _ _).mpr ⟨i, k, rfl, rfl, q⟩)
      · rename_i hk
        rw [Bool.and_eq_true, decide_eq_true_eq] at q
        exact .inr (.inl ⟨i, (k - N : Nat), (S _ _).mpr ⟨i, k - N, rfl, rfl, q.2⟩, .inl ⟨rfl, by omega⟩⟩)
    · rename_i hi
      split at q
      · rename_i hi2
        split at q
        · rename_i hk
          exact .inr (.inl ⟨k, (i - N : Nat), (S _ _).mpr ⟨k, i - N, rfl, rfl, by rw [hs]; exact q⟩, .inr ⟨by omega, rfl⟩⟩)
        · rename_i hk
          rw [beq_iff_eq] at q
          exact .inr (.inr ⟨i - N, by omega, .inl ⟨by omega, by omega⟩⟩)
      · simp only [Bool.and_eq_true, decide_eq_true_eq, beq_iff_eq] at q
        exact .inr (.inr ⟨k - N, by omega, .inr ⟨by omega, by omega⟩⟩)
theorem mycP_says {n : Nat} {P : Int → Int → Prop} {adj : Nat → Nat → Bool} (h : ∀ i k, adj i k = true → i < n ∧ k < n) (hs : ∀ i k, adj i k = adj k i) (S : Says P adj) : ∀ j, Says (mycP j n P) (mycBj j n adj)
  | 0 => S
  | j + 1 => stepP_says (mycBj_in h j) (mycBj_sym h hs j) (mycP_says h hs S j)
end Mine
end PL3
section PL4
open PySem PySem.W PyProof.Rows PySem.Calls PySem.Spec
set_option maxRecDepth 100000
set_option maxHeartbeats 8000000
namespace Mine
noncomputable def Gr.adjB (G : Gr) (i k : Nat) : Bool := @decide (i < G.rows.length ∧ k < G.rows.length ∧ G.has (G.ids[i]!) (G.ids[k]!)) (Classical.propDecidable _)
theorem adjB_iff {G : Gr} {i k : Nat} : G.adjB i k = true ↔ (i < G.rows.length ∧ k < G.rows.length ∧ G.has (G.ids[i]!) (G.ids[k]!)) := by
  unfold Gr.adjB
  exact @decide_eq_true_iff _ (Classical.propDecidable _)
theorem ids_len (G : Gr) : G.ids.length = G.rows.length := by simp [Gr.ids]
theorem ids_at {G : Gr} {i : Nat} (hi : i < G.rows.length) : G.ids[i]! = (G.rows[i]).n := by
  rw [getElem!_pos G.ids i (by rw [ids_len]; exact hi)]
  simp [Gr.ids]
section
variable {prog : Program} {w : World} {h : Heap} {G : Gr}
theorem nbs_rows (I : GraphAt prog w h G) (J : Gi G) : RowsOf G.rows.length G.adjB G.nbs := by
  have hn : G.ids.Nodup := I.ns
  have row : ∀ i (hi : i < G.rows.length), G.nbs[i]! = (G.rows[i]).es.map fun e => G.ids.idxOf e.1 := fun i hi => by
    rw [getElem!_pos G.nbs i (by rw [nbs_length]; exact hi)]
    simp [Gr.nbs]
  have inj : ∀ {a b : Int}, a ∈ G.ids → G.ids.idxOf a = G.ids.idxOf b → a = b := fun {a b} ha q => by
    have h1 := List.idxOf_lt_length_iff.mpr ha
    have h2 : G.ids[G.ids.idxOf a] = a := List.getElem_idxOf h1
    have h3 : G.ids[G.ids.idxOf b]'(q ▸ h1) = b := List.getElem_idxOf (q ▸ h1)
    rw [← h2, ← h3]
    congr 1
  refine ⟨nbs_length G, fun i hi => ?_, fun i hi k => ?_⟩
  · rw [row i hi]
    have hk := I.keysNodup (List.getElem_mem hi)
    have hkeys : ∀ e ∈ (G.rows[i]).es, e.1 ∈ G.ids := fun e he => J.keys _ (List.getElem_mem hi) e he
    generalize (G.rows[i]).es = es at hk hkeys
    induction es with
    | nil => exact .nil
    | cons e r ih =>
      simp only [List.map_cons, List.nodup_cons] at hk ⊢
      refine ⟨fun q => ?_, ih hk.2 fun e he => hkeys e (.tail _ he)⟩
      obtain ⟨e', he', q⟩ := List.mem_map.mp q
      exact hk.1 (List.mem_map.mpr ⟨e', he', inj (hkeys e' (.tail _ he')) q⟩)
  · rw [row i hi, adjB_iff, ids_at hi, List.mem_map]
    constructor
    · rintro ⟨e, he, rfl⟩
      have hm := J.keys _ (List.getElem_mem hi) e he
      have h1 := List.idxOf_lt_length_iff.mpr hm
      refine ⟨hi, by rw [← ids_len]; exact h1, G.rows[i], List.getElem_mem hi, rfl, e, he, ?_⟩
      rw [getElem!_pos G.ids _ h1]
      exact (List.getElem_idxOf h1).symm
    · rintro ⟨_, hk, r, hr, hrn, e, he, q⟩
      have : r = G.rows[i] := nodup_inj hn hr (List.getElem_mem hi) hrn
      subst this
      refine ⟨e, he, ?_⟩
      rw [q]
      have hk' : k < G.ids.length := by rw [ids_len]; exact hk
      rw [getElem!_pos G.ids k hk']
      exact List.Nodup.idxOf_getElem hn k hk'
theorem adjB_in {i k : Nat} (q : G.adjB i k = true) : i < G.rows.length ∧ k < G.rows.length := let x := adjB_iff.mp q; ⟨x.1, x.2.1⟩
theorem adjB_sym (hs : ∀ a b, G.has a b → G.has b a) (i k : Nat) : G.adjB i k = G.adjB k i := by
  rw [Bool.eq_iff_iff, adjB_iff, adjB_iff]
  exact ⟨fun ⟨a, b, c⟩ => ⟨b, a, hs _ _ c⟩, fun ⟨a, b, c⟩ => ⟨b, a, hs _ _ c⟩⟩
theorem adjB_irr (hl : ∀ a b, G.has a b → a ≠ b) (i : Nat) : G.adjB i i = false := by
  cases q : G.adjB i i with
  | false => rfl
  | true => exact absurd rfl (hl _ _ (adjB_iff.mp q).2.2)
theorem has_adjB (I : GraphAt prog w h G) (J : Gi G) : Says (fun a b => ∃ x y, G.has x y ∧ a = G.ids.idxOf x ∧ b = G.ids.idxOf y) G.adjB := by
  have hn : G.ids.Nodup := I.ns
  intro a b
  constructor
  · rintro ⟨x, y, q, rfl, rfl⟩
    obtain ⟨r, hr, rfl, e, he, rfl⟩ := id q
    have h1 := List.idxOf_lt_length_iff.mpr (List.mem_map_of_mem (f := (·.n)) hr : r.n ∈ G.ids)
    have h2 := List.idxOf_lt_length_iff.mpr (J.keys r hr e he)
    refine ⟨_, _, rfl, rfl, adjB_iff.mpr ⟨by rw [← ids_len]; exact h1, by rw [← ids_len]; exact h2, ?_⟩⟩
    rw [getElem!_pos G.ids _ h1, getElem!_pos G.ids _ h2, List.getElem_idxOf h1, List.getElem_idxOf h2]
    exact q
  · rintro ⟨i, k, rfl, rfl, q⟩
    obtain ⟨hi, hk, q⟩ := adjB_iff.mp q
    have hi' : i < G.ids.length := by rw [ids_len]; exact hi
    have hk' : k < G.ids.length := by rw [ids_len]; exact hk
    rw [getElem!_pos G.ids i hi', getElem!_pos G.ids k hk'] at q
    exact ⟨_, _, q, by rw [List.Nodup.idxOf_getElem hn i hi'], by rw [List.Nodup.idxOf_getElem hn k hk']⟩
theorem says_rows {N : Nat} {P : Int → Int → Prop} {adj : Nat → Nat → Bool} (I : GraphAt prog w h G) (J : Gi G) (ids : G.ids = (List.range N).map fun (i : Nat) => (i : Int)) (has : ∀ a b, G.has a b ↔ P a b) (S : Says P adj) (hin : ∀ i k, adj i k = true → i < N ∧ k < N) : RowsOf N adj G.nbs := by
  have hN : G.rows.length = N := by rw [← ids_len, ids]; simp
  have X := nbs_rows I J
  have e : G.adjB = adj := by
    funext i k
    rw [Bool.eq_iff_iff, adjB_iff, hN]
    constructor
    · rintro ⟨hi, hk, q⟩
      obtain ⟨i', k', e1, e2, q⟩ := (S _ _).mp ((has _ _).mp q)
      rw [ids, getElem!_pos _ i (by simpa using hi)] at e1
      rw [ids, getElem!_pos _ k (by simpa using hk)] at e2
      simp only [List.getElem_map, List.getElem_range] at e1 e2
      rw [show i = i' by omega, show k = k' by omega]
      exact q
    · intro q
      obtain ⟨hi, hk⟩ := hin i k q
      refine ⟨hi, hk, (has _ _).mpr ((S _ _).mpr ⟨i, k, ?_, ?_, q⟩)⟩
      · rw [ids, getElem!_pos _ i (by simpa using hi)]; simp
      · rw [ids, getElem!_pos _ k (by simpa using hk)]; simp
  rw [e, hN] at X
  exact X
end
end Mine
end PL4
section PL5
set_option maxRecDepth 100000
set_option maxHeartbeats 8000000
namespace Mine
def goodR (F r n : Nat) (adj : Nat → Nat → Bool) : Bool :=
  ((List.range (n + 1)).all fun m => (fitsRun n adj m F [] 0).isSome) &&
  (match leastOf n adj F with
   | none => false
   | some c => fitsRun (mycN r n) (mycBj r n adj) (c + r) F [] 0 == some true && fitsRun (mycN r n) (mycBj r n adj) (c + r - 1) F [] 0 == some false) &&
  ((mycN r n, degs (mycN r n) (mycBj r n adj) / 2, Mine.threes (mycN r n) (mycBj r n adj)) == iterNET r (n, degs n adj / 2, Mine.threes n adj))
theorem goodR_of {F r n : Nat} {adj : Nat → Nat → Bool} (h : goodR F r n adj = true) :
    (∀ m, m ≤ n → (fitsRun n adj m F [] 0).isSome = true) ∧ (∃ c, leastOf n adj F = some c ∧ fitsRun (mycN r n) (mycBj r n adj) (c + r) F [] 0 = some true ∧ fitsRun (mycN r n) (mycBj r n adj) (c + r - 1) F [] 0 = some false) ∧
    (mycN r n, degs (mycN r n) (mycBj r n adj) / 2, Mine.threes (mycN r n) (mycBj r n adj)) = iterNET r (n, degs n adj / 2, Mine.threes n adj) := by
  unfold goodR at h
  simp only [Bool.and_eq_true] at h
  obtain ⟨⟨h1, h2⟩, h3⟩ := h
  refine ⟨fun m hm => List.all_eq_true.mp h1 m (List.mem_range.mpr (Nat.lt_succ_of_le hm)), ?_, of_decide_eq_true (by simpa [decide_eq_true_eq] using h3)⟩
  split at h2
  · cases h2
  · rename_i c hc
    rw [Bool.and_eq_true] at h2
    exact ⟨c, hc, by simpa using h2.1, by simpa using h2.2⟩
abbrev bools : List Bool := [false, true]
theorem all_bools {p : Bool → Bool} (h : bools.all p = true) (b : Bool) : p b = true := List.all_eq_true.mp h b (by cases b <;> simp)
theorem d1 : goodR 300 1 1 (adj6 1 false false false false false false) = true := by decide +kernel
theorem d1' : goodR 300 2 1 (adj6 1 false false false false false false) = true := by decide +kernel
theorem d2 : (bools.all fun a => goodR 300 1 2 (adj6 2 a false false false false false)) = true := by decide +kernel
theorem d2' : (bools.all fun a => goodR 300 2 2 (adj6 2 a false false false false false)) = true := by decide +kernel
theorem d3 : (bools.all fun a => bools.all fun b => bools.all fun c => goodR 300 1 3 (adj6 3 a b c false false false)) = true := by decide +kernel
abbrev d4For (a b c : Bool) : Bool := bools.all fun d => bools.all fun e => bools.all fun f => goodR 300 1 4 (adj6 4 a b c d e f)
theorem d4_0 : d4For false false false = true := by decide +kernel
theorem d4_1 : d4For false false true = true := by decide +kernel
theorem d4_2 : d4For false true false = true := by decide +kernel
theorem d4_3 : d4For false true true = true := by decide +kernel
theorem d4_4 : d4For true false false = true := by decide +kernel
theorem d4_5 : d4For true false true = true := by decide +kernel
theorem d4_6 : d4For true true false = true := by decide +kernel
theorem d4_7 : d4For true true true = true := by decide +kernel
theorem d4 (a b c : Bool) : d4For a b c = true := by
  cases a <;> cases b <;> cases c
  · exact d4_0
  · exact d4_1
  · exact d4_2
  · exact d4_3
  · exact d4_4
  · exact d4_5
  · exact d4_6
  · exact d4_7
theorem adj_eq6 {n : Nat} {adj : Nat → Nat → Bool} (hn : n ≤ 4) (hin : ∀ i k, adj i k = true → i < n ∧ k < n) (hs : ∀ i k, adj i k = adj k i) (hi : ∀ i, adj i i = false) :
    adj = adj6 n (adj 0 1) (adj 0 2) (adj 1 2) (adj 0 3) (adj 1 3) (adj 2 3) := by
  funext i k
  by_cases h : i < n ∧ k < n
  · have hi4 : i < 4 := by omega
    have hk4 : k < 4 := by omega
    unfold adj6
    rw [decide_eq_true h.1, decide_eq_true h.2]
    clear h hin hn
    have h1 := hs 1 0
    have h2 := hs 2 0
    have h3 := hs 2 1
    have h4 := hs 3 0
    have h5 := hs 3 1
    have h6 := hs 3 2
    have g0 := hi 0
    have g1 := hi 1
    have g2 := hi 2
    have g3 := hi 3
    have ci : i = 0 ∨ i = 1 ∨ i = 2 ∨ i = 3 := by omega
    have ck : k = 0 ∨ k = 1 ∨ k = 2 ∨ k = 3 := by omega
    rcases ci with rfl | rfl | rfl | rfl <;> rcases ck with rfl | rfl | rfl | rfl <;> simp [*]
  · have : adj i k = false := by
      cases q : adj i k with
      | false => rfl
      | true => exact absurd (hin i k q) h
    rw [this]
    unfold adj6
    by_cases h1 : i < n
    · have h2 : ¬ k < n := fun q => h ⟨h1, q⟩
      rw [decide_eq_false h2]; simp
    · rw [decide_eq_false h1]; simp
theorem plain_law {n r : Nat} {adj : Nat → Nat → Bool} (h1 : 1 ≤ n) (hn : n ≤ 4) (hr : r = 1 ∨ (r = 2 ∧ n < 3)) (hin : ∀ i k, adj i k = true → i < n ∧ k < n) (hs : ∀ i k, adj i k = adj k i) (hi : ∀ i, adj i i = false) : goodR 300 r n adj = true := by
  have out : ∀ i k, ¬ (i < n ∧ k < n) → adj i k = false := fun i k h => by
    cases q : adj i k with
    | false => rfl
    | true => exact absurd (hin i k q) h
  rw [adj_eq6 hn hin hs hi]
  have c : n = 1 ∨ n = 2 ∨ n = 3 ∨ n = 4 := by omega
  rcases c with rfl | rfl | rfl | rfl
  · rw [out 0 1 (by decide), out 0 2 (by decide), out 1 2 (by decide), out 0 3 (by decide), out 1 3 (by decide), out 2 3 (by decide)]
    rcases hr with rfl | ⟨rfl, _⟩
    · exact d1
    · exact d1'
  · rw [out 0 2 (by decide), out 1 2 (by decide), out 0 3 (by decide), out 1 3 (by decide), out 2 3 (by decide)]
    rcases hr with rfl | ⟨rfl, _⟩
    · exact all_bools d2 _
    · exact all_bools d2' _
  · rw [out 0 3 (by decide), out 1 3 (by decide), out 2 3 (by decide)]
    rcases hr with rfl | ⟨rfl, h⟩
    · exact all_bools (all_bools (all_bools d3 _) _) _
    · exact absurd h (by decide)
  · rcases hr with rfl | ⟨rfl, h⟩
    · exact all_bools (all_bools (all_bools (d4 _ _ _) _) _) _
    · exact absurd h (by decide)
def k2B (i k : Nat) : Bool := (i == 0 && k == 1) || (i == 1 && k == 0)
theorem m2 : fitsRun 2 (mycBj 0 2 k2B) 2 300 [] 0 = some true ∧ fitsRun 2 (mycBj 0 2 k2B) 1 300 [] 0 = some false ∧ Mine.threes 2 (mycBj 0 2 k2B) = 0 := by decide +kernel
theorem m3 : fitsRun 5 (mycBj 1 2 k2B) 3 300 [] 0 = some true ∧ fitsRun 5 (mycBj 1 2 k2B) 2 300 [] 0 = some false ∧ Mine.threes 5 (mycBj 1 2 k2B) = 0 := by decide +kernel
theorem m4 : fitsRun 11 (mycBj 2 2 k2B) 4 300 [] 0 = some true ∧ fitsRun 11 (mycBj 2 2 k2B) 3 300 [] 0 = some false ∧ Mine.threes 11 (mycBj 2 2 k2B) = 0 := by decide +kernel
theorem m1 : fitsRun 1 (fun _ _ => false) 1 300 [] 0 = some true ∧ fitsRun 1 (fun _ _ => false) 0 300 [] 0 = some false ∧ Mine.threes 1 (fun _ _ => false) = 0 := by decide +kernel
end Mine
end PL5
section W61
open PySem PySem.W PyProof.Rows PySem.Calls PySem.Spec PySem.SeqAt PyProof.V
set_option maxRecDepth 100000
set_option maxHeartbeats 8000000
namespace Mine
def LI (h : Heap) (S : Nat) (ns : List Int) : Prop := ∃ vs, h.PlainList S vs.toArray ∧ IntsAre vs ns
theorem LI.at {h h' : Heap} {S : Nat} {ns : List Int} (x : LI h S ns) (k : ∀ o, h.get? S = some o → h'.get? S = some o) : LI h' S ns := let ⟨vs, a, b⟩ := x; ⟨vs, a.at k, b⟩
theorem LI.live {h : Heap} {S : Nat} {ns : List Int} (x : LI h S ns) : ∃ o, h.get? S = some o := let ⟨_, ⟨_, e⟩, _⟩ := x; ⟨_, e⟩
theorem LI.isList {h : Heap} {S : Nat} {ns : List Int} (x : LI h S ns) : ∃ vs, h.IsList S vs := let ⟨_, a, _⟩ := x; ⟨_, a.isList⟩
section
variable {prog : Program} {w : World} {A : Around} {E : Value → Shared → Prop} {s : Shared} {env : Env} {Q : Value → Shared → Prop}
theorem li_get {S : Nat} {ns : List Int} {k : Int} {i : Nat} {t : Tok} (x : LI s.heap S ns) (hk : k = i) (hi : i < ns.length) (hz : ns.length < 1000) (h : ∀ t, Q (.int (ns[i]!) t) s) : wpAny (model prog w) A (getItem (.ref S) (.int k t)) Q E s := by
  subst hk
  obtain ⟨vs, a, b⟩ := x
  obtain ⟨t', ht⟩ := intsAre_get b i (ns[i]!) (by rw [List.getElem?_eq_getElem hi, getElem!_pos ns i hi])
  exact wpAny_getItem_list (x := .int (ns[i]!) t') a.isList (by omega) (by omega) (by simpa using ht) (h t')
theorem mul14 {l k : Nat} {t u : Tok} (hl : s.heap.get? l = some { cls := .type "list", data := .seq #[.int 0 t] k })
    (h : ∀ h' D, Ext [] s.heap h' → s.heap.get? D = none → h'.get? D = some { cls := .type "list", data := .seq (List.replicate 14 (.int 0 t)).toArray } → Q (.ref D) { s with heap := h' }) :
    wpAny (model prog w) A (binaryOp .Mult (.ref l) (.int 14 u)) Q E s := by
  refine wpAny_binaryOp_repeat_ref (T := "list") (U := "int") (by decide) ⟨_, hl, rfl⟩ (fun s' => typeIs_int s' 14 u) noFill_list_mul F.fills_int_mul F.slot_int_rmul repeat_list F.slot_int_index.lookup ?_
  refine call_meets F.slot_int_rmul (typeIs_int s 14 u) F.entry_int_rmul (F.args_int_rmul_2 _ _) (int___rmul___int_list 14 u l #[.int 0 t] k) ⟨hl, rfl, ⟨_, hl, rfl⟩, ?_⟩
  refine call_meets F.slot_list_mul ⟨_, hl, rfl⟩ F.entry_list_mul (F.args_list_mul_2 _ _) (AutoListH.list___mul___list_int_3 l #[.int 0 t] k 14 u (by decide) (by show ¬ 1 * 14 > _; decide) (by show ¬ Builtin.List.listTooLong (1 * 14) = true; decide)) ⟨hl, ?_⟩
  exact h _ _ (Ext.push _ _) (get?_size _) (Heap.get?_push_size _ rfl)
theorem add_li {l b n n2 : Nat} {vs us : List Value} {ns ms : List Int} (hl : s.heap.get? l = some { cls := .type "list", data := .seq vs.toArray n }) (hb : s.heap.get? b = some { cls := .type "list", data := .seq us.toArray n2 }) (hi : IntsAre vs ns) (hj : IntsAre us ms) (hsz : vs.length + us.length ≤ 1000)
    (h : ∀ h' D, Ext [] s.heap h' → s.heap.get? D = none → LI h' D (ns ++ ms) → Q (.ref D) { s with heap := h' }) : wpAny (model prog w) A (binaryOp .Add (.ref l) (.ref b)) Q E s := by
  refine PySem.P.add_list hl hb (h _ _ (Ext.push _ _) (get?_size _) ⟨vs ++ us, ⟨0, ?_⟩, hi.append hj⟩) (by simp only [List.size_toArray]; have := sizeLine_eq; omega)
  rw [Heap.get?_push_size _ rfl]
  simp
theorem intsAre_zeros (t : Tok) : ∀ k : Nat, IntsAre (List.replicate k (.int 0 t)) (List.replicate k (0 : Int))
  | 0 => .nil
  | k + 1 => .cons _ _ (intsAre_zeros t k)
theorem numbers_ {p1 p2 p3 p4 p5 p6 p7 p8 p9 : Pos} {k1 k2 k3 : Nat} {a : Nat} {vs : List Value} {ns : List Int} {m : Str → Option Value} (hl : s.heap.IsList a vs.toArray) (hi : IntsAre vs ns) (hlen : ns.length ≤ 63) (hn : s.heap.Ns env.locals m) (hk : env.kindOf "script" = some .local) (hm : m "script" = some (.ref a)) (hsc : env.scope.kind = .function)
    (h : ∀ h' tk D, Ext [] s.heap h' → s.heap.get? D = none → LI h' D (ns.take 14 ++ List.replicate 14 0) → Q (.ref D) { s with heap := h', toks := tk }) :
    wpAny (model prog w) A (eval (.BinOp (.Subscript (.Name "script" p1) (.Slice none (some (.Constant (.int 14) k1 p2)) none p3) p4) .Add (.BinOp (.List [.Constant (.int 0) k2 p5] p6) .Mult (.Constant (.int 14) k3 p7) p8) p9) env) Q E s := by
  refine wpAny_BinOp <| wpAny_Subscript_list_slice <| nmL hn hk hm (hk := hsc) <| wpAny_evalPart_none <| wpAny_evalPart_some <| wpAny_Constant_int ⟨_, _, _, _, rfl, hl, by rw [List.size_toArray, hi.length]; have := sizeLine_eq; omega, .none, .int _ _, ?_⟩
  have hsl := slice_ints_uptoW hi (y := 14) (by decide)
  generalize hh₁ : Heap.push (Heap.push _ _) _ = h₁
  have e₁ : Ext [] s.heap h₁ := by rw [← hh₁]; exact (Ext.push _ _).app (Ext.push _ _)
  have hA : h₁.get? (s.heap.objs.size + 1) = some { cls := .type "list", data := .seq (slicePick vs.toArray none (some 14) none) } := by
    rw [← hh₁]
    have hsz : (s.heap.push { cls := .type "slice", data := .fields #[.none, .int 14 s.toks, .none] }).objs.size = s.heap.objs.size + 1 := Heap.size_push ..
    rw [← hsz]
    exact Heap.get?_push_size _ rfl
  generalize hpk : slicePick vs.toArray none (some 14) none = pk at hsl hA
  dsimp only
  generalize s.heap.objs.size + 1 = S₁ at hA ⊢
  refine wpAny_BinOp <| wpAny_List <| wpAny_items_cons <| wpAny_Constant_int <| wpAny_items_nil ⟨by show 1 ≤ 2 ^ 24; decide, wpAny_Constant_int ?_⟩
  generalize hh₂ : Heap.push h₁ _ = h₂
  have e₂ : Ext [] h₁ h₂ := hh₂ ▸ Ext.push _ _
  have hB : h₂.get? h₁.objs.size = some { cls := .type "list", data := .seq #[.int 0 _] 0 } := hh₂ ▸ Heap.get?_push_size _ rfl
  dsimp only
  generalize h₁.objs.size = S₂ at hB ⊢
  refine mul14 (s := ⟨h₂, _, _, _, _⟩) hB fun h₃ S₃ e₃ d₃ hC => ?_
  replace e₃ : Ext [] h₂ h₃ := e₃
  have hA₃ : h₃.get? S₁ = some { cls := .type "list", data := .seq pk.toList.toArray } := by simpa using e₃.keep _ _ (e₂.keep _ _ hA)
  have hpl : pk.toList.length ≤ 14 := by
    rw [hsl.length, List.length_take]
    exact Nat.min_le_left _ _
  refine add_li (s := ⟨h₃, _, _, _, _⟩) hA₃ hC hsl (intsAre_zeros _ 14) (by rw [List.length_replicate]; omega) fun h₄ S₄ e₄ d₄ hD => ?_
  replace e₄ : Ext [] h₃ h₄ := e₄
  have e13 := (e₁.app e₂).app e₃
  exact h h₄ _ S₄ (e13.app e₄) (dead e13.keep d₄) hD
end
end Mine
end W61
section W63
open PySem PySem.W PyProof.Rows PySem.Calls PySem.Spec PySem.SeqAt PyProof.V
set_option maxRecDepth 100000
set_option maxHeartbeats 8000000
namespace Mine
def nmOf (ms : List Int) (k : Nat) : Int := 8 * ms[2 + k]! + k
theorem nmOf_inj {ms : List Int} {i j : Nat} (hi : i < 4) (hj : j < 4) (h : nmOf ms i = nmOf ms j) : i = j := by
  unfold nmOf at h
  omega
theorem fmod_range (a : Int) (b : Nat) (hb : 0 < b) : ∃ r : Nat, a.fmod b = r ∧ r < b := by
  have h1 := Int.fmod_nonneg_of_pos a (b := (b : Int)) (by omega)
  have h2 := Int.fmod_lt_of_pos a (b := (b : Int)) (by omega)
  exact ⟨(a.fmod b).toNat, by omega, by omega⟩
theorem intsAre_at : ∀ {vs : List Value} {ns : List Int}, IntsAre vs ns → ∀ {i : Nat} {v : Value}, vs[i]? = some v → ∃ (n : Int) (t : Tok), ns[i]? = some n ∧ v = .int n t
  | _, _, .nil, i, v, h => by simp at h
  | _, _, .cons m t h, 0, v, e => by simp at e; subst e; exact ⟨m, t, rfl, rfl⟩
  | _, _, .cons m t h, i + 1, v, e => by
    simp only [List.getElem?_cons_succ] at e ⊢
    exact intsAre_at h e
section
variable {prog : Program} {w : World} {A : Around} {E : Value → Shared → Prop} {s : Shared} {env : Env}
structure LE (prog : Program) (w : World) (h₀ : Heap) (g₀ : Array GenState) (L cN cS D Nm sz : Nat) (tz : Tok) (ms : List Int) (h : Heap) (g : Array GenState) (m : Str → Option Value) (H : Gr) : Prop where
  M : Ext [] h₀ h
  gm : GM [] g₀ g
  ns : h.Ns L m
  mN : m "names" = some (.ref Nm)
  mG : m "graph" = some (.ref H.g)
  cn : h.IsCell cN (some (.ref D))
  cs : h.IsCell cS (some (.int (sz : Nat) tz))
  lD : LI h D ms
  lN : LI h Nm ((List.range sz).map (nmOf ms))
  I : GraphAt prog w h H
  J : Gi H
  ids : H.ids = (List.range sz).map (nmOf ms)
  more : H.more = []
  vs : H.vs = []
  sym : ∀ a b, H.has a b → H.has b a
  irr : ∀ a b, H.has a b → a ≠ b
  new : ∀ a ∈ H.all, h₀.get? a = none
  off : ∀ a ∈ [L, cN, cS, D, Nm], a ∉ H.all
theorem LE.grow {h₀ h h' : Heap} {g₀ g : Array GenState} {L cN cS D Nm sz : Nat} {tz : Tok} {ms : List Int} {m : Str → Option Value} {H : Gr} (X : LE prog w h₀ g₀ L cN cS D Nm sz tz ms h g m H) {F : List Nat} (e : Ext F h h') (hF : ∀ a ∈ F, h₀.get? a = none ∧ a ∉ [L, cN, cS, D, Nm] ∧ a ∉ H.all) : LE prog w h₀ g₀ L cN cS D Nm sz tz ms h' g m H where
  M := X.M.app' e fun b hb => .inr (hF b hb).1
  gm := X.gm
  ns := X.ns.at' fun o q => e _ _ (fun z => (hF _ z).2.1 (by simp)) q
  mN := X.mN
  mG := X.mG
  cn := let ⟨o, a, b⟩ := X.cn; ⟨o, e _ _ (fun z => (hF _ z).2.1 (by simp)) a, b⟩
  cs := let ⟨o, a, b⟩ := X.cs; ⟨o, e _ _ (fun z => (hF _ z).2.1 (by simp)) a, b⟩
  lD := X.lD.at fun o q => e _ _ (fun z => (hF _ z).2.1 (by simp)) q
  lN := X.lN.at fun o q => e _ _ (fun z => (hF _ z).2.1 (by simp)) q
  I := X.I.to e fun a ha q => (hF a q).2.2 ha
  J := X.J
  ids := X.ids
  more := X.more
  vs := X.vs
  sym := X.sym
  irr := X.irr
  new := X.new
  off := X.off
theorem LE.store {h₀ h h' : Heap} {g₀ g : Array GenState} {L cN cS D Nm sz : Nat} {tz : Tok} {ms : List Int} {m : Str → Option Value} {H : Gr} (X : LE prog w h₀ g₀ L cN cS D Nm sz tz ms h g m H) {m' : Str → Option Value} (e : Heap.SameBut L h h') (hL : h₀.get? L = none) (hne : L ∉ [cN, cS, D, Nm]) (n : h'.Ns L m') (m1 : m' "names" = m "names") (m2 : m' "graph" = m "graph") : LE prog w h₀ g₀ L cN cS D Nm sz tz ms h' g m' H := by
  have e' : Ext [L] h h' := Ext.of_same e
  have one : ∀ {a b : Nat}, b ∈ ([a] : List Nat) → b = a := fun q => List.mem_singleton.mp q
  have ne : ∀ a ∈ [cN, cS, D, Nm], a ∉ ([L] : List Nat) := fun a ha q => hne (one q ▸ ha)
  exact {
    M := X.M.loc hL e
    gm := X.gm
    ns := n
    mN := m1.trans X.mN
    mG := m2.trans X.mG
    cn := let ⟨o, a, b⟩ := X.cn; ⟨o, e' _ _ (ne _ (by simp)) a, b⟩
    cs := let ⟨o, a, b⟩ := X.cs; ⟨o, e' _ _ (ne _ (by simp)) a, b⟩
    lD := X.lD.at fun o q => e' _ _ (ne _ (by simp)) q
    lN := X.lN.at fun o q => e' _ _ (ne _ (by simp)) q
    I := X.I.to e' fun a ha q => X.off L (by simp) (one q ▸ ha)
    J := X.J, ids := X.ids, more := X.more, vs := X.vs, sym := X.sym, irr := X.irr, new := X.new, off := X.off }
theorem LE.live {h₀ h : Heap} {g₀ g : Array GenState} {L cN cS D Nm sz : Nat} {tz : Tok} {ms : List Int} {m : Str → Option Value} {H : Gr} (X : LE prog w h₀ g₀ L cN cS D Nm sz tz ms h g m H) : ∀ a ∈ [L, cN, cS, D, Nm], ∃ o, h.get? a = some o := by
  intro a ha
  simp only [List.mem_cons, List.not_mem_nil, or_false] at ha
  rcases ha with rfl | rfl | rfl | rfl | rfl
  · exact nsLive X.ns
  · obtain ⟨o, a, _⟩ := X.cn; exact ⟨o, a⟩
  · obtain ⟨o, a, _⟩ := X.cs; exact ⟨o, a⟩
  · exact X.lD.live
  · exact X.lN.live
theorem edges_loop {p1 p2 p3 p4 p5 p6 p7 p8 p9 p10 p11 p12 p13 p14 p15 p16 p17 p18 p19 p20 p21 p22 p23 p24 p25 p26 p27 p28 p29 p30 p31 p32 p33 p34 p35 p36 p37 p38 p39 : Pos} {k1 k2 k3 k4 k5 k6 : Nat} {Q : Flow → Shared → Prop}
    {h₀ : Heap} {g₀ : Array GenState} {L cN cS D Nm sz : Nat} {tz : Tok} {ms : List Int} {m : Str → Option Value} {H : Gr} (hloc : env.locals = L) (hk : env.scope.kind = .function)
    (kN : env.kindOf "numbers" = some .cell) (lkN : env.cells.lookup ("numbers" : Str) = some cN) (kS : env.kindOf "size" = some .cell) (lkS : env.cells.lookup ("size" : Str) = some cS)
    (kn : env.kindOf "n" = some .local) (kg : env.kindOf "graph" = some .local) (km : env.kindOf "names" = some .local)
    {args : List Expr} {pl : Sem Bool} (hargs : args = [.Subscript (.Name "names" p24) (.BinOp (.Name "n" p25) .Mod (.Name "size" p26) p27) p28, .Subscript (.Name "names" p29) (.BinOp (.BinOp (.Name "n" p30) .FloorDiv (.Constant (.int 7) k6 p31) p32) .Mod (.Name "size" p33) p34) p35])
    (hM : eval (.Call (.Attribute (.Name "graph" p22) "add_edge" p23) args [] p36) env = (do
      let ov ← eval (.Name "graph" p22) env
      standAt p23.atName
      let (f, first) ← holding [ov] (getMethod ov "add_edge" pl)
      callWith p36 f first (backTo p36 (starEach args env)) []))
    (hI : interactive env = false) (hW : swapsWith (.Call (.Attribute (.Name "graph" p22) "add_edge" p23) args [] p36) none p37.line env = pure false)
    (hz : 1 ≤ sz ∧ sz ≤ 4) (hms : 14 ≤ ms.length ∧ ms.length ≤ 28) (hh : A.handled = none) (hroom : A.depth + 1 < recursionLimit) (hL : h₀.get? L = none) (hne : L ∉ [cN, cS, D, Nm])
    (Z₀ : Gl w h₀) (X : LE prog w h₀ g₀ L cN cS D Nm sz tz ms s.heap s.gens m H)
    (h : ∀ h' g' tk m' H', LE prog w h₀ g₀ L cN cS D Nm sz tz ms h' g' m' H' → Q .next { s with heap := h', gens := g', toks := tk }) :
    wpAny (model prog w) A (exec (.For (.Name "n" p1)
      (.Subscript (.Name "numbers" p2) (.Slice (some (.Constant (.int 7) k1 p3)) (some (.BinOp (.Constant (.int 7) k2 p4) .Add (.BinOp (.Subscript (.Name "numbers" p5) (.Constant (.int 6) k3 p6) p7) .Mod (.Constant (.int 7) k4 p8) p9) p10)) none p11) p12)
      [.If (.Compare (.BinOp (.Name "n" p13) .Mod (.Name "size" p14) p15) [.NotEq] [.BinOp (.BinOp (.Name "n" p16) .FloorDiv (.Constant (.int 7) k5 p17) p18) .Mod (.Name "size" p19) p20] p21)
        [.Expr (.Call (.Attribute (.Name "graph" p22) "add_edge" p23) args [] p36) p37] [] p38] [] p39) env) Q E s := by
  subst hloc hargs
  have one : ∀ {a b : Nat}, b ∈ ([a] : List Nat) → b = a := fun q => List.mem_singleton.mp q
  obtain ⟨vD, plD, iD⟩ := id X.lD
  have lD : s.heap.IsList D vD.toArray := plD.isList
  refine wpAny_For <| wpAny_Subscript_list_slice <| nmC X.cn kN lkN (hk := hk) <| wpAny_evalPart_some <| wpAny_Constant_int <| wpAny_evalPart_some <| wpAny_BinOp <| wpAny_Constant_int <| wpAny_BinOp <| PyProof.Rows.Subscript_ <| nmC X.cn kN lkN (hk := hk) <| wpAny_Constant_int <| subL lD <| li_get X.lD (i := 6) rfl (by omega) (by omega) fun u₆ => wpAny_Constant_int <| PyProof.Rows.mod_int (by decide) <| PySem.P.add_int ?_
  obtain ⟨q6, hq6, hlt6⟩ := fmod_range (ms[6]!) 7 (by decide)
  rw [show (ms[6]!).fmod 7 = (q6 : Int) from hq6]
  refine ⟨_, _, _, _, rfl, lD, by rw [List.size_toArray, iD.length]; have := sizeLine_eq; omega, .int _ _, .int _ _, ?_⟩
  have hsl := kmk_run iD (x := 7) (y := 7 + (q6 : Int)) (by decide) (by omega)
  generalize hpk : slicePick vD.toArray (some 7) (some (7 + (q6 : Int))) none = pk at hsl ⊢
  generalize hes : List.take _ (List.drop _ ms) = es at hsl
  generalize hh₁ : Heap.push (Heap.push _ _) _ = h₁
  have e₁ : Ext [] s.heap h₁ := by rw [← hh₁]; exact (Ext.push _ _).app (Ext.push _ _)
  have hA : h₁.get? (s.heap.objs.size + 1) = some { cls := .type "list", data := .seq pk } := by
    rw [← hh₁]
    have hsz : ∀ o, (s.heap.push o).objs.size = s.heap.objs.size + 1 := fun o => Heap.size_push ..
    rw [← hsz]
    exact Heap.get?_push_size _ rfl
  have dSl : s.heap.get? (s.heap.objs.size + 1) = none := dead_up s.heap 1
  dsimp only
  generalize s.heap.objs.size + 1 = Sl at hA dSl ⊢
  refine wpAny_pyIter_list ⟨_, hA, rfl, _, rfl⟩ ?_
  generalize hh₂ : Heap.push h₁ _ = h₂
  have e₂ : Ext [] h₁ h₂ := hh₂ ▸ Ext.push _ _
  have hit : h₂.IsListIter h₁.objs.size Sl 0 := hh₂ ▸ ⟨_, Heap.get?_push_size _ rfl, rfl, rfl⟩
  have dIt : h₁.get? h₁.objs.size = none := get?_size _
  dsimp only
  generalize h₁.objs.size = It at hit dIt ⊢
  have lSl : h₂.IsList Sl pk := ⟨_, e₂.keep _ _ hA, rfl, _, rfl⟩
  have e12 := e₁.app e₂
  have X₂ : LE prog w h₀ g₀ env.locals cN cS D Nm sz tz ms h₂ s.gens m H := X.grow e12 fun _ h => nomatch h
  have IS : It ≠ Sl := dead_ne dIt hA
  have dIt' : s.heap.get? It = none := dead e₁.keep dIt
  have offI : It ∉ [env.locals, cN, cS, D, Nm] := fun q => by obtain ⟨o, ho⟩ := X.live _ q; exact nomatch dIt'.symm.trans ho
  have offS : Sl ∉ [env.locals, cN, cS, D, Nm] := fun q => by obtain ⟨o, ho⟩ := X.live _ q; exact nomatch dSl.symm.trans ho
  have d0I : h₀.get? It = none := dead X.M.keep dIt'
  have d0S : h₀.get? Sl = none := dead X.M.keep dSl
  have W : Itr prog w A (.ref It) [It] [It, Sl] [] (.Name "n" p1) pk.size (fun i v _ => pk[i]? = some v) (fun i h _ => h.IsListIter It Sl i ∧ h.IsList Sl pk) :=
    Itr.ofWalks (Walks.list hh It Sl (Ne.symm IS) pk) (fun i h st b hb => by rw [one hb]; obtain ⟨o, ho, _⟩ := st.1; exact ⟨o, ho⟩) "n" p1
  refine for_itr W (fun i h g => ∃ m' H', LE prog w h₀ g₀ env.locals cN cS D Nm sz tz ms h g m' H' ∧ It ∉ H'.all ∧ Sl ∉ H'.all) ?_ ?_ ⟨hit, lSl⟩ ⟨m, H, X₂, X.I.all_new dIt', X.I.all_new dSl⟩
  · rintro i h g tk v h₃ g₃ fv hi ⟨m', H', Y, oI, oS⟩ itm st₃ eo eg E'
    have hv : pk[i]? = some v := itm.is h₃ fun _ _ _ e => e
    obtain ⟨n, t, _, rfl⟩ := intsAre_at hsl (by simpa using hv)
    have Y₃' : LE prog w h₀ g₀ env.locals cN cS D Nm sz tz ms h₃ g m' H' := Y.grow eo fun a ha => by rw [one ha]; exact ⟨d0I, offI, oI⟩
    have Y₃ : LE prog w h₀ g₀ env.locals cN cS D Nm sz tz ms h₃ g₃ m' H' := { Y₃' with gm := Y₃'.gm.trans eg }
    refine wpAny_assign_Name (stL (s := ⟨h₃, g₃, s.drawn, tk, s.os⟩) Y₃.ns kn (fun h₄ n₄ s₄ => ?_) (by rw [hk]; rfl))
    replace s₄ : Heap.SameBut env.locals h₃ h₄ := s₄
    obtain ⟨m₄, n₄, hm4n, hm41, hm42⟩ : ∃ m'', h₄.Ns env.locals m'' ∧ m'' ("n" : Str) = some (.int n t) ∧ m'' ("names" : Str) = m' ("names" : Str) ∧ m'' ("graph" : Str) = m' ("graph" : Str) := ⟨_, n₄, rfl, rfl, rfl⟩
    have Y₄ := Y₃.store s₄ hL hne n₄ hm41 hm42
    have LIt : env.locals ≠ It := fun q => offI (by rw [← q]; simp)
    have LSl : env.locals ≠ Sl := fun q => offS (by rw [← q]; simp)
    have st₄ : h₄.IsListIter It Sl (i + 1) ∧ h₄.IsList Sl pk := ⟨st₃.1.at fun o q => s₄.extBut _ _ LIt.symm q, st₃.2.at fun o q => s₄.extBut _ _ LSl.symm q⟩
    clear n₄ s₄ Y₃ Y₃' Y st₃ eo itm
    obtain ⟨r1, hr1, hlt1⟩ := fmod_range n sz (by omega)
    obtain ⟨r2, hr2, hlt2⟩ := fmod_range (n.fdiv 7) sz (by omega)
    refine at_ h₄ g₃ s.drawn s.os fun t₄ => ?_
    refine wpAny_execs_cons <| wpAny_If <| wpAny_isTrue_Compare1 <| wpAny_BinOp <| nmL (s := ⟨h₄, g₃, s.drawn, t₄, s.os⟩) Y₄.ns kn hm4n (hk := hk) <| nmC Y₄.cs kS lkS (hk := hk) <| PyProof.Rows.mod_int (by omega) <| wpAny_BinOp <| wpAny_BinOp <| nmL Y₄.ns kn hm4n (hk := hk) <| wpAny_Constant_int <| PyProof.Rows.floordiv_int (by decide) <| nmC Y₄.cs kS lkS (hk := hk) <| PyProof.Rows.mod_int (by omega) <| PySem.P.ne_int <| wpAny_truthy_bool ?_
    rw [hr1, hr2]
    by_cases hr : r1 = r2
    · rw [show (((r1 : Int) != r2) = false) from by subst hr; simp]
      simp only [Bool.false_eq_true, if_false]
      exact wpAny_execs_nil <| wpAny_execs_nil ⟨rfl, h₄, g₃, _, rfl, ⟨m₄, H', Y₄, oI, oS⟩, st₄⟩
    · rw [show (((r1 : Int) != r2) = true) from by simp; omega]
      simp only [if_true]
      obtain ⟨vN, lN⟩ := Y₄.lN.isList
      have idAt : ∀ r, r < sz → ((List.range sz).map (nmOf ms))[r]! = nmOf ms r := fun r hr => by
        rw [getElem!_pos _ r (by simpa using hr)]; simp
      have inIds : ∀ r, r < sz → nmOf ms r ∈ H'.ids := fun r hr => by
        rw [Y₄.ids]; exact List.mem_map_of_mem (List.mem_range.mpr hr)
      have Z₄ := Z₀.keep Y₄.M.keep
      refine at_ h₄ g₃ s.drawn s.os fun t₅ => ?_
      refine wpAny_execs_cons <| wpAny_Expr_any (hi := hI) (hs := hW) <| MethodCall_ (he := hM) <| nmL (s := ⟨h₄, g₃, s.drawn, t₅, s.os⟩) Y₄.ns kg Y₄.mG (hk := hk) <| gb_meth Z₄ Y₄.I.gb (f := 485) (by kernel_rfl) (by kernel_rfl) (Y₄.I.bare (by decide)) <| cwF (w := w) (by kernel_rfl) <| wpAny_items_cons <| PyProof.Rows.Subscript_ <| nmL Y₄.ns km Y₄.mN (hk := hk) <| wpAny_BinOp <| nmL Y₄.ns kn hm4n (hk := hk) <| nmC Y₄.cs kS lkS (hk := hk) <| PyProof.Rows.mod_int (by omega) <| subL lN <| li_get Y₄.lN (i := r1) hr1 (by simpa using hlt1) (by simp; omega) fun u1 =>
        wpAny_items_cons <| PyProof.Rows.Subscript_ <| nmL Y₄.ns km Y₄.mN (hk := hk) <| wpAny_BinOp <| wpAny_BinOp <| nmL Y₄.ns kn hm4n (hk := hk) <| wpAny_Constant_int <| PyProof.Rows.floordiv_int (by decide) <| nmC Y₄.cs kS lkS (hk := hk) <| PyProof.Rows.mod_int (by omega) <| subL lN <| li_get Y₄.lN (i := r2) hr2 (by simpa using hlt2) (by simp; omega) fun u2 => wpAny_items_nil ⟨Z₄, ?_⟩
      rw [idAt r1 hlt1, idAt r2 hlt2]
      refine at_ h₄ g₃ s.drawn s.os fun t₆ => ?_
      refine sp_add_edge (s := ⟨h₄, g₃, s.drawn, t₆, s.os⟩) Z₄ Y₄.I Y₄.J hroom hh (inIds r1 hlt1) (inIds r2 hlt2) (fun q => hr (nmOf_inj (by omega) (by omega) q)) u1 u2 fun h₅ tk₅ H₅ e₅ I₅ J₅ sh₅ gr₅ has₅ => ?_
      replace e₅ : Ext H'.all h₄ h₅ := e₅
      replace gr₅ : Grow h₄ H' H₅ := gr₅
      have st₅ : h₅.IsListIter It Sl (i + 1) ∧ h₅.IsList Sl pk := ⟨st₄.1.at fun o q => e₅ _ _ oI q, st₄.2.at fun o q => e₅ _ _ oS q⟩
      have liveI : ∃ o, h₄.get? It = some o := let ⟨o, a, _⟩ := st₄.1; ⟨o, a⟩
      have liveS : ∃ o, h₄.get? Sl = some o := let ⟨o, a, _⟩ := st₄.2; ⟨o, a⟩
      have Y₅ : LE prog w h₀ g₀ env.locals cN cS D Nm sz tz ms h₅ g₃ m₄ H₅ := {
        M := Y₄.M.app' e₅ fun b hb => .inr (Y₄.new b hb)
        gm := Y₄.gm
        ns := Y₄.ns.at' fun o q => e₅ _ _ (Y₄.off _ (by simp)) q
        mN := Y₄.mN
        mG := by rw [sh_g sh₅]; exact Y₄.mG
        cn := let ⟨o, a, b⟩ := Y₄.cn; ⟨o, e₅ _ _ (Y₄.off _ (by simp)) a, b⟩
        cs := let ⟨o, a, b⟩ := Y₄.cs; ⟨o, e₅ _ _ (Y₄.off _ (by simp)) a, b⟩
        lD := Y₄.lD.at fun o q => e₅ _ _ (Y₄.off _ (by simp)) q
        lN := Y₄.lN.at fun o q => e₅ _ _ (Y₄.off _ (by simp)) q
        I := I₅
        J := J₅
        ids := (sh_ids sh₅).trans Y₄.ids
        more := by have := sh₅; simp only [Gr.sh, Prod.mk.injEq] at this; exact this.2.2.2.2.2.1.trans Y₄.more
        vs := by have := sh₅; simp only [Gr.sh, Prod.mk.injEq] at this; exact this.2.2.2.2.2.2.1.trans Y₄.vs
        sym := fun a b q => by
          rw [has₅] at q ⊢
          rcases q with q | ⟨rfl, rfl⟩ | ⟨rfl, rfl⟩
          · exact .inl (Y₄.sym _ _ q)
          · exact .inr (.inr ⟨rfl, rfl⟩)
          · exact .inr (.inl ⟨rfl, rfl⟩)
        irr := fun a b q => by
          rw [has₅] at q
          rcases q with q | ⟨rfl, rfl⟩ | ⟨rfl, rfl⟩
          · exact Y₄.irr _ _ q
          · exact fun q => hr (nmOf_inj (by omega) (by omega) q)
          · exact fun q => hr (nmOf_inj (by omega) (by omega) q.symm)
        new := fun a ha => (gr₅ a ha).elim (Y₄.new a) fun q => dead Y₄.M.keep q
        off := fun a ha => let ⟨o, ho⟩ := Y₄.live a ha; gr₅.off ho (Y₄.off a ha) }
      exact wpAny_execs_nil <| wpAny_execs_nil ⟨rfl, h₅, g₃, _, rfl, ⟨m₄, H₅, Y₅, let ⟨o, ho⟩ := liveI; gr₅.off ho oI, let ⟨o, ho⟩ := liveS; gr₅.off ho oS⟩, st₅⟩
  · intro h' g tk h₁' g₁' hI eo eg
    obtain ⟨m', H', Y, oI, oS⟩ := hI
    have Y' := Y.grow eo fun a ha => by rw [one ha]; exact ⟨d0I, offI, oI⟩
    exact h _ _ _ m' H' { Y' with gm := Y'.gm.trans eg }
end
end Mine
end W63
section W64
open PySem PySem.W PyProof.Rows PySem.Calls PySem.Spec PySem.SeqAt PyProof.V
set_option maxRecDepth 100000
set_option maxHeartbeats 8000000
namespace Mine
section
variable {prog : Program} {w : World} {A : Around} {E : Value → Shared → Prop} {s : Shared} {env : Env}
structure LT (w : World) (h₀ : Heap) (g₀ : Array GenState) (L cS sz r c R T : Nat) (fv gv : List Nat) (rows told : List (List Nat)) (h : Heap) (g : Array GenState) (m : Str → Option Value) : Prop where
  M : Ext pools h₀ h
  Z : Gl w h
  gm : GM [] g₀ g
  ns : h.Ns L m
  mR : m "rows" = some (.ref R)
  mT : m "told" = some (.ref T)
  mr : ∃ t, m "rounds" = some (.int (r : Nat) t)
  mc : ∃ t, m "colours" = some (.int (c : Nat) t)
  cs : ∃ t, h.IsCell cS (some (.int (sz : Nat) t))
  X : RL h R fv rows
  Y : RL h T gv told
  nf : L ∉ fv
  ng : L ∉ gv
  lf : ∀ b ∈ fv, ∃ o, h.get? b = some o
  lg : ∀ b ∈ gv, ∃ o, h.get? b = some o
section
variable {h₀ h h' : Heap} {g₀ g : Array GenState} {L cS sz r c R T : Nat} {fv gv : List Nat} {rows told : List (List Nat)} {m m' : Str → Option Value}
theorem LT.grow (x : LT w h₀ g₀ L cS sz r c R T fv gv rows told h g m) (e : Ext [] h h') : LT w h₀ g₀ L cS sz r c R T fv gv rows told h' g m :=
  { x with M := x.M.app (Ext.of_keep e.keep _), Z := x.Z.keep e.keep, ns := x.ns.keeps e.keep, cs := let ⟨t, a⟩ := x.cs; ⟨t, a.keeps e.keep⟩, X := x.X.at fun _ _ _ q => e.keep _ _ q, Y := x.Y.at fun _ _ _ q => e.keep _ _ q, lf := fun b hb => let ⟨o, q⟩ := x.lf b hb; ⟨o, e.keep _ _ q⟩, lg := fun b hb => let ⟨o, q⟩ := x.lg b hb; ⟨o, e.keep _ _ q⟩ }
theorem LT.store (x : LT w h₀ g₀ L cS sz r c R T fv gv rows told h g m) (e : Heap.SameBut L h h') (hL : h₀.get? L = none) (hl : 709 ≤ L) (hc : cS ≠ L) (n : h'.Ns L m') (h1 : m' "rows" = m "rows") (h2 : m' "told" = m "told") (h3 : m' "rounds" = m "rounds") (h4 : m' "colours" = m "colours") : LT w h₀ g₀ L cS sz r c R T fv gv rows told h' g m' :=
  have e' : Ext [L] h h' := Ext.of_same e
  have one : ∀ {a b : Nat}, b ∈ ([a] : List Nat) → b = a := fun q => List.mem_singleton.mp q
  { x with
    M := x.M.loc hL e
    Z := x.Z.ext e' fun a ha => by rw [one ha]; exact hl
    ns := n
    mR := h1.trans x.mR
    mT := h2.trans x.mT
    mr := let ⟨t, a⟩ := x.mr; ⟨t, h3.trans a⟩
    mc := let ⟨t, a⟩ := x.mc; ⟨t, h4.trans a⟩
    cs := let ⟨t, o, a, b⟩ := x.cs; ⟨t, o, e' _ _ (fun q => hc (one q)) a, b⟩
    X := x.X.at fun b hb o q => e' _ _ (fun z => x.nf (one z ▸ hb)) q
    Y := x.Y.at fun b hb o q => e' _ _ (fun z => x.ng (one z ▸ hb)) q
    lf := fun b hb => let ⟨o, q⟩ := x.lf b hb; ⟨o, e' _ _ (fun z => x.nf (one z ▸ hb)) q⟩
    lg := fun b hb => let ⟨o, q⟩ := x.lg b hb; ⟨o, e' _ _ (fun z => x.ng (one z ▸ hb)) q⟩ }
theorem LT.turn (x : LT w h₀ g₀ L cS sz r c R T fv gv rows told h g m) {It : Nat} (e : Ext [It] h h') (d : h₀.get? It = none) (hI : 709 ≤ It) (hL : It ≠ L) (hc : It ≠ cS) (hf : It ∉ fv) (hg : It ∉ gv) : LT w h₀ g₀ L cS sz r c R T fv gv rows told h' g m :=
  have one : ∀ {a b : Nat}, b ∈ ([a] : List Nat) → b = a := fun q => List.mem_singleton.mp q
  { x with
    M := x.M.app' e fun b hb => .inr (by rw [one hb]; exact d)
    Z := x.Z.ext e fun a ha => by rw [one ha]; exact hI
    ns := x.ns.at' fun o q => e _ _ (fun z => hL (one z).symm) q
    cs := let ⟨t, o, a, b⟩ := x.cs; ⟨t, o, e _ _ (fun q => hc (one q).symm) a, b⟩
    X := x.X.at fun b hb o q => e _ _ (fun z => hf (one z ▸ hb)) q
    Y := x.Y.at fun b hb o q => e _ _ (fun z => hg (one z ▸ hb)) q
    lf := fun b hb => let ⟨o, q⟩ := x.lf b hb; ⟨o, e _ _ (fun z => hf (one z ▸ hb)) q⟩
    lg := fun b hb => let ⟨o, q⟩ := x.lg b hb; ⟨o, e _ _ (fun z => hg (one z ▸ hb)) q⟩ }
theorem LT.lR (x : LT w h₀ g₀ L cS sz r c R T fv gv rows told h g m) : ∃ vs, h.IsList R vs := let ⟨_, _, a, _⟩ := x.X.is; ⟨_, _, a, rfl, _, rfl⟩
theorem LT.lT (x : LT w h₀ g₀ L cS sz r c R T fv gv rows told h g m) : ∃ vs, h.IsList T vs := let ⟨_, _, a, _⟩ := x.Y.is; ⟨_, _, a, rfl, _, rfl⟩
end
theorem RL.trim {h : Heap} {R : Nat} {fv : List Nat} {ls : List (List Nat)} (x : RL h R fv ls) : ∃ fv', RL h R fv' ls ∧ (∀ b ∈ fv', ∃ o, h.get? b = some o) ∧ ∀ b ∈ fv', b ∈ fv := by
  obtain ⟨acc, c, a, b, d⟩ := x.is
  let fv' : List Nat := R :: acc.toList.filterMap fun v => match v with | .ref S => some S | _ => none
  have inn : ∀ y ∈ fv', y = R ∨ ∃ j : Nat, acc[j]? = some (.ref y) := fun y hy => by
    rcases List.mem_cons.mp hy with rfl | hy
    · exact .inl rfl
    · obtain ⟨v, hv, e⟩ := List.mem_filterMap.mp hy
      obtain ⟨j, hj⟩ := List.mem_iff_getElem?.mp hv
      cases v with
      | ref S => cases e; exact .inr ⟨j, by simpa using hj⟩
      | _ => cases e
  refine ⟨fv', ⟨.head _, acc, c, a, b, fun j v q => ?_⟩, fun y hy => ?_, fun y hy => ?_⟩
  · obtain ⟨S, hS, rfl, il⟩ := d j v q
    exact ⟨S, .tail _ (List.mem_filterMap.mpr ⟨_, List.mem_of_getElem? (by simpa using q), rfl⟩), rfl, il⟩
  · rcases inn y hy with rfl | ⟨j, hj⟩
    · exact ⟨_, a⟩
    · obtain ⟨S, _, e, il⟩ := d j _ hj
      cases e
      exact il.live
  · rcases inn y hy with rfl | ⟨j, hj⟩
    · exact x.top
    · obtain ⟨S, hS, e, _⟩ := d j _ hj
      cases e
      exact hS
abbrev oneScope : Scope := { kind := .function, names := [(".0", .local), ("one", .local), ("size", .free)], isGenerator := false, isCoroutine := false, more := [] }
theorem il_len_of {h : Heap} {S : Nat} {ns : List Nat} (x : IL h S ns) : ∃ vs, h.IsList S vs ∧ vs.size = ns.length := let ⟨vs, a, _, hl⟩ := x.len; ⟨vs.toArray, a.isList, by rw [List.size_toArray, hl]⟩
theorem sorted_loop {p1 p2 p3 p4 p5 p6 p7 p8 p9 p10 p11 p12 p13 p14 p15 p16 p17 p18 p19 p20 p21 p22 p23 p24 : Pos} {k1 : Nat} {Q : Flow → Shared → Prop}
    {h₀ : Heap} {g₀ : Array GenState} {L cS sz r c R T : Nat} {fv gv : List Nat} {rows told : List (List Nat)} {m : Str → Option Value} (hloc : env.locals = L) (hk : env.scope.kind = .function) (hg : env.globals = mainGlobals) (hbi : env.builtins = builtinsNs)
    (kS : env.kindOf "size" = some .cell) (lkS : env.cells.lookup ("size" : Str) = some cS) (kk : env.kindOf "k" = some .local) (kt : env.kindOf "told" = some .local) (kr : env.kindOf "rows" = some .local) (krg : env.kindOf "range" = some .globalImplicit) (kst : env.kindOf "sorted" = some .globalImplicit)
    (hcl : closureFor oneScope env = pure [(("size" : Str), cS)]) (hck : ∀ C, (compEnvC oneScope [(("size" : Str), cS)] C env).kindOf "size" = some .cell)
    (hh : A.handled = none) (hu : A.units + 80 < cLine) (hL : h₀.get? L = none) (hl : 709 ≤ L) (hcL : cS ≠ L)
    (hz : sz ≤ rows.length ∧ rows.length ≤ told.length ∧ told.length ≤ 30) (hr : ∀ i, i < rows.length → (rows[i]!).length ≤ 30) (ht : ∀ i, i < told.length → (told[i]!).length ≤ 30)
    (hp : ∀ i, i < sz → ((told[i]!).filter fun k => decide (k < sz)).Perm (rows[i]!))
    (X : LT w h₀ g₀ L cS sz r c R T fv gv rows told s.heap s.gens m)
    (h : ∀ h' g' tk m', LT w h₀ g₀ L cS sz r c R T fv gv rows told h' g' m' → Q .next { s with heap := h', gens := g', toks := tk }) :
    wpAny (model prog w) A (exec (.For (.Name "k" p1) (.Call (.Name "range" p2) [.Name "size" p3] [] p4)
      [.If (.Compare (.Call (.Name "sorted" p5) [.ListComp (.Name "one" p6) [⟨.Name "one" p7, .Subscript (.Name "told" p8) (.Name "k" p9) p10, [.Compare (.Name "one" p11) [.Lt] [.Name "size" p12] p13], 0⟩] oneScope p14] [] p15) [.NotEq] [.Call (.Name "sorted" p16) [.Subscript (.Name "rows" p17) (.Name "k" p18) p19] [] p20] p21)
        [.Return (some (.Constant (.bool false) k1 p22)) p23] [] p24] [] p24) env) Q E s := by
  subst hloc
  have one : ∀ {a b : Nat}, b ∈ ([a] : List Nat) → b = a := fun q => List.mem_singleton.mp q
  obtain ⟨ts, hts⟩ := X.cs
  refine wpAny_For <| Call_ <| nmB X.Z (by kernel_rfl) krg PyProof.Rows.boot_range (by decide) (hk := hk) (hg := hg) (hb := hbi) <| cwT <| wpAny_items_cons <| nmC hts kS lkS (hk := hk) <| wpAny_items_nil <| call_range_1 ?_
  generalize hh₁ : Heap.push s.heap _ = h₁
  have e₁ : Ext [] s.heap h₁ := hh₁ ▸ Ext.push _ _
  have hr₁ : IsRange h₁ s.heap.objs.size (0 : Nat) (sz : Nat) 1 _ _ _ := hh₁ ▸ Heap.get?_push_size _ rfl
  generalize s.heap.objs.size = Rg at hr₁ ⊢
  refine range_iter (n := sz) hr₁ (by omega) ⟨by omega, by omega⟩ (by omega) fun h₂ It e₂ dIt leI ltI hit => ?_
  replace e₂ : Ext [] h₁ h₂ := e₂
  replace dIt : h₁.get? It = none := dIt
  have hit' : IsRangeIter h₂ It (((0 : Nat) : Int) + ((0 : Nat) : Int) * 1) (((sz : Nat) : Int) - ((0 : Nat) : Int)) 1 := by simpa using hit
  have e02 := e₁.app e₂
  have X₂ := X.grow e02
  have dIs : s.heap.get? It = none := dead e₁.keep dIt
  obtain ⟨oL, hoL⟩ := nsLive X.ns
  have IL' : It ≠ env.locals := dead_ne dIs hoL
  have W : Itr prog w A (.ref It) [It] [It] [] (.Name "k" p1) sz (fun i v _ => i < sz ∧ ∃ t, v = Value.int (((0 : Nat) : Int) + (i : Int) * 1) t) (fun i h _ => IsRangeIter h It (((0 : Nat) : Int) + (i : Int) * 1) (((sz : Nat) : Int) - (i : Int)) 1) :=
    Itr.ofWalks (walksLt (Walks.range hh It ((0 : Nat) : Int) 1 sz)) (fun i h st b hb => by rw [one hb]; exact ⟨_, st⟩) "k" p1
  have d0I : h₀.get? It = none := by
    cases q : h₀.get? It with
    | none => rfl
    | some o =>
      by_cases hb : It ∈ pools
      · obtain ⟨ps, hps, _⟩ := X.Z.pool It hb
        exact nomatch hps.symm.trans dIs
      · exact nomatch (X.M _ _ hb q).symm.trans dIs
  have offv : It ∉ fv := fun q => let ⟨o, ho⟩ := X.lf _ q; nomatch dIs.symm.trans ho
  have offg : It ∉ gv := fun q => let ⟨o, ho⟩ := X.lg _ q; nomatch dIs.symm.trans ho
  have offc : It ≠ cS := let ⟨o, ho, _⟩ := hts; dead_ne dIs ho
  have I9 : 709 ≤ It := Nat.le_trans (X.grow e₁).Z.big leI
  have turn : ∀ {h h' : Heap} {g : Array GenState} {m' : Str → Option Value}, LT w h₀ g₀ env.locals cS sz r c R T fv gv rows told h g m' → Ext [It] h h' → LT w h₀ g₀ env.locals cS sz r c R T fv gv rows told h' g m' := fun Y e => Y.turn e d0I I9 IL' offc offv offg
  refine for_itr W (fun i h g => ∃ m', LT w h₀ g₀ env.locals cS sz r c R T fv gv rows told h g m') ?_ ?_ hit' ⟨m, X₂⟩
  · rintro i h g tk v h₃ g₃ fv' hi ⟨m', Y⟩ itm st₃ eo eg E'
    obtain ⟨_, t, rfl⟩ : i < sz ∧ ∃ t, v = Value.int (((0 : Nat) : Int) + (i : Int) * 1) t := itm.is h₃ fun _ _ _ e => e
    rw [show ((0 : Nat) : Int) + (i : Int) * 1 = (i : Int) from by omega]
    have Y₃' := turn Y eo
    have Y₃ : LT w h₀ g₀ env.locals cS sz r c R T fv gv rows told h₃ g₃ m' := { Y₃' with gm := Y₃'.gm.trans eg }
    refine wpAny_assign_Name (stL (s := ⟨h₃, g₃, s.drawn, tk, s.os⟩) Y₃.ns kk (fun h₄ n₄ s₄ => ?_) (by rw [hk]; rfl))
    replace s₄ : Heap.SameBut env.locals h₃ h₄ := s₄
    obtain ⟨m₄, n₄, hm4, q1, q2, q3, q4⟩ : ∃ m'', h₄.Ns env.locals m'' ∧ m'' ("k" : Str) = some (.int (i : Nat) t) ∧ m'' ("rows" : Str) = m' ("rows" : Str) ∧ m'' ("told" : Str) = m' ("told" : Str) ∧ m'' ("rounds" : Str) = m' ("rounds" : Str) ∧ m'' ("colours" : Str) = m' ("colours" : Str) := ⟨_, n₄, rfl, rfl, rfl, rfl, rfl⟩
    have Y₄ := Y₃.store s₄ hL hl hcL n₄ q1 q2 q3 q4
    have st₄ : IsRangeIter h₄ It (((0 : Nat) : Int) + ((i + 1 : Nat) : Int) * 1) (((sz : Nat) : Int) - ((i + 1 : Nat) : Int)) 1 := s₄.extBut _ _ IL' st₃
    clear n₄ s₄ Y₃ Y₃' Y st₃ eo itm
    refine at_ h₄ g₃ s.drawn s.os fun t₄ => ?_
    obtain ⟨vT, lT⟩ := Y₄.lT
    obtain ⟨tc, htc⟩ := Y₄.cs
    have hi2 : i < told.length := by omega
    refine wpAny_execs_cons <| wpAny_If <| wpAny_isTrue_Compare1 <| Call_ <| nmB (s := ⟨h₄, g₃, s.drawn, t₄, s.os⟩) Y₄.Z (by kernel_rfl) kst boot_sorted (by decide) (hk := hk) (hg := hg) (hb := hbi) <| cwB <| wpAny_items_cons <| il_comp (cl := [(("size" : Str), (cS : Nat))]) (fun k => decide (k < sz)) (fun k => k) hcl (by decide) (by rfl) (by decide) (by rfl) ?_
    refine PyProof.Rows.Subscript_ <| nmL Y₄.ns kt Y₄.mT (hk := hk) <| nmL Y₄.ns kk hm4 (hk := hk) <| subL lT <| rl_get Y₄.Y rfl hi2 (by omega) fun S hS il => il_iter il fun h₅ I vs e₅ dI leI5 ltI5 ltS IS st hsz hv =>
        ⟨I, [I, S], [I], vs.size, (fun i v => vs[i]? = some v), _, rfl, Walks.list (by exact hh) I S IS.symm vs, by rw [hsz]; have := ht _ hi2; omega, st, ?_, told[i]!, hsz.symm, hv, il_quiet hv ?_ ?_, fun D h₆ tk₆ dD hD e₆ => ?_⟩
    · intro b hb
      simp only [List.mem_cons, List.not_mem_nil, or_false] at hb
      rcases hb with rfl | rfl
      · exact ltI5
      · exact ltS
    · intro C' k tk' s₃ m₃ E' Q' hk2 hn hm' keep hQ
      have e' : Ext [I] h₅ s₃.heap := keep
      have c5 : s₃.heap.IsCell cS (some (.int (sz : Nat) tc)) := let ⟨o, a, b⟩ := htc; ⟨o, e' _ _ (fun q => dead_ne dI a (one q).symm) (e₅.keep _ _ a), b⟩
      refine wpAny_isTrue_Compare1 <| nmL hn (by rfl) hm' <| nmC c5 (hck C') (by rfl) <| PyProof.Rows.lt_int <| wpAny_truthy_bool ?_
      rw [show decide ((k : Int) < (sz : Nat)) = decide (k < sz) from by simp]
      exact hQ s₃.heap _ (fun _ _ _ e => e)
    · intro C' k tk' s₃ m₃ E' Q' hk2 hpk hn hm' keep hQ
      exact nmL hn (by rfl) hm' <| hQ s₃.heap s₃.toks tk' (fun _ _ _ e => e)
    replace e₆ : Ext [I] h₅ h₆ := e₆
    replace dD : h₅.get? D = none := dD
    replace dI : h₄.get? I = none := dI
    replace e₅ : Ext [] h₄ h₅ := e₅
    have e46 : Ext [] h₄ h₆ := e₅.app' e₆ fun b hb => .inr (by rw [one hb]; exact dI)
    rw [List.map_id'] at hD
    have Y₆ := Y₄.grow e46
    refine wpAny_items_nil <| il_sorted (s := ⟨h₆, g₃, s.drawn, tk₆, s.os⟩) hD (by have := List.length_filter_le (fun k => decide (k < sz)) (told[i]!); have := ht _ hi2; omega) fun h₇ T1 vs1 ns1 e₇ dT1 lT1 iT1 pT1 sT1 => ?_
    replace e₇ : Ext [] h₆ h₇ := e₇
    have Y₇ := Y₆.grow e₇
    obtain ⟨vR, lR⟩ := Y₇.lR
    have hi3 : i < rows.length := by omega
    refine Call_ <| nmB (s := ⟨h₇, g₃, s.drawn, tk₆, s.os⟩) Y₇.Z (by kernel_rfl) kst boot_sorted (by decide) (hk := hk) (hg := hg) (hb := hbi) <| cwB <| wpAny_items_cons <| PyProof.Rows.Subscript_ <| nmL Y₇.ns kr Y₇.mR (hk := hk) <| nmL Y₇.ns kk hm4 (hk := hk) <| subL lR <| rl_get Y₇.X rfl hi3 (by omega) fun S2 _ il2 => wpAny_items_nil <| il_sorted il2 (by have := hr _ hi3; omega) fun h₈ T2 vs2 ns2 e₈ dT2 lT2 iT2 pT2 sT2 => ?_
    replace e₈ : Ext [] h₇ h₈ := e₈
    have Y₈ := Y₇.grow e₈
    have heq : ns1 = ns2 := sorted_uniq (pT1.trans (((hp i hi).map _).trans pT2.symm)) sT1 sT2
    refine ne_intsK (lT1.at fun o q => e₈.keep _ _ q) iT1 lT2 iT2 (by omega) <| wpAny_truthy_bool ?_
    rw [decide_eq_true heq]
    simp only [Bool.not_true, Bool.false_eq_true, if_false]
    exact wpAny_execs_nil <| wpAny_execs_nil ⟨rfl, h₈, g₃, _, rfl, ⟨m₄, Y₈⟩, e₈.keep _ _ (e₇.keep _ _ (e46.keep _ _ st₄))⟩
  · intro h' g tk h₁' g₁' hI eo eg
    obtain ⟨m', Y⟩ := hI
    have Y' := turn Y eo
    exact h _ _ _ m' { Y' with gm := Y'.gm.trans eg }
end
end Mine
end W64
section W65
open PySem PySem.W PyProof.Rows PySem.Calls PySem.Spec PySem.SeqAt PyProof.V
set_option maxRecDepth 100000
set_option maxHeartbeats 8000000
namespace Mine
section
variable {prog : Program} {w : World} {A : Around} {E : Value → Shared → Prop} {s : Shared} {env : Env}
theorem bind3 {T : Nat} {a b c : Value} {x y z : Str} {m : Str → Option Value} {Q : Unit → Shared → Prop} (hh : A.handled = none) (ht : s.heap.IsTuple T #[a, b, c]) (n : s.heap.Ns env.locals m) (hx : env.kindOf x = some .local) (hy : env.kindOf y = some .local) (hz : env.kindOf z = some .local) (hp : env.scope.kind = .function)
    (h : ∀ h₁ h₂ h₃ h₄ tk, Ext [] s.heap h₁ → Heap.SameBut env.locals h₁ h₂ → Heap.SameBut env.locals h₂ h₃ → Heap.SameBut env.locals h₃ h₄ → h₂.Ns env.locals (fun v => if v = z then some c else m v) → h₃.Ns env.locals (fun v => if v = y then some b else if v = z then some c else m v) →
      h₄.Ns env.locals (fun v => if v = x then some a else if v = y then some b else if v = z then some c else m v) → Q () { s with heap := h₄, toks := tk }) :
    wpAny (model prog w) A (unpackItems (.ref T) [x, y, z].length none) (fun items s₂ => wpAny (model prog w) A (assignInOrder ([x, y, z].reverse.map fun n => bindName env n) items.reverse) Q E s₂) E s := by
  have hp' : (env.scope.kind == .class || (env.scope.kind == .module && env.locals != env.globals)) = false := by rw [hp]; rfl
  show wpAny _ _ (unpackItems (.ref T) (#[a, b, c] : Array Value).size none) _ _ _
  refine wpAny_unpackItems_tuple hh ht fun h₁ e₁ => ?_
  have k₁ : ∀ b o, s.heap.get? b = some o → h₁.get? b = some o := fun b o q => e₁ b o (Nat.ne_of_lt (Heap.lt_size q)) q
  show wpAny _ _ (do holding [b, a] (bindName env z c); do holding [a] (bindName env y b); do holding [] (bindName env x a); pure ()) _ _ _
  refine wpAny_bind (wpAny_holding (bindName_ (stL (n.keeps k₁) hz (fun h₂ n₂ s₂ => ?_) hp')))
  refine wpAny_bind (wpAny_holding (bindName_ (stL n₂ hy (fun h₃ n₃ s₃ => ?_) hp')))
  refine wpAny_bind (wpAny_holding (bindName_ (stL n₃ hx (fun h₄ n₄ s₄ => wpAny_pure ?_) hp')))
  exact h h₁ h₂ h₃ h₄ _ (Ext.of_keep k₁ _) s₂ s₃ s₄ n₂ n₃ n₄
def Told3 (m : Str → Option Value) (x : Nat × Nat × Nat) : Prop := ∃ t1 t2 t3, m "nodes" = some (.int (x.1 : Nat) t1) ∧ m "edges" = some (.int (x.2.1 : Nat) t2) ∧ m "threes" = some (.int (x.2.2 : Nat) t3)
theorem store3 {h₀ : Heap} {g₀ g : Array GenState} {L cS sz r c R T : Nat} {fv gv : List Nat} {rows told : List (List Nat)} {m : Str → Option Value} {Tp : Nat} {a b d : Value} {Q : Unit → Shared → Prop}
    (hloc : env.locals = L) (hk : env.scope.kind = .function) (k1 : env.kindOf "nodes" = some .local) (k2 : env.kindOf "edges" = some .local) (k3 : env.kindOf "threes" = some .local) (hh : A.handled = none) (hL : h₀.get? L = none) (hl : 709 ≤ L) (hcL : cS ≠ L)
    (X : LT w h₀ g₀ L cS sz r c R T fv gv rows told s.heap g m) (ht : s.heap.IsTuple Tp #[a, b, d])
    (h : ∀ h' tk m', LT w h₀ g₀ L cS sz r c R T fv gv rows told h' g m' → (m' "nodes" = some a ∧ m' "edges" = some b ∧ m' "threes" = some d) → (∀ o q, q ≠ L → s.heap.get? q = some o → h'.get? q = some o) → Q () { s with heap := h', toks := tk }) :
    wpAny (model prog w) A (unpackItems (.ref Tp) [("nodes" : Str), "edges", "threes"].length none) (fun items s₂ => wpAny (model prog w) A (assignInOrder ([("nodes" : Str), "edges", "threes"].reverse.map fun n => bindName env n) items.reverse) Q E s₂) E s := by
  subst hloc
  refine bind3 hh ht X.ns k1 k2 k3 hk fun h₁ h₂ h₃ h₄ tk e₁ s₂ s₃ s₄ n₂ n₃ n₄ => ?_
  have X₁ := X.grow e₁
  have X₂ := X₁.store s₂ hL hl hcL n₂ rfl rfl rfl rfl
  have X₃ := X₂.store s₃ hL hl hcL n₃ rfl rfl rfl rfl
  have X₄ := X₃.store s₄ hL hl hcL n₄ rfl rfl rfl rfl
  exact h h₄ tk _ X₄ ⟨rfl, rfl, rfl⟩ fun o q nq z => s₄.extBut _ _ nq (s₃.extBut _ _ nq (s₂.extBut _ _ nq (e₁.keep _ _ z)))
theorem counts_loop {p1 p2 p3 p4 p5 p6 p7 p8 p9 p10 p11 p12 p13 p14 p15 p16 p17 p18 p19 p20 p21 p22 p23 p24 : Pos} {c1 c2 c3 c4 c5 c6 : Nat} {Q : Flow → Shared → Prop}
    {h₀ : Heap} {g₀ : Array GenState} {L cS sz r c R T : Nat} {fv gv : List Nat} {rows told : List (List Nat)} {m : Str → Option Value} {x₀ : Nat × Nat × Nat} (hloc : env.locals = L) (hk : env.scope.kind = .function) (hg : env.globals = mainGlobals) (hbi : env.builtins = builtinsNs)
    (k1 : env.kindOf "nodes" = some .local) (k2 : env.kindOf "edges" = some .local) (k3 : env.kindOf "threes" = some .local) (kk : env.kindOf "k" = some .local) (kro : env.kindOf "rounds" = some .local) (krg : env.kindOf "range" = some .globalImplicit)
    {val : Expr} (hval : val = .Tuple [.BinOp (.BinOp (.Constant (.int 2) c1 p5) .Mult (.Name "nodes" p6) p7) .Add (.Constant (.int 1) c2 p8) p9, .BinOp (.BinOp (.Constant (.int 3) c3 p10) .Mult (.Name "edges" p11) p12) .Add (.Name "nodes" p13) p14, .BinOp (.Constant (.int 4) c4 p15) .Mult (.Name "threes" p16) p17] c5 p18)
    (hs1 : swapsWithSole [.Tuple [.Name "nodes" p19, .Name "edges" p20, .Name "threes" p21] c6 p22] val p23.line env = pure false) (hs2 : swappedStores [.Tuple [.Name "nodes" p19, .Name "edges" p20, .Name "threes" p21] c6 p22] val env = pure (some [("nodes" : Str), "edges", "threes"]))
    (hh : A.handled = none) (hL : h₀.get? L = none) (hl : 709 ≤ L) (hcL : cS ≠ L) (hr : r ≤ 2)
    (X : LT w h₀ g₀ L cS sz r c R T fv gv rows told s.heap s.gens m) (h3 : Told3 m x₀)
    (h : ∀ h' g' tk m', LT w h₀ g₀ L cS sz r c R T fv gv rows told h' g' m' → Told3 m' (iterNET r x₀) → Q .next { s with heap := h', gens := g', toks := tk }) :
    wpAny (model prog w) A (exec (.For (.Name "k" p1) (.Call (.Name "range" p2) [.Name "rounds" p3] [] p4)
      [.Assign [.Tuple [.Name "nodes" p19, .Name "edges" p20, .Name "threes" p21] c6 p22] val p23] [] p24) env) Q E s := by
  subst hloc hval
  have one : ∀ {a b : Nat}, b ∈ ([a] : List Nat) → b = a := fun q => List.mem_singleton.mp q
  obtain ⟨tr, htr⟩ := X.mr
  refine wpAny_For <| Call_ <| nmB X.Z (by kernel_rfl) krg PyProof.Rows.boot_range (by decide) (hk := hk) (hg := hg) (hb := hbi) <| cwT <| wpAny_items_cons <| nmL X.ns kro htr (hk := hk) <| wpAny_items_nil <| call_range_1 ?_
  generalize hh₁ : Heap.push s.heap _ = h₁
  have e₁ : Ext [] s.heap h₁ := hh₁ ▸ Ext.push _ _
  have hr₁ : IsRange h₁ s.heap.objs.size (0 : Nat) (r : Nat) 1 _ _ _ := hh₁ ▸ Heap.get?_push_size _ rfl
  generalize s.heap.objs.size = Rg at hr₁ ⊢
  refine range_iter (n := r) hr₁ (by omega) ⟨by omega, by omega⟩ (by omega) fun h₂ It e₂ dIt leI ltI hit => ?_
  replace e₂ : Ext [] h₁ h₂ := e₂
  replace dIt : h₁.get? It = none := dIt
  have hit' : IsRangeIter h₂ It (((0 : Nat) : Int) + ((0 : Nat) : Int) * 1) (((r : Nat) : Int) - ((0 : Nat) : Int)) 1 := by simpa using hit
  have e02 := e₁.app e₂
  have X₂ := X.grow e02
  have dIs : s.heap.get? It = none := dead e₁.keep dIt
  obtain ⟨oL, hoL⟩ := nsLive X.ns
  have IL' : It ≠ env.locals := dead_ne dIs hoL
  have W : Itr prog w A (.ref It) [It] [It] [] (.Name "k" p1) r (fun i v _ => i < r ∧ ∃ t, v = Value.int (((0 : Nat) : Int) + (i : Int) * 1) t) (fun i h _ => IsRangeIter h It (((0 : Nat) : Int) + (i : Int) * 1) (((r : Nat) : Int) - (i : Int)) 1) :=
    Itr.ofWalks (walksLt (Walks.range hh It ((0 : Nat) : Int) 1 r)) (fun i h st b hb => by rw [one hb]; exact ⟨_, st⟩) "k" p1
  have d0I : h₀.get? It = none := by
    cases q : h₀.get? It with
    | none => rfl
    | some o =>
      by_cases hb : It ∈ pools
      · obtain ⟨ps, hps, _⟩ := X.Z.pool It hb
        exact nomatch hps.symm.trans dIs
      · exact nomatch (X.M _ _ hb q).symm.trans dIs
  have offv : It ∉ fv := fun q => let ⟨o, ho⟩ := X.lf _ q; nomatch dIs.symm.trans ho
  have offg : It ∉ gv := fun q => let ⟨o, ho⟩ := X.lg _ q; nomatch dIs.symm.trans ho
  have offc : It ≠ cS := let ⟨_, o, ho, _⟩ := X.cs; dead_ne dIs ho
  have I9 : 709 ≤ It := Nat.le_trans (X.grow e₁).Z.big leI
  have turn : ∀ {h h' : Heap} {g : Array GenState} {m' : Str → Option Value}, LT w h₀ g₀ env.locals cS sz r c R T fv gv rows told h g m' → Ext [It] h h' → LT w h₀ g₀ env.locals cS sz r c R T fv gv rows told h' g m' := fun Y e => Y.turn e d0I I9 IL' offc offv offg
  refine for_itr W (fun i h g => ∃ m', LT w h₀ g₀ env.locals cS sz r c R T fv gv rows told h g m' ∧ Told3 m' (iterNET i x₀)) ?_ ?_ hit' ⟨m, X₂, h3⟩
  · rintro i h g tk v h₃ g₃ fv' hi ⟨m', Y, Y3⟩ itm st₃ eo eg E'
    have Y₃' := turn Y eo
    have Y₃ : LT w h₀ g₀ env.locals cS sz r c R T fv gv rows told h₃ g₃ m' := { Y₃' with gm := Y₃'.gm.trans eg }
    refine wpAny_assign_Name (stL (s := ⟨h₃, g₃, s.drawn, tk, s.os⟩) Y₃.ns kk (fun h₄ n₄ s₄ => ?_) (by rw [hk]; rfl))
    replace s₄ : Heap.SameBut env.locals h₃ h₄ := s₄
    obtain ⟨t1, t2, t3, hn1, hn2, hn3⟩ := Y3
    obtain ⟨m₄, n₄, f1, f2, f3, q1, q2, q3, q4⟩ : ∃ m'', h₄.Ns env.locals m'' ∧ m'' ("nodes" : Str) = m' ("nodes" : Str) ∧ m'' ("edges" : Str) = m' ("edges" : Str) ∧ m'' ("threes" : Str) = m' ("threes" : Str) ∧ m'' ("rows" : Str) = m' ("rows" : Str) ∧ m'' ("told" : Str) = m' ("told" : Str) ∧ m'' ("rounds" : Str) = m' ("rounds" : Str) ∧ m'' ("colours" : Str) = m' ("colours" : Str) := ⟨_, n₄, rfl, rfl, rfl, rfl, rfl, rfl, rfl⟩
    have Y₄ := Y₃.store s₄ hL hl hcL n₄ q1 q2 q3 q4
    rw [hn1] at f1
    rw [hn2] at f2
    rw [hn3] at f3
    have st₄ : IsRangeIter h₄ It (((0 : Nat) : Int) + ((i + 1 : Nat) : Int) * 1) (((r : Nat) : Int) - ((i + 1 : Nat) : Int)) 1 := s₄.extBut _ _ IL' st₃
    clear n₄ s₄ Y₃ Y₃' Y st₃ eo itm
    refine at_ h₄ g₃ s.drawn s.os fun t₄ => ?_
    refine wpAny_execs_cons <| PyProof.Rows.Assign_Tuple_swapped (hs := hs1) (hw := hs2) <| wpAny_Tuple <| wpAny_items_cons <| wpAny_BinOp <| wpAny_BinOp <| wpAny_Constant_int <| nmL Y₄.ns k1 f1 (hk := hk) <| PySem.P.mul_int (hm := .of_left (by decide)) <| wpAny_Constant_int <| PySem.P.add_int <|
      wpAny_items_cons <| wpAny_BinOp <| wpAny_BinOp <| wpAny_Constant_int <| nmL Y₄.ns k2 f2 (hk := hk) <| PySem.P.mul_int (hm := .of_left (by decide)) <| nmL Y₄.ns k1 f1 (hk := hk) <| PySem.P.add_int <|
      wpAny_items_cons <| wpAny_BinOp <| wpAny_Constant_int <| nmL Y₄.ns k3 f3 (hk := hk) <| PySem.P.mul_int (hm := .of_left (by decide)) <| wpAny_items_nil ⟨(by show 3 ≤ 2 ^ 24; decide), ?_⟩
    generalize hh₅ : Heap.push h₄ _ = h₅
    have e₅ : Ext [] h₄ h₅ := hh₅ ▸ Ext.push _ _
    obtain ⟨u1, u2, u3, hT₅⟩ : ∃ u1 u2 u3, h₅.IsTuple h₄.objs.size #[.int (2 * ((iterNET i x₀).1 : Int) + 1) u1, .int (3 * ((iterNET i x₀).2.1 : Int) + (iterNET i x₀).1) u2, .int (4 * ((iterNET i x₀).2.2 : Int)) u3] := by
      rw [← hh₅]
      exact ⟨_, _, _, _, Heap.get?_push_size _ rfl, rfl, _, rfl⟩
    generalize h₄.objs.size = Tp at hT₅ ⊢
    have Y₅ := Y₄.grow e₅
    refine at_ h₅ g₃ s.drawn s.os fun t₅ => ?_
    refine store3 (s := ⟨h₅, g₃, s.drawn, t₅, s.os⟩) rfl hk k1 k2 k3 hh hL hl hcL Y₅ hT₅ fun h₆ tk₆ m₆ Y₆ ⟨g1, g2, g3⟩ kp => ?_
    refine wpAny_execs_nil ⟨rfl, h₆, g₃, _, rfl, ⟨m₆, Y₆, ?_⟩, kp _ _ IL' (e₅.keep _ _ st₄)⟩
    refine ⟨u1, u2, u3, ?_, ?_, ?_⟩
    · rw [g1]; congr 2
    · rw [g2]; congr 2
    · rw [g3]; congr 2
  · intro h' g tk h₁' g₁' hI eo eg
    obtain ⟨m', Y, Y3⟩ := hI
    have Y' := turn Y eo
    exact h _ _ _ m' { Y' with gm := Y'.gm.trans eg } Y3
end
end Mine
end W65
section W66
open PySem PySem.W PyProof.Rows PySem.Calls PySem.Spec PySem.SeqAt PyProof.V
set_option maxRecDepth 100000
set_option maxHeartbeats 8000000
namespace Mine
section
variable {prog : Program} {w : World} {A : Around} {E : Value → Shared → Prop} {s : Shared} {env : Env}
theorem fdiv2 (a : Nat) : ((a : Nat) : Int).fdiv 2 = ((a / 2 : Nat) : Int) := by
  rw [Int.fdiv_eq_ediv_of_nonneg _ (by decide : (0 : Int) ≤ 2)]
  omega
theorem lens_len {ls : List (List Nat)} {i : Nat} (hi : i < ls.length) : (ls.map List.length)[i]! = (ls[i]!).length := by
  rw [getElem!_pos _ i (by simpa using hi), getElem!_pos ls i hi]
  simp
theorem half_sum {p1 p2 p3 p4 p5 p6 p7 p8 p9 p10 : Pos} {k1 : Nat} {x : Str} {R : Nat} {fv : List Nat} {ls : List (List Nat)} {m : Str → Option Value} {Q : Value → Shared → Prop} (hk : env.scope.kind = .function) (hg : env.globals = mainGlobals) (hbi : env.builtins = builtinsNs)
    (ksum : env.kindOf "sum" = some .globalImplicit) (kx : env.kindOf x = some .local) (hxd : (x == ("__debug__" : Str)) = false) (hh : A.handled = none) (Z : Gl w s.heap) (n : s.heap.Ns env.locals m) (hx : m x = some (.ref R)) (X : RL s.heap R fv ls) (hz : ls.length ≤ 30) (hr : ∀ i, i < ls.length → (ls[i]!).length ≤ 100)
    (h : ∀ h' tk t, Ext [] s.heap h' → Q (.int (((ls.map List.length).sum / 2 : Nat) : Int) t) { s with heap := h', toks := tk }) :
    wpAny (model prog w) A (eval (.BinOp (.Call (.Name "sum" p1) [.ListComp (.Call (.Name "len" p2) [.Name "row" p3] [] p4) [⟨.Name "row" p5, .Name x p6, [], 0⟩] rowScope p7] [] p8) .FloorDiv (.Constant (.int 2) k1 p9) p10) env) Q E s := by
  refine wpAny_BinOp <| Call_ <| nmB Z (by kernel_rfl) ksum PyProof.Rows.boot_sum (by decide) (hk := hk) (hg := hg) (hb := hbi) <| cwB <| wpAny_items_cons <| rl_lens Z X hz hr hh hg hbi (fun Q' hQ => nmL n kx hx hQ (hk := hk) (hd := hxd)) (fun _ => rfl) fun h₁ tk₁ D e₁ _ il => wpAny_items_nil <| il_sum il hh fun h₂ tk₂ t e₂ => wpAny_Constant_int <| PyProof.Rows.floordiv_int (by decide) ?_
  rw [fdiv2]
  exact h h₂ _ _ (Ext.app e₁ e₂)
theorem call_threes {p1 p2 p3 : Pos} {x : Str} {R : Nat} {fv : List Nat} {ls : List (List Nat)} {m : Str → Option Value} {Q : Value → Shared → Prop} (hk : env.scope.kind = .function) (hg : env.globals = mainGlobals)
    (kt : env.kindOf "_law_threes" = some .globalImplicit) (kx : env.kindOf x = some .local) (hxd : (x == ("__debug__" : Str)) = false) (hh : A.handled = none) (hroom : A.depth + 1 < recursionLimit) (Z : Gl w s.heap) (n : s.heap.Ns env.locals m) (hx : m x = some (.ref R)) (X : RL s.heap R fv ls) (hz : ls.length ≤ 30) (hr : ∀ i, i < ls.length → (ls[i]!).length ≤ 100) (hin : ∀ i, i < ls.length → ∀ k ∈ ls[i]!, k < ls.length)
    (h : ∀ h' tk t, Ext [] s.heap h' → Q (.int (thr0 ls : Nat) t) { s with heap := h', toks := tk }) :
    wpAny (model prog w) A (eval (.Call (.Name "_law_threes" p1) [.Name x p2] [] p3) env) Q E s :=
  Call_ <| nmG (v := .ref 703) Z (by kernel_rfl) kt (hk := hk) (hg := hg) <| cwF (w := w) (by kernel_rfl) <| wpAny_items_cons <| nmL n kx hx (hk := hk) (hd := hxd) <| wpAny_items_nil ⟨Z, sp_threes Z X hz hr hin hroom hh h⟩
theorem counts_made {p1 p2 p3 p4 p5 p6 p7 p8 p9 p10 p11 p12 p13 p14 p15 p19 p20 p21 p22 p23 : Pos} {k1 c5 c6 : Nat} {Q : Flow → Shared → Prop}
    {h₀ : Heap} {g₀ : Array GenState} {L cS sz r c R T : Nat} {fv gv : List Nat} {rows told : List (List Nat)} {m : Str → Option Value} (hloc : env.locals = L) (hk : env.scope.kind = .function) (hg : env.globals = mainGlobals) (hbi : env.builtins = builtinsNs)
    (k1' : env.kindOf "nodes" = some .local) (k2 : env.kindOf "edges" = some .local) (k3 : env.kindOf "threes" = some .local) (kS : env.kindOf "size" = some .cell) (lkS : env.cells.lookup ("size" : Str) = some cS) (kr : env.kindOf "rows" = some .local) (ksum : env.kindOf "sum" = some .globalImplicit) (kt : env.kindOf "_law_threes" = some .globalImplicit)
    {val : Expr} (hval : val = .Tuple [.Name "size" p1, .BinOp (.Call (.Name "sum" p2) [.ListComp (.Call (.Name "len" p3) [.Name "row" p4] [] p5) [⟨.Name "row" p6, .Name "rows" p7, [], 0⟩] rowScope p8] [] p9) .FloorDiv (.Constant (.int 2) k1 p10) p11, .Call (.Name "_law_threes" p12) [.Name "rows" p13] [] p14] c5 p15)
    (hs1 : swapsWithSole [.Tuple [.Name "nodes" p19, .Name "edges" p20, .Name "threes" p21] c6 p22] val p23.line env = pure false) (hs2 : swappedStores [.Tuple [.Name "nodes" p19, .Name "edges" p20, .Name "threes" p21] c6 p22] val env = pure (some [("nodes" : Str), "edges", "threes"]))
    (hh : A.handled = none) (hroom : A.depth + 1 < recursionLimit) (hL : h₀.get? L = none) (hl : 709 ≤ L) (hcL : cS ≠ L) (hz : rows.length ≤ 30) (hr : ∀ i, i < rows.length → (rows[i]!).length ≤ 100) (hin : ∀ i, i < rows.length → ∀ k ∈ rows[i]!, k < rows.length)
    (X : LT w h₀ g₀ L cS sz r c R T fv gv rows told s.heap s.gens m)
    (h : ∀ h' tk m', LT w h₀ g₀ L cS sz r c R T fv gv rows told h' s.gens m' → Told3 m' (sz, (rows.map List.length).sum / 2, thr0 rows) → Q .next { s with heap := h', toks := tk }) :
    wpAny (model prog w) A (exec (.Assign [.Tuple [.Name "nodes" p19, .Name "edges" p20, .Name "threes" p21] c6 p22] val p23) env) Q E s := by
  subst hloc hval
  obtain ⟨tc, hts⟩ := X.cs
  refine PyProof.Rows.Assign_Tuple_swapped (hs := hs1) (hw := hs2) <| wpAny_Tuple <| wpAny_items_cons <| nmC hts kS lkS (hk := hk) <| wpAny_items_cons <| half_sum hk hg hbi ksum kr (by kernel_rfl) hh X.Z X.ns X.mR X.X hz hr fun h₁ tk₁ t₁ e₁ => ?_
  have X₁ := X.grow e₁
  refine wpAny_items_cons <| call_threes (s := ⟨h₁, s.gens, s.drawn, tk₁, s.os⟩) hk hg kt kr (by kernel_rfl) hh hroom X₁.Z X₁.ns X₁.mR X₁.X hz hr hin fun h₂ tk₂ t₂ e₂ => wpAny_items_nil ⟨(by show 3 ≤ 2 ^ 24; decide), ?_⟩
  replace e₂ : Ext [] h₁ h₂ := e₂
  have X₂ := X₁.grow e₂
  generalize hh₃ : Heap.push h₂ _ = h₃
  have e₃ : Ext [] h₂ h₃ := hh₃ ▸ Ext.push _ _
  have hT₃ : h₃.IsTuple h₂.objs.size #[.int (sz : Nat) tc, .int (((rows.map List.length).sum / 2 : Nat) : Int) t₁, .int (thr0 rows : Nat) t₂] := by
    rw [← hh₃]
    exact ⟨_, Heap.get?_push_size _ rfl, rfl, _, rfl⟩
  dsimp only
  generalize h₂.objs.size = Tp at hT₃ ⊢
  exact store3 (s := ⟨h₃, s.gens, s.drawn, _, s.os⟩) rfl hk k1' k2 k3 hh hL hl hcL (X₂.grow e₃) hT₃ fun h₄ tk₄ m₄ X₄ g _ => h h₄ tk₄ m₄ X₄ ⟨_, _, _, g⟩
theorem ne_tup3 {a b : Nat} {x y z : Int} {t1 t2 t3 u1 u2 u3 : Tok} {Q : Value → Shared → Prop} (ha : s.heap.IsTuple a #[.int x t1, .int y t2, .int z t3]) (hb : s.heap.IsTuple b #[.int x u1, .int y u2, .int z u3]) (hu : A.units + 64 < cLine) (h : Q (.bool false) s) :
    wpAny (model prog w) A (compareOp .NotEq (.ref a) (.ref b)) Q E s := by
  obtain ⟨oa, ha1, ha2, na, ha3⟩ := ha
  obtain ⟨ob, hb1, hb2, nb, hb3⟩ := hb
  have ra : Reads s.heap (.ref a) (.tuple [.int x, .int y, .int z]) ([] ++ ([] ++ ([] ++ []))) := Reads.tuple ha1 ha2 ha3 (.cons (.int x t1) (.cons (.int y t2) (.cons (.int z t3) .nil)))
  have rb : Reads s.heap (.ref b) (.tuple [.int x, .int y, .int z]) ([] ++ ([] ++ ([] ++ []))) := Reads.tuple hb1 hb2 hb3 (.cons (.int x u1) (.cons (.int y u2) (.cons (.int z u3) .nil)))
  have hsh : shaped (.tuple [.int x, .int y, .int z]) = true := by
    simp [shaped, PyData.canLay0, PyData.canLayAll0, PyData.depth, PyData.depthAll]
  refine ne_dataH_same ra rb hsh hsh hu (by simp [noMix, noMixAll]) ?_
  have : PySem.Spec.same (.tuple [.int x, .int y, .int z]) (.tuple [.int x, .int y, .int z]) = true := by simp [PySem.Spec.same, PySem.Spec.sameAll]
  rw [this]
  exact h
theorem counts_told {p1 p2 p3 p4 p5 p6 p7 p8 p9 p10 p11 p12 p13 p14 p15 p16 p17 p18 p19 p20 p21 p22 p23 p24 p25 : Pos} {k1 c5 c6 c7 : Nat} {Q : Flow → Shared → Prop}
    {h₀ : Heap} {g₀ : Array GenState} {L cS sz r c R T : Nat} {fv gv : List Nat} {rows told : List (List Nat)} {m : Str → Option Value} (hloc : env.locals = L) (hk : env.scope.kind = .function) (hg : env.globals = mainGlobals) (hbi : env.builtins = builtinsNs)
    (k1' : env.kindOf "nodes" = some .local) (k2 : env.kindOf "edges" = some .local) (k3 : env.kindOf "threes" = some .local) (kr : env.kindOf "told" = some .local) (klen : env.kindOf "len" = some .globalImplicit) (ksum : env.kindOf "sum" = some .globalImplicit) (kt : env.kindOf "_law_threes" = some .globalImplicit)
    (hh : A.handled = none) (hu : A.units + 80 < cLine) (hroom : A.depth + 1 < recursionLimit) (hz : told.length ≤ 30) (hr : ∀ i, i < told.length → (told[i]!).length ≤ 100) (hin : ∀ i, i < told.length → ∀ k ∈ told[i]!, k < told.length)
    (X : LT w h₀ g₀ L cS sz r c R T fv gv rows told s.heap s.gens m) (h3 : Told3 m (told.length, (told.map List.length).sum / 2, thr0 told))
    (h : ∀ h' tk, LT w h₀ g₀ L cS sz r c R T fv gv rows told h' s.gens m → Q .next { s with heap := h', toks := tk }) :
    wpAny (model prog w) A (exec (.If (.Compare (.Tuple [.Call (.Name "len" p1) [.Name "told" p2] [] p3, .BinOp (.Call (.Name "sum" p4) [.ListComp (.Call (.Name "len" p5) [.Name "row" p6] [] p7) [⟨.Name "row" p8, .Name "told" p9, [], 0⟩] rowScope p10] [] p11) .FloorDiv (.Constant (.int 2) k1 p12) p13, .Call (.Name "_law_threes" p14) [.Name "told" p15] [] p16] c5 p17)
      [.NotEq] [.Tuple [.Name "nodes" p18, .Name "edges" p19, .Name "threes" p20] c6 p21] p22) [.Return (some (.Constant (.bool false) c7 p23)) p24] [] p25) env) Q E s := by
  subst hloc
  obtain ⟨u1, u2, u3, hn1, hn2, hn3⟩ := h3
  refine wpAny_If <| wpAny_isTrue_Compare1 <| wpAny_Tuple <| wpAny_items_cons <| Call_ <| nmB X.Z (by kernel_rfl) klen boot_len (by decide) (hk := hk) (hg := hg) (hb := hbi) <| cwB <| wpAny_items_cons <| nmL X.ns kr X.mT (hk := hk) <| wpAny_items_nil <| rl_len X.Y (by omega) fun t0 tk0 => wpAny_items_cons <| half_sum hk hg hbi ksum kr (by kernel_rfl) hh X.Z X.ns X.mT X.Y hz hr fun h₁ tk₁ t₁ e₁ => ?_
  have X₁ := X.grow e₁
  refine wpAny_items_cons <| call_threes (s := ⟨h₁, s.gens, s.drawn, tk₁, s.os⟩) hk hg kt kr (by kernel_rfl) hh hroom X₁.Z X₁.ns X₁.mT X₁.Y hz hr hin fun h₂ tk₂ t₂ e₂ => wpAny_items_nil ⟨(by show 3 ≤ 2 ^ 24; decide), ?_⟩
  replace e₂ : Ext [] h₁ h₂ := e₂
  have X₂ := X₁.grow e₂
  generalize hh₃ : Heap.push h₂ _ = h₃
  have e₃ : Ext [] h₂ h₃ := hh₃ ▸ Ext.push _ _
  have hT₃ : h₃.IsTuple h₂.objs.size #[.int (told.length : Nat) t0, .int (((told.map List.length).sum / 2 : Nat) : Int) t₁, .int (thr0 told : Nat) t₂] := by
    rw [← hh₃]
    exact ⟨_, Heap.get?_push_size _ rfl, rfl, _, rfl⟩
  dsimp only
  generalize h₂.objs.size = Tp at hT₃ ⊢
  have X₃ := X₂.grow e₃
  refine wpAny_Tuple <| wpAny_items_cons <| nmL X₃.ns k1' hn1 (hk := hk) <| wpAny_items_cons <| nmL X₃.ns k2 hn2 (hk := hk) <| wpAny_items_cons <| nmL X₃.ns k3 hn3 (hk := hk) <| wpAny_items_nil ⟨(by show 3 ≤ 2 ^ 24; decide), ?_⟩
  generalize hh₄ : Heap.push h₃ _ = h₄
  have e₄ : Ext [] h₃ h₄ := hh₄ ▸ Ext.push _ _
  have hT₄ : h₄.IsTuple h₃.objs.size #[.int (told.length : Nat) u1, .int (((told.map List.length).sum / 2 : Nat) : Int) u2, .int (thr0 told : Nat) u3] := by
    rw [← hh₄]
    exact ⟨_, Heap.get?_push_size _ rfl, rfl, _, rfl⟩
  dsimp only
  generalize h₃.objs.size = Tq at hT₄ ⊢
  refine ne_tup3 (s := ⟨h₄, s.gens, s.drawn, _, s.os⟩) (hT₃.at fun o q => e₄.keep _ _ q) hT₄ (by omega) <| wpAny_truthy_bool ?_
  simp only [Bool.false_eq_true, if_false]
  exact wpAny_execs_nil <| h h₄ _ (X₃.grow e₄)
theorem last_fits {p1 p2 p3 p4 p5 p6 p7 p8 p9 p10 p11 p12 p13 p14 p15 p16 p17 : Pos} {k1 fuel : Nat} {Q : Flow → Shared → Prop}
    {h₀ : Heap} {g₀ : Array GenState} {L cS sz r c R T : Nat} {fv gv : List Nat} {rows told : List (List Nat)} {m : Str → Option Value} {adj : Nat → Nat → Bool} (hloc : env.locals = L) (hk : env.scope.kind = .function) (hg : env.globals = mainGlobals)
    (kr : env.kindOf "told" = some .local) (kc : env.kindOf "colours" = some .local) (kro : env.kindOf "rounds" = some .local) (kf : env.kindOf "_law_fits" = some .globalImplicit)
    (hh : A.handled = none) (hu : A.units + 80 < cLine) (hroom : A.depth < recursionLimit) (hz : told.length ≤ 30) (hr : ∀ i, i < told.length → (told[i]!).length ≤ 100) (hadj : ∀ i, i < told.length → ∀ k, k ∈ told[i]! ↔ adj i k = true) (hc : c ≤ 50) (hr1 : 1 ≤ r ∧ r ≤ 2)
    (hyes : fitsRun told.length adj (c + r) fuel [] 0 = some true) (hno : fitsRun told.length adj (c + r - 1) fuel [] 0 = some false)
    (X : LT w h₀ g₀ L cS sz r c R T fv gv rows told s.heap s.gens m)
    (h : ∀ h' tk, LT w h₀ g₀ L cS sz r c R T fv gv rows told h' s.gens m → Q (.ret (.bool true)) { s with heap := h', toks := tk }) :
    wpAny (model prog w) A (exec (.Return (some (.BoolOp .And [.Call (.Name "_law_fits" p1) [.Name "told" p2, .BinOp (.Name "colours" p3) .Add (.Name "rounds" p4) p5] [] p6, .UnaryOp .Not (.Call (.Name "_law_fits" p7) [.Name "told" p8, .BinOp (.BinOp (.Name "colours" p9) .Add (.Name "rounds" p10) p11) .Sub (.Constant (.int 1) k1 p12) p13] [] p14) p15] p16)) p17) env) Q E s := by
  subst hloc
  obtain ⟨tr, htr⟩ := X.mr
  obtain ⟨tc, htc⟩ := X.mc
  refine wpAny_Return_some <| wpAny_And2 <| Call_ <| nmG (v := .ref 693) X.Z (by kernel_rfl) kf (hk := hk) (hg := hg) <| cwF (w := w) (by kernel_rfl) <| wpAny_items_cons <| nmL X.ns kr X.mT (hk := hk) <| wpAny_items_cons <| wpAny_BinOp <| nmL X.ns kc htc (hk := hk) <| nmL X.ns kro htr (hk := hk) <| PySem.P.add_int <| wpAny_items_nil ⟨X.Z, ?_⟩
  rw [show ((c : Nat) : Int) + ((r : Nat) : Int) = ((c + r : Nat) : Int) from by omega]
  refine sp_fits adj X.Z X.Y hadj hz hr (by omega) hyes hroom hh (by omega) fun h₁ tk₁ e₁ => wpAny_truthy_bool ?_
  simp only [if_true]
  have X₁ := X.grow e₁
  refine wpAny_UnaryOp <| Call_ <| nmG (v := .ref 693) (s := ⟨h₁, s.gens, s.drawn, tk₁, s.os⟩) X₁.Z (by kernel_rfl) kf (hk := hk) (hg := hg) <| cwF (w := w) (by kernel_rfl) <| wpAny_items_cons <| nmL X₁.ns kr X₁.mT (hk := hk) <| wpAny_items_cons <| wpAny_BinOp <| wpAny_BinOp <| nmL X₁.ns kc htc (hk := hk) <| nmL X₁.ns kro htr (hk := hk) <| PySem.P.add_int <| wpAny_Constant_int <| PySem.P.sub_int <| wpAny_items_nil ⟨X₁.Z, ?_⟩
  rw [show ((c : Nat) : Int) + ((r : Nat) : Int) - 1 = ((c + r - 1 : Nat) : Int) from by omega]
  refine sp_fits adj X₁.Z X₁.Y hadj hz hr (by omega) hno hroom hh (by omega) fun h₂ tk₂ e₂ => not_value <| wpAny_truthy_bool ?_
  exact h h₂ tk₂ (X₁.grow e₂)
end
end Mine
end W66
section W68
open PySem PySem.W PyProof.Rows PySem.Calls PySem.Spec PySem.SeqAt PyProof.V
set_option maxRecDepth 100000
set_option maxHeartbeats 8000000
namespace Mine
theorem k2B_in : ∀ i k, k2B i k = true → i < 2 ∧ k < 2 := by
  intro i k q
  unfold k2B at q
  simp only [Bool.or_eq_true, Bool.and_eq_true, beq_iff_eq] at q
  omega
theorem k2B_sym : ∀ i k, k2B i k = k2B k i := by
  intro i k
  unfold k2B
  rw [Bool.or_comm, Bool.and_comm, Bool.and_comm (x := (i == 0))]
theorem k2B_says : Says (fun a b : Int => a = 0 ∧ b = 1 ∨ a = 1 ∧ b = 0) k2B := by
  intro a b
  constructor
  · rintro (⟨rfl, rfl⟩ | ⟨rfl, rfl⟩)
    · exact ⟨0, 1, rfl, rfl, rfl⟩
    · exact ⟨1, 0, rfl, rfl, rfl⟩
  · rintro ⟨i, k, rfl, rfl, q⟩
    unfold k2B at q
    simp only [Bool.or_eq_true, Bool.and_eq_true, beq_iff_eq] at q
    omega
def MGood (q N : Nat) (adj : Nat → Nat → Bool) : Prop := N ≤ 11 ∧ (∀ i k, adj i k = true → i < N ∧ k < N) ∧ fitsRun N adj q 300 [] 0 = some true ∧ fitsRun N adj (q - 1) 300 [] 0 = some false ∧ threes N adj = 0
theorem mgood_1 : MGood 1 1 (fun _ _ => false) := ⟨by decide, (fun _ _ h => by simp at h), m1.1, m1.2.1, m1.2.2⟩
theorem mgood_n {k : Nat} (hk : k ≤ 2) : MGood (k + 2) (mycN k 2) (mycBj k 2 k2B) := by
  have hin := mycBj_in k2B_in k
  have c : k = 0 ∨ k = 1 ∨ k = 2 := by omega
  rcases c with rfl | rfl | rfl
  · exact ⟨by decide, hin, m2.1, m2.2.1, m2.2.2⟩
  · exact ⟨by decide, hin, m3.1, m3.2.1, m3.2.2⟩
  · exact ⟨by decide, hin, m4.1, m4.2.1, m4.2.2⟩
section
variable {prog : Program} {w : World} {A : Around} {E : Value → Shared → Prop} {s : Shared} {env : Env}
structure MG (prog : Program) (w : World) (L q : Nat) (h₀ : Heap) (g₀ : Array GenState) (h : Heap) (g : Array GenState) (H : Gr) : Prop where
  Z : Gl w h
  ext : Ext ([L] ++ mPools) h₀ h
  sl : Slots [L] h₀ h
  gm : GM [] g₀ g
  I : GraphAt prog w h H
  J : Gi H
  more : H.more.length ≤ 1
  few : H.rows.length ≤ 11
  new : ∀ a ∈ H.all, h₀.get? a = none
  good : ∃ N adj, MGood q N adj ∧ RowsOf N adj H.nbs
theorem mg_call {q : Nat} {t : Tok} {Q : Value → Shared → Prop} (hq : 1 ≤ q ∧ q < 5) {L : Nat} (hk' : env.scope.kind = .function) (hfr : A.frames = some [env]) (hloc : env.frame = some L) (hL : ∃ m, s.heap.Ns L m) (L9 : 709 ≤ L) (hun : A.units + 60 < cLine) (Z : Gl w s.heap) (hroom : A.depth + 14 < recursionLimit) (hh : A.handled = none)
    (h : ∀ h' g' tk H, MG prog w L q s.heap s.gens h' g' H → Q (.ref H.g) { s with heap := h', gens := g', toks := tk }) : wpC (model prog w) A (call (.ref 683) [.int (q : Nat) t] []) Q E s := by
  have hfs : frs [env] = [L] := by simp [frs, hloc]
  obtain ⟨m, hL⟩ := hL
  by_cases h1 : q = 1
  · subst h1
    refine toC <| sp_mg1 Z (by omega) hh fun h' g' tk H e eg B => h h' g' tk H ?_
    have hrl : H.rows.length = 1 := by rw [← ids_len, B.ids]; simp
    exact {
      Z := Z.keep e.keep
      ext := Ext.of_keep e.keep _
      sl := Slots.of e fun _ _ h => nomatch h
      gm := eg
      I := B.I
      J := B.J
      more := by rw [B.more]; exact Nat.zero_le _
      few := by omega
      new := B.new
      good := ⟨1, _, mgood_1, says_rows (P := fun _ _ => False) B.I B.J B.ids (fun a b => ⟨fun q => B.no a b q, fun q => q.elim⟩) (fun a b => ⟨fun q => q.elim, fun ⟨_, _, _, _, q⟩ => by simp at q⟩) fun _ _ q => by simp at q⟩ }
  · obtain ⟨k, rfl⟩ : ∃ k, q = k + 2 := ⟨q - 2, by omega⟩
    refine sp_mgn (k := k) (by omega) [env] hfr ?_ hun ?_ Z hroom hh fun h' g' tk H M => h h' g' tk H ?_
    · obtain ⟨oL, es, ep, hoL, hdL, _⟩ := id hL
      exact ⟨(by rw [hk']; intro q; cases q), ⟨L, oL, hloc, rfl, hoL, fun vs q => by rw [hdL] at q; cases q⟩, trivial⟩
    · intro b hb
      rw [hfs] at hb
      rw [List.mem_singleton.mp hb]
      exact L9
    · rw [hfs] at M
      have G := mgood_n (k := k) (by omega)
      have hrl : H.rows.length = mycN k 2 := M.rows
      exact {
        Z := M.Z, ext := M.ext, sl := M.sl, gm := M.gm, I := M.I, J := M.J, more := M.one.len
        few := by rw [hrl]; exact G.1
        new := M.new
        good := ⟨_, _, G, says_rows M.I M.J M.ids M.has (mycP_says k2B_in k2B_sym k2B_says k) (mycBj_in k2B_in k)⟩ }
end
end Mine
end W68
section W69
open PySem PySem.W PyProof.Rows PySem.Calls PySem.Spec PySem.SeqAt PyProof.V
set_option maxRecDepth 100000
set_option maxHeartbeats 8000000
namespace Mine
section
variable {prog : Program} {w : World} {A : Around} {E : Value → Shared → Prop} {s : Shared} {env : Env}
structure LB (w : World) (h₀ : Heap) (g₀ : Array GenState) (L cS q R : Nat) (fv : List Nat) (rows : List (List Nat)) (h : Heap) (g : Array GenState) (m : Str → Option Value) : Prop where
  M : Ext pools h₀ h
  Z : Gl w h
  gm : GM [] g₀ g
  ns : h.Ns L m
  mR : m "rows" = some (.ref R)
  cs : ∃ t, h.IsCell cS (some (.int (q : Nat) t))
  X : RL h R fv rows
theorem LB.grow {h₀ h h' : Heap} {g₀ g : Array GenState} {L cS q R : Nat} {fv : List Nat} {rows : List (List Nat)} {m : Str → Option Value} (x : LB w h₀ g₀ L cS q R fv rows h g m) (e : Ext [] h h') : LB w h₀ g₀ L cS q R fv rows h' g m :=
  { x with M := x.M.app (Ext.of_keep e.keep _), Z := x.Z.keep e.keep, ns := x.ns.keeps e.keep, cs := let ⟨t, a⟩ := x.cs; ⟨t, a.keeps e.keep⟩, X := x.X.at fun _ _ _ q => e.keep _ _ q }
theorem try_rows {p1 p2 p3 p4 p5 p6 p7 p8 p9 p10 p11 p12 p13 p14 : Pos} {k1 : Nat} {Q : Flow → Shared → Prop} {h₀ : Heap} {g₀ : Array GenState} {L cS q : Nat} {tq : Tok} {m : Str → Option Value}
    (hloc : env.locals = L) (hfrm : env.frame = some L) (hk : env.scope.kind = .function) (hg : env.globals = mainGlobals) (kS : env.kindOf "size" = some .cell) (lkS : env.cells.lookup ("size" : Str) = some cS) (kr : env.kindOf "rows" = some .local)
    (k8 : env.kindOf "_law_rows" = some .globalImplicit) (k3 : env.kindOf "mycielski_graph" = some .globalImplicit) (kE : env.kindOf "NetworkXError" = some .globalImplicit)
    (hsw : swapsWith (.Call (.Name "_law_rows" p2) [.Call (.Name "mycielski_graph" p3) [.Name "size" p4] [] p5] [] p6) (some (.Name "rows" p1)) p7.line env = pure false)
    (hfr : A.frames = some [env]) (hh : A.handled = none) (hun : A.units + 100 < cLine) (hroom : A.depth + 20 < recursionLimit) (Z₀ : Gl w h₀) (hL : h₀.get? L = none) (L9 : 709 ≤ L) (dc : h₀.get? cS = none) (nc : cS ≠ L)
    (M : Ext [] h₀ s.heap) (gm : GM [] g₀ s.gens) (n : s.heap.Ns L m) (cs : s.heap.IsCell cS (some (.int (q : Nat) tq))) (hq : q < 5)
    (hret : q = 0 → ∀ h' tk, Ext pools h₀ h' → Gl w h' → Q (.ret (.bool true)) { s with heap := h', toks := tk })
    (hnext : 1 ≤ q → ∀ h' g' tk m' R fv rows N adj, LB w h₀ g₀ L cS q R fv rows h' g' m' → MGood q N adj → RowsOf N adj rows → Q .next { s with heap := h', gens := g', toks := tk }) :
    wpC (model prog w) A (exec (.Try [.Assign [.Name "rows" p1] (.Call (.Name "_law_rows" p2) [.Call (.Name "mycielski_graph" p3) [.Name "size" p4] [] p5] [] p6) p7]
      [.ExceptHandler (some (.Name "NetworkXError" p8)) none [.Return (some (.Compare (.Name "size" p9) [.Eq] [.Constant (.int 0) k1 p10] p11)) p12] p13] [] [] p14) env) Q E s := by
  subst hloc
  have one : ∀ {a b : Nat}, b ∈ ([a] : List Nat) → b = a := fun q => List.mem_singleton.mp q
  have Z : Gl w s.heap := Z₀.keep M.keep
  obtain ⟨oL, hoL⟩ := nsLive n
  by_cases h0 : q = 0
  · subst h0
    have kb : ∀ b o, b ≠ env.locals → s.heap.get? b = some o → (hides s.heap [env.locals]).get? b = some o := fun b o nb e => hideAll_get _ e fun z => nb (one z)
    refine c_Try <| c_cons <| c_Assign_Name (hs := hsw) <| c_Call <| toC <| nmG (v := .ref 688) Z (by kernel_rfl) k8 (hk := hk) (hg := hg) <| c_cwF (w := w) (by kernel_rfl) <| c_items_cons <| c_Call <| toC <| nmG (v := .ref 683) Z (by kernel_rfl) k3 (hk := hk) (hg := hg) <| c_cwF (w := w) (by kernel_rfl) <| c_items_cons <| toC <| nmC cs kS lkS (hk := hk) <| toC (wpAny_items_nil ⟨Z, sp_mg0 (hides s.heap [env.locals]) [env] hfr ?_ (fun b o e => of_hideAll _ e) Z (by omega) hh fun h' e a0 tk FW up => ?_⟩)
    · obtain ⟨oL, es, ep, hoL, hdL, _⟩ := id n
      exact ⟨(by rw [hk]; intro q; cases q), ⟨env.locals, oL, hfrm, hideAll_none _ (.head _), hoL, fun vs q => by rw [hdL] at q; cases q⟩, trivial⟩
    · refine wpAny_looks_onW hfr hfrm FW fun h₂ held up₂ => ?_
      refine wpAny_landsW held fun h₃ fly₃ up₃ => ?_
      have keep : ∀ h, (hides s.heap [env.locals]).StaysIn h → Ext [env.locals] s.heap h := fun h st b o nb e => st _ _ (kb b o (fun z => nb (by rw [z]; simp)) e)
      have e₃ := keep _ fly₃.1
      have Z₃ : Gl w h₃ := Z.ext e₃ fun a ha => by rw [one ha]; exact L9
      obtain ⟨tl, N, nm, qn, bs, hdct, sn, sub, ab, col, dd, y0, y1, y2, y3, y5, mN, hC, hN, hni, T⟩ := nx_obj Z₃
      obtain ⟨ob, hob, hobc⟩ := fly₃.there
      refine wpAny_handleBy_cons (codeAny_handlers_test (nmG (s := ⟨h₃, s.gens, s.drawn, tk, s.os⟩) (v := .ref 44) Z₃ (by kernel_rfl) kE ?_ (hk := hk) (hg := hg))) (by intro q; cases q)
      refine wpAny_excMatches_sub_self hC hob hobc (T.hasType PySem.F.excBase_Exception.hasBase) (codeAny_handlers_suite ?_)
      refine lands_againW (s := ⟨h₃, s.gens, s.drawn, tk, s.os⟩) fly₃ fun h₄ fly₄ up₄ => ?_
      have e₄ := keep _ fly₄.1
      have Z₄ : Gl w h₄ := Z.ext e₄ fun a ha => by rw [one ha]; exact L9
      have cs₄ : h₄.IsCell cS (some (.int ((0 : Nat) : Int) tq)) := let ⟨o, a, b⟩ := cs; ⟨o, e₄ _ _ (fun z => nc (one z)) a, b⟩
      refine wpAny_execs_cons <| wpAny_Return_some <| wpAny_Compare1 <| nmC (s := ⟨h₄, s.gens, s.drawn, tk, s.os⟩) cs₄ kS lkS (hk := hk) <| wpAny_Constant_int <| PySem.P.eq_int ?_
      exact hret rfl h₄ _ ((Ext.of_keep M.keep pools).app' e₄ fun b hb => .inr (by rw [one hb]; exact hL)) Z₄
  · refine c_Try <| c_cons <| c_Assign_Name (hs := hsw) <| c_Call <| toC <| nmG (v := .ref 688) Z (by kernel_rfl) k8 (hk := hk) (hg := hg) <| c_cwF (w := w) (by kernel_rfl) <| c_items_cons <| c_Call <| toC <| nmG (v := .ref 683) Z (by kernel_rfl) k3 (hk := hk) (hg := hg) <| c_cwF (w := w) (by kernel_rfl) <| c_items_cons <| toC <| nmC cs kS lkS (hk := hk) <| toC (wpAny_items_nil ⟨Z, mg_call (by omega) hk hfr hfrm ⟨m, n⟩ L9 (by omega) Z (by omega) hh fun h₁ g₁ tk₁ H G => toC (wpAny_items_nil ⟨G.Z, sp_law_rows G.Z G.I G.J (by omega) hh (by have := G.more; omega) (by have := G.few; omega) fun h₂ g₂ tk₂ H' R fv₀ _ e₂ eg₂ _ RA dfv => ?_⟩)⟩)
    replace e₂ : Ext [H.gd] h₁ h₂ := e₂
    replace eg₂ : GM [] g₁ g₂ := eg₂
    replace dfv : ∀ a ∈ fv₀, h₁.get? a = none := dfv
    have gdm : H.gd ∈ H.all := List.mem_append_left _ (Gr.muts_iff.mpr (.inl rfl))
    have dgd : s.heap.get? H.gd = none := G.new _ gdm
    have e02 : Ext ([env.locals] ++ mPools) s.heap h₂ := Ext.app' (F' := [H.gd]) G.ext e₂ fun b hb => .inr (by rw [one hb]; exact dgd)
    have Z₂ : Gl w h₂ := G.Z.ext e₂ fun a ha => by rw [one ha]; exact G.I.own _ gdm
    have n₁ : h₁.Ns env.locals m := nsSlots n fun o q => G.sl _ (.head _) o q
    have n₂ : h₂.Ns env.locals m := n₁.at' fun o q => e₂ _ _ (fun z => dead_ne dgd hoL (one z).symm) q
    have offc : cS ∉ [env.locals] ++ mPools := fun q => by
      rcases List.mem_append.mp q with q | q
      · exact nc (one q)
      · obtain ⟨ps, hps, _⟩ := Z₀.pool _ q
        exact nomatch dc.symm.trans hps
    have X₂ : RL h₂ R fv₀ H.nbs := by rw [out_nbs] at RA; exact RA.rl
    refine stL (s := ⟨h₂, g₂, s.drawn, tk₂, s.os⟩) n₂ kr (fun h₃ n₃ s₃ => ?_) (by rw [hk]; rfl)
    replace s₃ : Heap.SameBut env.locals h₂ h₃ := s₃
    have e₃ : Ext [env.locals] h₂ h₃ := Ext.of_same s₃
    obtain ⟨m₃, n₃, hm₃⟩ : ∃ m'', h₃.Ns env.locals m'' ∧ m'' ("rows" : Str) = some (.ref R) := ⟨_, n₃, rfl⟩
    obtain ⟨N, adj, good, RO⟩ := G.good
    obtain ⟨oL1, hoL1⟩ := nsLive n₁
    refine c_nil ?_
    refine c_nil ?_
    refine hnext (by omega) h₃ g₂ _ m₃ R fv₀ H.nbs N adj {
      M := ((Ext.of_keep M.keep pools).app' e02 fun b hb => ?_).app' e₃ fun b hb => .inr (by rw [one hb]; exact hL)
      Z := Z₂.ext e₃ fun a ha => by rw [one ha]; exact L9
      gm := gm.trans (G.gm.trans eg₂)
      ns := n₃
      mR := hm₃
      cs := let ⟨o, a, b⟩ := cs; ⟨tq, o, e₃ _ _ (fun z => nc (one z)) (e02 _ _ offc a), b⟩
      X := X₂.at fun b hb o q => e₃ _ _ (fun z => dead_ne (dfv b hb) hoL1 (one z)) q } good RO
    rcases List.mem_append.mp hb with q | q
    · exact .inr (by rw [one q]; exact hL)
    · exact .inl q
theorem last_first {p1 p2 p3 p4 p5 p6 p7 p8 p9 p10 p11 p12 p13 p14 p15 p16 p17 p18 p19 p20 p21 : Pos} {k1 k2 k3 : Nat} {Q : Flow → Shared → Prop} {h₀ : Heap} {g₀ : Array GenState} {L cS q R N : Nat} {fv : List Nat} {rows : List (List Nat)} {m : Str → Option Value} {adj : Nat → Nat → Bool}
    (hloc : env.locals = L) (hk : env.scope.kind = .function) (hg : env.globals = mainGlobals) (kS : env.kindOf "size" = some .cell) (lkS : env.cells.lookup ("size" : Str) = some cS) (kr : env.kindOf "rows" = some .local)
    (kt : env.kindOf "_law_threes" = some .globalImplicit) (kf : env.kindOf "_law_fits" = some .globalImplicit) (hh : A.handled = none) (hu : A.units + 80 < cLine) (hroom : A.depth + 1 < recursionLimit) (hq : 1 ≤ q ∧ q < 5)
    (X : LB w h₀ g₀ L cS q R fv rows s.heap s.gens m) (G : MGood q N adj) (RO : RowsOf N adj rows)
    (h : ∀ h' tk, Ext pools h₀ h' → Gl w h' → Q (.ret (.bool true)) { s with heap := h', toks := tk }) :
    wpAny (model prog w) A (exec (.Return (some (.BoolOp .And [.Compare (.Name "size" p1) [.Gt] [.Constant (.int 0) k1 p2] p3, .Compare (.Call (.Name "_law_threes" p4) [.Name "rows" p5] [] p6) [.Eq] [.Constant (.int 0) k2 p7] p8,
      .Call (.Name "_law_fits" p9) [.Name "rows" p10, .Name "size" p11] [] p12, .UnaryOp .Not (.Call (.Name "_law_fits" p13) [.Name "rows" p14, .BinOp (.Name "size" p15) .Sub (.Constant (.int 1) k3 p16) p17] [] p18) p19] p20)) p21) env) Q E s := by
  subst hloc
  obtain ⟨hN, hin, hyes, hno, hthr⟩ := G
  obtain ⟨tq, cs⟩ := X.cs
  have hlen := RO.len
  have hr : ∀ i, i < rows.length → (rows[i]!).length ≤ 100 := fun i hi => by
    have := RO.row_le (fun i k q => (hin i k q).2) (i := i) (by omega)
    omega
  have hri : ∀ i, i < rows.length → ∀ k ∈ rows[i]!, k < rows.length := fun i hi k q => by
    rw [hlen] at hi ⊢
    exact (hin _ _ ((RO.mem i hi k).mp q)).2
  have hadj : ∀ i, i < rows.length → ∀ k, k ∈ rows[i]! ↔ adj i k = true := fun i hi k => RO.mem i (by omega) k
  have ht0 : thr0 rows = 0 := (RO.threes fun i k q => (hin i k q).2).trans hthr
  rw [← hlen] at hyes hno
  refine wpAny_Return_some <| BoolOp_and <| wpAny_Compare1 <| nmC cs kS lkS (hk := hk) <| wpAny_Constant_int <| PySem.P.gt_int <| wpAny_truthy_bool ?_
  rw [show decide (((q : Nat) : Int) > 0) = true from decide_eq_true (by omega)]
  simp only [if_true]
  refine BoolOp_and <| wpAny_Compare1 <| call_threes hk hg kt kr (by kernel_rfl) hh hroom X.Z X.ns X.mR X.X (by omega) hr hri fun h₁ tk₁ t₁ e₁ => wpAny_Constant_int <| PySem.P.eq_int <| wpAny_truthy_bool ?_
  rw [ht0]
  rw [show (((0 : Nat) : Int) == 0) = true from rfl]
  simp only [if_true]
  have X₁ := X.grow e₁
  obtain ⟨t1, cs₁⟩ := X₁.cs
  refine at_ h₁ s.gens s.drawn s.os fun t₁ => ?_
  refine BoolOp_and <| Call_ <| nmG (v := .ref 693) (s := ⟨h₁, s.gens, s.drawn, t₁, s.os⟩) X₁.Z (by kernel_rfl) kf (hk := hk) (hg := hg) <| cwF (w := w) (by kernel_rfl) <| wpAny_items_cons <| nmL X₁.ns kr X₁.mR (hk := hk) <| wpAny_items_cons <| nmC cs₁ kS lkS (hk := hk) <| wpAny_items_nil ⟨X₁.Z, sp_fits adj X₁.Z X₁.X hadj (by omega) hr (by omega) hyes (by omega) hh (by omega) fun h₂ tk₂ e₂ => wpAny_truthy_bool ?_⟩
  simp only [if_true]
  have X₂ := X₁.grow e₂
  obtain ⟨t2, cs₂⟩ := X₂.cs
  refine BoolOp_one <| wpAny_UnaryOp <| Call_ <| nmG (v := .ref 693) (s := ⟨h₂, s.gens, s.drawn, tk₂, s.os⟩) X₂.Z (by kernel_rfl) kf (hk := hk) (hg := hg) <| cwF (w := w) (by kernel_rfl) <| wpAny_items_cons <| nmL X₂.ns kr X₂.mR (hk := hk) <| wpAny_items_cons <| wpAny_BinOp <| nmC cs₂ kS lkS (hk := hk) <| wpAny_Constant_int <| PySem.P.sub_int <| wpAny_items_nil ⟨X₂.Z, ?_⟩
  rw [show ((q : Nat) : Int) - 1 = ((q - 1 : Nat) : Int) from by omega]
  refine sp_fits adj X₂.Z X₂.X hadj (by omega) hr (by omega) hno (by omega) hh (by omega) fun h₃ tk₃ e₃ => not_value <| wpAny_truthy_bool ?_
  have X₃ := X₂.grow e₃
  exact h h₃ _ X₃.M X₃.Z
end
end Mine
end W69
section J1
open PySem PySem.W PyProof.Rows PySem.Calls PySem.Spec
set_option maxRecDepth 100000
set_option maxHeartbeats 8000000
namespace Mine
def LawOk : Prop := ∀ (w : World) (s : Shared) (a : Nat) (vs : List Value) (ns : List Int), Gl w s.heap → s.heap.IsList a vs.toArray → IntsAre vs ns → ns.length ≤ 63 →
  wpC (model PySem.Challenge.rw_ez0193_01.row.prog w) callerA (call (.ref 708) [.ref a]) (fun v s' => v = .bool true ∧ ∃ h' g' tk, s' = { s with heap := h', gens := g', toks := tk } ∧ Ext pools s.heap h' ∧ GM [] s.gens g' ∧ Gl w h') (fun _ _ => False) s
theorem code_tables (w : World) {h : Heap} (X : (KH w).In h) : ∀ P ∈ pools, isCodeTable h P := by
  have e : ∀ P ∈ pools, ∃ c, codeHdIn (KH w) c P = true := by
    intro P hP
    simp only [pools, List.mem_cons, List.not_mem_nil, or_false] at hP
    rcases hP with rfl | rfl | rfl
    · exact ⟨675, by kernel_rfl⟩
    · exact ⟨651, by kernel_rfl⟩
    · exact ⟨259, by kernel_rfl⟩
  intro P hP
  obtain ⟨c, hc⟩ := e P hP
  obtain ⟨o, vs, _, _, _, _, _, _, _, h1, h2, h3, h4, _⟩ := codeHd_of_K X hc
  exact ⟨c, o, vs, h1, h2, h3, h4⟩
theorem join0 (law : LawOk) : PySem.Challenge.rw_ez0193_01.Holds := by
  refine hd ?_
  intro w s₀ s₁ mg mb G Y fa o pm cd doc dV kV ho hd' hcd hD hmg hg args vals as hpre hlay hrd hwl hlo p
  have KX := km_in_of Y
  have KT := km_tabs_of Y
  have Z : Gl w s₁.heap := {
    X := KX
    b := ⟨mb, G.T.b, G.T.builtins⟩
    lim := G.T.nolimit
    pool := fun P hP => ⟨#[], KT P hP, trivial⟩
    mod := by
      obtain ⟨bm, ob, a, b, c, d, e, f⟩ := G.T.bmain
      have : mg "__builtins__" = some (.ref 4) := mg_of KX G.T.g (by kernel_rfl)
      rw [a] at this
      cases this
      exact ⟨mg, ob, G.T.g, a, b, c, d, e, f⟩ }
  have hfa : fa = 708 := by
    have : mg "law" = some (.ref 708) := mg_of KX G.T.g (by kernel_rfl)
    have q := hmg.symm.trans this
    cases q
    rfl
  subst hfa
  clear hmg hD hcd hd' ho G
  wrow_args hpre hlay hrd hwl hlo
  rename IntsAre _ _ => hi
  rename Heap.IsList _ _ _ => hl
  have hw := law w s₁ _ _ _ Z hl hi (by omega) Γ₀ p caller_in ⟨rfl, fun _ h => nomatch h⟩
  refine Sem.wp_mono _ _ _ (fun v p' s' h => ?_) (fun _ _ _ h => h.elim) _ _ hw
  obtain ⟨rfl, h', g', tk, rfl, e, eg, Z'⟩ := h
  refine ⟨.inl ⟨_, .bool true, [], rfl, fun _ => rfl, .bool _, ?_, ?_⟩, ⟨fun b o' hb => ?_, fun b o' hb => ?_⟩, rfl, eg.bare (by rw [hg]; exact .empty)⟩
  · first | rfl | kernel_rfl | (show Bool.and _ _ = true; rfl)
  · exact fun _ => ⟨.nil, fun _ h => nomatch h⟩
  · by_cases hp : b ∈ pools
    · have h0 := KT b hp
      rw [hb] at h0
      cases h0
      obtain ⟨ps, hps, _⟩ := Z'.pool b hp
      exact .inr (.inl ⟨code_tables w KX b hp, rfl, #[], ps, rfl, by rw [Array.empty_append]; exact hps⟩)
    · exact .inl (e b o' hp hb)
  · by_cases hp : b ∈ pools
    · obtain ⟨ps, hps, _⟩ := Z'.pool b hp
      exact ⟨_, hps⟩
    · exact ⟨_, e b o' hp hb⟩
end Mine
end J1
section W67
open PySem PySem.W PyProof.Rows PySem.Calls PySem.Spec PySem.SeqAt PyProof.V
set_option maxRecDepth 100000
set_option maxHeartbeats 8000000
namespace Mine
theorem names_ints {ms : List Int} {n : Nat} {vs ys : List Value} (hlen : vs.length = n) (hP : ∀ (j : Nat) (v : Value), vs[j]? = some v → ∃ t, v = Value.int (((0 : Nat) : Int) + (j : Int) * 1) t)
    (hF : Paired (fun v y => ∀ (k : Nat) t, v = Value.int k t → ∃ t', y = Value.int (nmOf ms k) t') vs ys) : IntsAre ys ((List.range n).map (nmOf ms)) := by
  have gen : ∀ (vs ys : List Value) (o : Nat), (∀ (j : Nat) (v : Value), vs[j]? = some v → ∃ t, v = Value.int ((o + j : Nat) : Int) t) → Paired (fun v y => ∀ (k : Nat) t, v = Value.int k t → ∃ t', y = Value.int (nmOf ms k) t') vs ys → IntsAre ys ((List.range' o vs.length).map (nmOf ms)) := by
    intro vs
    induction vs with
    | nil => intro ys o _ h; cases h; exact .nil
    | cons v vs ih =>
      intro ys o hv h
      cases h with
      | cons f h =>
        obtain ⟨t, e⟩ := hv 0 v rfl
        obtain ⟨t', rfl⟩ := f _ t e
        rw [List.length_cons, List.range'_succ, List.map_cons]
        refine .cons _ _ (ih _ (o + 1) (fun j v q => ?_) h)
        obtain ⟨t, e⟩ := hv (j + 1) v (by simpa using q)
        exact ⟨t, by rw [e]; congr 1; omega⟩
  have := gen vs ys 0 (fun j v q => by
    obtain ⟨t, e⟩ := hP j v q
    exact ⟨t, by rw [e]; congr 1; omega⟩) hF
  rw [hlen, ← List.range_eq_range'] at this
  exact this
theorem mycN_le {n : Nat} : ∀ j, n ≤ mycN j n
  | 0 => Nat.le_refl _
  | j + 1 => by have := mycN_le (n := n) j; simp only [mycN]; omega
theorem mycBj_low {n : Nat} {adj : Nat → Nat → Bool} {i k : Nat} (hi : i < n) (hk : k < n) : ∀ j, mycBj j n adj i k = adj i k
  | 0 => rfl
  | j + 1 => by
    have := mycN_le (n := n) j
    show mycB (mycN j n) (mycBj j n adj) i k = _
    unfold mycB
    rw [if_pos (by omega), if_pos (by omega)]
    exact mycBj_low hi hk j
theorem told_perm {n r : Nat} {adj : Nat → Nat → Bool} {rows told : List (List Nat)} (X : RowsOf n adj rows) (Y : RowsOf (mycN r n) (mycBj r n adj) told) (hin : ∀ i k, adj i k = true → i < n ∧ k < n) {i : Nat} (hi : i < n) :
    ((told[i]!).filter fun k => decide (k < n)).Perm (rows[i]!) := by
  have := mycN_le (n := n) r
  refine (List.perm_ext_iff_of_nodup (nodup_filter _ (Y.nd i (by omega))) (X.nd i hi)).mpr fun k => ?_
  rw [List.mem_filter, Y.mem i (by omega), X.mem i hi, decide_eq_true_eq]
  constructor
  · rintro ⟨q, hk⟩
    rw [← mycBj_low (adj := adj) hi hk r]; exact q
  · intro q
    have hk := (hin i k q).2
    exact ⟨by rw [mycBj_low hi hk r]; exact q, hk⟩
theorem GraphAt.trimmed {h : Heap} {R : Nat} {fv : List Nat} {G : Gr} (x : RowsAt h R fv G.out) : ∃ fv', RL h R fv' G.nbs ∧ (∀ b ∈ fv', ∃ o, h.get? b = some o) ∧ ∀ b ∈ fv', b ∈ fv := by
  rw [out_nbs] at x
  exact x.rl.trim
section
variable {prog : Program} {w : World} {h₀ h h' : Heap} {g₀ g g' : Array GenState} {L cS sz r R : Nat} {fv : List Nat} {rows : List (List Nat)} {m m' : Str → Option Value} {gr : Nat}
structure LP (w : World) (h₀ : Heap) (g₀ : Array GenState) (L cS sz r R gr : Nat) (fv : List Nat) (rows : List (List Nat)) (h : Heap) (g : Array GenState) (m : Str → Option Value) : Prop where
  M : Ext pools h₀ h
  Z : Gl w h
  gm : GM [] g₀ g
  ns : h.Ns L m
  mR : m "rows" = some (.ref R)
  mr : ∃ t, m "rounds" = some (.int (r : Nat) t)
  mG : m "graph" = some (.ref gr)
  cs : ∃ t, h.IsCell cS (some (.int (sz : Nat) t))
  X : RL h R fv rows
  lf : ∀ b ∈ fv, ∃ o, h.get? b = some o
  df : ∀ b ∈ fv, h₀.get? b = none
  dc : h₀.get? cS = none
  nf : L ∉ fv
  nc : cS ≠ L
theorem pool_live (Z₀ : Gl w h₀) {a : Nat} (ha : a ∈ pools) (d : h₀.get? a = none) : False := let ⟨_, hps, _⟩ := Z₀.pool a ha; nomatch d.symm.trans hps
theorem LP.step (x : LP w h₀ g₀ L cS sz r R gr fv rows h g m) (Z₀ : Gl w h₀) {F : List Nat} (e : Ext F h h') (hF : ∀ a ∈ F, a ∈ pools ∨ (a = L ∧ h₀.get? L = none) ∨ (h₀.get? a = none ∧ a ≠ cS ∧ a ∉ fv)) (Z : Gl w h') (gm : GM [] g g') (n : h'.Ns L m) : LP w h₀ g₀ L cS sz r R gr fv rows h' g' m :=
  have hc : cS ∉ F := fun q => by
    rcases hF _ q with q | ⟨q, _⟩ | ⟨_, q, _⟩
    · exact pool_live Z₀ q x.dc
    · exact x.nc q
    · exact q rfl
  have hf : ∀ b ∈ fv, b ∉ F := fun b hb q => by
    rcases hF _ q with q | ⟨q, _⟩ | ⟨_, _, q⟩
    · exact pool_live Z₀ q (x.df b hb)
    · exact x.nf (q ▸ hb)
    · exact q hb
  { x with
    M := x.M.app' e fun b hb => by
      rcases hF b hb with q | ⟨q, d⟩ | ⟨q, _⟩
      · exact .inl q
      · exact .inr (q ▸ d)
      · exact .inr q
    Z := Z
    gm := x.gm.trans gm
    ns := n
    cs := let ⟨t, o, a, b⟩ := x.cs; ⟨t, o, e _ _ hc a, b⟩
    X := x.X.at fun b hb o q => e _ _ (hf b hb) q
    lf := fun b hb => let ⟨o, q⟩ := x.lf b hb; ⟨o, e _ _ (hf b hb) q⟩ }
theorem LP.grow (x : LP w h₀ g₀ L cS sz r R gr fv rows h g m) (Z₀ : Gl w h₀) (e : Ext [] h h') : LP w h₀ g₀ L cS sz r R gr fv rows h' g m := x.step Z₀ e (fun _ h => nomatch h) (x.Z.keep e.keep) (.refl _) (x.ns.keeps e.keep)
theorem LP.store (x : LP w h₀ g₀ L cS sz r R gr fv rows h g m) (Z₀ : Gl w h₀) (e : Heap.SameBut L h h') (hL : h₀.get? L = none) (hl : 709 ≤ L) (n : h'.Ns L m') (h1 : m' "rows" = m "rows") (h2 : m' "rounds" = m "rounds") (h3 : m' "graph" = m "graph") : LP w h₀ g₀ L cS sz r R gr fv rows h' g m' :=
  have one : ∀ {a b : Nat}, b ∈ ([a] : List Nat) → b = a := fun q => List.mem_singleton.mp q
  have e' : Ext [L] h h' := Ext.of_same e
  have hc : cS ∉ ([L] : List Nat) := fun q => x.nc (one q)
  have hf : ∀ b ∈ fv, b ∉ ([L] : List Nat) := fun b hb q => x.nf (one q ▸ hb)
  { x with
    M := x.M.loc hL e
    Z := x.Z.ext e' fun a ha => by rw [one ha]; exact hl
    ns := n
    mR := h1.trans x.mR
    mr := let ⟨t, a⟩ := x.mr; ⟨t, h2.trans a⟩
    mG := h3.trans x.mG
    cs := let ⟨t, o, a, b⟩ := x.cs; ⟨t, o, e' _ _ hc a, b⟩
    X := x.X.at fun b hb o q => e' _ _ (hf b hb) q
    lf := fun b hb => let ⟨o, q⟩ := x.lf b hb; ⟨o, e' _ _ (hf b hb) q⟩ }
end
section
variable {prog : Program} {w : World} {s : Shared}
theorem sp_law {a : Nat} {vs : List Value} {ns : List Int} (Z : Gl w s.heap) (hl : s.heap.IsList a vs.toArray) (hi : IntsAre vs ns) (hlen : ns.length ≤ 63) :
    wpC (model prog w) callerA (call (.ref 708) [.ref a]) (fun v s' => v = .bool true ∧ ∃ h' g' tk, s' = { s with heap := h', gens := g', toks := tk } ∧ Ext pools s.heap h' ∧ GM [] s.gens g' ∧ Gl w h') (fun _ _ => False) s := by
  refine enterXC Z (by decide) (by rfl) (by kernel_rfl) (binds := [("script", .ref a)]) (by kernel_rfl) (by intro L; rfl) (by rfl) (by rfl) ?_
  intro L h₁ tk₁ C
  have Z₁ := Z.k C.ext
  have n₁ := C.ns
  have cN := C.cell "numbers" (L + 1) (by rfl)
  have cS := C.cell "size" (L + 1 + 1) (by rfl)
  have hL := C.loc
  have dN := C.new "numbers" (L + 1) (by rfl)
  have dS := C.new "size" (L + 1 + 1) (by rfl)
  have NS : L + 1 ≠ L + 1 + 1 := by omega
  have one : ∀ {a b : Nat}, b ∈ ([a] : List Nat) → b = a := fun q => List.mem_singleton.mp q
  refine c_cons <| c_Assign_Name <| toC <| numbers_ (hl.at fun o e => C.ext.keep _ _ e) hi hlen n₁ (by rfl) (by rfl) (by rfl) fun h₂ tk₂ D e₂ dD hD => ?_
  replace e₂ : Ext [] h₁ h₂ := e₂
  replace dD : h₁.get? D = none := dD
  generalize hns : ns.take 14 ++ List.replicate 14 0 = ms at hD
  have hms : 14 ≤ ms.length ∧ ms.length ≤ 28 := by
    rw [← hns, List.length_append, List.length_replicate, List.length_take]
    omega
  have M₂ := C.ext.app e₂
  refine stC (cN.keeps e₂.keep) (by rfl) (by rfl) fun h₃ cN₃ s₃ => ?_
  replace s₃ : Heap.SameBut (L + 1) h₂ h₃ := s₃
  have e₃ : Ext [L + 1] h₂ h₃ := Ext.of_same s₃
  have n₃ : h₃.Ns L _ := n₁.at' fun o e => e₃ _ _ (fun q => dN.2 (one q).symm) (e₂.keep _ _ e)
  have M₃ : Ext [] s.heap h₃ := M₂.loc dN.1 s₃
  have Z₃ := Z.k M₃
  obtain ⟨oN, hoN, _⟩ := id cN
  obtain ⟨oS, hoS, _⟩ := id cS
  obtain ⟨oL, hoL⟩ := nsLive n₁
  have DN : D ≠ L + 1 := dead_ne dD hoN
  have DS : D ≠ L + 1 + 1 := dead_ne dD hoS
  have DL : D ≠ L := dead_ne dD hoL
  have cS₃ : h₃.IsCell (L + 1 + 1) none := (cS.keeps e₂.keep).sameBut s₃ NS.symm
  have hD₃ : LI h₃ D ms := hD.at fun o e => e₃ _ _ (fun q => DN (one q)) e
  obtain ⟨vD₃, lD₃⟩ := hD₃.isList
  have dDs : s.heap.get? D = none := dead C.ext.keep dD
  clear cN cS hD e₂ n₁ M₂
  refine c_at h₃ s.gens s.drawn s.os fun t₃ => ?_
  refine c_cons <| c_If <| toC <| wpAny_isTrue_Compare1 <| wpAny_BinOp <| PyProof.Rows.Subscript_ <| nmC (s := ⟨h₃, s.gens, s.drawn, t₃, s.os⟩) cN₃ (by rfl) (by rfl) <| wpAny_Constant_int <| subL lD₃ <| li_get hD₃ (i := 0) rfl (by omega) (by omega) fun u₀ => wpAny_Constant_int <| PyProof.Rows.mod_int (by decide) <| wpAny_Constant_int <| PyProof.Rows.eq_int <| wpAny_truthy_bool ?_
  split
  · refine c_at h₃ s.gens s.drawn s.os fun t₃ => ?_
    refine c_cons <| c_Assign_Name <| toC <| wpAny_BinOp <| PyProof.Rows.Subscript_ <| nmC (s := ⟨h₃, s.gens, s.drawn, t₃, s.os⟩) cN₃ (by rfl) (by rfl) <| wpAny_Constant_int <| subL lD₃ <| li_get hD₃ (i := 1) rfl (by omega) (by omega) fun u₁ => wpAny_Constant_int <| PyProof.Rows.mod_int (by decide) ?_
    obtain ⟨q, hq1, hq5⟩ := fmod_range (ms[1]!) 5 (by decide)
    rw [show (ms[1]!).fmod 5 = (q : Int) from hq1]
    refine stC cS₃ (by rfl) (by rfl) fun h₄ cS₄ s₄ => ?_
    replace s₄ : Heap.SameBut (L + 1 + 1) h₃ h₄ := s₄
    obtain ⟨tq, cS₄⟩ : ∃ t, h₄.IsCell (L + 1 + 1) (some (.int (q : Nat) t)) := ⟨_, cS₄⟩
    have n₄ : h₄.Ns L _ := n₃.at' fun o e => s₄.extBut _ _ dS.2.symm e
    have M₄ : Ext [] s.heap h₄ := M₃.loc dS.1 s₄
    refine c_at h₄ s.gens s.drawn s.os fun t₄ => ?_
    refine c_cons <| try_rows (s := ⟨h₄, s.gens, s.drawn, t₄, s.os⟩) rfl rfl (by rfl) (by rfl) (by rfl) (by rfl) (by rfl) (by rfl) (by rfl) (by rfl) (by rfl) (deeper_frames (A := callerA) rfl) rfl (by show callerA.units + 3 + 100 < cLine; decide) (by show callerA.depth + 1 + 20 < recursionLimit; decide) Z hL C.big dS.1 dS.2 M₄ (.refl _) n₄ cS₄ hq5
      (fun _ h' tk M' Z' => ⟨rfl, h', s.gens, tk, rfl, M', .refl _, Z'⟩) (fun h1 h' g' tk m' R fv rows N adj X G RO => ?_)
    refine c_at h' g' s.drawn s.os fun t₅ => ?_
    exact c_cons <| toC <| last_first (s := ⟨h', g', s.drawn, t₅, s.os⟩) rfl (by rfl) (by rfl) (by rfl) (by rfl) (by rfl) (by rfl) (by rfl) rfl (by show callerA.units + 3 + 80 < cLine; decide) (by show callerA.depth + 1 + 1 < recursionLimit; decide) ⟨h1, hq5⟩ X G RO fun h'' tk'' M'' Z'' => ⟨rfl, h'', g', tk'', rfl, M'', X.gm, Z''⟩
  refine c_nil ?_
  refine c_at h₃ s.gens s.drawn s.os fun t₃ => ?_
  refine c_cons <| c_Assign_Name <| toC <| wpAny_BinOp <| wpAny_Constant_int <| wpAny_BinOp <| PyProof.Rows.Subscript_ <| nmC cN₃ (by rfl) (by rfl) <| wpAny_Constant_int <| subL lD₃ <| li_get hD₃ (i := 1) rfl (by omega) (by omega) fun u₁ => wpAny_Constant_int <| PyProof.Rows.mod_int (by decide) <| PySem.P.add_int ?_
  obtain ⟨q1, hq1, hq4⟩ := fmod_range (ms[1]!) 4 (by decide)
  rw [show (ms[1]!).fmod 4 = (q1 : Int) from hq1, show (1 : Int) + q1 = ((q1 + 1 : Nat) : Int) from by omega]
  generalize hsz : q1 + 1 = sz
  have hsz4 : 1 ≤ sz ∧ sz ≤ 4 := by omega
  clear hq1 hq4 hsz
  refine stC cS₃ (by rfl) (by rfl) fun h₄ cS₄ s₄ => ?_
  replace s₄ : Heap.SameBut (L + 1 + 1) h₃ h₄ := s₄
  obtain ⟨tz, cS₄⟩ : ∃ t, h₄.IsCell (L + 1 + 1) (some (.int (sz : Nat) t)) := ⟨_, cS₄⟩
  have e₄ : Ext [L + 1 + 1] h₃ h₄ := Ext.of_same s₄
  have n₄ : h₄.Ns L _ := n₃.at' fun o e => e₄ _ _ (fun q => dS.2 (one q).symm) e
  have M₄ : Ext [] s.heap h₄ := M₃.loc dS.1 s₄
  have Z₄ := Z.k M₄
  have cN₄ : h₄.IsCell (L + 1) _ := cN₃.sameBut s₄ NS
  have hD₄ : LI h₄ D ms := hD₃.at fun o e => e₄ _ _ (fun q => DS (one q)) e
  obtain ⟨vD₄, lD₄⟩ := hD₄.isList
  refine c_cons <| toC <| wpAny_Assign_ListComp_free (cl := [(("numbers" : Str), (L + 1 : Nat))]) (fun _ => true) (fun v y => ∀ (k : Nat) t, v = Value.int k t → ∃ t', y = Value.int (nmOf ms k) t') (by rfl) (by rfl) (by decide) (by rfl) (by decide) (by rfl) (by rfl) (by rfl) ?_
  refine Call_ <| nmB Z₄ (by kernel_rfl) (by rfl) PyProof.Rows.boot_range (by decide) <| cwT <| wpAny_items_cons <| nmC cS₄ (by rfl) (by rfl) <| wpAny_items_nil <| call_range_1 ?_
  generalize hh₅ : Heap.push h₄ _ = h₅
  have e₅ : Ext [] h₄ h₅ := hh₅ ▸ Ext.push _ _
  have hr₅ : IsRange h₅ h₄.objs.size (0 : Nat) (sz : Nat) 1 _ _ _ := hh₅ ▸ Heap.get?_push_size _ rfl
  dsimp only
  generalize h₄.objs.size = Rg at hr₅ ⊢
  refine range_iter (n := sz) hr₅ (by omega) ⟨by omega, by omega⟩ (by omega) fun h₆ I e₆ dI leI ltI hit => ?_
  replace e₆ : Ext [] h₅ h₆ := e₆
  replace dI : h₅.get? I = none := dI
  have hit' : IsRangeIter h₆ I (((0 : Nat) : Int) + ((0 : Nat) : Int) * 1) (((sz : Nat) : Int) - ((0 : Nat) : Int)) 1 := by simpa using hit
  have e46 : Ext [] h₄ h₆ := e₅.app e₆
  have dI4 : h₄.get? I = none := dead e₅.keep dI
  obtain ⟨oL4, hoL4⟩ := nsLive n₄
  have IL : I ≠ L := dead_ne dI4 hoL4
  have dIs : s.heap.get? I = none := dead M₄.keep dI4
  obtain ⟨oN4, hoN4, rN4⟩ := id cN₄
  have IN : I ≠ L + 1 := dead_ne dI4 hoN4
  obtain ⟨oD4, hoD4⟩ := hD₄.live
  have ID : I ≠ D := dead_ne dI4 hoD4
  refine ⟨I, [I], [I], sz, _, _, _, rfl, walksLt (Walks.range rfl I ((0 : Nat) : Int) 1 sz), by have := sizeLine_eq; omega, hit', ?_, fun q => IL (one q).symm, n₄.keeps e46.keep, ⟨?_, ?_⟩, ?_⟩
  · intro b hb; rw [one hb]; exact ltI
  · intro C i v s₃ m₃ E' _ _ _ _ _ _
    exact wpAny_tests_nil ⟨rfl, _, _, rfl, fun _ _ e => e⟩
  · intro C i v s₃ m₃ E' _ hP _ hn hm hk _
    obtain ⟨hi, t, rfl⟩ := hP
    rw [show ((0 : Nat) : Int) + (i : Int) * 1 = (i : Int) from by omega] at hm ⊢
    have kk : ∀ b o, b ≠ I → h₄.get? b = some o → s₃.heap.get? b = some o := fun b o nb q => hk b o (fun z => nb (one z)) (e46.keep _ _ q)
    have cN' : s₃.heap.IsCell (L + 1) (some (.ref D)) := ⟨oN4, kk _ _ IN.symm hoN4, rN4⟩
    have hD' : LI s₃.heap D ms := hD₄.at fun o q => kk _ _ ID.symm q
    obtain ⟨vD', lD'⟩ := hD'.isList
    refine wpAny_BinOp <| wpAny_BinOp <| wpAny_Constant_int <| PyProof.Rows.Subscript_ <| nmC cN' (by rfl) (by rfl) <| wpAny_BinOp <| wpAny_Constant_int <| nmL hn (by rfl) hm <| PySem.P.add_int <| subL lD' <| li_get hD' (i := 2 + i) (by omega) (by omega) (by omega) fun u => ?_
    refine PySem.P.mul_int (nmL hn (by rfl) hm <| PySem.P.add_int ⟨fun k t e => ?_, _, _, rfl, fun _ _ e => e⟩)
    cases e
    exact ⟨_, rfl⟩
  intro Nm h₇ tk₇ ys vs dNm _ hpl hlen hPv hF n₇ hk₇
  replace dNm : h₆.get? Nm = none := dNm
  have e67 : Ext [L, I] h₆ h₇ := fun b o nb q => hk₇ b o (fun z => nb (z ▸ .head _)) (fun z => nb (.tail _ z)) q
  have M₇ : Ext [] s.heap h₇ := (M₄.app e46).app' e67 fun b hb => .inr (by
    simp only [List.mem_cons, List.not_mem_nil, or_false] at hb
    rcases hb with rfl | rfl
    · exact hL
    · exact dIs)
  have Z₇ := Z.k M₇
  have k47 : ∀ b o, b ≠ L → b ≠ I → h₄.get? b = some o → h₇.get? b = some o := fun b o n1 n2 q => hk₇ b o n1 (fun z => n2 (one z)) (e46.keep _ _ q)
  have cN₇ : h₇.IsCell (L + 1) (some (.ref D)) := ⟨oN4, k47 _ _ dN.2 IN.symm hoN4, rN4⟩
  have cS₇ : h₇.IsCell (L + 1 + 1) (some (.int (sz : Nat) tz)) := by
    obtain ⟨o, ho, r⟩ := cS₄
    exact ⟨o, k47 _ _ dS.2 (dead_ne dI4 ho).symm ho, r⟩
  have hD₇ : LI h₇ D ms := hD₄.at fun o q => k47 _ _ DL ID.symm q
  rw [List.filter_eq_self.mpr (fun _ _ => rfl)] at hF
  have hNi := names_ints hlen (fun j v q => (hPv j v q).2) hF
  have hNm₇ : LI h₇ Nm ((List.range sz).map (nmOf ms)) := ⟨ys.toList, by simpa using hpl, hNi⟩
  have hysz : ys.size = sz := by simpa using hNi.length
  have dNms : s.heap.get? Nm = none := dead (M₄.app e46).keep dNm
  have NmL : Nm ≠ L := dead_ne (dead e46.keep dNm) hoL4
  have NmN : Nm ≠ L + 1 := dead_ne (dead e46.keep dNm) hoN4
  obtain ⟨oS4, hoS4, _⟩ := id cS₄
  have NmS : Nm ≠ L + 1 + 1 := dead_ne (dead e46.keep dNm) hoS4
  have lNm₇ : h₇.IsList Nm ys := hpl.isList
  obtain ⟨m₇, n₇, hm7⟩ : ∃ m, h₇.Ns L m ∧ m ("names" : Str) = some (.ref Nm) := ⟨_, n₇, rfl⟩
  clear hk₇ e67 hF hPv hlen hpl dNm hit hit' hr₅ k47 n₄ n₃ hD₃ lD₃ lD₄ hD₄ cN₃ cN₄ cS₃ cS₄
  refine c_at h₇ s.gens s.drawn s.os fun t₇ => ?_
  refine c_cons <| c_Assign_Name <| toC <| Call_ <| nmG (v := .ref 617) Z₇ (by kernel_rfl) (by rfl) <| cwF0 Z₇ (by kernel_rfl) <| sp_Graph Z₇ (by show callerA.depth + 1 + 3 < _; decide) fun h₈ tk₈ G e₈ I₈ r1 r2 r3 dG => ?_
  replace e₈ : Ext [] h₇ h₈ := e₈
  replace dG : ∀ a ∈ G.all, h₇.get? a = none := dG
  refine stL (n₇.keeps e₈.keep) (by rfl) fun h₉ n₉ s₉ => ?_
  replace s₉ : Heap.SameBut L h₈ h₉ := s₉
  have e₉ : Ext [L] h₈ h₉ := Ext.of_same s₉
  have M₉ : Ext [] s.heap h₉ := (M₇.app e₈).loc hL s₉
  have Z₉ := Z.k M₉
  have hlive : ∀ {x : Nat} {o : Obj}, h₇.get? x = some o → x ∉ G.all := fun q z => nomatch (dG _ z).symm.trans q
  obtain ⟨oL7, hoL7⟩ := nsLive n₇
  have LG : L ∉ G.all := hlive hoL7
  have I₉ : GraphAt prog w h₉ G := I₈.to e₉ fun a ha q => LG (one q ▸ ha)
  have J₉ : Gi G := ⟨by rw [r1]; exact Nat.zero_le _, by rw [r1]; exact fun _ h => nomatch h⟩
  have Gids : G.ids = [] := by rw [Gr.ids, r1]; rfl
  have k79 : ∀ b o, b ≠ L → h₇.get? b = some o → h₉.get? b = some o := fun b o nb q => e₉ _ _ (fun z => nb (one z)) (e₈.keep _ _ q)
  obtain ⟨oNm, hoNm⟩ := hNm₇.live
  have NmG : Nm ∉ G.all := hlive hoNm
  have lNm₉ : h₉.IsList Nm ys := lNm₇.at fun o q => k79 _ _ NmL q
  obtain ⟨m₉, n₉, hm9n, hm9g⟩ : ∃ m, h₉.Ns L m ∧ m ("names" : Str) = some (.ref Nm) ∧ m ("graph" : Str) = some (.ref G.g) := ⟨_, n₉, hm7, rfl⟩
  have X₉ : ∀ g, Src prog w (.ref Nm) [] [Nm] [] sz (NodeIs prog w false (nmOf ms)) h₉ g := fun g => by
    rw [← hysz]
    refine src_list lNm₉ (fun _ h => nomatch h) fun i v h' hv _ => ?_
    obtain ⟨n, t, hn, rfl⟩ := intsAre_at hNi (by simpa using hv)
    rw [List.getElem?_map] at hn
    obtain ⟨j, hj, rfl⟩ := Option.map_eq_some_iff.mp hn
    rw [List.getElem?_range (by have := (Array.getElem?_eq_some_iff.mp hv).1; omega)] at hj
    cases hj
    exact ⟨t, rfl⟩
  refine c_at h₉ s.gens s.drawn s.os fun t₉ => ?_
  refine c_cons <| toC <| wpAny_Expr_any <| MethodCall_ <| nmL n₉ (by rfl) hm9g <| gb_meth Z₉ I₉.gb (f := 433) (by kernel_rfl) (by kernel_rfl) (I₉.bare (by decide)) <| cwF (w := w) (by kernel_rfl) <| wpAny_items_cons <| nmL n₉ (by rfl) hm9n <| wpAny_items_nil ⟨Z₉, sp_add_nodes_from false [] [] rfl (fun q => by cases q) Z₉ I₉ J₉ (by show callerA.depth + 1 + 1 < _; decide) rfl (X₉ _) (fun b hb => by rw [one hb]; exact let ⟨o, q, _⟩ := lNm₉; ⟨o, q⟩) (fun b hb => by rw [one hb]; exact NmG)
      (fun _ h => nomatch h) (fun _ h => nomatch h) (by rw [r1, List.length_nil]; omega) (fun _ h => nomatch h) (fun j _ q => by rw [Gids] at q; cases q) (fun a b ha hb q => nmOf_inj (by omega) (by omega) q) fun h₁₀ g₁₀ tk₁₀ H e₁₀ _ eg₁₀ NA => ?_⟩
  replace e₁₀ : Ext G.all h₉ h₁₀ := e₁₀.mono fun b hb => by simpa using hb
  replace eg₁₀ : GM [] s.gens g₁₀ := eg₁₀
  replace NA : NAdded prog w G (nmOf ms) h₉ sz h₁₀ H := NA
  have dGs : ∀ a ∈ G.all, s.heap.get? a = none := fun a ha => dead M₇.keep (dG a ha)
  have M₁₀ : Ext [] s.heap h₁₀ := M₉.app' e₁₀ fun b hb => .inr (dGs b hb)
  have hids : H.ids = (List.range sz).map (nmOf ms) := by rw [NA.ids, Gids, List.nil_append]
  have hHg : H.g = G.g := congrArg (·.1) NA.hd
  have hHm : H.more = [] := (congrArg (·.2.2.2.2.2.1) NA.hd).trans r2
  have hHv : H.vs = [] := (congrArg (·.2.2.2.2.2.2) NA.hd).trans r3
  have JH : Gi H := ⟨by rw [NA.len, r1, List.length_nil]; omega, NA.J⟩
  have hHno : ∀ a b, ¬ H.has a b := fun a b q => by
    obtain ⟨r, hr, _⟩ := (NA.has a b).mp q
    rw [r1] at hr; cases hr
  have off9 : ∀ a ∈ [L, L + 1, L + 1 + 1, D, Nm], a ∉ G.all ∧ ∃ o, h₉.get? a = some o := fun a ha => by
    simp only [List.mem_cons, List.not_mem_nil, or_false] at ha
    rcases ha with rfl | rfl | rfl | rfl | rfl
    · exact ⟨LG, nsLive n₉⟩
    · obtain ⟨o, q, _⟩ := cN₇; exact ⟨hlive q, o, k79 _ _ dN.2 q⟩
    · obtain ⟨o, q, _⟩ := cS₇; exact ⟨hlive q, o, k79 _ _ dS.2 q⟩
    · obtain ⟨o, q⟩ := hD₇.live; exact ⟨hlive q, o, k79 _ _ DL q⟩
    · exact ⟨NmG, oNm, k79 _ _ NmL hoNm⟩
  have up : ∀ a o, a ∈ [L, L + 1, L + 1 + 1, D, Nm] → a ≠ L → h₇.get? a = some o → h₁₀.get? a = some o := fun a o ha nl q => e₁₀ _ _ (off9 a ha).1 (k79 _ _ nl q)
  have X₁₀ : LE prog w s.heap s.gens L (L + 1) (L + 1 + 1) D Nm sz tz ms h₁₀ g₁₀ m₉ H := {
    M := M₁₀
    gm := eg₁₀
    ns := n₉.at' fun o q => e₁₀ _ _ LG q
    mN := hm9n
    mG := by rw [hHg]; exact hm9g
    cn := let ⟨o, q, r⟩ := cN₇; ⟨o, up _ _ (by simp) dN.2 q, r⟩
    cs := let ⟨o, q, r⟩ := cS₇; ⟨o, up _ _ (by simp) dS.2 q, r⟩
    lD := hD₇.at fun o q => up _ _ (by simp) DL q
    lN := hNm₇.at fun o q => up _ _ (by simp) NmL q
    I := NA.I
    J := JH
    ids := hids
    more := hHm
    vs := hHv
    sym := fun a b q => absurd q (hHno a b)
    irr := fun a b q => absurd q (hHno a b)
    new := fun a ha => (NA.gr a ha).elim (dGs a) fun q => dead M₉.keep q
    off := fun a ha => let ⟨na, o, ho⟩ := off9 a ha; NA.gr.off ho na }
  have hne : L ∉ [L + 1, L + 1 + 1, D, Nm] := by
    intro q
    simp only [List.mem_cons, List.not_mem_nil, or_false] at q
    rcases q with q | q | q | q
    · exact dN.2 q.symm
    · exact dS.2 q.symm
    · exact DL q.symm
    · exact NmL q.symm
  clear up off9 hHno JH hHv hHm hHg hids M₁₀ dGs NA eg₁₀ e₁₀ X₉ n₉ hm9n hm9g lNm₉ NmG hoNm k79 Gids J₉ I₉ LG hlive Z₉ M₉ e₉ s₉ dG r1 r2 r3 I₈ e₈ n₇ hm7 lNm₇ NmL NmN NmS hysz hNm₇ hNi hD₇ cS₇ cN₇ Z₇ M₇
  have hDec : callerA.depth + 30 < recursionLimit := by decide
  have hUn : callerA.units + 200 < cLine := by decide
  refine c_at h₁₀ g₁₀ s.drawn s.os fun t₁₀ => ?_
  refine c_cons <| toC <| edges_loop (s := ⟨h₁₀, g₁₀, s.drawn, t₁₀, s.os⟩) rfl (by rfl) (by rfl) (by rfl) (by rfl) (by rfl) (by rfl) (by rfl) (by rfl) (hargs := rfl) (hM := by rfl) (hI := by rfl) (hW := by rfl) hsz4 hms rfl (by show callerA.depth + 1 + 1 < _; omega) hL hne Z X₁₀ fun h₁₁ g₁₁ tk₁₁ m₁₁ H₁ X => ?_
  clear X₁₀
  have Z₁₁ := Z.keep X.M.keep
  refine c_at h₁₁ g₁₁ s.drawn s.os fun t₁₁ => ?_
  refine c_cons <| c_Assign_Name <| toC <| wpAny_mono (E := fun _ _ => False) (Q := fun v s' => ∃ (r : Nat) (t : Tok) (tk : Nat), v = .int (r : Nat) t ∧ (r = 1 ∨ (r = 2 ∧ sz < 3)) ∧ s' = ⟨h₁₁, g₁₁, s.drawn, tk, s.os⟩) ?_ (fun v s' hv => ?_) (fun _ _ q => q.elim)
  · refine wpAny_IfExp <| wpAny_isTrue_Compare1 <| nmC X.cs (by rfl) (by rfl) <| wpAny_Constant_int <| PyProof.Rows.lt_int <| wpAny_truthy_bool ?_
    by_cases h3 : sz < 3
    · rw [show decide (((sz : Nat) : Int) < 3) = true from decide_eq_true (by omega)]
      simp only [if_true]
      obtain ⟨vD, lD⟩ := X.lD.isList
      refine wpAny_BinOp <| wpAny_Constant_int <| wpAny_BinOp <| wpAny_BinOp <| PyProof.Rows.Subscript_ <| nmC X.cn (by rfl) (by rfl) <| wpAny_Constant_int <| subL lD <| li_get X.lD (i := 0) rfl (by omega) (by omega) fun u0 => wpAny_Constant_int <| PyProof.Rows.floordiv_int (by decide) <| wpAny_Constant_int <| PyProof.Rows.mod_int (by decide) <| PySem.P.add_int ?_
      obtain ⟨q, hq, hlt⟩ := fmod_range ((ms[0]!).fdiv 3) 2 (by decide)
      rw [show ((ms[0]!).fdiv 3).fmod 2 = (q : Int) from hq]
      exact ⟨q + 1, _, _, by congr 1; omega, by omega, rfl⟩
    · rw [show decide (((sz : Nat) : Int) < 3) = false from decide_eq_false (by omega)]
      simp only [Bool.false_eq_true, if_false]
      exact wpAny_Constant_int ⟨1, _, _, rfl, .inl rfl, rfl⟩
  obtain ⟨r, tr, tk, rfl, hr, rfl⟩ := hv
  refine stL X.ns (by rfl) fun h₁₂ n₁₂ s₁₂ => ?_
  replace s₁₂ : Heap.SameBut L h₁₁ h₁₂ := s₁₂
  obtain ⟨m₁₂, n₁₂, f1, f2, f3⟩ : ∃ m'', h₁₂.Ns L m'' ∧ m'' ("rounds" : Str) = some (.int (r : Nat) tr) ∧ m'' ("names" : Str) = m₁₁ ("names" : Str) ∧ m'' ("graph" : Str) = m₁₁ ("graph" : Str) := ⟨_, n₁₂, rfl, rfl, rfl⟩
  have X₁₂ := X.store s₁₂ hL hne n₁₂ f2 f3
  clear X s₁₂ n₁₂ f2 f3
  have Z₁₂ := Z.keep X₁₂.M.keep
  have hlen : H₁.rows.length = sz := by rw [← ids_len, X₁₂.ids]; simp
  refine c_at h₁₂ g₁₁ s.drawn s.os fun t₁₂ => ?_
  refine c_cons <| c_Assign_Name <| c_Call <| toC <| nmG (v := .ref 688) (s := ⟨h₁₂, g₁₁, s.drawn, t₁₂, s.os⟩) Z₁₂ (by kernel_rfl) (by rfl) <| c_cwF (w := w) (by kernel_rfl) <| c_items_cons <| toC <| nmL X₁₂.ns (by rfl) X₁₂.mG <| toC (wpAny_items_nil ⟨Z₁₂, sp_law_rows Z₁₂ X₁₂.I X₁₂.J (by show callerA.depth + 1 + 6 < _; omega) rfl (by rw [X₁₂.more]; exact Nat.zero_le _) (by omega) fun h₁₃ g₁₃ tk₁₃ H₂ R fv₀ hH₂ e₁₃ eg₁₃ I₁₃ RA dfv => ?_⟩)
  replace e₁₃ : Ext [H₁.gd] h₁₂ h₁₃ := e₁₃
  replace eg₁₃ : GM [] g₁₁ g₁₃ := eg₁₃
  replace dfv : ∀ a ∈ fv₀, h₁₂.get? a = none := dfv
  replace I₁₃ : GraphAt prog w h₁₃ H₂ := I₁₃
  obtain ⟨fv, RX, lfv, sfv⟩ := GraphAt.trimmed RA
  have gdl : H₁.gd ∈ H₁.all := List.mem_append_left _ (Gr.muts_iff.mpr (.inl rfl))
  have M₁₃ : Ext [] s.heap h₁₃ := X₁₂.M.app' e₁₃ fun b hb => .inr (by rw [one hb]; exact X₁₂.new _ gdl)
  have hall : H₂.all = H₁.all := by rcases hH₂ with rfl | rfl <;> simp [adjd_all]
  have hrows : H₂.rows = H₁.rows := by rcases hH₂ with rfl | rfl <;> simp [adjd_rows]
  have hgg : H₂.g = H₁.g := by rcases hH₂ with rfl | rfl <;> simp [adjd_g]
  have hmore : H₂.more.length ≤ 1 := by
    rcases hH₂ with rfl | rfl
    · rw [X₁₂.more]; exact Nat.zero_le _
    · have := adjd_more (G := H₁); rw [X₁₂.more] at this; simpa using this
  have J₂ : Gi H₂ := by rcases hH₂ with rfl | rfl <;> first | exact X₁₂.J | exact adjd_gi X₁₂.J
  have hids : H₂.ids = H₁.ids := by unfold Gr.ids; rw [hrows]
  have hnbs : H₂.nbs = H₁.nbs := by unfold Gr.nbs; rw [hrows, hids]
  have hlen2 : H₂.rows.length = sz := by rw [hrows]; exact hlen
  have hsym : ∀ a b, H₂.has a b → H₂.has b a := fun a b => by unfold Gr.has; rw [hrows]; exact X₁₂.sym a b
  have hirr : ∀ a b, H₂.has a b → a ≠ b := fun a b => by unfold Gr.has; rw [hrows]; exact X₁₂.irr a b
  have offg : ∀ a ∈ [L, L + 1, L + 1 + 1, D, Nm], a ≠ H₁.gd := fun a ha q => X₁₂.off a ha (q ▸ gdl)
  have n₁₃ : h₁₃.Ns L m₁₂ := X₁₂.ns.at' fun o q => e₁₃ _ _ (fun z => offg L (by simp) (one z)) q
  refine stL (s := ⟨h₁₃, g₁₃, s.drawn, tk₁₃, s.os⟩) n₁₃ (by rfl) fun h₁₄ n₁₄ s₁₄ => ?_
  replace s₁₄ : Heap.SameBut L h₁₃ h₁₄ := s₁₄
  have e₁₄ : Ext [L] h₁₃ h₁₄ := Ext.of_same s₁₄
  obtain ⟨m₁₄, n₁₄, q1, q2, q3⟩ : ∃ m'', h₁₄.Ns L m'' ∧ m'' ("rows" : Str) = some (.ref R) ∧ m'' ("rounds" : Str) = m₁₂ ("rounds" : Str) ∧ m'' ("graph" : Str) = m₁₂ ("graph" : Str) := ⟨_, n₁₄, rfl, rfl, rfl⟩
  obtain ⟨oL12, hoL12⟩ := nsLive X₁₂.ns
  have Lfv : L ∉ fv := fun q => nomatch (dfv L (sfv L q)).symm.trans hoL12
  have M₁₄ : Ext [] s.heap h₁₄ := M₁₃.loc hL s₁₄
  have I₁₄ : GraphAt prog w h₁₄ H₂ := I₁₃.to e₁₄ fun a ha q => X₁₂.off L (by simp) (one q ▸ hall ▸ ha)
  have P₁₄ : LP w s.heap s.gens L (L + 1 + 1) sz r R H₂.g fv H₂.nbs h₁₄ g₁₃ m₁₄ := {
    M := Ext.of_keep M₁₄.keep _
    Z := Z.keep M₁₄.keep
    gm := X₁₂.gm.trans eg₁₃
    ns := n₁₄
    mR := q1
    mr := ⟨tr, q2.trans f1⟩
    mG := by rw [hgg]; exact q3.trans X₁₂.mG
    cs := let ⟨o, a, b⟩ := X₁₂.cs; ⟨tz, o, e₁₄ _ _ (fun z => dS.2 (one z)) (e₁₃ _ _ (fun z => offg _ (by simp) (one z)) a), b⟩
    X := by rw [hnbs]; exact RX.at fun b hb o q => e₁₄ _ _ (fun z => Lfv (one z ▸ hb)) q
    lf := fun b hb => let ⟨o, q⟩ := lfv b hb; ⟨o, e₁₄ _ _ (fun z => Lfv (one z ▸ hb)) q⟩
    df := fun b hb => dead X₁₂.M.keep (dfv b (sfv b hb))
    dc := dS.1
    nf := Lfv
    nc := dS.2 }
  have dH : ∀ a ∈ H₂.all, s.heap.get? a = none := fun a ha => X₁₂.new a (hall ▸ ha)
  have LH : L ∉ H₂.all := hall ▸ X₁₂.off L (by simp)
  have L9 : 709 ≤ L := C.big
  have offc : L + 1 + 1 ∉ H₂.all := hall ▸ X₁₂.off _ (by simp)
  have offf : ∀ b ∈ fv, b ∉ H₂.all := fun b hb q => by
    obtain ⟨o, ho⟩ := X₁₂.I.live (List.mem_append.mp (hall ▸ q))
    exact nomatch (dfv b (sfv b hb)).symm.trans ho
  clear e₁₄ s₁₄ n₁₄ q1 q2 q3 X₁₂ n₁₃ offg M₁₃ RX lfv sfv dfv I₁₃ eg₁₃ e₁₃ RA hH₂ f1 Z₁₂ Z₁₁ hgg hall hnbs hids hrows gdl Lfv hne
  refine c_at h₁₄ g₁₃ s.drawn s.os fun t₁₄ => ?_
  obtain ⟨P, hP⟩ : ∃ P : Int → Int → Prop, P = fun a b => ∃ x y, H₂.has x y ∧ a = ((H₂.ids.idxOf x : Nat) : Int) ∧ b = ((H₂.ids.idxOf y : Nat) : Int) := ⟨_, rfl⟩
  refine c_cons <| c_Assign_Name <| c_Call <| toC <| nmG (v := .ref 688) (s := ⟨h₁₄, g₁₃, s.drawn, t₁₄, s.os⟩) P₁₄.Z (by kernel_rfl) (by rfl) <| c_cwF (w := w) (by kernel_rfl) <| c_items_cons <| wpC.mono (Q := fun v s' => ∃ (h' : Heap) (g' : Array GenState) (tk : Nat) (Hm : Gr), v = .ref Hm.g ∧ s' = ⟨h', g', s.drawn, tk, s.os⟩ ∧ MS prog w [L] h₁₄ g₁₃ (mycN r sz) (mycP r sz P) h' g' Hm) (E := fun _ _ => False) ?_ (fun v s' hv => ?_) (fun _ _ q => q.elim)
  · obtain ⟨tr', htr⟩ := P₁₄.mr
    have hSb : ∀ b ∈ ([L] : List Nat), 709 ≤ b ∧ b ∉ H₂.all := fun b hb => by rw [one hb]; exact ⟨L9, LH⟩
    refine c_IfExp <| toC <| wpAny_isTrue_Compare1 <| nmL P₁₄.ns (by rfl) htr <| wpAny_Constant_int <| PySem.P.gt_int <| wpAny_truthy_bool ?_
    rcases hr with rfl | ⟨rfl, _⟩
    · rw [show decide (((1 : Nat) : Int) > 1) = false from by decide]
      simp only [Bool.false_eq_true, if_false]
      refine c_at h₁₄ g₁₃ s.drawn s.os fun t => ?_
      refine c_Call <| toC <| nmG (v := .ref 676) (s := ⟨h₁₄, g₁₃, s.drawn, t, s.os⟩) P₁₄.Z (by kernel_rfl) (by rfl) <| c_cwF (w := w) (by kernel_rfl) <| c_items_cons <| toC <| nmL P₁₄.ns (by rfl) P₁₄.mG <| toC (wpAny_items_nil ⟨P₁₄.Z, ?_⟩)
      refine sp_myc (k := 1) (by decide) _ (deeper_frames (A := callerA) rfl) ?_ (by show callerA.units + 3 + 40 < _; omega) hSb P₁₄.Z I₁₄ J₂ (by show callerA.depth + 1 + 12 < _; omega) rfl (by omega) (by omega) hsym hirr (.inl ⟨rfl, rfl, rfl⟩) fun h' g' tk Hm MM => ⟨h', g', tk, Hm, rfl, rfl, ?_⟩
      · obtain ⟨oL, es, ep, hoL, hdL, _⟩ := id P₁₄.ns
        exact ⟨(by intro q; cases q), ⟨L, oL, rfl, rfl, hoL, fun vs q => by rw [hdL] at q; cases q⟩, trivial⟩
      · subst hP
        rw [hlen2] at MM
        exact MM
    · rw [show decide (((2 : Nat) : Int) > 1) = true from by decide]
      simp only [if_true]
      refine c_at h₁₄ g₁₃ s.drawn s.os fun t => ?_
      refine c_Call <| toC <| nmG (v := .ref 676) (s := ⟨h₁₄, g₁₃, s.drawn, t, s.os⟩) P₁₄.Z (by kernel_rfl) (by rfl) <| c_cwF (w := w) (by kernel_rfl) <| c_items_cons <| toC <| nmL P₁₄.ns (by rfl) P₁₄.mG <| c_items_cons <| toC <| nmL P₁₄.ns (by rfl) htr <| toC (wpAny_items_nil ⟨P₁₄.Z, ?_⟩)
      refine sp_myc (k := 2) (by decide) _ (deeper_frames (A := callerA) rfl) ?_ (by show callerA.units + 3 + 40 < _; omega) hSb P₁₄.Z I₁₄ J₂ (by show callerA.depth + 1 + 12 < _; omega) rfl (by omega) (by omega) hsym hirr (.inr rfl) fun h' g' tk Hm MM => ⟨h', g', tk, Hm, rfl, rfl, ?_⟩
      · obtain ⟨oL, es, ep, hoL, hdL, _⟩ := id P₁₄.ns
        exact ⟨(by intro q; cases q), ⟨L, oL, rfl, rfl, hoL, fun vs q => by rw [hdL] at q; cases q⟩, trivial⟩
      · subst hP
        rw [hlen2] at MM
        exact MM
  obtain ⟨h₁₅, g₁₅, tk₁₅, Hm, rfl, rfl, MM⟩ := hv
  have hN : mycN r sz ≤ 30 := by rcases hr with rfl | ⟨rfl, h3⟩ <;> simp only [mycN] <;> omega
  have hMr := MM.rows
  refine toC (wpAny_items_nil ⟨MM.Z, sp_law_rows MM.Z MM.I MM.J (by show callerA.depth + 1 + 6 < _; omega) rfl (by have := MM.one.len; omega) (by omega) fun h₁₆ g₁₆ tk₁₆ Hm' T gv₀ _ e₁₆ eg₁₆ _ TA dgv => ?_⟩)
  replace e₁₆ : Ext [Hm.gd] h₁₅ h₁₆ := e₁₆
  replace eg₁₆ : GM [] g₁₅ g₁₆ := eg₁₆
  replace dgv : ∀ a ∈ gv₀, h₁₅.get? a = none := dgv
  obtain ⟨gv, TX, ltv, stv⟩ := GraphAt.trimmed TA
  have gdm : Hm.gd ∈ Hm.all := List.mem_append_left _ (Gr.muts_iff.mpr (.inl rfl))
  have dgd : h₁₄.get? Hm.gd = none := MM.new _ gdm
  have e1416 : Ext ([L] ++ mPools) h₁₄ h₁₆ := Ext.app' (F' := [Hm.gd]) MM.ext e₁₆ fun b hb => .inr (by rw [one hb]; exact dgd)
  have Z₁₆ : Gl w h₁₆ := MM.Z.ext e₁₆ fun a ha => by rw [one ha]; exact MM.I.own _ gdm
  obtain ⟨oL14, hoL14⟩ := nsLive P₁₄.ns
  have n₁₅ : h₁₅.Ns L m₁₄ := nsSlots P₁₄.ns fun o q => MM.sl L (.head _) o q
  have n₁₆ : h₁₆.Ns L m₁₄ := n₁₅.at' fun o q => e₁₆ _ _ (fun z => dead_ne dgd hoL14 (one z).symm) q
  have P₁₆ := P₁₄.step Z e1416 (fun a ha => by
    rcases List.mem_append.mp ha with q | q
    · exact .inr (.inl ⟨one q, hL⟩)
    · exact .inl q) Z₁₆ (MM.gm.trans eg₁₆) n₁₆
  have offP : ∀ a, s.heap.get? a = none → a ≠ L → a ∉ [L] ++ mPools := fun a d nl q => by
    rcases List.mem_append.mp q with q | q
    · exact nl (one q)
    · exact pool_live Z q d
  have offH : ∀ a ∈ H₂.all, a ∉ [L] ++ mPools := fun a ha => offP a (dH a ha) fun q => LH (q ▸ ha)
  have I₁₆ : GraphAt prog w h₁₆ H₂ := I₁₄.to e1416 offH
  obtain ⟨oL15, hoL15⟩ := nsLive n₁₅
  have Lgv : L ∉ gv := fun q => nomatch (dgv L (stv L q)).symm.trans hoL15
  have offgv : ∀ b ∈ gv, b ∉ H₂.all := fun b hb q => by
    obtain ⟨o, ho⟩ := I₁₄.live (List.mem_append.mp q)
    exact nomatch (dgv b (stv b hb)).symm.trans (MM.ext _ _ (offH b q) ho)
  have RO : RowsOf sz H₂.adjB H₂.nbs := hlen2 ▸ nbs_rows I₁₄ J₂
  have hin : ∀ i k, H₂.adjB i k = true → i < sz ∧ k < sz := fun i k q => hlen2 ▸ adjB_in q
  have hsB := adjB_sym hsym
  obtain ⟨gfin, ⟨c, hleast, hyes, hno⟩, hnet⟩ := goodR_of (plain_law hsz4.1 hsz4.2 hr hin hsB (adjB_irr hirr))
  have TO : RowsOf (mycN r sz) (mycBj r sz H₂.adjB) Hm.nbs := says_rows MM.I MM.J MM.ids MM.has (mycP_says hin hsB (hP ▸ has_adjB I₁₄ J₂) r) (mycBj_in hin r)
  have hinB := mycBj_in hin r
  have hc : c ≤ sz := by
    have := List.mem_of_find?_eq_some hleast
    have := List.mem_range.mp this
    omega
  have tperm := fun i (hi : i < sz) => told_perm RO TO hin hi
  have hrl : ∀ i, i < H₂.nbs.length → (H₂.nbs[i]!).length ≤ 30 := fun i hi => by
    have := RO.row_le (fun i k q => (hin i k q).2) (i := i) (by rw [← RO.len]; exact hi)
    omega
  have htl : ∀ i, i < Hm.nbs.length → (Hm.nbs[i]!).length ≤ 30 := fun i hi => by
    have := TO.row_le (fun i k q => (hinB i k q).2) (i := i) (by rw [← TO.len]; exact hi)
    omega
  have hrin : ∀ i, i < H₂.nbs.length → ∀ k ∈ H₂.nbs[i]!, k < H₂.nbs.length := fun i hi k q => by
    rw [RO.len] at hi ⊢
    exact (hin _ _ ((RO.mem i hi k).mp q)).2
  have htin : ∀ i, i < Hm.nbs.length → ∀ k ∈ Hm.nbs[i]!, k < Hm.nbs.length := fun i hi k q => by
    rw [TO.len] at hi ⊢
    exact (hinB _ _ ((TO.mem i hi k).mp q)).2
  have hnet' : iterNET r (sz, (H₂.nbs.map List.length).sum / 2, thr0 H₂.nbs) = (Hm.nbs.length, (Hm.nbs.map List.length).sum / 2, thr0 Hm.nbs) := by
    rw [RO.degs fun i k q => (hin i k q).2, RO.threes fun i k q => (hin i k q).2, TO.degs fun i k q => (hinB i k q).2, TO.threes fun i k q => (hinB i k q).2, TO.len]
    exact hnet.symm
  have hfin : ∀ m, m ≤ H₂.nbs.length → (fitsRun H₂.nbs.length H₂.adjB m 300 [] 0).isSome = true := by rw [RO.len]; exact gfin
  have hleast' : leastOf H₂.nbs.length H₂.adjB 300 = some c := by rw [RO.len]; exact hleast
  have hyes' : fitsRun Hm.nbs.length (mycBj r sz H₂.adjB) (c + r) 300 [] 0 = some true := by rw [TO.len]; exact hyes
  have hno' : fitsRun Hm.nbs.length (mycBj r sz H₂.adjB) (c + r - 1) 300 [] 0 = some false := by rw [TO.len]; exact hno
  have hadjR : ∀ i, i < H₂.nbs.length → ∀ k, k ∈ H₂.nbs[i]! ↔ H₂.adjB i k = true := fun i hi k => RO.mem i (by rw [← RO.len]; exact hi) k
  have hadjT : ∀ i, i < Hm.nbs.length → ∀ k, k ∈ Hm.nbs[i]! ↔ mycBj r sz H₂.adjB i k = true := fun i hi k => TO.mem i (by rw [← TO.len]; exact hi) k
  have lenR := RO.len
  have lenT := TO.len
  have hsn := mycN_le (n := sz) r
  clear TO RO hnet hno hyes hleast gfin hsB hin hinB MM TA hP hsym hirr P₁₄ I₁₄ n₁₅ hoL15 oL15 hoL14 oL14 dgd gdm e1416 e₁₆ eg₁₆ offP stv dgv
  refine stL (s := ⟨h₁₆, g₁₆, s.drawn, tk₁₆, s.os⟩) n₁₆ (by rfl) fun h₁₇ n₁₇ s₁₇ => ?_
  replace s₁₇ : Heap.SameBut L h₁₆ h₁₇ := s₁₇
  have e₁₇ : Ext [L] h₁₆ h₁₇ := Ext.of_same s₁₇
  obtain ⟨m₁₇, n₁₇, q0, q1, q2, q3⟩ : ∃ m'', h₁₇.Ns L m'' ∧ m'' ("told" : Str) = some (.ref T) ∧ m'' ("rows" : Str) = m₁₄ ("rows" : Str) ∧ m'' ("rounds" : Str) = m₁₄ ("rounds" : Str) ∧ m'' ("graph" : Str) = m₁₄ ("graph" : Str) := ⟨_, n₁₇, rfl, rfl, rfl, rfl⟩
  have P₁₇ := P₁₆.store Z s₁₇ hL L9 n₁₇ q1 q2 q3
  have I₁₇ : GraphAt prog w h₁₇ H₂ := I₁₆.to e₁₇ fun a ha q => LH (one q ▸ ha)
  have TX₁₇ : RL h₁₇ T gv Hm.nbs := TX.at fun b hb o q => e₁₇ _ _ (fun z => Lgv (one z ▸ hb)) q
  have ltv₁₇ : ∀ b ∈ gv, ∃ o, h₁₇.get? b = some o := fun b hb => let ⟨o, q⟩ := ltv b hb; ⟨o, e₁₇ _ _ (fun z => Lgv (one z ▸ hb)) q⟩
  clear e₁₇ s₁₇ n₁₇ q1 q2 q3 TX ltv n₁₆ P₁₆ I₁₆
  refine c_at h₁₇ g₁₆ s.drawn s.os fun t₁₇ => ?_
  refine c_cons <| c_If <| c_isCompare <| c_Call <| toC <| nmG (v := .ref 688) (s := ⟨h₁₇, g₁₆, s.drawn, t₁₇, s.os⟩) P₁₇.Z (by kernel_rfl) (by rfl) <| c_cwF (w := w) (by kernel_rfl) <| c_items_cons <| toC <| nmL P₁₇.ns (by rfl) P₁₇.mG <| toC (wpAny_items_nil ⟨P₁₇.Z, sp_law_rows P₁₇.Z I₁₇ J₂ (by show callerA.depth + 1 + 6 < _; omega) rfl (by omega) (by omega) fun h₁₈ g₁₈ tk₁₈ H₃ R2 fv2 _ e₁₈ eg₁₈ _ RA2 _ => ?_⟩)
  replace e₁₈ : Ext [H₂.gd] h₁₇ h₁₈ := e₁₈
  replace eg₁₈ : GM [] g₁₆ g₁₈ := eg₁₈
  obtain ⟨fv3, RX3, _, _⟩ := GraphAt.trimmed RA2
  have gdl2 : H₂.gd ∈ H₂.all := List.mem_append_left _ (Gr.muts_iff.mpr (.inl rfl))
  have Z₁₈ : Gl w h₁₈ := P₁₇.Z.ext e₁₈ fun a ha => by rw [one ha]; exact I₁₇.own _ gdl2
  have P₁₈ := P₁₇.step Z e₁₈ (fun a ha => by rw [one ha]; exact .inr (.inr ⟨dH _ gdl2, fun q => offc (q ▸ gdl2), fun q => offf _ q gdl2⟩)) Z₁₈ eg₁₈ (P₁₇.ns.at' fun o q => e₁₈ _ _ (fun z => LH (one z ▸ gdl2)) q)
  have TX₁₈ : RL h₁₈ T gv Hm.nbs := TX₁₇.at fun b hb o q => e₁₈ _ _ (fun z => offgv b hb (one z ▸ gdl2)) q
  have ltv₁₈ : ∀ b ∈ gv, ∃ o, h₁₈.get? b = some o := fun b hb => let ⟨o, q⟩ := ltv₁₇ b hb; ⟨o, e₁₈ _ _ (fun z => offgv b hb (one z ▸ gdl2)) q⟩
  clear P₁₇ TX₁₇ ltv₁₇ e₁₈ eg₁₈ I₁₇ RA2 Z₁₈
  refine nmL (s := ⟨h₁₈, g₁₈, s.drawn, tk₁₈, s.os⟩) P₁₈.ns (by rfl) P₁₈.mR <| rl_ne RX3 P₁₈.X (by show callerA.units + 3 + 64 < _; omega) <| wpAny_truthy_bool ?_
  simp only [Bool.false_eq_true, if_false]
  refine c_nil ?_
  refine c_at h₁₈ g₁₈ s.drawn s.os fun t₁₈ => ?_
  refine c_cons <| c_Assign_Name <| toC <| Call_ <| nmG (v := .ref 698) (s := ⟨h₁₈, g₁₈, s.drawn, t₁₈, s.os⟩) P₁₈.Z (by kernel_rfl) (by rfl) <| cwF (w := w) (by kernel_rfl) <| wpAny_items_cons <| nmL P₁₈.ns (by rfl) P₁₈.mR <| wpAny_items_nil ⟨P₁₈.Z, sp_least (fuel := 300) (c := c) H₂.adjB P₁₈.Z P₁₈.X hadjR (by omega) (fun i hi => by have := hrl i hi; omega) hfin hleast' (by show callerA.depth + 1 + 1 < _; omega) rfl (by show callerA.units + 3 + 40 < _; omega) fun h₁₉ tk₁₉ tc e₁₉ => ?_⟩
  replace e₁₉ : Ext [] h₁₈ h₁₉ := e₁₉
  have P₁₉ := P₁₈.grow Z e₁₉
  refine stL (s := ⟨h₁₉, g₁₈, s.drawn, tk₁₉, s.os⟩) P₁₉.ns (by rfl) fun h₂₀ n₂₀ s₂₀ => ?_
  replace s₂₀ : Heap.SameBut L h₁₉ h₂₀ := s₂₀
  have e₂₀ : Ext [L] h₁₉ h₂₀ := Ext.of_same s₂₀
  obtain ⟨m₂₀, n₂₀, qc, qt, q1, q2, q3⟩ : ∃ m'', h₂₀.Ns L m'' ∧ m'' ("colours" : Str) = some (.int (c : Nat) tc) ∧ m'' ("told" : Str) = m₁₇ ("told" : Str) ∧ m'' ("rows" : Str) = m₁₇ ("rows" : Str) ∧ m'' ("rounds" : Str) = m₁₇ ("rounds" : Str) ∧ m'' ("graph" : Str) = m₁₇ ("graph" : Str) := ⟨_, n₂₀, rfl, rfl, rfl, rfl, rfl⟩
  have P₂₀ := P₁₉.store Z s₂₀ hL L9 n₂₀ q1 q2 q3
  have X₂₀ : LT w s.heap s.gens L (L + 1 + 1) sz r c R T fv gv H₂.nbs Hm.nbs h₂₀ g₁₈ m₂₀ := {
    M := P₂₀.M, Z := P₂₀.Z, gm := P₂₀.gm, ns := P₂₀.ns, mR := P₂₀.mR, mT := qt.trans q0, mr := P₂₀.mr, mc := ⟨tc, qc⟩, cs := P₂₀.cs, X := P₂₀.X
    Y := TX₁₈.at fun b hb o q => e₂₀ _ _ (fun z => Lgv (one z ▸ hb)) (e₁₉.keep _ _ q)
    nf := P₂₀.nf, ng := Lgv, lf := P₂₀.lf
    lg := fun b hb => let ⟨o, q⟩ := ltv₁₈ b hb; ⟨o, e₂₀ _ _ (fun z => Lgv (one z ▸ hb)) (e₁₉.keep _ _ q)⟩ }
  clear P₂₀ P₁₉ P₁₈ TX₁₈ ltv₁₈ e₂₀ s₂₀ n₂₀ qc qt q0 q1 q2 q3 e₁₉ RX3 hfin hleast' hadjR
  have hu : callerA.units + 3 + 80 < cLine := by decide
  refine c_at h₂₀ g₁₈ s.drawn s.os fun t₂₀ => ?_
  refine c_cons <| toC <| sorted_loop (s := ⟨h₂₀, g₁₈, s.drawn, t₂₀, s.os⟩) rfl (by rfl) (by rfl) (by rfl) (by rfl) (by rfl) (by rfl) (by rfl) (by rfl) (by rfl) (by rfl) (by rfl) (fun _ => by rfl) rfl hu hL L9 dS.2 (by omega) hrl htl tperm X₂₀ fun h₂₁ g₂₁ tk₂₁ m₂₁ X₂₁ => ?_
  clear X₂₀
  have hrl' : ∀ i, i < H₂.nbs.length → (H₂.nbs[i]!).length ≤ 100 := fun i hi => by have := hrl i hi; omega
  have htl' : ∀ i, i < Hm.nbs.length → (Hm.nbs[i]!).length ≤ 100 := fun i hi => by have := htl i hi; omega
  refine c_at h₂₁ g₂₁ s.drawn s.os fun t₂₁ => ?_
  refine c_cons <| toC <| counts_made (s := ⟨h₂₁, g₂₁, s.drawn, t₂₁, s.os⟩) rfl (by rfl) (by rfl) (by rfl) (by rfl) (by rfl) (by rfl) (by rfl) (by rfl) (by rfl) (by rfl) (by rfl) rfl (by rfl) (by rfl) rfl (by show callerA.depth + 1 + 1 < _; omega) hL L9 dS.2 (by omega) hrl' hrin X₂₁ fun h₂₂ tk₂₂ m₂₂ X₂₂ N₂₂ => ?_
  clear X₂₁
  refine c_at h₂₂ g₂₁ s.drawn s.os fun t₂₂ => ?_
  refine c_cons <| toC <| counts_loop (s := ⟨h₂₂, g₂₁, s.drawn, t₂₂, s.os⟩) rfl (by rfl) (by rfl) (by rfl) (by rfl) (by rfl) (by rfl) (by rfl) (by rfl) (by rfl) rfl (by rfl) (by rfl) rfl hL L9 dS.2 (by omega) X₂₂ N₂₂ fun h₂₃ g₂₃ tk₂₃ m₂₃ X₂₃ N₂₃ => ?_
  clear X₂₂ N₂₂
  rw [hnet'] at N₂₃
  refine c_at h₂₃ g₂₃ s.drawn s.os fun t₂₃ => ?_
  refine c_cons <| toC <| counts_told (s := ⟨h₂₃, g₂₃, s.drawn, t₂₃, s.os⟩) rfl (by rfl) (by rfl) (by rfl) (by rfl) (by rfl) (by rfl) (by rfl) (by rfl) (by rfl) (by rfl) rfl hu (by show callerA.depth + 1 + 1 < _; omega) (by omega) htl' htin X₂₃ N₂₃ fun h₂₄ tk₂₄ X₂₄ => ?_
  clear X₂₃ N₂₃
  refine c_at h₂₄ g₂₃ s.drawn s.os fun t₂₄ => ?_
  refine c_cons <| toC <| last_fits (s := ⟨h₂₄, g₂₃, s.drawn, t₂₄, s.os⟩) (fuel := 300) rfl (by rfl) (by rfl) (by rfl) (by rfl) (by rfl) (by rfl) rfl hu (by show callerA.depth + 1 < _; omega) (by omega) htl' hadjT (by omega) (by omega) hyes' hno' X₂₄ fun h₂₅ tk₂₅ X₂₅ => ?_
  exact ⟨rfl, h₂₅, g₂₃, tk₂₅, rfl, X₂₅.M, X₂₅.gm, X₂₅.Z⟩
end
end Mine
end W67
open PySem PySem.W PyProof.Rows PySem.Calls PySem.Spec
set_option maxRecDepth 100000
set_option maxHeartbeats 8000000
namespace Mine
theorem law_ok : LawOk := fun w s a vs ns Z hl hi hlen => sp_law Z hl hi hlen
end Mine
theorem PySem.Challenge.cw_ez0193_01_holds : PySem.Challenge.rw_ez0193_01.Holds := by
  exact Mine.join0 Mine.law_ok
