import PyProof.Rows.All
import Wide.All
import OpenK.AllK
import Wide.FinOn
import PySem.Challenge.RW_rs0017_01
set_option Elab.async false
section
open PySem PySem.W PyProof.Rows
set_option Elab.async false
set_option maxRecDepth 100000
set_option maxHeartbeats 8000000
namespace Mine
open_top hd for PySem.Challenge.rw_rs0017_01
end Mine
end

section
open PySem PySem.W PyProof.Rows
set_option maxRecDepth 100000
set_option maxHeartbeats 0
namespace Mine
theorem adrs (P : Params) : [2, 3, 6, 15, 17, 18, 20, 21, 22, 24, 25, 27, 28, 29, 31, 32, 34, 35, 36, 39, 40, 41, 43, 44, 46, 47, 48, 51, 52, 53, 55, 56, 58, 59, 60, 63, 64, 65, 68, 69] = (hd.heap_39 P).map (·.1) := by kernel_rfl
noncomputable abbrev HK0 : Hook := kHook hd.heap_39 [2, 3, 6, 15, 17, 18, 20, 21, 22, 24, 25, 27, 28, 29, 31, 32, 34, 35, 36, 39, 40, 41, 43, 44, 46, 47, 48, 51, 52, 53, 55, 56, 58, 59, 60, 63, 64, 65, 68, 69] adrs
theorem left : LeftO PySem.Challenge.rw_rs0017_01.row.prog hd.view_39 [] (fun s => xlAt hd.view_39 [] s && recOk (RowW.records PySem.Challenge.rw_rs0017_01.row.toRowW) s) (Hook.obs HK0) (Hook.val HK0) 880 := by
  intro w
  kernel_rfl
end Mine
end

section
open PySem PySem.W PyProof.Rows PySem.Calls
set_option Elab.async false
set_option maxRecDepth 100000
set_option linter.unusedVariables false
namespace Mine

/-- the context of the claim's caller, as it is -/
abbrev ctx0 : Ctx := ⟨.builtin "claim.caller" {}, none, none, [], none⟩

theorem endsExact {prog : Program} {w : World} {t : Sem Fin} {s : Shared} {R : Result → Shared → Prop} (hreg : s.asleep)
    (h : Sem.wp (model prog w) ctx0 t (fun fin _ s' => ∃ f, fin = .done f ∧ (R (.ok f) s' ∧ leftWithCleanup s'.gens = false)) (fun e _ s' => R (.error e) s' ∧ leftWithCleanup s'.gens = false) default s) :
    ∃ n r s' s'', runN (denote table) prog w n s ⟨t, .builtin "claim.caller" {}, default, []⟩ = .halted (outcomeOf r) s' ∧
      schedN (denote table) prog w n (.single s ⟨t, .builtin "claim.caller" {}, default, []⟩) = .halted (outcomeOf r) s' ∧ s'.forget = s''.forget ∧ R r s'' := by
  have h' := Sem.wp_mono (model prog w) ctx0 t (post' := Sem.finPost (model prog w) ctx0 fun r s' => R r s' ∧ leftWithCleanup s'.gens = false)
    (fun fin p' s' q => by obtain ⟨f, rfl, hf⟩ := q; exact hf) (fun _ _ _ q => q) default s h
  obtain ⟨n, r, s₁, s₂, hs, hn, hfo, hR⟩ := wp_halts_full (M := model prog w) (R := R) hreg h'
  exact ⟨n, r, s₂, s₁, hn, hs, hfo, hR⟩

theorem callFromExact {c : ClaimW} {tree : List Value → Sem Fin} {w : World} {s : Shared} {free : Addr → Prop} {gens : Prop} {kept : Heap → Prop} (hz : s.asleep) (hgens : s.gens = #[])
    (hspec : ∀ args, c.pre args = true → WData.layableAll args = true → ∀ ord : List DictEntry → List DictEntry, (∀ l, (ord l).Perm l) →
      ∃ vs s₁, layAllW c.records (classAt s.heap) w.params ord args s = some (vs, s₁) ∧
        Sem.wp (model c.prog w) ctx0 (tree vs) (fun fin _ s' => ∃ f, fin = .done f ∧ (c.Ends s args vs s₁ (.ok f) s' ∧ s'.os = s.os ∧ AllBare s'.gens ∧ kept s'.heap))
          (fun e _ s' => c.Ends s args vs s₁ (.error e) s' ∧ s'.os = s.os ∧ AllBare s'.gens ∧ kept s'.heap) default s₁) :
    c.CallFrom (fun vs => ⟨tree vs, .builtin "claim.caller" {}, default, []⟩) w free gens kept s := by
  intro args hpre hlay ord hord
  obtain ⟨vs, s₁, hlaid, hcode⟩ := hspec args hpre hlay ord hord
  have hal := layAllW_rest _ _ _ hlaid
  obtain ⟨k, r, s', s'', hrun, hsched, hfo, hcase, hos, hkp⟩ := endsExact (prog := c.prog) (w := w) (t := tree vs) (s := s₁)
    (R := fun r s' => c.Ends s args vs s₁ r s' ∧ s'.os = s.os ∧ kept s'.heap) (Shared.asleep_of_life hal.2.2.2 hz)
    (Sem.wp_mono _ _ _ (fun fin _ s' q => by
      obtain ⟨f, e, h1, h2, h3, h4⟩ := q
      exact ⟨f, e, ⟨h1, h2, h4⟩, leftWithCleanup_false_of_bare h3⟩) (fun e _ s' q => by
      obtain ⟨h1, h2, h3, h4⟩ := q
      exact ⟨⟨h1, h2, h4⟩, leftWithCleanup_false_of_bare h3⟩) _ _ hcode)
  obtain ⟨eh, _, _, eo, _⟩ := Shared.forget_eq hfo
  have hcase := hcase.congr eh
  have hkp' : kept s'.heap := by rw [eh]; exact hkp
  rw [← eo] at hos
  have hlife : s'.heap.life = s.heap.life := (runN_life _ _ _ hrun).trans hal.2.2.2
  refine ⟨vs, s₁, hlaid, k, _, s', hsched, ?_, (fun _ i x hx => by rw [hgens] at hx; simp at hx), hkp', by rw [hlife], Shared.rest_eq hos⟩
  rcases hcase with ⟨v, rfl, d1, d2, d3, d4, d5⟩ | ⟨e, ob, cls, rfl, d1, d2, d3, d4, d5⟩
  · exact .inl ⟨v, rfl, d1, d2, d3, fun b o y _ => d4 b o y, d5⟩
  · exact .inr ⟨e, ob, cls, rfl, d1, d2, d3, d4, fun b o y _ => d5 b o y⟩

abbrev RW : OpenRow := PySem.Challenge.rw_rs0017_01.row

/-- the claim's own call, at the caller's very context -/
def LawRun (d : DefRec) : Prop :=
  ∀ (w : World) (s₀ s₁ : Shared) (mg mb : Str → Option Value), Ground hd.view_39 [] RW.records (XL hd.view_39 []) w s₀ mg mb s₁.heap → Hook.says HK0 w s₁.heap → ∀ (a : Addr) (o : Obj) (pm cd doc dV kV : Value), s₁.heap.get? a = some o →
    o.data = .func { docDef d.name d.params d.body d.scope pm cd doc with defaults := dV, kwdefaults := kV } → s₁.heap.CodeRec cd d.name → mg d.name = some (.ref a) → s₁.gens = #[] →
    ∀ (args : List WData) (vals : List Value) (as : List Addr), RW.claim.pre args = true → WData.layableAll args = true → ReadsAllW RW.records (classAt s₀.heap) s₁.heap vals args as →
      Sem.wp (model RW.prog w) ctx0 (PySem.call (.ref a) vals) (fun v _ s' => GoodWG RW.claim (classAt s₀.heap) (ExcName.means s₀.heap) args s₁ (.ok (.ret v)) s')
        (fun e _ s' => GoodWG RW.claim (classAt s₀.heap) (ExcName.means s₀.heap) args s₁ (.error e) s') default s₁

theorem holdsExact {d : DefRec} {kwd : List (Str × Expr)} (hdef : defOf hd.view_39 RW.name = some (d, kwd)) (hp : RW.prog.theDef RW.name = some (d.params, d.body, d.scope)) (hk : kwWritten? d.params.kwonlyargs d.params.kw_defaults = some kwd)
    (k1 : RW.wellSaid = true) (ok : (chainsOk hd.view_39 && opensWell RW.prog && (frees RW.toRowW && RW.within.isEmpty)) = true) (hb : RW.prog.bare) (hw : RW.toRowW.promised) (run : LawRun d) : RW.Holds := by
  obtain ⟨ok, k5⟩ := Bool.and_eq_true_iff.mp ok
  obtain ⟨hch, o1⟩ := Bool.and_eq_true_iff.mp ok
  obtain ⟨k5, k6⟩ := Bool.and_eq_true_iff.mp k5
  obtain ⟨hsame, hu, ha, hap, hm⟩ := frees_parts k5
  have hX : ∀ s : Shared, (xlAt hd.view_39 [] s && recOk RW.records s) = true → XL hd.view_39 [] (s.heap.nsMap mainGlobals) s.heap := fun s e => xl_of s (Bool.and_eq_true_iff.mp e).1
  have hRf : ∀ s : Shared, (xlAt hd.view_39 [] s && recOk RW.records s) = true → RecFacts RW.records s.heap := fun s e => recFacts_of (Bool.and_eq_true_iff.mp e).2
  refine ⟨k1, hw, ⟨hb, o1, by rfl⟩, hw.witness, fun w => ⟨(left.behind hX hch w).1, fun s' hs' => ?_⟩⟩
  obtain ⟨s₀, hf, hg0, s, hT, hz, hgens, hg, G00, y⟩ := (left.behind (XP := fun mg h => XL hd.view_39 [] mg h ∧ RecFacts RW.records h) (fun s hs => ⟨hX s hs, hRf s hs⟩) hch w).2 s' hs'
  have G0 : Ground hd.view_39 [] [] (XL hd.view_39 []) w s (s.heap.nsMap mainGlobals) (s.heap.nsMap builtinsNs) s.heap := ⟨G00.T, G00.B, G00.D, G00.TE, G00.TD, G00.W, G00.X.1, G00.cls, G00.has, G00.apart, G00.once, G00.K⟩
  have RF := G00.X.2
  have hgens' : s.gens = #[] := Array.eq_empty_of_size_eq_zero (beq_iff_eq.mp hgens)
  have G : Ground hd.view_39 [] RW.records (XL hd.view_39 []) w s _ _ s.heap := RF.ground G0
  refine ⟨s₀, hf, hg0, s, hT, fun n hn => ?_, RF.1, RF.2.1, ?_⟩
  · obtain rfl : n = RW.name := by split at hn <;> simp_all
    exact pinned_of_view hg G0 hdef hp hk
  refine callFromExact (c := RW.claim) (tree := fun vs => do match ← nsGet mainNs RW.name with
      | some f => do ret (← PySem.call f vs)
      | none => unsupported "claim.caller:no-such-global") hz hgens' fun args hpre hlay ord hord => ?_
  obtain ⟨⟨vs, s₁⟩, hlaid⟩ := Option.isSome_iff_exists.mp (layAllW_isSome (P := w.params) (ord := ord) G.has args RW.args s (pre_splitW hpre).1)
  have keeps := layAllW_keeps _ _ _ hlaid
  have hal := layAllW_rest _ _ _ hlaid
  obtain ⟨as, hrd, hin, hold⟩ := reads_layAllW hord _ _ _ hlaid hlay s₁.heap (fun _ _ e => e)
  have L : Laid RW.records w s s₁ args vs as := ⟨⟨ord, hord, hlaid⟩, hrd, hin, hold, keeps, hal.1.trans hgens', hal.2.2.1⟩
  have G₁ := G.keeps XL.keeps keeps
  obtain ⟨a, o, pm, cd, doc, dV, kV, h1, h2, h3, h4, h5⟩ := G₁.fn hdef
  have hi := ident_freeW hu ha hap
  have hwi : RW.claim.within = [] := List.isEmpty_iff.mp k6
  refine ⟨vs, s₁, hlaid, ?_⟩
  have hrun := run w s s₁ _ _ G₁ (Hook.keeps HK0 _ _ _ (Hook.of HK0 w s y) keeps) a o pm cd doc dV kV h2 h3 h4 (defOf_name hdef ▸ h1) L.gens args vs as hpre hlay L.reads
  rw [Sem.wp_bind']
  refine (Sem.wp_nsGet _ _ _ _ _ G₁.T.g RW.name _).mpr ?_
  rw [h1]
  rw [Sem.wp_bind']
  refine Sem.wp_mono _ _ _ (fun v _ s' g => ?_) (fun e _ s' g => ?_) _ _ hrun
  · have z := g.laid (c := RW.claim) hsame hwi hi L
    exact ⟨_, rfl, z.1, z.2.1, z.2.2, fun q => ⟨namesKept_of hT hg _ keeps g.2.1.old, noTable (by rfl) q⟩⟩
  · have z := g.laid (c := RW.claim) hsame hwi hi L
    exact ⟨z.1, z.2.1, z.2.2, fun q => ⟨namesKept_of hT hg _ keeps g.2.1.old, noTable (by rfl) q⟩⟩
end Mine
end

section
open PySem PySem.W PyProof.Rows PySem.Calls
set_option Elab.async false
set_option maxRecDepth 100000
set_option maxHeartbeats 8000000
namespace Mine
theorem promisedLaw : RW.toRowW.promised := by w_witness2
theorem fin (run : ∀ d kwd, defOf hd.view_39 RW.name = some (d, kwd) → LawRun d) : PySem.Challenge.rw_rs0017_01.Holds := by
  w_on
  o_law
  rename_i said
  exact holdsExact (by rfl) (by rfl) (by rfl) said (by decide +kernel) ⟨rfl, rfl, rfl, rfl, rfl, by decide +kernel⟩ promisedLaw (run _ _ (by rfl))
end Mine
end

section
open PySem PySem.W PyProof.Rows
set_option Elab.async false
set_option maxRecDepth 100000
set_option linter.unusedVariables false
namespace Mine

/-! keeping: nothing that stood is changed -/
theorem kRefl (s : Shared) : Keeps s s := ⟨s.heap, s.toks, rfl, fun _ _ e => e⟩
theorem kTrans {a b c : Shared} (h : Keeps a b) (k : Keeps b c) : Keeps a c := by
  obtain ⟨h1, t1, rfl, k1⟩ := h
  obtain ⟨h2, t2, rfl, k2⟩ := k
  exact ⟨h2, t2, rfl, fun b o e => k2 b o (k1 b o e)⟩
theorem kTok (s : Shared) (t : Nat) : Keeps s { s with toks := t } := ⟨s.heap, t, rfl, fun _ _ e => e⟩
theorem kPush (s : Shared) (o : Obj) : Keeps s { s with heap := s.heap.push o } := ⟨_, s.toks, rfl, fun _ _ e => Heap.get?_push_of_some _ e⟩
theorem kGet {s s' : Shared} (k : Keeps s s') : ∀ b o, s.heap.get? b = some o → s'.heap.get? b = some o := by
  obtain ⟨h, t, rfl, kk⟩ := k
  exact kk
theorem kMk {s : Shared} {h' : Heap} {tk : Nat} (k : ∀ b o, s.heap.get? b = some o → h'.get? b = some o) : Keeps s { s with heap := h', toks := tk } := ⟨h', tk, rfl, k⟩

/-! what a value tells -/
inductive D where
  | dI (i : Int)
  | dB (b : Bool)
  | dS (x : Str)
  | dY (ks : List Int)
  | dL (ns : List Int)
  | dT (xs : List Str)
  | dV (v : Value)
  | dR (a b c : Int)
  | dU (vs : List Value)

def LL (h : Heap) (a : Addr) (vs : List Value) : Prop := h.PlainList a vs.toArray

def Den (h : Heap) (v : Value) : D → Prop
  | .dI i => ∃ t, v = .int i t
  | .dB b => v = .bool b
  | .dS x => ∃ t, v = .str x t
  | .dY ks => ∃ b t, v = .bytes b t ∧ KBw.bInts b = ks
  | .dL ns => ∃ a vs, v = .ref a ∧ LL h a vs ∧ IntsAre vs ns
  | .dT xs => ∃ a vs, v = .ref a ∧ LL h a vs ∧ StrsAre vs xs
  | .dV u => v = u
  | .dR a b c => ∃ r t u x, v = .ref r ∧ IsRange h r a b c t u x
  | .dU vs => ∃ a, v = .ref a ∧ h.get? a = some { cls := .type "tuple", data := .seq vs.toArray }

theorem LL.at {h h' : Heap} {a : Addr} {vs : List Value} (x : LL h a vs) (k : ∀ b o, h.get? b = some o → h'.get? b = some o) : LL h' a vs := Heap.PlainList.at x fun o e => k a o e
theorem LL.isList {h : Heap} {a : Addr} {vs : List Value} (x : LL h a vs) : h.IsList a vs.toArray := Heap.PlainList.isList x
theorem LL.lt {h : Heap} {a : Addr} {vs : List Value} (x : LL h a vs) : a < h.objs.size := let ⟨_, e⟩ := x; Heap.lt_size e

theorem Den.at {h h' : Heap} {v : Value} {d : D} (x : Den h v d) (k : ∀ b o, h.get? b = some o → h'.get? b = some o) : Den h' v d := by
  cases d with
  | dL ns => obtain ⟨a, vs, e, l, i⟩ := x; exact ⟨a, vs, e, l.at k, i⟩
  | dT ns => obtain ⟨a, vs, e, l, i⟩ := x; exact ⟨a, vs, e, l.at k, i⟩
  | dR a b c => obtain ⟨r, t, u, y, e, l⟩ := x; exact ⟨r, t, u, y, e, k _ _ l⟩
  | dU vs => obtain ⟨a, e, l⟩ := x; exact ⟨a, e, k _ _ l⟩
  | _ => exact x
theorem Den.k {s s' : Shared} {v : Value} {d : D} (x : Den s.heap v d) (k : Keeps s s') : Den s'.heap v d := x.at (kGet k)

section
variable {prog : Program} {w : World} {A : Around} {env : Env} {s₀ : Shared}

def TV (prog : Program) (w : World) (A : Around) (s₀ : Shared) (t : Sem Value) (d : D) : Prop :=
  ∀ s, Keeps s₀ s → ∀ E : Value → Shared → Prop, wpAny (model prog w) A t (fun v s' => Keeps s s' ∧ Den s'.heap v d) E s
abbrev EV (prog : Program) (w : World) (A : Around) (env : Env) (s₀ : Shared) (e : Expr) (d : D) : Prop := TV prog w A s₀ (eval e env) d

theorem TV.go {t : Sem Value} {d : D} (h : TV prog w A s₀ t d) {s : Shared} (k : Keeps s₀ s) {Q E : Value → Shared → Prop}
    (f : ∀ v s', Keeps s s' → Den s'.heap v d → Q v s') : wpAny (model prog w) A t Q E s :=
  wpAny_mono (h s k E) (fun v s' p => f v s' p.1 p.2) fun _ _ e => e
theorem TV.up {t : Sem Value} {d : D} {s₁ : Shared} (h : TV prog w A s₀ t d) (k : Keeps s₀ s₁) : TV prog w A s₁ t d := fun s ks E => h s (kTrans k ks) E

theorem EV.int {i : Int} {k : Nat} {pos : Pos} : EV prog w A env s₀ (.Constant (.int i) k pos) (.dI i) :=
  fun _ _ _ => wpAny_Constant_int ⟨kTok .., _, rfl⟩
theorem EV.cstr {x : Str} {k : Nat} {pos : Pos} : EV prog w A env s₀ (.Constant (.str x) k pos) (.dS x) :=
  fun _ _ _ => wpAny_Constant_str ⟨kTok .., _, rfl⟩
theorem EV.cbool {b : Bool} {k : Nat} {pos : Pos} : EV prog w A env s₀ (.Constant (.bool b) k pos) (.dB b) :=
  fun _ _ _ => wpAny_Constant_bool ⟨kRefl _, rfl⟩
theorem EV.neg {e : Expr} {i : Int} {pos : Pos} (h : EV prog w A env s₀ e (.dI i)) : EV prog w A env s₀ (.UnaryOp .USub e pos) (.dI (-i)) :=
  fun _ k _ => wpAny_UnaryOp (h.go k fun v s₁ k₁ d => by
    obtain ⟨t, rfl⟩ := d
    exact neg_int ⟨kTrans k₁ (kTok ..), _, rfl⟩)
theorem EV.local {x : Str} {pos : Pos} {m : Str → Option Value} {v : Value} {d : D} (hn : s₀.heap.Ns env.locals m) (hv : m x = some v) (hd : Den s₀.heap v d)
    (hk : env.scope.kind = .function := by rfl) (hl : env.kindOf x = some .local := by rfl) (hdb : (x == ("__debug__" : Str)) = false := by decide) : EV prog w A env s₀ (.Name x pos) d :=
  fun _ k _ => wpAny_Name (wpAny_loadName_local hk hl (hn.keeps (kGet k)) hv ⟨kRefl _, hd.k k⟩) hdb
theorem EV.cell {x : Str} {pos : Pos} {c : Addr} {v : Value} {d : D} (hc : env.cells.lookup x = some c) (hv : s₀.heap.IsCell c (some v)) (hd : Den s₀.heap v d)
    (hk : env.scope.kind = .function := by rfl) (hl : env.kindOf x = some .cell := by rfl) (hdb : (x == ("__debug__" : Str)) = false := by decide) : EV prog w A env s₀ (.Name x pos) d :=
  fun _ k _ => wpAny_Name (wpAny_loadName_cell hk hl hc (hv.keeps (kGet k)) ⟨kRefl _, hd.k k⟩) hdb

/-- the module's own names and the built-in ones -/
structure Gl (h : Heap) (mg mb : Str → Option Value) : Prop where
  g : h.Ns mainGlobals mg
  b : h.Ns builtinsNs mb
theorem Gl.at {h h' : Heap} {mg mb : Str → Option Value} (x : Gl h mg mb) (k : ∀ b o, h.get? b = some o → h'.get? b = some o) : Gl h' mg mb := ⟨x.g.keeps k, x.b.keeps k⟩

theorem EV.glob {x : Str} {pos : Pos} {mg mb : Str → Option Value} {v : Value} (G : Gl s₀.heap mg mb) (hv : mg x = some v)
    (hg : env.globals = mainGlobals := by rfl) (hk : env.scope.kind = .function := by rfl) (hl : env.kindOf x = some .globalImplicit := by rfl) (hdb : (x == ("__debug__" : Str)) = false := by decide) :
    EV prog w A env s₀ (.Name x pos) (.dV v) :=
  fun _ k _ => Calls.Name_function_global hk hl (Calls.loadGlobal_global (hg ▸ G.g.keeps (kGet k)) hv ⟨kRefl _, rfl⟩) hdb
theorem EV.built {x : Str} {pos : Pos} {mg mb : Str → Option Value} {v : Value} (G : Gl s₀.heap mg mb) (hm : mg x = none) (hv : mb x = some v)
    (hg : env.globals = mainGlobals := by rfl) (hb : env.builtins = builtinsNs := by rfl) (hk : env.scope.kind = .function := by rfl) (hl : env.kindOf x = some .globalImplicit := by rfl) (hdb : (x == ("__debug__" : Str)) = false := by decide) :
    EV prog w A env s₀ (.Name x pos) (.dV v) :=
  fun _ k _ => Calls.Name_function_global hk hl (Calls.loadGlobal_builtin (hg ▸ G.g.keeps (kGet k)) hm (hb ▸ G.b.keeps (kGet k)) hv ⟨kRefl _, rfl⟩) hdb

theorem bim {op : CmpOp} (h : op ≠ .In ∧ op ≠ .NotIn) (r : Expr) : behindInMarks op r = false := by
  obtain ⟨h1, h2⟩ := h
  have e : (op == CmpOp.In || op == CmpOp.NotIn) = false := by
    cases op <;> first | exact absurd rfl h1 | exact absurd rfl h2 | rfl
  cases r with
  | Set elts k p => show (k == 0 && (op == CmpOp.In || op == CmpOp.NotIn) && _) = false; rw [e]; simp
  | _ => rfl

/-! two operands -/
theorem EV.bin {l r : Expr} {op : Operator} {pos : Pos} {d₁ d₂ d : D} (hl : EV prog w A env s₀ l d₁) (hr : EV prog w A env s₀ r d₂)
    (ho : ∀ a b s, Keeps s₀ s → Den s.heap a d₁ → Den s.heap b d₂ → ∀ E : Value → Shared → Prop, wpAny (model prog w) A (binaryOp op a b) (fun v s' => Keeps s s' ∧ Den s'.heap v d) E s) :
    EV prog w A env s₀ (.BinOp l op r pos) d :=
  fun _ k _ => wpAny_BinOp (hl.go k fun a s₁ k₁ da => hr.go (kTrans k k₁) fun b s₂ k₂ db =>
    wpAny_mono (ho a b s₂ (kTrans k (kTrans k₁ k₂)) (da.k k₂) db _) (fun _ _ q => ⟨kTrans k₁ (kTrans k₂ q.1), q.2⟩) fun _ _ e => e)
theorem EV.add {l r : Expr} {pos : Pos} {a b : Int} (hl : EV prog w A env s₀ l (.dI a)) (hr : EV prog w A env s₀ r (.dI b)) : EV prog w A env s₀ (.BinOp l .Add r pos) (.dI (a + b)) :=
  hl.bin hr fun _ _ _ _ da db _ => by obtain ⟨t, rfl⟩ := da; obtain ⟨u, rfl⟩ := db; exact add_int ⟨kTok .., _, rfl⟩
theorem EV.sub {l r : Expr} {pos : Pos} {a b : Int} (hl : EV prog w A env s₀ l (.dI a)) (hr : EV prog w A env s₀ r (.dI b)) : EV prog w A env s₀ (.BinOp l .Sub r pos) (.dI (a - b)) :=
  hl.bin hr fun _ _ _ _ da db _ => by obtain ⟨t, rfl⟩ := da; obtain ⟨u, rfl⟩ := db; exact sub_int ⟨kTok .., _, rfl⟩
theorem EV.mul {l r : Expr} {pos : Pos} {a b : Int} (hl : EV prog w A env s₀ l (.dI a)) (hr : EV prog w A env s₀ r (.dI b)) (hm : IntMulOk a b) : EV prog w A env s₀ (.BinOp l .Mult r pos) (.dI (a * b)) :=
  hl.bin hr fun _ _ _ _ da db _ => by obtain ⟨t, rfl⟩ := da; obtain ⟨u, rfl⟩ := db; exact mul_int ⟨kTok .., _, rfl⟩ hm
theorem EV.mod {l r : Expr} {pos : Pos} {a b : Int} (hl : EV prog w A env s₀ l (.dI a)) (hr : EV prog w A env s₀ r (.dI b)) (h0 : b ≠ 0) : EV prog w A env s₀ (.BinOp l .Mod r pos) (.dI (a.fmod b)) :=
  hl.bin hr fun _ _ _ _ da db _ => by obtain ⟨t, rfl⟩ := da; obtain ⟨u, rfl⟩ := db; exact mod_int' h0 ⟨kTok .., _, rfl⟩
theorem EV.fdiv {l r : Expr} {pos : Pos} {a b : Int} (hl : EV prog w A env s₀ l (.dI a)) (hr : EV prog w A env s₀ r (.dI b)) (h0 : b ≠ 0) (hb : b.natAbs < 1073741824) : EV prog w A env s₀ (.BinOp l .FloorDiv r pos) (.dI (a.fdiv b)) :=
  hl.bin hr fun _ _ _ _ da db _ => by obtain ⟨t, rfl⟩ := da; obtain ⟨u, rfl⟩ := db; exact floordiv_int h0 ⟨kTok .., _, rfl⟩ (Or.inl (PyProof.noPylong_small hb))
/-- a comparison of what is told -/
def CmpOk (prog : Program) (w : World) (A : Around) (op : CmpOp) (d₁ d₂ : D) (c : Bool) : Prop :=
  ∀ a b s, Den s.heap a d₁ → Den s.heap b d₂ → ∀ E : Value → Shared → Prop, wpAny (model prog w) A (compareOp op a b) (fun v s' => Keeps s s' ∧ v = .bool c) E s
theorem cmpEqI {a b : Int} : CmpOk prog w A .Eq (.dI a) (.dI b) (a == b) :=
  fun _ _ _ da db _ => by obtain ⟨t, rfl⟩ := da; obtain ⟨u, rfl⟩ := db; exact eq_int ⟨kRefl _, rfl⟩
theorem cmpNeI {a b : Int} : CmpOk prog w A .NotEq (.dI a) (.dI b) (a != b) :=
  fun _ _ _ da db _ => by obtain ⟨t, rfl⟩ := da; obtain ⟨u, rfl⟩ := db; exact ne_int ⟨kRefl _, rfl⟩
theorem cmpLeI {a b : Int} : CmpOk prog w A .LtE (.dI a) (.dI b) (decide (a ≤ b)) :=
  fun _ _ _ da db _ => by obtain ⟨t, rfl⟩ := da; obtain ⟨u, rfl⟩ := db; exact le_int ⟨kRefl _, rfl⟩
theorem cmpGtI {a b : Int} : CmpOk prog w A .Gt (.dI a) (.dI b) (decide (b < a)) :=
  fun _ _ _ da db _ => by obtain ⟨t, rfl⟩ := da; obtain ⟨u, rfl⟩ := db; exact gt_int ⟨kRefl _, rfl⟩
theorem cmpNeS {a b : Str} : CmpOk prog w A .NotEq (.dS a) (.dS b) (a != b) :=
  fun _ _ _ da db _ => by obtain ⟨t, rfl⟩ := da; obtain ⟨u, rfl⟩ := db; exact ne_str ⟨kRefl _, rfl⟩
theorem cmpEqL {a b : List Int} (hu : A.units + 64 < cLine) : CmpOk prog w A .Eq (.dL a) (.dL b) (decide (a = b)) :=
  fun _ _ _ da db _ => by obtain ⟨l₁, v₁, rfl, p₁, i₁⟩ := da; obtain ⟨l₂, v₂, rfl, p₂, i₂⟩ := db; exact eq_intsK p₁.isList i₁ p₂.isList i₂ hu ⟨kRefl _, rfl⟩
theorem cmpNeL {a b : List Int} (hu : A.units + 64 < cLine) : CmpOk prog w A .NotEq (.dL a) (.dL b) (!decide (a = b)) :=
  fun _ _ _ da db _ => by obtain ⟨l₁, v₁, rfl, p₁, i₁⟩ := da; obtain ⟨l₂, v₂, rfl, p₂, i₂⟩ := db; exact ne_intsK p₁.isList i₁ p₂.isList i₂ hu ⟨kRefl _, rfl⟩
theorem EV.cmp {l r : Expr} {op : CmpOp} {pos : Pos} {d₁ d₂ : D} {c : Bool} (hl : EV prog w A env s₀ l d₁) (hr : EV prog w A env s₀ r d₂) (ho : CmpOk prog w A op d₁ d₂ c)
    (hop : op ≠ .In ∧ op ≠ .NotIn := by decide) : EV prog w A env s₀ (.Compare l [op] [r] pos) (.dB c) :=
  fun _ k _ => wpAny_Compare1 (hl.go k fun a s₁ k₁ da => hr.go (kTrans k k₁) fun b s₂ k₂ db =>
    wpAny_mono (ho a b s₂ (da.k k₂) db _) (fun _ _ q => ⟨kTrans k₁ (kTrans k₂ q.1), q.2⟩) fun _ _ e => e) (bim hop r)

/-! tests -/
def BV (prog : Program) (w : World) (A : Around) (s₀ : Shared) (t : Sem Bool) (c : Bool) : Prop :=
  ∀ s, Keeps s₀ s → ∀ E : Value → Shared → Prop, wpAny (model prog w) A t (fun v s' => Keeps s s' ∧ v = c) E s
abbrev TE (prog : Program) (w : World) (A : Around) (env : Env) (s₀ : Shared) (e : Expr) (c : Bool) : Prop := BV prog w A s₀ (isTrue e env (eval e env)) c
theorem BV.go {t : Sem Bool} {c : Bool} (h : BV prog w A s₀ t c) {s : Shared} (k : Keeps s₀ s) {Q : Bool → Shared → Prop} {E : Value → Shared → Prop}
    (f : ∀ s', Keeps s s' → Q c s') : wpAny (model prog w) A t Q E s :=
  wpAny_mono (h s k E) (fun v s' p => by obtain ⟨p1, rfl⟩ := p; exact f s' p1) fun _ _ e => e
theorem TE.cmp {l r : Expr} {op : CmpOp} {pos : Pos} {d₁ d₂ : D} {c : Bool} (hl : EV prog w A env s₀ l d₁) (hr : EV prog w A env s₀ r d₂) (ho : CmpOk prog w A op d₁ d₂ c)
    (hop : op ≠ .In ∧ op ≠ .NotIn := by decide) : TE prog w A env s₀ (.Compare l [op] [r] pos) c :=
  fun _ k _ => wpAny_isTrue_Compare1 (hl.go k fun a s₁ k₁ da => hr.go (kTrans k k₁) fun b s₂ k₂ db =>
    wpAny_mono (ho a b s₂ (da.k k₂) db _) (fun v s₃ q => by obtain ⟨q1, rfl⟩ := q; exact wpAny_truthy_bool ⟨kTrans k₁ (kTrans k₂ q1), rfl⟩) fun _ _ e => e) (bim hop r)
theorem TE.val {e : Expr} {c : Bool} (h : EV prog w A env s₀ e (.dB c))
    (hi : ∀ whole, isTrue e env whole = (do let v ← whole; standAt e.pos; holding [v] (truthy v)) := by intro _; rfl) : TE prog w A env s₀ e c :=
  fun _ k _ => wpAny_isTrue_value (h.go k fun v s₁ k₁ d => by obtain rfl := d; exact wpAny_truthy_bool ⟨k₁, rfl⟩) (hi _)
theorem orNil : BV prog w A s₀ (allTrue .Or [] env) false := fun _ _ _ => wpAny_allTrue_Or_nil ⟨kRefl _, rfl⟩
theorem orT {x : Expr} {rest : List Expr} (h : TE prog w A env s₀ x true) : BV prog w A s₀ (allTrue .Or (x :: rest) env) true :=
  fun _ k _ => wpAny_allTrue_Or_cons (h.go k fun s' k' => ⟨k', rfl⟩)
theorem orF {x : Expr} {rest : List Expr} {c : Bool} (h : TE prog w A env s₀ x false) (hr : BV prog w A s₀ (allTrue .Or rest env) c) : BV prog w A s₀ (allTrue .Or (x :: rest) env) c :=
  fun _ k _ => wpAny_allTrue_Or_cons (h.go k fun s' k' => wpAny_mono (hr s' (kTrans k k') _) (fun _ _ q => ⟨kTrans k' q.1, q.2⟩) fun _ _ e => e)
theorem or2 {x : Expr} {rest : List Expr} {a c : Bool} (h : TE prog w A env s₀ x a) (hr : a = false → BV prog w A s₀ (allTrue .Or rest env) c) : BV prog w A s₀ (allTrue .Or (x :: rest) env) (a || c) := by
  cases a with
  | true => exact orT h
  | false => exact orF h (hr rfl)
theorem TE.or {es : List Expr} {pos : Pos} {c : Bool} (h : BV prog w A s₀ (allTrue .Or es env) c) : TE prog w A env s₀ (.BoolOp .Or es pos) c :=
  fun _ k _ => wpAny_isTrue_BoolOp (h _ k _)
theorem EV.ite {t a b : Expr} {pos : Pos} {c : Bool} {d : D} (h : TE prog w A env s₀ t c) (ha : c = true → EV prog w A env s₀ a d) (hb : c = false → EV prog w A env s₀ b d) :
    EV prog w A env s₀ (.IfExp t a b pos) d :=
  fun _ k _ => wpAny_IfExp (h.go k fun s' k' => by
    cases c with
    | true => exact wpAny_mono (ha rfl s' (kTrans k k') _) (fun _ _ q => ⟨kTrans k' q.1, q.2⟩) fun _ _ e => e
    | false => exact wpAny_mono (hb rfl s' (kTrans k k') _) (fun _ _ q => ⟨kTrans k' q.1, q.2⟩) fun _ _ e => e)

/-! arguments -/
inductive DenL (h : Heap) : List Value → List D → Prop
  | nil : DenL h [] []
  | cons {v : Value} {d : D} {vs : List Value} {ds : List D} : Den h v d → DenL h vs ds → DenL h (v :: vs) (d :: ds)
theorem DenL.at {h h' : Heap} (k : ∀ b o, h.get? b = some o → h'.get? b = some o) : ∀ {vs : List Value} {ds : List D}, DenL h vs ds → DenL h' vs ds
  | _, _, .nil => .nil
  | _, _, .cons a r => .cons (a.at k) (DenL.at k r)
def AV (prog : Program) (w : World) (A : Around) (env : Env) (s₀ : Shared) (pos : Pos) (es : List Expr) (ds : List D) : Prop :=
  ∀ s, Keeps s₀ s → ∀ E : Value → Shared → Prop, wpAny (model prog w) A (spliced (backTo pos (starEach es env))) (fun vs s' => Keeps s s' ∧ DenL s'.heap vs ds) E s
theorem AV.nil {pos : Pos} : AV prog w A env s₀ pos [] [] := fun _ _ _ => args_nil ⟨kRefl _, .nil⟩
theorem AV.cons {pos : Pos} {e : Expr} {es : List Expr} {d : D} {ds : List D} (h : EV prog w A env s₀ e d) (r : AV prog w A env s₀ pos es ds)
    (he : starEach (e :: es) env = (false, eval e env) :: starEach es env := by rfl) : AV prog w A env s₀ pos (e :: es) (d :: ds) :=
  fun _ k _ => args_cons (h.go k fun v s₁ k₁ dv => wpAny_mono (r s₁ (kTrans k k₁) _) (fun vs s₂ q => ⟨kTrans k₁ q.1, .cons (dv.k q.1) q.2⟩) fun _ _ e => e) he
theorem denL_ints {h : Heap} : ∀ {ns : List Int} {vs : List Value}, DenL h vs (ns.map D.dI) → IntsAre vs ns
  | [], _, .nil => .nil
  | _ :: _, _, .cons d r => by obtain ⟨t, rfl⟩ := d; exact .cons _ t (denL_ints r)
theorem EV.list {pos : Pos} {es : List Expr} {ns : List Int} (h : AV prog w A env s₀ pos es (ns.map D.dI)) (hz : ns.length ≤ 1000) : EV prog w A env s₀ (.List es pos) (.dL ns) :=
  fun _ k _ => wpAny_List (wpAny_mono (h _ k _) (fun vs s' q => by
    obtain ⟨q1, q2⟩ := q
    have hi := denL_ints q2
    exact ⟨by rw [hi.length, sizeLine_eq]; omega, kTrans q1 (kPush ..), _, vs, rfl, ⟨_, Heap.get?_push_size _ rfl⟩, hi⟩) fun _ _ e => e)

theorem denL_vals {h : Heap} : ∀ {us vs : List Value}, DenL h vs (us.map D.dV) → vs = us
  | [], _, .nil => rfl
  | _ :: _, _, .cons d r => by rw [show _ = _ from d, denL_vals r]
theorem EV.tup {pos : Pos} {k : Nat} {es : List Expr} {us : List Value} (h : AV prog w A env s₀ pos es (us.map D.dV)) (hz : us.length ≤ 1000) : EV prog w A env s₀ (.Tuple es k pos) (.dU us) :=
  fun _ k _ => wpAny_Tuple (wpAny_mono (h _ k _) (fun vs s' q => by
    obtain ⟨q1, q2⟩ := q
    have e := denL_vals q2
    subst e
    exact ⟨by rw [sizeLine_eq]; omega, kTrans q1 (kPush ..), _, rfl, Heap.get?_push_size _ rfl⟩) fun _ _ e => e)

/-! calls -/
def CallOk (prog : Program) (w : World) (A : Around) (s₀ : Shared) (f : Value) (ds : List D) (d : D) : Prop :=
  ∀ vs s, Keeps s₀ s → DenL s.heap vs ds → ∀ E : Value → Shared → Prop, wpAny (model prog w) A (call f vs) (fun v s' => Keeps s s' ∧ Den s'.heap v d) E s
theorem EV.callT {f e : Expr} {rest : List Expr} {pos : Pos} {T : String} {ds : List D} {d : D} (hf : EV prog w A env s₀ f (.dV (.type T))) (ha : AV prog w A env s₀ pos (e :: rest) ds)
    (hc : CallOk prog w A s₀ (.type T) ds d)
    (hcall : eval (.Call f (e :: rest) [] pos) env = (do callWith pos (← eval f env) [] (backTo pos (starEach (e :: rest) env)) (backToKw pos (keywordEach [] env))) := by rfl)
    (he : starEach (e :: rest) env = (false, eval e env) :: starEach rest env := by rfl) (hp : (backTo pos (starEach rest env)).any (·.1) = false := by rfl) :
    EV prog w A env s₀ (.Call f (e :: rest) [] pos) d :=
  fun _ k _ => Call_ (hf.go k fun v s₁ k₁ dv => by
    obtain rfl := dv
    exact PyProof.Rows.callWith_type1 (wpAny_mono (ha s₁ (kTrans k k₁) _) (fun vs s₂ q => wpAny_mono (hc vs s₂ (kTrans k (kTrans k₁ q.1)) q.2 _) (fun _ _ r => ⟨kTrans k₁ (kTrans q.1 r.1), r.2⟩) fun _ _ e => e) fun _ _ e => e) he hp) hcall
theorem EV.callB {f e : Expr} {rest : List Expr} {pos : Pos} {id : String} {ds : List D} {d : D} (hf : EV prog w A env s₀ f (.dV (.builtin id))) (ha : AV prog w A env s₀ pos (e :: rest) ds)
    (hc : CallOk prog w A s₀ (.builtin id) ds d)
    (hcall : eval (.Call f (e :: rest) [] pos) env = (do callWith pos (← eval f env) [] (backTo pos (starEach (e :: rest) env)) (backToKw pos (keywordEach [] env))) := by rfl)
    (he : starEach (e :: rest) env = (false, eval e env) :: starEach rest env := by rfl) (hp : (backTo pos (starEach rest env)).any (·.1) = false := by rfl) :
    EV prog w A env s₀ (.Call f (e :: rest) [] pos) d :=
  fun _ k _ => Call_ (hf.go k fun v s₁ k₁ dv => by
    obtain rfl := dv
    exact PyProof.Rows.callWith_builtin1 (wpAny_mono (ha s₁ (kTrans k k₁) _) (fun vs s₂ q => wpAny_mono (hc vs s₂ (kTrans k (kTrans k₁ q.1)) q.2 _) (fun _ _ r => ⟨kTrans k₁ (kTrans q.1 r.1), r.2⟩) fun _ _ e => e) fun _ _ e => e) he hp) hcall
theorem EV.callF {f e : Expr} {rest : List Expr} {pos : Pos} {a : Addr} {o : Obj} {fd : FuncData} {ds : List D} {d : D} (hf : EV prog w A env s₀ f (.dV (.ref a))) (ha : AV prog w A env s₀ pos (e :: rest) ds)
    (ho : s₀.heap.get? a = some o) (hd : o.data = .func fd) (hc : CallOk prog w A s₀ (.ref a) ds d)
    (hcall : eval (.Call f (e :: rest) [] pos) env = (do callWith pos (← eval f env) [] (backTo pos (starEach (e :: rest) env)) (backToKw pos (keywordEach [] env))) := by rfl)
    (he : starEach (e :: rest) env = (false, eval e env) :: starEach rest env := by rfl) :
    EV prog w A env s₀ (.Call f (e :: rest) [] pos) d :=
  fun _ k _ => Call_ (hf.go k fun v s₁ k₁ dv => by
    obtain rfl := dv
    exact callWith_def hd (wpAny_mono (ha s₁ (kTrans k k₁) _) (fun vs s₂ q => ⟨kGet (kTrans k (kTrans k₁ q.1)) _ _ ho, wpAny_mono (hc vs s₂ (kTrans k (kTrans k₁ q.1)) q.2 _) (fun _ _ r => ⟨kTrans k₁ (kTrans q.1 r.1), r.2⟩) fun _ _ e => e⟩) fun _ _ e => e) he) hcall
end
end Mine
end

section
open PySem PySem.W PyProof.Rows
set_option Elab.async false
set_option maxRecDepth 100000
set_option linter.unusedVariables false
namespace Mine
section
variable {prog : Program} {w : World} {A : Around} {env : Env} {s₀ : Shared}

theorem intsRep {vs : List Value} {ns : List Int} (h : IntsAre vs ns) : ∀ k : Nat, IntsAre (List.replicate k vs).flatten (List.replicate k ns).flatten
  | 0 => .nil
  | k + 1 => by
    rw [List.replicate_succ, List.replicate_succ, List.flatten_cons, List.flatten_cons]
    exact h.append (intsRep h k)
theorem foldRep (items : Array Value) : ∀ (k : Nat) (acc : Array Value), (List.foldl (fun x1 x2 => x1 ++ x2) acc (List.replicate k items)).toList = acc.toList ++ (List.replicate k items.toList).flatten
  | 0, acc => by simp
  | k + 1, acc => by
    rw [List.replicate_succ, List.foldl_cons, foldRep items k]
    simp [List.replicate_succ]

theorem EV.addL {l r : Expr} {pos : Pos} {a b : List Int} (hl : EV prog w A env s₀ l (.dL a)) (hr : EV prog w A env s₀ r (.dL b)) (hz : a.length + b.length ≤ 1000) : EV prog w A env s₀ (.BinOp l .Add r pos) (.dL (a ++ b)) :=
  hl.bin hr fun _ _ s _ da db _ => by
    obtain ⟨l₁, v₁, rfl, ⟨n₁, p₁⟩, i₁⟩ := da
    obtain ⟨l₂, v₂, rfl, ⟨n₂, p₂⟩, i₂⟩ := db
    refine concat_meets ⟨_, p₁, rfl⟩ ⟨_, p₂, rfl⟩ noFill_list_add seq_list_add PySem.F.slot_list_add PySem.F.entry_list_add (PySem.F.args_list_add_2 _ _)
      (list_addW l₁ l₂ v₁.toArray v₂.toArray n₁ n₂ none none #[] #[] (by have h1 := i₁.length; have h2 := i₂.length; rw [sizeLine_eq]; simp only [List.size_toArray]; omega)) ⟨p₁, p₂, ?_⟩
    refine ⟨kPush .., _, v₁ ++ v₂, rfl, ?_, i₁.append i₂⟩
    rw [show v₁.toArray ++ v₂.toArray = (v₁ ++ v₂).toArray from by simp]
    exact ⟨_, Heap.get?_push_size _ rfl⟩
theorem EV.mulL {l r : Expr} {pos : Pos} {a : List Int} {x : Int} (hl : EV prog w A env s₀ l (.dL a)) (hr : EV prog w A env s₀ r (.dI x)) (hne : a ≠ []) (h0 : 0 ≤ x) (hz : a.length * x.toNat ≤ 1000) :
    EV prog w A env s₀ (.BinOp l .Mult r pos) (.dL (List.replicate x.toNat a).flatten) :=
  hl.bin hr fun _ _ s _ da db _ => by
    obtain ⟨l₁, v₁, rfl, ⟨n₁, p₁⟩, i₁⟩ := da
    obtain ⟨u, rfl⟩ := db
    have hlen := i₁.length
    have hpos : 0 < a.length := List.length_pos_iff.mpr hne
    have hx : x.toNat ≤ 1000 := Nat.le_trans (Nat.le_mul_of_pos_left _ hpos) hz
    have hsz : v₁.toArray.size * x.toNat ≤ 1000 := by rw [List.size_toArray, hlen]; exact hz
    have hsz2 : v₁.length * x.toNat ≤ 1000 := by rw [hlen]; exact hz
    refine wpAny_binaryOp_repeat_ref (T := "list") (U := "int") (by decide) ⟨_, p₁, rfl⟩ (fun s' => typeIs_int s' x u) noFill_list_mul F.fills_int_mul F.slot_int_rmul repeat_list F.slot_int_index.lookup
      (call_meets F.slot_int_rmul (typeIs_int s x u) F.entry_int_rmul (F.args_int_rmul_2 _ _) (int___rmul___int_list x u l₁ v₁.toArray n₁)
        ⟨p₁, rfl, ⟨_, p₁, rfl⟩, call_meets F.slot_list_mul ⟨_, p₁, rfl⟩ F.entry_list_mul (F.args_list_mul_2 _ _)
          (AutoListH.list___mul___list_int_3 l₁ v₁.toArray n₁ x u (by simp [Builtin.List.listFitsIndex]; omega) (by omega) (by simp only [Builtin.List.listTooLong, sizeLine]; simp; omega)) ⟨p₁, ?_⟩⟩)
    refine ⟨kPush .., _, (List.replicate x.toNat v₁).flatten, rfl, ?_, intsRep i₁ _⟩
    have e1 : ¬ v₁.toArray.isEmpty = true := by
      intro h
      have : v₁ = [] := by simpa using h
      rw [this] at hlen
      simp at hlen
      omega
    have e2 : List.foldl (fun x1 x2 => x1 ++ x2) #[] (List.replicate x.toNat v₁.toArray) = ((List.replicate x.toNat v₁).flatten).toArray := by
      have := foldRep v₁.toArray x.toNat #[]
      simp only [List.nil_append] at this
      rw [← this]
    rw [if_neg e1, e2]
    exact ⟨_, Heap.get?_push_size _ rfl⟩

theorem callLenL {ns : List Int} (hz : ns.length ≤ 1000) : CallOk prog w A s₀ (.builtin "len") [.dL ns] (.dI ns.length) := fun vs s k d E => by
  cases d with
  | cons d r =>
    cases r
    obtain ⟨a, us, rfl, l, i⟩ := d
    have := i.length
    exact Calls.call_len_list l.isList (by simp; omega) ⟨kTok .., s.toks + 1, by rw [List.size_toArray, this]⟩
theorem callLenS {x : Str} (hz : x.length ≤ 1000) : CallOk prog w A s₀ (.builtin "len") [.dS x] (.dI x.length) := fun vs s k d E => by
  cases d with
  | cons d r =>
    cases r
    obtain ⟨t, rfl⟩ := d
    exact len_str (by omega) ⟨kTok .., _, rfl⟩
theorem callLenY {ks : List Int} (hz : ks.length ≤ 1000) : CallOk prog w A s₀ (.builtin "len") [.dY ks] (.dI ks.length) := fun vs s k d E => by
  cases d with
  | cons d r =>
    cases r
    obtain ⟨b, t, rfl, h⟩ := d
    exact KBw.len_K h (by omega) ⟨kTok .., _, rfl⟩

/-! items -/
theorem EV.item {v i : Expr} {pos : Pos} {d₁ d₂ d : D} (hv : EV prog w A env s₀ v d₁) (hi : EV prog w A env s₀ i d₂)
    (ho : ∀ a b s, Keeps s₀ s → Den s.heap a d₁ → Den s.heap b d₂ → ∀ E : Value → Shared → Prop, ∃ T id, s.TypeIs a T ∧ typeLookup (.type T) "__getitem__" = pure (some (.builtin id)) ∧ wpAny (model prog w) A (getItem a b) (fun v s' => Keeps s s' ∧ Den s'.heap v d) E s)
    (hs : ∀ o i', ∃ ops, subscripted i false o i' = operate ops (getItem o i') := by intro o i'; exact ⟨_, rfl⟩) : EV prog w A env s₀ (.Subscript v i pos) d :=
  fun _ k E => Subscript_ (hv.go k fun a s₁ k₁ da => hi.go (kTrans k k₁) fun b s₂ k₂ db => by
    obtain ⟨T, id, hT, hl, hg⟩ := ho a b s₂ (kTrans k (kTrans k₁ k₂)) (da.k k₂) db E
    obtain ⟨ops, hop⟩ := hs a b
    exact tail_any hT hl (wpAny_mono hg (fun _ _ q => ⟨kTrans k₁ (kTrans k₂ q.1), q.2⟩) fun _ _ e => e) hop)
theorem intsGet {vs : List Value} {ns : List Int} (h : IntsAre vs ns) {i : Nat} {x : Int} (hx : ns[i]? = some x) : ∃ t, vs[i]? = some (.int x t) := h.get i x hx
theorem EV.itemL {v i : Expr} {pos : Pos} {ns : List Int} {k x : Int} (hv : EV prog w A env s₀ v (.dL ns)) (hi : EV prog w A env s₀ i (.dI k)) (h0 : 0 ≤ k) (hx : ns[k.toNat]? = some x) (hz : ns.length ≤ 1000)
    (hs : ∀ o i', ∃ ops, subscripted i false o i' = operate ops (getItem o i') := by intro o i'; exact ⟨_, rfl⟩) : EV prog w A env s₀ (.Subscript v i pos) (.dI x) :=
  hv.item hi (fun _ _ s _ da db E => by
    obtain ⟨l, us, rfl, p, ii⟩ := da
    obtain ⟨t, rfl⟩ := db
    obtain ⟨u, hu⟩ := intsGet ii hx
    have hlt : k.toNat < ns.length := (List.getElem?_eq_some_iff.mp hx).1
    exact ⟨"list", _, p.isList.typeIs, slot_list_getitem.lookup, wpAny_getItem_list p.isList h0 (by omega) (by simpa using hu) ⟨kRefl _, _, rfl⟩⟩) hs
theorem EV.itemNeg {v i : Expr} {pos : Pos} {ns : List Int} {k x : Int} (hv : EV prog w A env s₀ v (.dL ns)) (hi : EV prog w A env s₀ i (.dI k)) (h0 : k < 0) (h1 : -(ns.length : Int) ≤ k) (hx : ns[(k + ns.length).toNat]? = some x) (hz : ns.length ≤ 1000)
    (hs : ∀ o i', ∃ ops, subscripted i false o i' = operate ops (getItem o i') := by intro o i'; exact ⟨_, rfl⟩) : EV prog w A env s₀ (.Subscript v i pos) (.dI x) :=
  hv.item hi (fun _ _ s _ da db E => by
    obtain ⟨l, us, rfl, p, ii⟩ := da
    obtain ⟨t, rfl⟩ := db
    obtain ⟨u, hu⟩ := intsGet ii hx
    have hl := ii.length
    exact ⟨"list", _, p.isList.typeIs, slot_list_getitem.lookup, wpAny_getItem_list_neg p.isList h0 (by simp [hl]; omega) (by omega) (by simpa [hl] using hu) ⟨kRefl _, _, rfl⟩⟩) hs
theorem EV.itemS {v i : Expr} {pos : Pos} {x : Str} {k : Int} {c : Nat} (hv : EV prog w A env s₀ v (.dS x)) (hi : EV prog w A env s₀ i (.dI k)) (h0 : 0 ≤ k) (hx : x.cps.toList[k.toNat]? = some c) (hz : x.length ≤ 1000)
    (hs : ∀ o i', ∃ ops, subscripted i false o i' = operate ops (getItem o i') := by intro o i'; exact ⟨_, rfl⟩) : EV prog w A env s₀ (.Subscript v i pos) (.dS ⟨#[c]⟩) :=
  hv.item hi (fun _ _ s _ da db E => by
    obtain ⟨t, rfl⟩ := da
    obtain ⟨u, rfl⟩ := db
    have hlt : k.toNat < x.cps.toList.length := (List.getElem?_eq_some_iff.mp hx).1
    have hlt' : k.toNat < x.length := by simpa [Str.length] using hlt
    have hsi : seqIndex? k x.length = some k.toNat := seqIndex_of h0 (by omega)
    refine ⟨"str", _, typeIs_str s x t, F.slot_str_getitem.lookup, P.getItem_str (c := c) (by simp; omega) ?_ ⟨kTok .., _, rfl⟩⟩
    rw [hsi]
    simpa using hx) hs
theorem EV.itemY {v i : Expr} {pos : Pos} {ks : List Int} {k x : Int} (hv : EV prog w A env s₀ v (.dY ks)) (hi : EV prog w A env s₀ i (.dI k)) (h0 : 0 ≤ k) (hx : ks[k.toNat]? = some x) (hz : ks.length ≤ 1000)
    (hs : ∀ o i', ∃ ops, subscripted i false o i' = operate ops (getItem o i') := by intro o i'; exact ⟨_, rfl⟩) : EV prog w A env s₀ (.Subscript v i pos) (.dI x) :=
  hv.item hi (fun _ _ s _ da db E => by
    obtain ⟨b, t, rfl, hb⟩ := da
    obtain ⟨u, rfl⟩ := db
    have hlt : k.toNat < ks.length := (List.getElem?_eq_some_iff.mp hx).1
    have hl : b.toList.length = ks.length := by rw [← hb, KBw.ints_length]; simp
    have hg : (((b.toList.getD k.toNat 0).toNat : Nat) : Int) = x := by
      rw [KBw.getD_ints]
      have : (b.toList.map fun c => (c.toNat : Int)) = ks := hb
      rw [this, List.getD_eq_getElem?_getD, hx]
      rfl
    refine ⟨"bytes", _, typeIs_bytes s b t, FB.slot_bytes_getitem.lookup, ?_⟩
    have := getItem_bytes (prog := prog) (w := w) (A := A) (E := E) (s := s) (t := t) (u := u) (l := b.toList) (i := k) (Q := fun v s' => Keeps s s' ∧ Den s'.heap v (.dI x)) (by omega) h0 (by omega) ⟨kTok .., _, by rw [hg]⟩
    simpa using this) hs

/-! slices -/
def PV (prog : Program) (w : World) (A : Around) (env : Env) (s₀ : Shared) (e : Option Expr) (k : Option Int) : Prop :=
  ∀ s, Keeps s₀ s → ∀ E : Value → Shared → Prop, wpAny (model prog w) A (evalPart e env) (fun v s' => Keeps s s' ∧ IsPart v k) E s
theorem PV.none : PV prog w A env s₀ none none := fun _ _ _ => wpAny_evalPart_none ⟨kRefl _, .none⟩
theorem PV.some {e : Expr} {i : Int} (h : EV prog w A env s₀ e (.dI i)) : PV prog w A env s₀ (some e) (some i) :=
  fun _ k _ => wpAny_evalPart_some (h.go k fun v s₁ k₁ d => by obtain ⟨t, rfl⟩ := d; exact ⟨k₁, .int i t⟩)
theorem EV.slice {v : Expr} {lo hi st : Option Expr} {p pos : Pos} {a b c : Option Int} {d₁ d : D} (hv : EV prog w A env s₀ v d₁) (hl : PV prog w A env s₀ lo a) (hh : PV prog w A env s₀ hi b) (hst : PV prog w A env s₀ st c)
    (ho : ∀ o vl vu vt s, Keeps s₀ s → Den s.heap o d₁ → IsPart vl a → IsPart vu b → IsPart vt c → ∀ E : Value → Shared → Prop, ∃ T id, s.TypeIs o T ∧ typeLookup (.type T) "__getitem__" = pure (some (.builtin id)) ∧
      wpAny (model prog w) A (getItem o (.ref s.heap.objs.size)) (fun v s' => Keeps s s' ∧ Den s'.heap v d) E { s with heap := s.heap.push { cls := .type "slice", data := .fields #[vl, vu, vt] } }) :
    EV prog w A env s₀ (.Subscript v (.Slice lo hi st p) pos) d :=
  fun s k E => Subscript_ (hv.go k fun o s₁ k₁ dO => wpAny_Slice (wpAny_mono (hl s₁ (kTrans k k₁) E) (fun vl s₂ q₂ => wpAny_mono (hh s₂ (kTrans k (kTrans k₁ q₂.1)) E) (fun vu s₃ q₃ =>
    wpAny_mono (hst s₃ (kTrans k (kTrans k₁ (kTrans q₂.1 q₃.1))) E) (fun vt s₄ q₄ => by
      have kk : Keeps s s₄ := kTrans k₁ (kTrans q₂.1 (kTrans q₃.1 q₄.1))
      obtain ⟨T, id, hT, hlk, hg⟩ := ho o vl vu vt s₄ (kTrans k kk) (dO.k (kTrans q₂.1 (kTrans q₃.1 q₄.1))) q₂.2 q₃.2 q₄.2 E
      have hT' : ({ s₄ with heap := s₄.heap.push { cls := .type "slice", data := .fields #[vl, vu, vt] } } : Shared).TypeIs o T := by
        cases o with
        | ref a => obtain ⟨ob, h1, h2⟩ := hT; exact ⟨ob, Heap.get?_push_of_some _ h1, h2⟩
        | _ => exact hT
      have hop : ∃ ops, subscripted (.Slice lo hi st p) false o (.ref s₄.heap.objs.size) = operate ops (getItem o (.ref s₄.heap.objs.size)) := by
        cases st with
        | none => exact ⟨_, rfl⟩
        | some _ => exact ⟨_, rfl⟩
      obtain ⟨ops, hop⟩ := hop
      exact tail_any hT' hlk (wpAny_mono hg (fun _ _ q => ⟨kTrans kk q.1, q.2⟩) fun _ _ e => e) hop) fun _ _ e => e) fun _ _ e => e) fun _ _ e => e))
theorem EV.sliceL {v : Expr} {lo hi st : Option Expr} {p pos : Pos} {a b c : Option Int} {ns ms : List Int} (hv : EV prog w A env s₀ v (.dL ns)) (hl : PV prog w A env s₀ lo a) (hh : PV prog w A env s₀ hi b) (hst : PV prog w A env s₀ st c)
    (hm : ∀ vs, IntsAre vs ns → IntsAre (slicePick vs.toArray a b c).toList ms) (hz : ns.length ≤ 1000) (h0 : c ≠ some 0 := by decide) : EV prog w A env s₀ (.Subscript v (.Slice lo hi st p) pos) (.dL ms) :=
  hv.slice hl hh hst fun o vl vu vt s k dO pl pu pt E => by
    obtain ⟨l, us, rfl, q, ii⟩ := dO
    have hlen := ii.length
    refine ⟨"list", _, q.isList.typeIs, slot_list_getitem.lookup, wpAny_getItem_list_slice (LL.isList (q.at fun b o e => Heap.get?_push_of_some _ e)) (Heap.IsSliceOf.new ..) pl pu pt h0 ?_ (by simp only [List.size_toArray, sizeLine_eq]; omega)⟩
    refine ⟨kTrans (kPush ..) (kPush ..), _, (slicePick us.toArray a b c).toList, rfl, ?_, hm us ii⟩
    rw [LL, Array.toArray_toList]
    exact ⟨_, Heap.get?_push_size _ rfl⟩
theorem EV.upto {v hi : Expr} {p pos : Pos} {ns : List Int} {y : Int} (hv : EV prog w A env s₀ v (.dL ns)) (hh : EV prog w A env s₀ hi (.dI y)) (h0 : 0 ≤ y) (hz : ns.length ≤ 1000) : EV prog w A env s₀ (.Subscript v (.Slice none (some hi) none p) pos) (.dL (ns.take y.toNat)) :=
  hv.sliceL .none (.some hh) .none (fun _ i => kmk_upto i h0) hz
theorem EV.from {v lo : Expr} {p pos : Pos} {ns : List Int} {x : Int} (hv : EV prog w A env s₀ v (.dL ns)) (hh : EV prog w A env s₀ lo (.dI x)) (h0 : 0 ≤ x) (hz : ns.length ≤ 1000) : EV prog w A env s₀ (.Subscript v (.Slice (some lo) none none p) pos) (.dL (ns.drop x.toNat)) :=
  hv.sliceL (.some hh) .none .none (fun _ i => kmk_from i h0) hz
theorem intsRev : ∀ {vs : List Value} {ns : List Int}, IntsAre vs ns → IntsAre vs.reverse ns.reverse
  | _, _, .nil => .nil
  | _, _, .cons n t r => by
    rw [List.reverse_cons, List.reverse_cons]
    exact (intsRev r).append (.cons n t .nil)
theorem EV.revL {v e : Expr} {p pos : Pos} {ns : List Int} (hv : EV prog w A env s₀ v (.dL ns)) (hs : EV prog w A env s₀ e (.dI (-1))) (hz : ns.length ≤ 1000) : EV prog w A env s₀ (.Subscript v (.Slice none none (some e) p) pos) (.dL ns.reverse) :=
  hv.sliceL .none .none (.some hs) (fun vs i => by rw [krv_pick]; simpa using intsRev i) hz
theorem EV.sliceY {v : Expr} {lo hi : Option Expr} {p pos : Pos} {a b : Option Int} {ks ms : List Int} (hv : EV prog w A env s₀ v (.dY ks)) (hl : PV prog w A env s₀ lo a) (hh : PV prog w A env s₀ hi b)
    (hm : (ks.drop (a.elim 0 (clipAt ks.length))).take (b.elim ks.length (clipAt ks.length) - a.elim 0 (clipAt ks.length)) = ms) (hz : ks.length ≤ 1000) : EV prog w A env s₀ (.Subscript v (.Slice lo hi none p) pos) (.dY ms) :=
  hv.slice hl hh .none fun o vl vu vt s k dO pl pu pt E => by
    obtain ⟨bb, t, rfl, hb⟩ := dO
    cases pt
    have hlen : bb.size = ks.length := by rw [← hb, KBw.ints_length]
    refine ⟨"bytes", _, typeIs_bytes s bb t, FB.slot_bytes_getitem.lookup, getItem_meets (typeIs_bytes _ _ _) (by decide) FB.slot_bytes_getitem FB.entry_bytes_getitem (FB.args_bytes_getitem_2 _ _) (KBc.meets_slice2 bb t _ pl pu) ?_⟩
    refine ⟨Heap.IsSliceOf.new _ _ _ _, by have := KBc.size_picked_le bb a b; rw [sizeLine_eq]; omega, fun t' k' => ⟨kTrans (kPush ..) (kTok ..), _, t', rfl, ?_⟩⟩
    rw [KBc.ints_picked hb, hm]
end
end Mine
end

section
open PySem PySem.W PyProof.Rows
set_option Elab.async false
set_option maxRecDepth 100000
set_option linter.unusedVariables false
namespace Mine

def plainO (o : Obj) : Prop := (∀ es n, o.data ≠ .dict es n) ∧ ∀ v, o.data ≠ .cell v
def TrB (S : List Addr) (h h' : Heap) : Prop := ∀ b o, plainO o → b ∉ S → h.get? b = some o → h'.get? b = some o
theorem trOf {S : List Addr} {h h' : Heap} (k : ∀ b o, h.get? b = some o → h'.get? b = some o) : TrB S h h' := fun b o _ _ e => k b o e
theorem TrB.trans {S : List Addr} {h h' h'' : Heap} (k : TrB S h h') (l : TrB S h' h'') : TrB S h h'' := fun b o p n e => l b o p n (k b o p n e)
theorem TrB.mono {S S' : List Addr} {h h' : Heap} (k : TrB S h h') (hs : ∀ b ∈ S, b ∈ S') : TrB S' h h' := fun b o p n e => k b o p (fun hb => n (hs b hb)) e
theorem plainL {vs : Array Value} {n : Nat} : plainO { cls := .type "list", data := .seq vs n } := ⟨fun _ _ h => (by cases h), fun _ h => (by cases h)⟩
theorem plainF {T : String} {vs : Array Value} : plainO { cls := .type T, data := .fields vs } := ⟨fun _ _ h => (by cases h), fun _ h => (by cases h)⟩
/-- the iterators that a loop steps -/
def isIt (o : Obj) : Prop := (∃ vs, o.data = .fields vs) ∧ (o.cls = .type "range_iterator" ∨ o.cls = .type "list_iterator")
def TrC (S : List Addr) (h h' : Heap) : Prop := ∀ b o, plainO o → ¬ isIt o → b ∉ S → h.get? b = some o → h'.get? b = some o
theorem TrB.toC {S : List Addr} {h h' : Heap} (k : TrB S h h') : TrC S h h' := fun b o p _ n e => k b o p n e
theorem TrC.trans {S : List Addr} {h h' h'' : Heap} (k : TrC S h h') (l : TrC S h' h'') : TrC S h h'' := fun b o p q n e => l b o p q n (k b o p q n e)
theorem TrC.mono {S S' : List Addr} {h h' : Heap} (k : TrC S h h') (hs : ∀ b ∈ S, b ∈ S') : TrC S' h h' := fun b o p q n e => k b o p q (fun hb => n (hs b hb)) e
theorem trcOf {S : List Addr} {h h' : Heap} (k : ∀ b o, h.get? b = some o → h'.get? b = some o) : TrC S h h' := fun b o _ _ _ e => k b o e
theorem notItL {vs : Array Value} {n : Nat} : ¬ isIt { cls := .type "list", data := .seq vs n } := fun h => by obtain ⟨⟨_, h⟩, _⟩ := h; cases h
theorem LL.trc {S : List Addr} {h h' : Heap} {a : Addr} {vs : List Value} (x : LL h a vs) (k : TrC S h h') (hn : a ∉ S) : LL h' a vs := by
  obtain ⟨n, e⟩ := x
  exact ⟨n, k a _ plainL notItL hn e⟩
theorem LL.tr {S : List Addr} {h h' : Heap} {a : Addr} {vs : List Value} (x : LL h a vs) (k : TrB S h h') (hn : a ∉ S) : LL h' a vs := by
  obtain ⟨n, e⟩ := x
  exact ⟨n, k a _ plainL hn e⟩
theorem Den.trc {h h' : Heap} {v : Value} {d : D} (x : Den h v d) (k : TrC [] h h') : Den h' v d := by
  cases d with
  | dL ns => obtain ⟨a, vs, e, l, i⟩ := x; exact ⟨a, vs, e, l.trc k (by simp), i⟩
  | dT ns => obtain ⟨a, vs, e, l, i⟩ := x; exact ⟨a, vs, e, l.trc k (by simp), i⟩
  | dU vs =>
    obtain ⟨a, e, l⟩ := x
    exact ⟨a, e, k _ _ ⟨fun _ _ h => (by cases h), fun _ h => (by cases h)⟩ (fun h => by obtain ⟨⟨_, h⟩, _⟩ := h; cases h) (by simp) l⟩
  | dR a b c =>
    obtain ⟨r, t, u, y, e, l⟩ := x
    refine ⟨r, t, u, y, e, k _ _ plainF (fun h => ?_) (by simp) l⟩
    rcases h.2 with h | h
    · exact absurd (Value.type.inj h) (by decide)
    · exact absurd (Value.type.inj h) (by decide)
  | _ => exact x
theorem Den.tr {h h' : Heap} {v : Value} {d : D} (x : Den h v d) (k : TrB [] h h') : Den h' v d := x.trc k.toC

section
variable {prog : Program} {w : World} {A : Around} {env : Env} {s₀ : Shared}

theorem walksMap {I : Addr} {fp wr : List Addr} {n : Nat} {P P' : Nat → Value → Prop} {St : Nat → Heap → Prop} (W : Walks prog w A I fp wr n P St) (h : ∀ i v, i < n → P i v → P' i v) : Walks prog w A I fp wr n P' St where
  sub := W.sub
  frame := W.frame
  item := fun i s Q E hi st hQ => W.item i s Q E hi st fun v h' tk hp => hQ v h' tk (h i v hi hp)
  done := W.done
  self := W.self

abbrev IntAt (src : List Int) (i : Nat) (v : Value) : Prop := ∃ t, v = .int (src.getD i 0) t

structure Source (prog : Program) (w : World) (A : Around) (src : List Int) (s s' : Shared) (I : Addr) (fp wr : List Addr) (St : Nat → Heap → Prop) : Prop where
  kp : Keeps s s'
  walks : Walks prog w A I fp wr src.length (IntAt src) St
  start : St 0 s'.heap
  lt : ∀ b ∈ fp, b < s'.heap.objs.size
  fresh : ∀ b ∈ wr, s.heap.get? b = none
  frame : ∀ S : List Addr, (∀ b ∈ S, b ∉ fp) → ∀ i h h', St i h → TrB S h h' → St i h'
  its : ∀ i h, St i h → ∀ b ∈ wr, ∀ o, h.get? b = some o → isIt o

def SVi (prog : Program) (w : World) (A : Around) (env : Env) (s₀ : Shared) (iter : Expr) (src : List Int) : Prop :=
  ∀ s, Keeps s₀ s → ∀ E Q : Value → Shared → Prop, (∀ I fp wr St s', Source prog w A src s s' I fp wr St → Q (.ref I) s') →
    wpAny (model prog w) A (eval iter env) (fun x s₁ => wpAny (model prog w) A (pyIter x) Q E s₁) E s
/-- as SVi, the footprint being new -/
def SVr (prog : Program) (w : World) (A : Around) (env : Env) (s₀ : Shared) (iter : Expr) (src : List Int) : Prop :=
  ∀ s, Keeps s₀ s → ∀ E Q : Value → Shared → Prop, (∀ I fp wr St s', Source prog w A src s s' I fp wr St → (∀ b ∈ fp, s.heap.get? b = none) → Q (.ref I) s') →
    wpAny (model prog w) A (eval iter env) (fun x s₁ => wpAny (model prog w) A (pyIter x) Q E s₁) E s
theorem SVr.toI {iter : Expr} {src : List Int} (h : SVr prog w A env s₀ iter src) : SVi prog w A env s₀ iter src := fun s k E Q q => h s k E Q fun I fp wr St s' X _ => q I fp wr St s' X

theorem kNone {s s' : Shared} {b : Addr} (k : Keeps s s') (h : s'.heap.objs.size ≤ b) : s.heap.get? b = none := by
  cases e : s.heap.get? b with
  | none => rfl
  | some o => exact absurd (Heap.lt_size (kGet k _ _ e)) (Nat.not_lt.mpr h)

def rangeNums (a b c : Int) : List Int := (List.range (Builtin.Range.rangeSize a b c).toNat).map fun (i : Nat) => a + (i : Int) * c
theorem rangeNums_length {a b c : Int} : (rangeNums a b c).length = (Builtin.Range.rangeSize a b c).toNat := by simp [rangeNums]
theorem rangeNums_get {a b c : Int} {i : Nat} (h : i < (Builtin.Range.rangeSize a b c).toNat) : (rangeNums a b c).getD i 0 = a + (i : Int) * c := by
  simp [rangeNums, List.getD_eq_getElem?_getD, h]
theorem rangeSize_nonneg (a b c : Int) (hc : c ≠ 0) : 0 ≤ Builtin.Range.rangeSize a b c := by
  unfold Builtin.Range.rangeSize
  split
  · split
    · have := Int.ediv_nonneg (a := b - a - 1) (b := c) (by omega) (by omega); omega
    · omega
  · split
    · have := Int.ediv_nonneg (a := a - b - 1) (b := -c) (by omega) (by omega); omega
    · omega
theorem SVr.range {iter : Expr} {a b c : Int} (hh : A.handled = none) (h : EV prog w A env s₀ iter (.dR a b c)) (hs : Builtin.Range.small a b c = true) (hc : c ≠ 0) : SVr prog w A env s₀ iter (rangeNums a b c) :=
  fun s k E Q q => h.go k fun v s₁ k₁ d => by
    obtain ⟨r, t, u, x, rfl, hr⟩ := d
    refine wpAny_pyIter_range hr hs ?_
    have hn : s.heap.get? s₁.heap.objs.size = none := kNone k₁ (Nat.le_refl _)
    have h0 := rangeSize_nonneg a b c hc
    refine q s₁.heap.objs.size [s₁.heap.objs.size] [s₁.heap.objs.size] (fun i h => IsRangeIter h s₁.heap.objs.size (a + (i : Nat) * c) (((Builtin.Range.rangeSize a b c).toNat : Int) - (i : Nat)) c) _ ⟨kTrans k₁ (kPush ..), ?_, ?_, ?_, ?_, ?_, ?_⟩ ?_
    · rw [rangeNums_length]
      exact walksMap (Walks.range hh s₁.heap.objs.size a c (Builtin.Range.rangeSize a b c).toNat) fun i v hi p => by
        obtain ⟨t, rfl⟩ := p
        exact ⟨t, by rw [rangeNums_get hi]⟩
    · show IsRangeIter _ _ _ _ _
      have e1 : a + ((0 : Nat) : Int) * c = a := by simp
      have e2 : (((Builtin.Range.rangeSize a b c).toNat : Int) - ((0 : Nat) : Int)) = Builtin.Range.rangeSize a b c := by omega
      rw [e1, e2]
      exact Heap.get?_push_size _ rfl
    · intro b hb; rw [List.mem_singleton.mp hb]; simp [Heap.size_push]
    · intro b hb; rw [List.mem_singleton.mp hb]; exact hn
    · intro S hS i h h' st tr
      exact tr _ _ plainF (fun hm => hS _ hm (by simp)) st
    · intro i h st b hb o e
      rw [List.mem_singleton.mp hb] at e
      have st' : h.get? s₁.heap.objs.size = some _ := st
      rw [e] at st'
      cases st'
      exact ⟨⟨_, rfl⟩, .inl rfl⟩
    · intro b hb; rw [List.mem_singleton.mp hb]; exact hn
theorem SVi.list {iter : Expr} {ns : List Int} (hh : A.handled = none) (h : EV prog w A env s₀ iter (.dL ns)) : SVi prog w A env s₀ iter ns :=
  fun s k E Q q => h.go k fun v s₁ k₁ d => by
    obtain ⟨l, vs, rfl, p, ii⟩ := d
    refine wpAny_pyIter_list p.isList ?_
    have hn : s.heap.get? s₁.heap.objs.size = none := kNone k₁ (Nat.le_refl _)
    have hlt := p.lt
    have hlen := ii.length
    refine q s₁.heap.objs.size [s₁.heap.objs.size, l] [s₁.heap.objs.size] (fun i h => h.IsListIter s₁.heap.objs.size l i ∧ h.IsList l vs.toArray) _ ⟨kTrans k₁ (kPush ..), ?_, ?_, ?_, ?_, ?_, ?_⟩
    · rw [← hlen, show vs.length = vs.toArray.size from by simp]
      exact walksMap (Walks.list hh s₁.heap.objs.size l (Nat.ne_of_lt hlt) vs.toArray) fun i v hi p => by
        have hv : vs[i]? = some v := by simpa using p
        have hi' : i < ns.length := by rw [← hlen]; simpa using hi
        obtain ⟨t, hx⟩ := ii.get i ns[i] (by simp [hi'])
        rw [hx] at hv
        refine ⟨t, ?_⟩
        rw [← Option.some.inj hv, List.getD_eq_getElem?_getD]
        simp [hi']
    · exact ⟨⟨_, Heap.get?_push_size _ rfl, rfl, rfl⟩, p.isList.push _⟩
    · intro b hb
      simp only [List.mem_cons, List.not_mem_nil, or_false] at hb
      rcases hb with rfl | rfl
      · simp [Heap.size_push]
      · simp only [Heap.size_push]; exact Nat.lt_succ_of_lt hlt
    · intro b hb; rw [List.mem_singleton.mp hb]; exact hn
    · rintro S hS i h h' ⟨⟨o1, a1, a2, a3⟩, ⟨o2, b1, b2, n, b3⟩⟩ tr
      exact ⟨⟨o1, tr _ _ ⟨fun _ _ e => (by rw [a3] at e; cases e), fun _ e => (by rw [a3] at e; cases e)⟩ (fun hm => hS _ hm (by simp)) a1, a2, a3⟩,
        ⟨o2, tr _ _ ⟨fun _ _ e => (by rw [b3] at e; cases e), fun _ e => (by rw [b3] at e; cases e)⟩ (fun hm => hS _ hm (by simp)) b1, b2, n, b3⟩⟩
    · rintro i h ⟨⟨o1, a1, a2, a3⟩, _⟩ b hb o e
      rw [List.mem_singleton.mp hb, a1] at e
      cases e
      exact ⟨⟨_, a3⟩, .inr a2⟩

/-! range(..) -/
theorem callRange1 {n : Int} : CallOk prog w A s₀ (.type "range") [.dI n] (.dR 0 n 1) := fun vs s k d E => by
  cases d with
  | cons d r =>
    cases r
    obtain ⟨t, rfl⟩ := d
    exact call_range_1 ⟨kMk (fun _ _ e => Heap.get?_push_of_some _ e), _, _, _, _, rfl, Heap.get?_push_size _ rfl⟩
theorem callRange2 {a b : Int} : CallOk prog w A s₀ (.type "range") [.dI a, .dI b] (.dR a b 1) := fun vs s k d E => by
  cases d with
  | cons d r =>
    cases r with
    | cons d' r' =>
      cases r'
      obtain ⟨t, rfl⟩ := d
      obtain ⟨u, rfl⟩ := d'
      exact call_range_2 ⟨kMk (fun _ _ e => Heap.get?_push_of_some _ e), _, _, _, _, rfl, Heap.get?_push_size _ rfl⟩
theorem callRange3 {a b c : Int} (hc : c ≠ 0) (hb : c.natAbs < 1073741824) : CallOk prog w A s₀ (.type "range") [.dI a, .dI b, .dI c] (.dR a b c) := fun vs s k d E => by
  cases d with
  | cons d r =>
    cases r with
    | cons d' r' =>
      cases r' with
      | cons d'' r'' =>
        cases r''
        obtain ⟨t, rfl⟩ := d
        obtain ⟨u, rfl⟩ := d'
        obtain ⟨v, rfl⟩ := d''
        exact call_range_3 hc ⟨kPush .., _, _, _, _, rfl, Heap.get?_push_size _ rfl⟩ (Or.inl (PyProof.noPylong_small hb))

/-! comprehensions over ints -/
def HK (s s' : Shared) : Prop := ∀ b o, s.heap.get? b = some o → s'.heap.get? b = some o
def TEs (prog : Program) (w : World) (A : Around) (env : Env) (s₀ : Shared) (ifs : List Expr) (c : Bool) : Prop :=
  ∀ E : Value → Shared → Prop, wpAny (model prog w) A (forIn ifs true fun c r => if r = true then do let ok ← isTrue c env (eval c env); pure (ForInStep.yield ok) else pure (ForInStep.yield r)) (fun ok s' => ok = c ∧ Keeps s₀ s') E s₀
theorem TEs.nil : TEs prog w A env s₀ [] true := fun _ => wpAny_tests_nil ⟨rfl, kRefl _⟩
theorem TEs.one {e : Expr} {c : Bool} (h : TE prog w A env s₀ e c) : TEs prog w A env s₀ [e] c := fun E => wpAny_tests_one (wpAny_mono (h s₀ (kRefl _) E) (fun _ _ q => ⟨q.2, q.1⟩) fun _ _ e => e)

def intOf : Value → Int
  | .int i _ => i
  | _ => 0
theorem paired_out {G : Int → Value → Prop} {pz : Int → Bool} {ok : Int → Prop} : ∀ {src : List Int} {vs us : List Value}, vs.length = src.length → (∀ (j : Nat) v, vs[j]? = some v → IntAt src j v) →
    Paired (fun v y => G (intOf v) y) (vs.filter fun v => pz (intOf v)) us → Paired G (src.filter pz) us
  | [], [], _, _, _, h => by
    simp only [List.filter_nil] at h ⊢
    cases h
    exact .nil
  | n :: src, v :: vs, us, hl, hv, h => by
    obtain ⟨t, ht⟩ := hv 0 v rfl
    have e : v = .int n t := ht
    subst e
    have hv' : ∀ (j : Nat) u, vs[j]? = some u → IntAt src j u := fun j u hj => hv (j + 1) u (by simpa using hj)
    have hl' : vs.length = src.length := by simpa using hl
    rw [List.filter_cons] at h
    rw [List.filter_cons]
    cases hp : pz n with
    | true =>
      simp only [intOf, hp, if_true] at h ⊢
      cases h with
      | cons h1 h2 => exact .cons h1 (paired_out (ok := ok) hl' hv' h2)
    | false =>
      simp only [intOf, hp, Bool.false_eq_true, if_false] at h ⊢
      exact paired_out (ok := ok) hl' hv' h
  | [], _ :: _, _, hl, _, _ => by simp at hl
  | _ :: _, [], _, hl, _, _ => by simp at hl

/-- an element that makes ints, or texts -/
theorem compCore {elt : Expr} {x : Str} {ifs : List Expr} {scope : Scope} {cl : List (Str × Addr)} {src : List Int} {pz : Int → Bool} {G : Int → Value → Prop} {s : Shared}
    {I : Addr} {fp wr : List Addr} {St : Nat → Heap → Prop} {s' : Shared} (X : Source prog w A src s s' I fp wr St)
    (test : ∀ C s₃ m₃ n t, n ∈ src → HK s s₃ → s₃.heap.Ns C m₃ → m₃ x = some (.int n t) → TEs prog w A (compEnvC scope cl C env) s₃ ifs (pz n))
    (elem : ∀ C s₃ m₃ n t, n ∈ src → pz n = true → HK s s₃ → s₃.heap.Ns C m₃ → m₃ x = some (.int n t) → ∀ E, wpAny (model prog w) A (eval elt (compEnvC scope cl C env)) (fun y s₄ => G n y ∧ Keeps s₃ s₄) E s₃) :
    QuietOnC prog w A env scope cl x ifs elt wr (fun i v => i < src.length ∧ IntAt src i v) (fun v => pz (intOf v)) (fun v y => G (intOf v) y) s' := by
  have up : ∀ s₃ : Shared, (∀ b o, b ∉ wr → s'.heap.get? b = some o → s₃.heap.get? b = some o) → HK s s₃ := fun s₃ hk b o e =>
    hk b o (fun hb => by rw [X.fresh b hb] at e; cases e) (kGet X.kp b o e)
  constructor
  · rintro C i v s₃ m₃ E _ ⟨hi, t, rfl⟩ hn hm hk _
    have hmem : src.getD i 0 ∈ src := by rw [List.getD_eq_getElem?_getD]; simp [hi]
    exact test C s₃ m₃ _ t hmem (up s₃ hk) hn hm E
  · rintro C i v s₃ m₃ E _ ⟨hi, t, rfl⟩ hp hn hm hk _
    have hmem : src.getD i 0 ∈ src := by rw [List.getD_eq_getElem?_getD]; simp [hi]
    exact elem C s₃ m₃ _ t hmem hp (up s₃ hk) hn hm E
theorem Source.walksLt {src : List Int} {s s' : Shared} {I : Addr} {fp wr : List Addr} {St : Nat → Heap → Prop} (X : Source prog w A src s s' I fp wr St) : Walks prog w A I fp wr src.length (fun i v => i < src.length ∧ IntAt src i v) St :=
  walksMap X.walks fun _ _ hi p => ⟨hi, p⟩
theorem Source.back {src : List Int} {s s' : Shared} {I : Addr} {fp wr : List Addr} {St : Nat → Heap → Prop} (X : Source prog w A src s s' I fp wr St) {h' : Heap} {tk : Nat} (hk : ∀ b o, b ∉ wr → s'.heap.get? b = some o → h'.get? b = some o) :
    Keeps s { s' with heap := h', toks := tk } := by
  have up : ∀ b o, s.heap.get? b = some o → h'.get? b = some o := fun b o e => hk b o (fun hb => by rw [X.fresh b hb] at e; cases e) (kGet X.kp b o e)
  obtain ⟨h, t, e, k⟩ := X.kp
  subst e
  exact ⟨h', tk, rfl, up⟩
theorem EV.comp {elt iter : Expr} {x : Str} {px : Pos} {ifs : List Expr} {scope : Scope} {cl : List (Str × Addr)} {pos : Pos} {src : List Int} {pz : Int → Bool} {G : Int → Value → Prop} {d : D}
    (hs : SVi prog w A env s₀ iter src) (hz : src.length ≤ 1000)
    (test : ∀ C s₃ m₃ n t, n ∈ src → HK s₀ s₃ → s₃.heap.Ns C m₃ → m₃ x = some (.int n t) → TEs prog w A (compEnvC scope cl C env) s₃ ifs (pz n))
    (elem : ∀ C s₃ m₃ n t, n ∈ src → pz n = true → HK s₀ s₃ → s₃.heap.Ns C m₃ → m₃ x = some (.int n t) → ∀ E, wpAny (model prog w) A (eval elt (compEnvC scope cl C env)) (fun y s₄ => G n y ∧ Keeps s₃ s₄) E s₃)
    (out : ∀ h D us, LL h D us → Paired G (src.filter pz) us → Den h (.ref D) d)
    (hclos : closureFor scope env = pure cl := by rfl) (hcell : ∀ y ∈ scope.names, y.2 ≠ .cell := by decide) (hkind : scope.kind = .function := by rfl)
    (hnames : ∀ y ∈ scope.names, y.2 = .local → scope.names.lookup y.1 = some .local := by decide) (hx : scope.names.lookup x = some .local := by rfl)
    (hf : ∀ x, foldedSetIterable iter env x = pure x := by intro _; rfl) :
    EV prog w A env s₀ (.ListComp elt [⟨.Name x px, iter, ifs, 0⟩] scope pos) d :=
  fun s k E => wpAny_ListComp_free (fun v => pz (intOf v)) (fun v y => G (intOf v) y) hclos hcell hkind hnames hx (hs s k E _ fun I fp wr St s' X => by
    have up : ∀ s₃, HK s s₃ → HK s₀ s₃ := fun s₃ hk b o e => hk b o (kGet k b o e)
    refine ⟨I, fp, wr, _, _, St, rfl, X.walksLt, by rw [sizeLine_eq]; omega, X.start, X.lt, compCore X (fun C s₃ m₃ n t hn hk => test C s₃ m₃ n t hn (up s₃ hk)) (fun C s₃ m₃ n t hn hp hk => elem C s₃ m₃ n t hn hp (up s₃ hk)), ?_⟩
    intro D h' tk ys vs hD hl hpl hlen hP hF hk
    have hp := paired_out (ok := fun _ => True) hlen (fun j v hj => (hP j v hj).2) hF
    exact ⟨X.back hk, out h' D ys.toList (by rw [LL, Array.toArray_toList]; exact hpl) hp⟩) hf
theorem paired_ints {f : Int → Int} : ∀ {src : List Int} {us : List Value}, Paired (fun n y => ∃ t, y = .int (f n) t) src us → IntsAre us (src.map f)
  | _, _, .nil => .nil
  | _, _, .cons h r => by obtain ⟨t, rfl⟩ := h; exact .cons _ t (paired_ints r)
theorem paired_strs {f : Int → Str} : ∀ {src : List Int} {us : List Value}, Paired (fun n y => ∃ t, y = .str (f n) t) src us → StrsAre us (src.map f)
  | _, _, .nil => .nil
  | _, _, .cons h r => by obtain ⟨t, rfl⟩ := h; exact .cons _ t (paired_strs r)
theorem elemI {e : Expr} {n : Int} {s : Shared} (h : EV prog w A env s e (.dI n)) : ∀ E, wpAny (model prog w) A (eval e env) (fun y s₄ => (∃ t, y = .int n t) ∧ Keeps s s₄) E s :=
  fun E => wpAny_mono (h s (kRefl _) E) (fun _ _ q => ⟨q.2, q.1⟩) fun _ _ e => e
theorem elemS {e : Expr} {n : Str} {s : Shared} (h : EV prog w A env s e (.dS n)) : ∀ E, wpAny (model prog w) A (eval e env) (fun y s₄ => (∃ t, y = .str n t) ∧ Keeps s s₄) E s :=
  fun E => wpAny_mono (h s (kRefl _) E) (fun _ _ q => ⟨q.2, q.1⟩) fun _ _ e => e
theorem EV.compI {elt iter : Expr} {x : Str} {px : Pos} {ifs : List Expr} {scope : Scope} {cl : List (Str × Addr)} {pos : Pos} {src : List Int} {pz : Int → Bool} {f : Int → Int}
    (hs : SVi prog w A env s₀ iter src) (hz : src.length ≤ 1000)
    (test : ∀ C s₃ m₃ n t, n ∈ src → HK s₀ s₃ → s₃.heap.Ns C m₃ → m₃ x = some (.int n t) → TEs prog w A (compEnvC scope cl C env) s₃ ifs (pz n))
    (elem : ∀ C s₃ m₃ n t, n ∈ src → pz n = true → HK s₀ s₃ → s₃.heap.Ns C m₃ → m₃ x = some (.int n t) → EV prog w A (compEnvC scope cl C env) s₃ elt (.dI (f n)))
    (hclos : closureFor scope env = pure cl := by rfl) (hcell : ∀ y ∈ scope.names, y.2 ≠ .cell := by decide) (hkind : scope.kind = .function := by rfl)
    (hnames : ∀ y ∈ scope.names, y.2 = .local → scope.names.lookup y.1 = some .local := by decide) (hx : scope.names.lookup x = some .local := by rfl)
    (hf : ∀ x, foldedSetIterable iter env x = pure x := by intro _; rfl) :
    EV prog w A env s₀ (.ListComp elt [⟨.Name x px, iter, ifs, 0⟩] scope pos) (.dL ((src.filter pz).map f)) :=
  EV.comp (G := fun n y => ∃ t, y = .int (f n) t) hs hz test (fun C s₃ m₃ n t hn hp hk hns hm => elemI (elem C s₃ m₃ n t hn hp hk hns hm)) (fun h D us l p => ⟨D, us, rfl, l, paired_ints p⟩) hclos hcell hkind hnames hx hf
end
end Mine
end

section
open PySem PySem.W PyProof.Rows
set_option Elab.async false
set_option maxRecDepth 100000
set_option linter.unusedVariables false
namespace Mine

abbrev PG : Program := PySem.Challenge.rw_rs0017_01.row.prog
noncomputable abbrev KF (w : World) : Frag := hd.heap_39 w.params

/-- what the top left: its defs, the names -/
structure Wd (w : World) (mg mb : Str → Option Value) (h : Heap) : Prop where
  K : (KF w).In h
  g : Gl h mg mb
  lim : h.NoLimit
  bt : ∀ x : Str, x ≠ "__name__" → mb x = bootBuiltins x
theorem Wd.at {w : World} {mg mb : Str → Option Value} {h h' : Heap} (x : Wd w mg mb h) (k : ∀ b o, h.get? b = some o → h'.get? b = some o) : Wd w mg mb h' := ⟨x.K.keeps k, x.g.at k, x.lim.keeps k, x.bt⟩
theorem Wd.own {w : World} {mg mb : Str → Option Value} {h : Heap} (x : Wd w mg mb h) {n : Str} {v : Value} (e : nsIn (KF w) mainGlobals n = some (some v)) : mg n = some v := mg_of x.K x.g.g e
theorem Wd.no {w : World} {mg mb : Str → Option Value} {h : Heap} (x : Wd w mg mb h) {n : Str} (e : nsIn (KF w) mainGlobals n = some none) : mg n = none := mg_none_of x.K x.g.g e

section
variable {prog : Program} {w : World} {A : Around} {env : Env} {s₀ s : Shared} {mg mb m : Str → Option Value}

theorem EV.def {x : Str} {pos : Pos} {v : Value} (W : Wd w mg mb s₀.heap) (e : nsIn (KF w) mainGlobals x = some (some v))
    (hg : env.globals = mainGlobals := by rfl) (hk : env.scope.kind = .function := by rfl) (hl : env.kindOf x = some .globalImplicit := by rfl) (hdb : (x == ("__debug__" : Str)) = false := by decide) :
    EV prog w A env s₀ (.Name x pos) (.dV v) := EV.glob W.g (W.own e) hg hk hl hdb
theorem EV.boot {x : Str} {pos : Pos} {v : Value} (W : Wd w mg mb s₀.heap) (e : nsIn (KF w) mainGlobals x = some none) (hv : bootBuiltins x = some v) (hn : x ≠ "__name__" := by decide)
    (hg : env.globals = mainGlobals := by rfl) (hb : env.builtins = builtinsNs := by rfl) (hk : env.scope.kind = .function := by rfl) (hl : env.kindOf x = some .globalImplicit := by rfl) (hdb : (x == ("__debug__" : Str)) = false := by decide) :
    EV prog w A env s₀ (.Name x pos) (.dV v) := EV.built W.g (W.no e) ((W.bt x hn).trans hv) hg hb hk hl hdb

theorem EV.locI {x : Str} {pos : Pos} {m : Str → Option Value} {n : Int} {t : Tok} (hn : s₀.heap.Ns env.locals m) (hv : m x = some (.int n t))
    (hk : env.scope.kind = .function := by rfl) (hl : env.kindOf x = some .local := by rfl) (hdb : (x == ("__debug__" : Str)) = false := by decide) : EV prog w A env s₀ (.Name x pos) (.dI n) :=
  EV.local hn hv ⟨t, rfl⟩ hk hl hdb

/-! frames -/
theorem inCallK {s s' s'' : Shared} {L : Addr} {m : Str → Option Value} (F : InCall s L m s') (k : Keeps s' s'') : InCall s L m s'' := by
  obtain ⟨h, t, e⟩ := F.same
  obtain ⟨h', t', rfl, kk⟩ := k
  exact ⟨⟨h', t', by rw [e]⟩, F.ns.keeps kk, fun b o e => kk b o (F.keep b o e), F.fresh⟩
theorem trSame {L : Addr} {m : Str → Option Value} {h h' : Heap} (n : h.Ns L m) (hs : Heap.SameBut L h h') : TrB [] h h' := fun b o p _ e => by
  refine (hs.2 b ?_).trans e
  rintro rfl
  obtain ⟨o', es, ep, h1, h2, _⟩ := n
  rw [h1] at e
  cases e
  exact p.1 _ _ h2
theorem inCallSet {s s' : Shared} {L : Addr} {m m' : Str → Option Value} {h' : Heap} {t : Nat} (F : InCall s L m s') (hn : h'.Ns L m') (hs : Heap.SameBut L s'.heap h') : InCall s L m' { s' with heap := h', toks := t } := by
  obtain ⟨h, t', e⟩ := F.same
  refine ⟨⟨h', t, by rw [e]⟩, hn, fun b o e => (hs.2 b ?_).trans (F.keep b o e), F.fresh⟩
  rintro rfl
  exact absurd (Heap.lt_size e) (Nat.not_lt.mpr F.fresh)
theorem InCall.keeps' {s s' : Shared} {L : Addr} {m : Str → Option Value} (F : InCall s L m s') : Keeps s s' := by
  obtain ⟨h, t, rfl⟩ := F.same
  exact ⟨h, t, rfl, F.keep⟩

abbrev upd (m : Str → Option Value) (x : Str) (v : Value) : Str → Option Value := fun y => if y = x then some v else m y

variable {Q : Flow → Shared → Prop} {E : Value → Shared → Prop}

theorem stAssign {x : Str} {px pos : Pos} {e : Expr} {rest : List Stmt} {d : D} (F : InCall s₀ env.locals m s) (he : EV prog w A env s e d)
    (k : ∀ v s', InCall s₀ env.locals (upd m x v) s' → TrB [] s.heap s'.heap → Den s'.heap v d → wpAny (model prog w) A (execs rest env) Q E s')
    (hs : swapsWith e (some (.Name x px)) pos.line env = pure false := by rfl) (hx : env.kindOf x = some .local := by rfl)
    (hp : (env.scope.kind == .class || (env.scope.kind == .module && env.locals != env.globals)) = false := by rfl) :
    wpAny (model prog w) A (execs (.Assign [.Name x px] e pos :: rest) env) Q E s :=
  wpAny_execs_cons (wpAny_Assign_Name (he.go (kRefl _) fun v s₁ k₁ dv => wpAny_storeName_local hx (F.ns.keeps (kGet k₁)) (fun h' hn hsb => by
    have tr := trSame (F.ns.keeps (kGet k₁)) hsb
    exact k v _ (inCallSet (inCallK F k₁) hn hsb) ((trOf (kGet k₁)).trans tr) (dv.tr tr)) hp) hs)
theorem stReturn {e : Expr} {pos : Pos} {rest : List Stmt} {d : D} (he : EV prog w A env s e d) (k : ∀ v s', Keeps s s' → Den s'.heap v d → Q (.ret v) s') : wpAny (model prog w) A (execs (.Return (some e) pos :: rest) env) Q E s :=
  wpAny_execs_cons (wpAny_Return_some (he.go (kRefl _) fun v s₁ k₁ dv => k v s₁ k₁ dv))
theorem stIf {t : Expr} {a b rest : List Stmt} {pos : Pos} {c : Bool} (ht : TE prog w A env s t c)
    (hT : c = true → ∀ s', Keeps s s' → wpAny (model prog w) A (execs a env) (fun f s' => match f with | .next => wpAny (model prog w) A (execs rest env) Q E s' | f => Q f s') E s')
    (hF : c = false → ∀ s', Keeps s s' → wpAny (model prog w) A (execs b env) (fun f s' => match f with | .next => wpAny (model prog w) A (execs rest env) Q E s' | f => Q f s') E s') :
    wpAny (model prog w) A (execs (.If t a b pos :: rest) env) Q E s :=
  wpAny_execs_cons (wpAny_If (ht.go (kRefl _) fun s' k' => by
    cases c with
    | true => exact hT rfl s' k'
    | false => exact hF rfl s' k'))

/-! the loop over a source -/
def TrN (h h' : Heap) : Prop := ∀ b o, ¬ isIt o → h.get? b = some o → h'.get? b = some o
theorem TrN.toC {S : List Addr} {h h' : Heap} (k : TrN h h') : TrC S h h' := fun b o _ q _ e => k b o q e
theorem TrN.ns {h h' : Heap} {L : Addr} {m : Str → Option Value} (k : TrN h h') (n : h.Ns L m) : h'.Ns L m := by
  obtain ⟨o, es, ep, e, d, r⟩ := n
  exact ⟨o, es, ep, k _ _ (fun q => by obtain ⟨⟨_, q⟩, _⟩ := q; rw [d] at q; cases q) e, d, r⟩
theorem TrN.cell {h h' : Heap} {c : Addr} {v : Option Value} (k : TrN h h') (n : h.IsCell c v) : h'.IsCell c v := by
  obtain ⟨o, e, d⟩ := n
  exact ⟨o, k _ _ (fun q => by obtain ⟨⟨_, q⟩, _⟩ := q; rw [d] at q; cases q) e, d⟩

theorem forLoop {target : Expr} {body : List Stmt} {I : Addr} {fp wr : List Addr} {src : List Int} {St : Nat → Heap → Prop} {S : List Addr} {sb s : Shared} (X : Source prog w A src sb s I fp wr St) (hS : ∀ b ∈ S, b ∉ fp) (Inv : Nat → Shared → Prop) {R : Result → Shared → Prop}
    (h0 : Inv 0 s)
    (turn : ∀ i n t s₁ h tk, src[i]? = some n → Inv i s₁ → TrN s₁.heap h → (∀ b o, sb.heap.get? b = some o → s₁.heap.get? b = some o → h.get? b = some o) → ∀ E,
      wpAny (model prog w) A (assign target env (.int n t)) (fun _ s₃ => wpAny (model prog w) A (execs body env) (fun f s₄ => f = .next ∧ Inv (i + 1) s₄ ∧ TrB S h s₄.heap) E s₃) E { s₁ with heap := h, toks := tk })
    (done : ∀ s₁ h tk, Inv src.length s₁ → TrN s₁.heap h → (∀ b o, sb.heap.get? b = some o → s₁.heap.get? b = some o → h.get? b = some o) → R (.ok .next) { s₁ with heap := h, toks := tk })
    (ht : ∀ v, letOwnedTupleGo target (.ref I) v = pure () := by intro _; rfl) :
    codeAny (model prog w) A (.forLoop target (.ref I) body [] env) R s := by
  refine codeAny_forLoop (fun k s' => ∃ i, Inv i s' ∧ St i s'.heap ∧ i ≤ src.length ∧ k = src.length + 1 - i) ?_ (src.length + 1) ⟨0, h0, X.start, Nat.zero_le _, rfl⟩ ht
  rintro k s₁ ⟨i, hI, hst, hi, rfl⟩
  have nx : ∀ h₁ : Heap, (∀ b o, b ∉ wr → s₁.heap.get? b = some o → h₁.get? b = some o) → TrN s₁.heap h₁ := fun h₁ hk b o q e => hk b o (fun hb => q (X.its i _ hst b hb o e)) e
  have old : ∀ h₁ : Heap, (∀ b o, b ∉ wr → s₁.heap.get? b = some o → h₁.get? b = some o) → ∀ b o, sb.heap.get? b = some o → s₁.heap.get? b = some o → h₁.get? b = some o :=
    fun h₁ hk b o e e' => hk b o (fun hb => by rw [X.fresh b hb] at e; cases e) e'
  by_cases hlt : i < src.length
  · refine X.walks.item i _ _ _ hlt hst fun v h₁ tk₁ hP hst₁ hk₁ => ?_
    obtain ⟨t, rfl⟩ := hP
    have hsrc : src[i]? = some (src.getD i 0) := by rw [List.getD_eq_getElem?_getD]; simp [hlt]
    refine wpAny_mono (turn i _ t s₁ h₁ tk₁ hsrc hI (nx h₁ hk₁) (old h₁ hk₁) _) (fun _ s₃ h₃ => wpAny_mono h₃ (fun f s₄ h₄ => ?_) fun _ _ e => e) fun _ _ e => e
    obtain ⟨rfl, q1, q2⟩ := h₄
    exact ⟨src.length + 1 - (i + 1), by omega, i + 1, q1, X.frame S hS _ _ _ hst₁ q2, hlt, rfl⟩
  · have : i = src.length := by omega
    subst this
    exact X.walks.done _ _ _ hst fun h₁ tk₁ hk₁ => wpAny_execs_nil (done s₁ h₁ tk₁ hI (nx h₁ hk₁) (old h₁ hk₁))

theorem inCallN {s s₁ sb : Shared} {L : Addr} {m : Str → Option Value} {h : Heap} {tk : Nat} (F : InCall s L m s₁) (hN : TrN s₁.heap h) (hB : Keeps s sb) (ho : ∀ b o, sb.heap.get? b = some o → s₁.heap.get? b = some o → h.get? b = some o) : InCall s L m { s₁ with heap := h, toks := tk } := by
  obtain ⟨h₁, t₁, e⟩ := F.same
  exact ⟨⟨h, tk, by rw [e]⟩, hN.ns F.ns, fun b o e => ho b o (kGet hB b o e) (F.keep b o e), F.fresh⟩

theorem stForCore {x : Str} {px pos : Pos} {iter : Expr} {body rest : List Stmt} {src : List Int} {S : List Addr} (F : InCall s₀ env.locals m s)
    (hsrc : ∀ E Q : Value → Shared → Prop, (∀ I fp wr St s', Source prog w A src s s' I fp wr St → (∀ b ∈ S, b ∉ fp) → Q (.ref I) s') → wpAny (model prog w) A (eval iter env) (fun x s₁ => wpAny (model prog w) A (pyIter x) Q E s₁) E s)
    (J : Nat → (Str → Option Value) → Heap → Prop) (hN : ∀ i m h h', TrC [] h h' → J i m h → J i m h') (h0 : J 0 m s.heap)
    (turn : ∀ i n t m₁ s₁, src[i]? = some n → J i m₁ s₁.heap → InCall s₀ env.locals (upd m₁ x (.int n t)) s₁ → ∀ E,
      wpAny (model prog w) A (execs body env) (fun f s₄ => f = .next ∧ (∃ m₂, InCall s₀ env.locals m₂ s₄ ∧ J (i + 1) m₂ s₄.heap) ∧ TrB S s₁.heap s₄.heap) E s₁)
    (done : ∀ m₁ s₁, InCall s₀ env.locals m₁ s₁ → J src.length m₁ s₁.heap → wpAny (model prog w) A (execs rest env) Q E s₁)
    (hf : ∀ x, foldedSetIterable iter env x = pure x := by intro _; rfl) (hx : env.kindOf x = some .local := by rfl)
    (hp : (env.scope.kind == .class || (env.scope.kind == .module && env.locals != env.globals)) = false := by rfl) :
    wpAny (model prog w) A (execs (.For (.Name x px) iter body [] pos :: rest) env) Q E s := by
  refine wpAny_execs_cons (wpAny_For (hsrc _ _ fun I fp wr St s' X hS => ?_) hf)
  have kB : Keeps s₀ s := InCall.keeps' F
  refine forLoop X hS (fun i s₁ => ∃ m₁, InCall s₀ env.locals m₁ s₁ ∧ J i m₁ s₁.heap) ⟨m, inCallK F X.kp, hN _ _ _ _ (trcOf (kGet X.kp)) h0⟩ ?_ ?_
  · rintro i n t s₁ h tk hn ⟨m₁, F₁, j⟩ tN old E'
    have F₂ := inCallN (tk := tk) F₁ tN kB old
    refine wpAny_assign_Name (wpAny_storeName_local hx F₂.ns (fun h' hn' hs' => ?_) hp)
    have tr := trSame F₂.ns hs'
    refine wpAny_mono (turn i n t m₁ _ hn (hN _ _ _ _ (TrC.trans (tN.toC) tr.toC) j) (inCallSet F₂ hn' hs') E') (fun f s₄ q => ⟨q.1, q.2.1, fun b o p nS e => q.2.2 b o p nS (tr b o p (by simp) e)⟩) fun _ _ e => e
  · rintro s₁ h tk ⟨m₁, F₁, j⟩ tN old
    exact done m₁ _ (inCallN F₁ tN kB old) (hN _ _ _ _ tN.toC j)
theorem stForR {x : Str} {px pos : Pos} {iter : Expr} {body rest : List Stmt} {src : List Int} {S : List Addr} (F : InCall s₀ env.locals m s) (hsrc : SVr prog w A env s iter src) (hS : ∀ b ∈ S, ∃ o, s.heap.get? b = some o)
    (J : Nat → (Str → Option Value) → Heap → Prop) (hN : ∀ i m h h', TrC [] h h' → J i m h → J i m h') (h0 : J 0 m s.heap)
    (turn : ∀ i n t m₁ s₁, src[i]? = some n → J i m₁ s₁.heap → InCall s₀ env.locals (upd m₁ x (.int n t)) s₁ → ∀ E,
      wpAny (model prog w) A (execs body env) (fun f s₄ => f = .next ∧ (∃ m₂, InCall s₀ env.locals m₂ s₄ ∧ J (i + 1) m₂ s₄.heap) ∧ TrB S s₁.heap s₄.heap) E s₁)
    (done : ∀ m₁ s₁, InCall s₀ env.locals m₁ s₁ → J src.length m₁ s₁.heap → wpAny (model prog w) A (execs rest env) Q E s₁)
    (hf : ∀ x, foldedSetIterable iter env x = pure x := by intro _; rfl) (hx : env.kindOf x = some .local := by rfl)
    (hp : (env.scope.kind == .class || (env.scope.kind == .module && env.locals != env.globals)) = false := by rfl) :
    wpAny (model prog w) A (execs (.For (.Name x px) iter body [] pos :: rest) env) Q E s :=
  stForCore F (fun E Q q => hsrc s (kRefl _) E Q fun I fp wr St s' X hfp => q I fp wr St s' X fun b hb hb' => by
    obtain ⟨o, e⟩ := hS b hb
    rw [hfp b hb'] at e
    cases e) J hN h0 turn done hf hx hp
theorem stForL {x : Str} {px pos : Pos} {iter : Expr} {body rest : List Stmt} {src : List Int} (F : InCall s₀ env.locals m s) (hsrc : SVi prog w A env s iter src)
    (J : Nat → (Str → Option Value) → Heap → Prop) (hN : ∀ i m h h', TrC [] h h' → J i m h → J i m h') (h0 : J 0 m s.heap)
    (turn : ∀ i n t m₁ s₁, src[i]? = some n → J i m₁ s₁.heap → InCall s₀ env.locals (upd m₁ x (.int n t)) s₁ → ∀ E,
      wpAny (model prog w) A (execs body env) (fun f s₄ => f = .next ∧ (∃ m₂, InCall s₀ env.locals m₂ s₄ ∧ J (i + 1) m₂ s₄.heap) ∧ TrB [] s₁.heap s₄.heap) E s₁)
    (done : ∀ m₁ s₁, InCall s₀ env.locals m₁ s₁ → J src.length m₁ s₁.heap → wpAny (model prog w) A (execs rest env) Q E s₁)
    (hf : ∀ x, foldedSetIterable iter env x = pure x := by intro _; rfl) (hx : env.kindOf x = some .local := by rfl)
    (hp : (env.scope.kind == .class || (env.scope.kind == .module && env.locals != env.globals)) = false := by rfl) :
    wpAny (model prog w) A (execs (.For (.Name x px) iter body [] pos :: rest) env) Q E s :=
  stForCore F (fun E Q q => hsrc s (kRefl _) E Q fun I fp wr St s' X => q I fp wr St s' X fun b hb => by cases hb) J hN h0 turn done hf hx hp

/-! lists that are changed in place -/
theorem trbSame {D : Addr} {h h' : Heap} (hs : Heap.SameBut D h h') : TrB [D] h h' := fun b o _ n e => (hs.2 b (fun hb => n (by simp [hb]))).trans e
theorem inCallMut {s s' : Shared} {L D : Addr} {m : Str → Option Value} {h' : Heap} {t : Nat} {o : Obj} (F : InCall s L m s') (hs : Heap.SameBut D s'.heap h') (hD : s.heap.get? D = none) (ho : s'.heap.get? D = some o) (hp : plainO o) : InCall s L m { s' with heap := h', toks := t } := by
  obtain ⟨h, t', e⟩ := F.same
  refine ⟨⟨h', t, by rw [e]⟩, F.ns.sameBut hs ?_, fun b o e => (hs.2 b ?_).trans (F.keep b o e), F.fresh⟩
  · rintro rfl
    obtain ⟨o', es, ep, h1, h2, _⟩ := F.ns
    rw [h1] at ho
    cases ho
    exact hp.1 _ _ h2
  · rintro rfl
    rw [hD] at e
    cases e
theorem plainLof {s : Shared} {a : Addr} {vs : List Value} (x : LL s.heap a vs) : PlainL s.heap a vs.toArray := by
  obtain ⟨n, e⟩ := x
  exact ⟨_, n, e, rfl, rfl, rfl⟩
theorem stAppend {x : Str} {px apos pos epos : Pos} {elt : Expr} {rest : List Stmt} {D : Addr} {vs : List Value} {n : Int} (F : InCall s₀ env.locals m s) (hm : m x = some (.ref D)) (hl : LL s.heap D vs) (hD : s₀.heap.get? D = none) (hz : vs.length ≤ 1000)
    (he : EV prog w A env s elt (.dI n))
    (k : ∀ t s', InCall s₀ env.locals m s' → TrB [D] s.heap s'.heap → LL s'.heap D (vs ++ [.int n t]) → wpAny (model prog w) A (execs rest env) Q E s')
    (hline : (apos.endLine == pos.line) = true := by rfl) (htrees : backTo pos (starEach [elt] env) = [(false, eval elt env)] := by rfl)
    (hbase : attributeBase (.Name x px) "append" env (eval (.Name x px) env) = eval (.Name x px) env := by rfl)
    (hfew : ((backTo pos (starEach [elt] env)).all (fun x => !x.1) && (backToKw pos (keywordEach [] env)).all (fun x => x.1.isSome)
      && decide (([elt] : List Expr).length + ([] : List Keyword).length + (if ([] : List Keyword).isEmpty then 0 else 1) < 30)) = true := by rfl)
    (hi : interactive env = false := by rfl) (hsw : swapsWith (.Call (.Attribute (.Name x px) "append" apos) [elt] [] pos) none epos.line env = pure false := by rfl)
    (hk : env.scope.kind = .function := by rfl) (hx : env.kindOf x = some .local := by rfl) (hdb : (x == ("__debug__" : Str)) = false := by decide) :
    wpAny (model prog w) A (execs (.Expr (.Call (.Attribute (.Name x px) "append" apos) [elt] [] pos) epos :: rest) env) Q E s := by
  refine wpAny_execs_cons (wpAny_Expr (wpAny_Call_append hbase hfew hline htrees (wpAny_Name (wpAny_loadName_local hk hx F.ns hm ?_) hdb)) hi hsw)
  refine ⟨D, vs.toArray, rfl, plainLof hl, he.go (kRefl _) fun y s₁ k₁ d => ?_⟩
  obtain ⟨t, rfl⟩ := d
  have hl₁ : s₁.heap.PlainList D vs.toArray := hl.at (kGet k₁)
  obtain ⟨nn, ee⟩ := id hl₁
  refine wpAny_list_append_plain (hsz := by simp only [List.size_toArray, sizeLine_eq]; omega) hl₁ fun h' hl' hs' => ?_
  refine k t _ (inCallMut (inCallK F k₁) hs' hD ee plainL) ((trOf (kGet k₁)).trans (trbSame hs')) ?_
  have : vs.toArray.push (Value.int n t) = (vs ++ [Value.int n t]).toArray := by simp
  rw [LL, ← this]
  exact hl'

/-! a new list -/
def EVn (prog : Program) (w : World) (A : Around) (env : Env) (s₀ : Shared) (e : Expr) (ns : List Int) : Prop :=
  ∀ s, Keeps s₀ s → ∀ E : Value → Shared → Prop, wpAny (model prog w) A (eval e env) (fun v s' => Keeps s s' ∧ ∃ a vs, v = .ref a ∧ s.heap.get? a = none ∧ LL s'.heap a vs ∧ IntsAre vs ns) E s
theorem EVn.list {pos : Pos} {es : List Expr} {ns : List Int} (h : AV prog w A env s₀ pos es (ns.map D.dI)) (hz : ns.length ≤ 1000) : EVn prog w A env s₀ (.List es pos) ns :=
  fun _ k _ => wpAny_List (wpAny_mono (h _ k _) (fun vs s' q => by
    obtain ⟨q1, q2⟩ := q
    have hi := denL_ints q2
    exact ⟨by rw [hi.length, sizeLine_eq]; omega, kTrans q1 (kPush ..), _, vs, rfl, kNone q1 (Nat.le_refl _), ⟨_, Heap.get?_push_size _ rfl⟩, hi⟩) fun _ _ e => e)
theorem EVn.mulL {l r : Expr} {pos : Pos} {a : List Int} {x : Int} (hl : EV prog w A env s₀ l (.dL a)) (hr : EV prog w A env s₀ r (.dI x)) (hne : a ≠ []) (h0 : 0 ≤ x) (hz : a.length * x.toNat ≤ 1000) :
    EVn prog w A env s₀ (.BinOp l .Mult r pos) (List.replicate x.toNat a).flatten :=
  fun sb kb _ => wpAny_BinOp (hl.go kb fun va s₁ k₁ da => hr.go (kTrans kb k₁) fun vb s₂ k₂ db => by
    have da := da.k k₂
    have k12 : Keeps sb s₂ := kTrans k₁ k₂
    obtain ⟨l₁, v₁, rfl, ⟨n₁, p₁⟩, i₁⟩ := da
    obtain ⟨u, rfl⟩ := db
    have hlen := i₁.length
    have hpos : 0 < a.length := List.length_pos_iff.mpr hne
    have hx : x.toNat ≤ 1000 := Nat.le_trans (Nat.le_mul_of_pos_left _ hpos) hz
    have hsz : v₁.toArray.size * x.toNat ≤ 1000 := by rw [List.size_toArray, hlen]; exact hz
    have hsz2 : v₁.length * x.toNat ≤ 1000 := by rw [hlen]; exact hz
    refine wpAny_binaryOp_repeat_ref (T := "list") (U := "int") (by decide) ⟨_, p₁, rfl⟩ (fun s' => typeIs_int s' x u) noFill_list_mul F.fills_int_mul F.slot_int_rmul repeat_list F.slot_int_index.lookup
      (call_meets F.slot_int_rmul (typeIs_int s₂ x u) F.entry_int_rmul (F.args_int_rmul_2 _ _) (int___rmul___int_list x u l₁ v₁.toArray n₁)
        ⟨p₁, rfl, ⟨_, p₁, rfl⟩, call_meets F.slot_list_mul ⟨_, p₁, rfl⟩ F.entry_list_mul (F.args_list_mul_2 _ _)
          (AutoListH.list___mul___list_int_3 l₁ v₁.toArray n₁ x u (by simp [Builtin.List.listFitsIndex]; omega) (by omega) (by simp only [Builtin.List.listTooLong, sizeLine]; simp; omega)) ⟨p₁, ?_⟩⟩)
    refine ⟨kTrans k12 (kPush ..), _, (List.replicate x.toNat v₁).flatten, rfl, kNone k12 (Nat.le_refl _), ?_, intsRep i₁ _⟩
    have e1 : ¬ v₁.toArray.isEmpty = true := by
      intro h
      have : v₁ = [] := by simpa using h
      rw [this] at hlen
      simp at hlen
      omega
    have e2 : List.foldl (fun x1 x2 => x1 ++ x2) #[] (List.replicate x.toNat v₁.toArray) = ((List.replicate x.toNat v₁).flatten).toArray := by
      have := foldRep v₁.toArray x.toNat #[]
      simp only [List.nil_append] at this
      rw [← this]
    rw [if_neg e1, e2]
    exact ⟨_, Heap.get?_push_size _ rfl⟩)
theorem stAssignNew {x : Str} {px pos : Pos} {e : Expr} {rest : List Stmt} {ns : List Int} (F : InCall s₀ env.locals m s) (he : EVn prog w A env s e ns)
    (k : ∀ D vs s', InCall s₀ env.locals (upd m x (.ref D)) s' → TrB [] s.heap s'.heap → s₀.heap.get? D = none → LL s'.heap D vs → IntsAre vs ns → wpAny (model prog w) A (execs rest env) Q E s')
    (hs : swapsWith e (some (.Name x px)) pos.line env = pure false := by rfl) (hx : env.kindOf x = some .local := by rfl)
    (hp : (env.scope.kind == .class || (env.scope.kind == .module && env.locals != env.globals)) = false := by rfl) :
    wpAny (model prog w) A (execs (.Assign [.Name x px] e pos :: rest) env) Q E s :=
  wpAny_execs_cons (wpAny_Assign_Name (wpAny_mono (he s (kRefl _) E) (fun v s₁ q => by
    obtain ⟨k₁, D, vs, rfl, hf, hl, hi⟩ := q
    refine wpAny_storeName_local hx (F.ns.keeps (kGet k₁)) (fun h' hn hsb => ?_) hp
    have tr := trSame (F.ns.keeps (kGet k₁)) hsb
    refine k D vs _ (inCallSet (inCallK F k₁) hn hsb) ((trOf (kGet k₁)).trans tr) ?_ (hl.tr tr (by simp)) hi
    cases e : s₀.heap.get? D with
    | none => rfl
    | some o => rw [F.keep _ _ e] at hf; cases hf) fun _ _ e => e) hs)
theorem intsSet {x : Int} {u : Tok} {vs : List Value} {ns : List Int} (h : IntsAre vs ns) (j : Nat) : IntsAre (vs.set j (.int x u)) (ns.set j x) := ints_set h j
theorem stSet {x : Str} {px p pos : Pos} {i e : Expr} {rest : List Stmt} {D : Addr} {vs : List Value} {ns : List Int} {n j : Int} (F : InCall s₀ env.locals m s) (hm : m x = some (.ref D)) (hl : LL s.heap D vs) (hi : IntsAre vs ns) (hD : s₀.heap.get? D = none) (hz : ns.length ≤ 1000)
    (he : EV prog w A env s e (.dI n)) (hj : EV prog w A env s i (.dI j)) (h0 : 0 ≤ j) (h1 : j < ns.length)
    (k : ∀ us s', InCall s₀ env.locals m s' → TrB [D] s.heap s'.heap → LL s'.heap D us → IntsAre us (ns.set j.toNat n) → wpAny (model prog w) A (execs rest env) Q E s')
    (hs : swapsWith e (some (.Subscript (.Name x px) i p)) pos.line env = pure false := by rfl)
    (hk : env.scope.kind = .function := by rfl) (hx : env.kindOf x = some .local := by rfl) (hdb : (x == ("__debug__" : Str)) = false := by decide) :
    wpAny (model prog w) A (execs (.Assign [.Subscript (.Name x px) i p] e pos :: rest) env) Q E s := by
  refine wpAny_execs_cons (wpAny_Assign_Subscript (he.go (kRefl _) fun v s₁ k₁ dv => wpAny_Name (wpAny_loadName_local hk hx (F.ns.keeps (kGet k₁)) hm (hj.go k₁ fun jv s₂ k₂ dj => ?_)) hdb) hs)
  obtain ⟨t, rfl⟩ := dv
  obtain ⟨u, rfl⟩ := dj
  have k12 := kTrans k₁ k₂
  obtain ⟨nn, ee⟩ := hl.at (kGet k12)
  have hlen := hi.length
  refine ki_setAt ee h0 (by omega) (by simp; omega) ?_
  have q := PySem.IsL.update ee (·.setIfInBounds j.toNat (Value.int n t))
  refine k (vs.set j.toNat (.int n t)) _ (inCallMut (inCallK F k12) (Heap.SameBut.update ..) hD ee plainL) ((trOf (kGet k12)).trans (trbSame (Heap.SameBut.update ..))) ?_ (intsSet hi _)
  have e : vs.toArray.setIfInBounds j.toNat (Value.int n t) = (vs.set j.toNat (.int n t)).toArray := by simp
  rw [e] at q
  exact ⟨_, q⟩
end
end Mine
end

section
open PySem PySem.W PyProof.Rows
set_option Elab.async false
set_option maxRecDepth 100000
set_option linter.unusedVariables false
namespace Mine

def fnSt (i : Nat) : Stmt := PySem.Challenge.pw_rs0017_01.main.body.getD i (.Pass default)
def sBody : Stmt → List Stmt
  | .FunctionDef _ _ b _ _ _ _ _ _ _ => b
  | _ => []
def sArgs : Stmt → Arguments
  | .FunctionDef _ a _ _ _ _ _ _ _ _ => a
  | _ => ⟨[], [], none, [], [], none, []⟩
def sScope : Stmt → Scope
  | .FunctionDef _ _ _ _ _ _ s _ _ _ => s
  | _ => default
def fdI (name : Str) (i : Nat) (pm : Value) (c : Addr) : FuncData := fnOf name name (sArgs (fnSt i)) (sBody (fnSt i)) (sScope (fnSt i)) .none .none .none pm none (.ref c) .none
abbrev fnObj (name : Str) (i : Nat) (pm : Value) (c : Addr) : Obj := ⟨.type "function", none, .func (fdI name i pm c), #[]⟩

theorem lookTable (w : World) : ∃ pm, (KF w).lookup 21 = some (fnObj "_generate_overlap_table" 1 pm 20) := ⟨_, rfl⟩
theorem lookIsstring (w : World) : ∃ pm, (KF w).lookup 28 = some (fnObj "isstring" 2 pm 27) := ⟨_, rfl⟩
theorem lookByteswap (w : World) : ∃ pm, (KF w).lookup 35 = some (fnObj "_byteswap" 4 pm 34) := ⟨_, rfl⟩
theorem lookBorders (w : World) : ∃ pm, (KF w).lookup 40 = some (fnObj "_law_borders" 6 pm 39) := ⟨_, rfl⟩
theorem lookDrawn (w : World) : ∃ pm, (KF w).lookup 47 = some (fnObj "_law_drawn" 7 pm 46) := ⟨_, rfl⟩
theorem lookAlone (w : World) : ∃ pm, (KF w).lookup 52 = some (fnObj "_law_alone" 8 pm 51) := ⟨_, rfl⟩
theorem lookMade (w : World) : ∃ pm, (KF w).lookup 59 = some (fnObj "_law_made" 9 pm 58) := ⟨_, rfl⟩
theorem lookTold (w : World) : ∃ pm, (KF w).lookup 64 = some (fnObj "_law_told" 10 pm 63) := ⟨_, rfl⟩

theorem nsTable (w : World) : nsIn (KF w) mainGlobals "_generate_overlap_table" = some (some (.ref 21)) := by kernel_rfl
theorem nsIsstring (w : World) : nsIn (KF w) mainGlobals "isstring" = some (some (.ref 28)) := by kernel_rfl
theorem nsByteswap (w : World) : nsIn (KF w) mainGlobals "_byteswap" = some (some (.ref 35)) := by kernel_rfl
theorem nsBorders (w : World) : nsIn (KF w) mainGlobals "_law_borders" = some (some (.ref 40)) := by kernel_rfl
theorem nsDrawn (w : World) : nsIn (KF w) mainGlobals "_law_drawn" = some (some (.ref 47)) := by kernel_rfl
theorem nsAlone (w : World) : nsIn (KF w) mainGlobals "_law_alone" = some (some (.ref 52)) := by kernel_rfl
theorem nsMade (w : World) : nsIn (KF w) mainGlobals "_law_made" = some (some (.ref 59)) := by kernel_rfl
theorem nsTold (w : World) : nsIn (KF w) mainGlobals "_law_told" = some (some (.ref 64)) := by kernel_rfl
theorem noLen (w : World) : nsIn (KF w) mainGlobals "len" = some none := by kernel_rfl
theorem noRange (w : World) : nsIn (KF w) mainGlobals "range" = some none := by kernel_rfl
theorem noBytes (w : World) : nsIn (KF w) mainGlobals "bytes" = some none := by kernel_rfl
theorem noBytearray (w : World) : nsIn (KF w) mainGlobals "bytearray" = some none := by kernel_rfl
theorem noStr (w : World) : nsIn (KF w) mainGlobals "str" = some none := by kernel_rfl
theorem noIsinstance (w : World) : nsIn (KF w) mainGlobals "isinstance" = some none := by kernel_rfl
theorem noZip (w : World) : nsIn (KF w) mainGlobals "zip" = some none := by kernel_rfl
theorem noSum (w : World) : nsIn (KF w) mainGlobals "sum" = some none := by kernel_rfl
theorem noType (w : World) : nsIn (KF w) mainGlobals "type" = some none := by kernel_rfl
theorem noList (w : World) : nsIn (KF w) mainGlobals "list" = some none := by kernel_rfl
theorem noInt (w : World) : nsIn (KF w) mainGlobals "int" = some none := by kernel_rfl
theorem bootBytearray : bootBuiltins "bytearray" = some (.type "bytearray") := by decide +kernel

section
variable {prog : Program} {w : World} {A : Around} {s : Shared} {mg mb : Str → Option Value} {a c : Addr} {name : Str} {i : Nat} {pm : Value} {vs : List Value} {binds : List (Str × Value)} {Q E : Value → Shared → Prop}
theorem plainCall (hA : A.depth < recursionLimit) (W : Wd w mg mb s.heap) (hl : (KF w).lookup a = some (fnObj name i pm c)) (hc : codeIn (KF w) (.ref c) name = true)
    (hb : bindArgs (fdI name i pm c) ⟨vs, []⟩ = pure binds) (hloc : ∀ x ∈ binds, (sScope (fnSt i)).names.lookup x.1 = some .local) (hcell : ∀ x ∈ (sScope (fnSt i)).names, x.2 ≠ .cell)
    (hco : (sScope (fnSt i)).isCoroutine = false) (hgen : (sScope (fnSt i)).isGenerator = false) (hk : (sScope (fnSt i)).kind = .function)
    (h : ∀ s₁ L, L = s.heap.objs.size → InCall s L (fun x => binds.reverse.lookup x) s₁ → ∀ E' : Value → Shared → Prop,
      wpAny (model prog w) (A.deeper (callEnv (fdI name i pm c) L a)) (execs (sBody (fnSt i)) (callEnv (fdI name i pm c) L a)) (fun f s' => Q (match f with | .ret v => v | _ => .none) s') E' s₁) :
    wpAny (model prog w) A (call (.ref a) vs) Q E s :=
  wpAny_call (codeAny_call_def (fd := fdI name i pm c) hA (W.K _ _ hl) rfl W.lim (codeRec_of W.K hc) rfl (BindsTo.of_eq hb) hcell hloc (fun h₀ hn hk₀ => h _ _ rfl ⟨⟨h₀, _, rfl⟩, hn, hk₀, Nat.le_refl _⟩ _) hco hgen hk)
theorem cellCall (hA : A.depth < recursionLimit) (W : Wd w mg mb s.heap) (hl : (KF w).lookup a = some (fnObj name i pm c)) (hc : codeIn (KF w) (.ref c) name = true)
    (hb : bindArgs (fdI name i pm c) ⟨vs, []⟩ = pure binds)
    (hkind : ∀ L, ∀ x ∈ binds, (sScope (fnSt i)).names.lookup x.1 = some .local ∨ ((sScope (fnSt i)).names.lookup x.1 = some .cell ∧ ((cellsFrom (L + 1) (sScope (fnSt i)).names []).lookup x.1).isSome = true))
    (hco : (sScope (fnSt i)).isCoroutine = false) (hgen : (sScope (fnSt i)).isGenerator = false) (hk : (sScope (fnSt i)).kind = .function)
    (h : ∀ s₁ L, L = s.heap.objs.size → InCallC s (callEnvC (fdI name i pm c) L a).locals (bindL (callEnvC (fdI name i pm c) L a).kindOf binds fun _ => none) (callEnvC (fdI name i pm c) L a).cells
        (bindC (callEnvC (fdI name i pm c) L a).kindOf binds fun _ => none) s₁ → ∀ E' : Value → Shared → Prop,
      wpAny (model prog w) (A.deeper (callEnvC (fdI name i pm c) L a)) (execs (sBody (fnSt i)) (callEnvC (fdI name i pm c) L a)) (fun f s' => Q (match f with | .ret v => v | _ => .none) s') E' s₁) :
    wpAny (model prog w) A (call (.ref a) vs) Q E s :=
  wpAny_call (codeAny_call_cells (fd := fdI name i pm c) hA (W.K _ _ hl) rfl W.lim (codeRec_of W.K hc) rfl hb rfl (hkind _) (fun s₁ x => h _ _ rfl x _) hco hgen hk)
end
end Mine
end

section
open PySem PySem.W PyProof.Rows
set_option Elab.async false
set_option maxRecDepth 100000
set_option linter.unusedVariables false
namespace Mine

def AOk (n : Nat) (A : Around) : Prop := A.handled = none ∧ A.depth + n < recursionLimit ∧ A.units + 80 + 4 * n < cLine
theorem AOk.deeper {n : Nat} {A : Around} (h : AOk (n + 1) A) (env : Env) : AOk n (A.deeper env) := by
  obtain ⟨h1, h2, h3⟩ := h
  refine ⟨h1, ?_, ?_⟩
  · show A.depth + 1 + n < _; omega
  · show A.units + 3 + 80 + 4 * n < _; omega
theorem AOk.less {n k : Nat} {A : Around} (h : AOk n A) (hk : k ≤ n) : AOk k A := ⟨h.1, by have := h.2.1; omega, by have := h.2.2; omega⟩
theorem AOk.room {n : Nat} {A : Around} (h : AOk n A) : A.depth < recursionLimit := by have := h.2.1; omega
theorem AOk.units {n : Nat} {A : Around} (h : AOk n A) : A.units + 64 < cLine := by have := h.2.2; omega

/-- what _law_borders yields -/
def brd (row : List Int) : List Int := (rangeNums (row.length - 1) 0 (-1)).filter fun n => decide (row.take n.toNat = row.drop ((row.length : Int) - n).toNat)

theorem smallRange {a b c : Int} (ha : -100000 ≤ a) (ha' : a ≤ 100000) (hb : -100000 ≤ b) (hb' : b ≤ 100000) (hc : c = 1 ∨ c = -1) : Builtin.Range.small a b c = true := by
  unfold Builtin.Range.small Builtin.Range.rangeSize
  rcases hc with rfl | rfl
  · simp only [Builtin.Range.rangeFitsLong, Bool.and_eq_true, Bool.or_eq_true, decide_eq_true_eq, beq_iff_eq, show (1 : Int) > 0 by decide, if_true, Int.ediv_one]
    split <;> omega
  · simp only [Builtin.Range.rangeFitsLong, Bool.and_eq_true, Bool.or_eq_true, decide_eq_true_eq, beq_iff_eq, show ¬ (-1 : Int) > 0 by decide, if_false, Int.neg_neg, Int.ediv_one]
    split <;> omega
theorem rangeSizeDown (a : Int) : Builtin.Range.rangeSize a 0 (-1) = if a > 0 then a else 0 := by
  unfold Builtin.Range.rangeSize
  simp only [show ¬ (-1 : Int) > 0 by decide, if_false, Int.neg_neg, Int.ediv_one]
  split <;> omega
theorem rangeNums_down_mem {a n : Int} (h : n ∈ rangeNums a 0 (-1)) : 0 < n ∧ n ≤ a := by
  unfold rangeNums at h
  obtain ⟨i, hi, rfl⟩ := List.mem_map.mp h
  rw [List.mem_range, rangeSizeDown] at hi
  split at hi <;> omega

section
variable {prog : Program} {w : World} {A : Around} {s₀ : Shared} {mg mb : Str → Option Value}
theorem borders_ok (hA : AOk 2 A) (W : Wd w mg mb s₀.heap) {row : List Int} (hz : row.length ≤ 500) : CallOk prog w A s₀ (.ref 40) [.dL row] (.dL (brd row)) := fun vs s k d E => by
  obtain ⟨pm, hl⟩ := lookBorders w
  have W1 := W.at (kGet k)
  cases d with
  | cons d r =>
    cases r
    rename_i v
    refine cellCall hA.room W1 hl (by kernel_rfl) (binds := [("row", v)]) (by rfl) (fun L x hx => .inr ?_) (by rfl) (by rfl) (by rfl) ?_
    · obtain rfl := List.mem_singleton.mp hx
      exact ⟨by rfl, by rfl⟩
    intro s₁ L hL F E'
    have hcell : s₁.heap.IsCell (L + 1) (some v) := F.cell "row" (L + 1) rfl
    have k1 : Keeps s s₁ := InCall.keeps' F.toInCall
    have hA' := (hA.deeper (callEnvC (fdI "_law_borders" 6 pm 39) L 40))
    have W2 := W1.at (kGet k1)
    refine stReturn (rest := []) (d := .dL (brd row)) ?_ fun v' s' k' dv => ⟨kTrans k1 k', dv⟩
    have e : brd row = ((rangeNums (row.length - 1) 0 (-1)).filter fun n => decide (row.take n.toNat = row.drop ((row.length : Int) - n).toNat)).map fun n => n := by rw [List.map_id']; rfl
    rw [e]
    exact EV.compI (cl := [("row", L + 1)]) (src := rangeNums (row.length - 1) 0 (-1)) (pz := fun n => decide (row.take n.toNat = row.drop ((row.length : Int) - n).toNat)) (f := fun n => n)
      (SVr.toI (SVr.range hA'.1 (EV.callT (EV.boot W2 (noRange w) boot_range)
        (AV.cons (EV.sub (EV.callB (EV.boot W2 (noLen w) boot_len) (AV.cons (EV.cell (c := L + 1) rfl hcell (d.k k1)) AV.nil) (callLenL (by omega))) EV.int) (AV.cons EV.int (AV.cons (EV.neg EV.int) AV.nil)))
        (callRange3 (by decide) (by decide))) (smallRange (by omega) (by omega) (by omega) (by omega) (.inr rfl)) (by decide)))
      (by rw [rangeNums_length, rangeSizeDown]; split <;> omega)
      (fun C s₃ m₃ n t hn hk hns hm => by
        have W3 := W2.at hk
        have hc3 := hcell.keeps hk
        have d3 := (d.k k1).at hk
        have hb := rangeNums_down_mem hn
        exact TEs.one (TE.cmp (EV.upto (EV.cell (c := L + 1) rfl hc3 d3) (EV.local hns hm ⟨t, rfl⟩) (by omega) (by omega))
          (EV.from (EV.cell (c := L + 1) rfl hc3 d3) (EV.sub (EV.callB (EV.boot W3 (noLen w) boot_len) (AV.cons (EV.cell (c := L + 1) rfl hc3 d3) AV.nil) (callLenL (by omega))) (EV.local hns hm ⟨t, rfl⟩)) (by omega) (by omega))
          (cmpEqL hA'.units)))
      (fun C s₃ m₃ n t hn hp hk hns hm => EV.local hns hm ⟨t, rfl⟩)
end
end Mine
end

section
open PySem PySem.W PyProof.Rows
set_option Elab.async false
set_option maxRecDepth 100000
set_option linter.unusedVariables false
namespace Mine

def lastI (l : List Int) : Int := l.getLastD 0
def toldStep (ns sizes : List Int) : List Int := if 0 < lastI sizes then sizes ++ [ns.getD (lastI sizes - 1).toNat 0] else sizes
def toldN (ns : List Int) : Nat → List Int
  | 0 => [lastI ns]
  | k + 1 => toldStep ns (toldN ns k)
def told (ns : List Int) : List Int := (toldN ns ns.length).filter fun n => n != 0

theorem lastI_get {l : List Int} (h : l ≠ []) : l[(-1 + (l.length : Int)).toNat]? = some (lastI l) := by
  have hp : 0 < l.length := List.length_pos_iff.mpr h
  have e : (-1 + (l.length : Int)).toNat = l.length - 1 := by omega
  rw [e, ← List.getLast?_eq_getElem?, lastI, List.getLastD_eq_getLast?]
  cases hl : l.getLast? with
  | none => rw [List.getLast?_eq_none_iff] at hl; exact absurd hl h
  | some x => rfl
theorem lastI_mem {l : List Int} (h : l ≠ []) : lastI l ∈ l := List.mem_of_getElem? (lastI_get h)
theorem toldStep_ne {ns l : List Int} (h : l ≠ []) : toldStep ns l ≠ [] := by
  unfold toldStep
  split
  · simp
  · exact h
theorem toldN_ne (ns : List Int) : ∀ k, toldN ns k ≠ []
  | 0 => by simp [toldN]
  | k + 1 => toldStep_ne (toldN_ne ns k)
theorem toldN_len (ns : List Int) : ∀ k, (toldN ns k).length ≤ k + 1
  | 0 => by simp [toldN]
  | k + 1 => by
    have := toldN_len ns k
    unfold toldN toldStep
    split <;> simp <;> omega
theorem toldN_mem {ns : List Int} (h : ns ≠ []) (hb : ∀ x ∈ ns, x ≤ ns.length) : ∀ k, ∀ x ∈ toldN ns k, x ∈ ns
  | 0 => by intro x hx; simp only [toldN, List.mem_singleton] at hx; rw [hx]; exact lastI_mem h
  | k + 1 => by
    intro x hx
    have ih := toldN_mem h hb k
    unfold toldN toldStep at hx
    split at hx
    · rename_i hp
      rcases List.mem_append.mp hx with hx | hx
      · exact ih x hx
      · rw [List.mem_singleton.mp hx]
        have h1 := hb _ (ih _ (lastI_mem (toldN_ne ns k)))
        have hlt : (lastI (toldN ns k) - 1).toNat < ns.length := by omega
        rw [List.getD_eq_getElem?_getD, List.getElem?_eq_getElem hlt]
        exact List.getElem_mem hlt
    · exact ih x hx

section
variable {prog : Program} {w : World} {A : Around} {s₀ : Shared} {mg mb : Str → Option Value}
theorem told_ok (hA : AOk 1 A) (W : Wd w mg mb s₀.heap) {ns : List Int} (hne : ns ≠ []) (hb : ∀ x ∈ ns, x ≤ ns.length) (hz : ns.length ≤ 500) : CallOk prog w A s₀ (.ref 64) [.dL ns] (.dL (told ns)) := fun vs s k d E => by
  obtain ⟨pm, hl⟩ := lookTold w
  have W1 := W.at (kGet k)
  have hpos : 0 < ns.length := List.length_pos_iff.mpr hne
  cases d with
  | cons d r =>
    cases r
    rename_i v
    refine plainCall hA.room W1 hl (by kernel_rfl) (binds := [("table", v)]) (by rfl) (fun x hx => ?_) (by decide) (by rfl) (by rfl) (by rfl) ?_
    · obtain rfl := List.mem_singleton.mp hx
      rfl
    intro s₁ L hL F E'
    have hA' := (hA.deeper (callEnv (fdI "_law_told" 10 pm 63) L 64))
    have k1 : Keeps s s₁ := InCall.keeps' F
    refine stAssignNew (ns := [lastI ns]) F (EVn.list (ns := [lastI ns]) (AV.cons (EV.itemNeg (EV.local F.ns rfl (d.k k1)) (EV.neg EV.int) (by decide) (by omega) (lastI_get hne) (by omega)) AV.nil) (by simp)) ?_
    intro D us s₂ F2 tr2 hD hl2 hi2
    refine stForR (S := [D]) (src := rangeNums 0 ns.length 1) F2 (SVr.range hA'.1 (EV.callT (EV.boot (W1.at F2.keep) (noRange w) boot_range) (AV.cons (EV.callB (EV.boot (W1.at F2.keep) (noLen w) boot_len) (AV.cons (EV.local F2.ns rfl (d.at F2.keep)) AV.nil) (callLenL (by omega))) AV.nil) callRange1) (smallRange (by omega) (by omega) (by omega) (by omega) (.inl rfl)) (by decide))
      (fun b hb => by rw [List.mem_singleton.mp hb]; obtain ⟨n, e⟩ := hl2; exact ⟨_, e⟩)
      (fun i m h => m "table" = some v ∧ m "sizes" = some (.ref D) ∧ ∃ us, LL h D us ∧ IntsAre us (toldN ns i)) ?_ ⟨rfl, rfl, us, hl2, hi2⟩ ?_ ?_
    · rintro i m h h' t ⟨a, b, us, l, ii⟩
      exact ⟨a, b, us, l.trc t (by simp), ii⟩
    · rintro i n t m₁ s₃ hn ⟨ht, hs, us, l, ii⟩ F3 E''
      have hlen := ii.length
      have hne' := toldN_ne ns i
      have hle := toldN_len ns i
      have hi : i < ns.length := by
        have := (List.getElem?_eq_some_iff.mp hn).1
        rw [rangeNums_length, rangeSize_one] at this
        split at this <;> omega
      have hll : 0 < (toldN ns i).length := List.length_pos_iff.mpr hne'
      have hmem := toldN_mem hne hb i _ (lastI_mem hne')
      refine stIf (c := decide (0 < lastI (toldN ns i))) (rest := []) (TE.cmp (EV.itemNeg (EV.local F3.ns (by exact hs) ⟨D, us, rfl, l, ii⟩) (EV.neg EV.int) (by decide) (by omega) (lastI_get hne') (by omega)) EV.int cmpGtI) ?_ ?_
      · intro hc s₄ k₄
        have hc' : 0 < lastI (toldN ns i) := of_decide_eq_true hc
        have hbd := hb _ hmem
        have F4 := inCallK F3 k₄
        have l4 := l.at (kGet k₄)
        have hget : ns[(lastI (toldN ns i) - 1).toNat]? = some (ns.getD (lastI (toldN ns i) - 1).toNat 0) := by
          have hlt : (lastI (toldN ns i) - 1).toNat < ns.length := by omega
          rw [List.getD_eq_getElem?_getD, List.getElem?_eq_getElem hlt]
          rfl
        refine stAppend (n := ns.getD (lastI (toldN ns i) - 1).toNat 0) (rest := []) F4 (by exact hs) l4 hD (by omega)
          (EV.itemL (EV.local F4.ns (by exact ht) (d.at F4.keep)) (EV.sub (EV.itemNeg (EV.local F4.ns (by exact hs) ⟨D, us, rfl, l4, ii⟩) (EV.neg EV.int) (by decide) (by omega) (lastI_get hne') (by omega)) EV.int) (by omega) hget (by omega)) ?_
        intro tk s₅ F5 tr5 l5
        refine wpAny_execs_nil (wpAny_execs_nil ⟨rfl, ⟨_, F5, ht, hs, _, l5, ?_⟩, (trOf (kGet k₄)).trans tr5⟩)
        rw [toldN, toldStep, if_pos hc']
        exact ii.append (.cons _ tk .nil)
      · intro hc s₄ k₄
        have hc' : ¬ 0 < lastI (toldN ns i) := of_decide_eq_false hc
        refine wpAny_execs_nil (wpAny_execs_nil ⟨rfl, ⟨_, inCallK F3 k₄, ht, hs, us, l.at (kGet k₄), ?_⟩, trOf (kGet k₄)⟩)
        rw [toldN, toldStep, if_neg hc']
        exact ii
    · rintro m₁ s₃ F3 ⟨ht, hs, us, l, ii⟩
      have hlen : (rangeNums 0 ns.length 1).length = ns.length := by rw [rangeNums_length, rangeSize_one]; split <;> omega
      rw [hlen] at ii
      have hle := toldN_len ns ns.length
      refine stReturn (rest := []) (d := .dL (told ns)) ?_ fun v' s' k' dv => ⟨kTrans (InCall.keeps' F3) k', dv⟩
      have e : told ns = ((toldN ns ns.length).filter fun n => n != 0).map fun n => n := by rw [List.map_id']; rfl
      rw [e]
      exact EV.compI (cl := []) (src := toldN ns ns.length) (pz := fun n => n != 0) (f := fun n => n) (SVi.list hA'.1 (EV.local F3.ns hs ⟨D, us, rfl, l, ii⟩)) (by omega)
        (fun C s₃ m₃ n t hn hk hns hm => TEs.one (TE.cmp (EV.locI hns hm) EV.int cmpNeI))
        (fun C s₃ m₃ n t hn hp hk hns hm => EV.locI hns hm)
end
end Mine
end

section
open PySem PySem.W PyProof.Rows
set_option Elab.async false
set_option maxRecDepth 100000
set_option linter.unusedVariables false
namespace Mine

/-! borders of a word f 0, f 1, .. -/
def Brd (f : Nat → Int) (n b : Nat) : Prop := b < n ∧ ∀ i, i < b → f i = f (n - b + i)
theorem brd_zero (f : Nat → Int) {n : Nat} (h : 0 < n) : Brd f n 0 := ⟨h, fun i hi => absurd hi (Nat.not_lt_zero _)⟩
open Classical in
/-- the greatest border below k -/
noncomputable def lbTo (f : Nat → Int) (n : Nat) : Nat → Nat
  | 0 => 0
  | k + 1 => if Brd f n k then k else lbTo f n k
noncomputable def lb (f : Nat → Int) (n : Nat) : Nat := lbTo f n n
theorem lbTo_brd (f : Nat → Int) {n : Nat} (h : 0 < n) : ∀ k, Brd f n (lbTo f n k)
  | 0 => brd_zero f h
  | k + 1 => by
    unfold lbTo
    split
    · assumption
    · exact lbTo_brd f h k
theorem lbTo_max (f : Nat → Int) (n : Nat) : ∀ k b, b < k → Brd f n b → b ≤ lbTo f n k
  | 0, b, h, _ => absurd h (Nat.not_lt_zero _)
  | k + 1, b, h, hb => by
    unfold lbTo
    split
    · omega
    · rename_i hn
      rcases Nat.lt_succ_iff_lt_or_eq.mp h with h | h
      · exact lbTo_max f n k b h hb
      · subst h; exact absurd hb hn
theorem lb_brd (f : Nat → Int) {n : Nat} (h : 0 < n) : Brd f n (lb f n) := lbTo_brd f h n
theorem lb_max {f : Nat → Int} {n b : Nat} (h : Brd f n b) : b ≤ lb f n := lbTo_max f n n b h.1 h
theorem lb_lt (f : Nat → Int) {n : Nat} (h : 0 < n) : lb f n < n := (lb_brd f h).1
theorem lb_one (f : Nat → Int) : lb f 1 = 0 := by have := lb_lt f (n := 1) (by omega); omega
theorem lb_eq {f : Nat → Int} {n b : Nat} (h : Brd f n b) (hm : ∀ c, Brd f n c → c ≤ b) : lb f n = b :=
  Nat.le_antisymm (hm _ (lb_brd f (Nat.lt_of_le_of_lt (Nat.zero_le _) h.1))) (lb_max h)
theorem brd_trans {f : Nat → Int} {n a b : Nat} (h : Brd f n a) (k : Brd f a b) : Brd f n b := by
  refine ⟨by have := h.1; have := k.1; omega, fun i hi => ?_⟩
  have h1 := k.2 i hi
  have h2 := h.2 (a - b + i) (by have := k.1; omega)
  rw [h1, h2]
  congr 1
  have := h.1; have := k.1
  omega
theorem brd_down {f : Nat → Int} {n a b : Nat} (h : Brd f n a) (k : Brd f n b) (hlt : b < a) : Brd f a b := by
  refine ⟨hlt, fun i hi => ?_⟩
  have h1 := k.2 i hi
  have h2 := h.2 (a - b + i) (by omega)
  rw [h1, h2]
  congr 1
  have := h.1
  omega
theorem brd_pred {f : Nat → Int} {n b : Nat} (h : Brd f (n + 1) (b + 1)) : Brd f n b ∧ f b = f n := by
  refine ⟨⟨by have := h.1; omega, fun i hi => ?_⟩, ?_⟩
  · rw [h.2 i (by omega)]; congr 1; omega
  · rw [h.2 b (by omega)]; congr 1; have := h.1; omega
theorem brd_succ {f : Nat → Int} {n b : Nat} (h : Brd f n b) (e : f b = f n) : Brd f (n + 1) (b + 1) := by
  refine ⟨by have := h.1; omega, fun i hi => ?_⟩
  rcases Nat.lt_succ_iff_lt_or_eq.mp hi with hi | hi
  · rw [h.2 i hi]; congr 1; omega
  · subst hi; rw [e]; congr 1; have := h.1; omega

/-- the table after the turns up to i -/
noncomputable def tabI (f : Nat → Int) (n i : Nat) : List Int := (List.range n).map fun j => if j ≤ i then (lb f (j + 1) : Int) else 0
noncomputable def tab (f : Nat → Int) (n : Nat) : List Int := (List.range n).map fun j => (lb f (j + 1) : Int)
theorem tabI_len {f : Nat → Int} {n i : Nat} : (tabI f n i).length = n := by simp [tabI]
theorem tabI_get {f : Nat → Int} {n i j : Nat} (hj : j < n) (hi : j ≤ i) : (tabI f n i)[j]? = some (lb f (j + 1) : Int) := by
  simp [tabI, hj, hi]
theorem tabI_zero (f : Nat → Int) (n : Nat) : tabI f n 0 = List.replicate n 0 := by
  apply List.ext_getElem?
  intro j
  by_cases hj : j < n
  · simp only [tabI, List.getElem?_map, List.getElem?_range hj, List.getElem?_replicate, hj, if_true, Option.map_some]
    split
    · rename_i h
      have : j = 0 := by omega
      subst this
      rw [lb_one]; rfl
    · rfl
  · simp [tabI, hj]
theorem tabI_set {f : Nat → Int} {n i : Nat} (hi : i + 1 < n) : (tabI f n i).set (i + 1) (lb f (i + 2) : Int) = tabI f n (i + 1) := by
  apply List.ext_getElem?
  intro j
  rw [List.getElem?_set]
  by_cases h : i + 1 = j
  · subst h
    simp [tabI, hi]
  · rw [if_neg h]
    by_cases hj : j < n
    · simp only [tabI, List.getElem?_map, List.getElem?_range hj, Option.map_some]
      by_cases h1 : j ≤ i
      · rw [if_pos h1, if_pos (by omega)]
      · rw [if_neg h1, if_neg (by omega)]
    · simp [tabI, hj]
theorem tabI_all {f : Nat → Int} {n : Nat} : tabI f n (n - 1) = tab f n := by
  unfold tabI tab
  apply List.map_congr_left
  intro j hj
  rw [List.mem_range] at hj
  rw [if_pos (by omega)]

/-- a word as a value: a list of ints, a text, bytes -/
structure Pfx (prog : Program) (w : World) (f : Nat → Int) (n : Nat) (d : D) : Prop where
  len : ∀ A s₀, CallOk prog w A s₀ (.builtin "len") [d] (.dI n)
  item : ∃ it : Nat → D, (∀ A env s₀ v i pos k, EV prog w A env s₀ v d → EV prog w A env s₀ i (.dI k) → 0 ≤ k → k < n → (∀ o i', ∃ ops, subscripted i false o i' = operate ops (getItem o i')) → EV prog w A env s₀ (.Subscript v i pos) (it k.toNat)) ∧
    ∀ A i j, i < n → j < n → CmpOk prog w A .NotEq (it i) (it j) (f i != f j)

section
variable {prog : Program} {w : World} {A : Around} {s₀ : Shared} {mg mb : Str → Option Value}
theorem pfxL {ns : List Int} (hz : ns.length ≤ 500) : Pfx prog w (fun i => ns.getD i 0) ns.length (.dL ns) := by
  refine ⟨fun _ _ => callLenL (by omega), fun k => .dI (ns.getD k 0), fun A env s₀ v i pos k hv hi h0 h1 hs => ?_, fun _ _ _ _ _ => cmpNeI⟩
  refine EV.itemL hv hi h0 ?_ (by omega) hs
  have : k.toNat < ns.length := by omega
  rw [List.getD_eq_getElem?_getD, List.getElem?_eq_getElem this]
  rfl
theorem pfxY {ks : List Int} (hz : ks.length ≤ 500) : Pfx prog w (fun i => ks.getD i 0) ks.length (.dY ks) := by
  refine ⟨fun _ _ => callLenY (by omega), fun k => .dI (ks.getD k 0), fun A env s₀ v i pos k hv hi h0 h1 hs => ?_, fun _ _ _ _ _ => cmpNeI⟩
  refine EV.itemY hv hi h0 ?_ (by omega) hs
  have : k.toNat < ks.length := by omega
  rw [List.getD_eq_getElem?_getD, List.getElem?_eq_getElem this]
  rfl
theorem pfxS {x : Str} (hz : x.length ≤ 500) : Pfx prog w (fun i => ((x.cps.toList.getD i 0 : Nat) : Int)) x.length (.dS x) := by
  have hl : x.cps.toList.length = x.length := by simp [Str.length]
  refine ⟨fun _ _ => callLenS (by omega), fun k => .dS ⟨#[x.cps.toList.getD k 0]⟩, fun A env s₀ v i pos k hv hi h0 h1 hs => ?_, fun A i j hi hj => ?_⟩
  · refine EV.itemS hv hi h0 ?_ (by omega) hs
    have : k.toNat < x.cps.toList.length := by omega
    rw [List.getD_eq_getElem?_getD, List.getElem?_eq_getElem this]
    rfl
  · have e : ((⟨#[x.cps.toList.getD i 0]⟩ : Str) != ⟨#[x.cps.toList.getD j 0]⟩) = (((x.cps.toList.getD i 0 : Nat) : Int) != ((x.cps.toList.getD j 0 : Nat) : Int)) := by
      generalize x.cps.toList.getD i 0 = a
      generalize x.cps.toList.getD j 0 = b
      rw [Bool.eq_iff_iff]
      simp only [bne_iff_ne, ne_eq, Str.mk.injEq]
      constructor
      · intro h h'; apply h; rw [Int.ofNat.inj h']
      · intro h h'; apply h; have := congrArg Array.toList h'; simp at this; rw [this]
    rw [← e]
    exact cmpNeS

theorem table_ok (hA : AOk 1 A) (W : Wd w mg mb s₀.heap) {f : Nat → Int} {n : Nat} {dp : D} (P : Pfx prog w f n dp) (hz : n ≤ 500) (hn : 0 < n) : CallOk prog w A s₀ (.ref 21) [dp] (.dL (tab f n)) := fun vs s k d E => by
  obtain ⟨pm, hl⟩ := lookTable w
  have W1 := W.at (kGet k)
  obtain ⟨it, hitem, hcmp⟩ := P.item
  cases d with
  | cons d r =>
    cases r
    rename_i v
    refine plainCall hA.room W1 hl (by kernel_rfl) (binds := [("prefix", v)]) (by rfl) (fun x hx => ?_) (by decide) (by rfl) (by rfl) (by rfl) ?_
    · obtain rfl := List.mem_singleton.mp hx
      rfl
    intro s₁ L hL F E'
    have hA' := (hA.deeper (callEnv (fdI "_generate_overlap_table" 1 pm 20) L 21))
    have k1 : Keeps s s₁ := InCall.keeps' F
    have W2 := W1.at (kGet k1)
    refine stAssignNew F (EVn.mulL (a := [0]) (x := n) (EV.list (ns := [0]) (AV.cons EV.int AV.nil) (by simp)) (EV.callB (EV.boot W2 (noLen w) boot_len) (AV.cons (EV.local F.ns rfl (d.k k1)) AV.nil) (P.len _ _)) (by simp) (by omega) (by simp; omega)) ?_
    intro D us s₂ F2 tr2 hD hl2 hi2
    have e0 : (List.replicate (n : Int).toNat [(0 : Int)]).flatten = tabI f n 0 := by
      rw [tabI_zero]
      simp
    rw [e0] at hi2
    have W3 := W1.at F2.keep
    refine stForR (S := [D]) (src := rangeNums 1 n 1) F2 (SVr.range hA'.1 (EV.callT (EV.boot W3 (noRange w) boot_range) (AV.cons EV.int (AV.cons (EV.callB (EV.boot W3 (noLen w) boot_len) (AV.cons (EV.local F2.ns rfl (d.at F2.keep)) AV.nil) (P.len _ _)) AV.nil)) callRange2) (smallRange (by omega) (by omega) (by omega) (by omega) (.inl rfl)) (by decide))
      (fun b hb => by rw [List.mem_singleton.mp hb]; obtain ⟨n, e⟩ := hl2; exact ⟨_, e⟩)
      (fun i m h => m "prefix" = some v ∧ m "table" = some (.ref D) ∧ ∃ us, LL h D us ∧ IntsAre us (tabI f n i)) ?_ ⟨rfl, rfl, us, hl2, hi2⟩ ?_ ?_
    · rintro i m h h' t ⟨a, b, us, l, ii⟩
      exact ⟨a, b, us, l.trc t (by simp), ii⟩
    · rintro i p t m₁ s₃ hp ⟨hpx, htb, us, l, ii⟩ F3 E''
      have hi : i + 1 < n ∧ p = i + 1 := by
        have h1 := (List.getElem?_eq_some_iff.mp hp).1
        rw [rangeNums_length, rangeSize_one] at h1
        have h2 : (rangeNums 1 n 1).getD i 0 = p := by rw [List.getD_eq_getElem?_getD, hp]; rfl
        have h3 : i < (Builtin.Range.rangeSize 1 n 1).toNat := by rw [rangeSize_one]; exact h1
        rw [rangeNums_get h3] at h2
        split at h1 <;> omega
      obtain ⟨hin, rfl⟩ := hi
      have hlen := ii.length
      rw [tabI_len] at hlen
      refine stAssign (d := .dI (lb f (i + 1))) F3 (EV.itemL (EV.local F3.ns (by exact htb) ⟨D, us, rfl, l, ii⟩) (EV.sub (EV.locI F3.ns rfl) EV.int) (by omega) (by rw [show ((i : Int) + 1 - 1).toNat = i from by omega]; exact tabI_get (by omega) (Nat.le_refl _)) (by rw [tabI_len]; omega)) ?_
      intro vi s₄ F4 tr4 di
      obtain ⟨ti, rfl⟩ := di
      have l4 := l.tr tr4 (by simp)
      refine wpAny_execs_cons (wpAny_While ?_)
      refine codeAny_whileLoop (fun k s' => ∃ (idx : Nat) (tx : Tok) (m' : Str → Option Value), k = idx ∧ InCall s L m' s' ∧ m' "prefix" = some v ∧ m' "table" = some (.ref D) ∧ m' "i" = some (.int ((i : Int) + 1) t) ∧ m' "idx" = some (.int idx tx) ∧
        LL s'.heap D us ∧ Brd f (i + 1) idx ∧ (∀ b, Brd f (i + 2) (b + 1) → b ≤ idx) ∧ TrB [D] s₃.heap s'.heap) ?_ (lb f (i + 1)) ⟨lb f (i + 1), ti, _, rfl, F4, hpx, htb, rfl, rfl, l4, lb_brd f (by omega), fun b hb => lb_max (brd_pred hb).1, tr4.mono (by simp)⟩
      rintro idx s₅ ⟨_, tx, m₅, rfl, F5, hp5, ht5, hi5, hx5, l5, hB, hmax, tr5⟩
      have hix := hB.1
      have ei := hitem (A.deeper (callEnv (fdI "_generate_overlap_table" 1 pm 20) L 21)) (callEnv (fdI "_generate_overlap_table" 1 pm 20) L 21) s₅
      refine BV.go (c := (f ((i : Int) + 1).toNat != f (idx : Int).toNat)) (TE.cmp (hitem _ _ _ _ _ _ ((i : Int) + 1) (EV.local F5.ns hp5 (d.at F5.keep)) (EV.locI F5.ns hi5) (by omega) (by omega) (fun o i' => ⟨_, rfl⟩))
        (hitem _ _ _ _ _ _ (idx : Int) (EV.local F5.ns hp5 (d.at F5.keep)) (EV.locI F5.ns hx5) (by omega) (by omega) (fun o i' => ⟨_, rfl⟩)) (hcmp _ _ _ (by omega) (by omega))) (kRefl _) fun s₆ k₆ => ?_
      rw [show ((i : Int) + 1).toNat = i + 1 from by omega, show (idx : Int).toNat = idx from by omega]
      have F6 := inCallK F5 k₆
      have l6 := l5.at (kGet k₆)
      have tr6 := tr5.trans (trOf (S := [D]) (kGet k₆))
      cases hc : (f (i + 1) != f idx) with
      | true =>
        have hne : f (i + 1) ≠ f idx := by simpa using hc
        simp only [if_true]
        refine stIf (c := ((idx : Int) == 0)) (TE.cmp (EV.locI F6.ns hx5) EV.int cmpEqI) ?_ ?_
        · intro h0 s₇ k₇
          have h0' : idx = 0 := by simpa using h0
          subst h0'
          refine stSet (n := 0) (j := (i : Int) + 1) (inCallK F6 k₇) ht5 (l6.at (kGet k₇)) ii hD (by rw [tabI_len]; omega) EV.int (EV.locI (inCallK F6 k₇).ns hi5) (by omega) (by rw [tabI_len]; omega) ?_
          intro us' s₈ F8 tr8 l8 ii8
          refine wpAny_execs_cons (wpAny_Break ?_)
          refine wpAny_execs_nil ⟨rfl, ⟨m₅, F8, hp5, ht5, us', l8, ?_⟩, tr6.trans ((trOf (kGet k₇)).trans tr8)⟩
          have hlb : lb f (i + 2) = 0 := by
            refine lb_eq (brd_zero f (by omega)) fun c hc => ?_
            cases c with
            | zero => exact Nat.le_refl _
            | succ c =>
              have h1 := hmax c hc
              have h2 := (brd_pred hc).2
              have : c = 0 := by omega
              subst this
              exact absurd h2.symm hne
          have := tabI_set (f := f) hin
          rw [hlb] at this
          rw [show ((i : Int) + 1).toNat = i + 1 from by omega] at ii8
          rw [← this]
          exact ii8
        · intro h0 s₇ k₇
          have h0' : idx ≠ 0 := by simpa using h0
          refine wpAny_execs_nil ?_
          have F7 := inCallK F6 k₇
          have l7 := l6.at (kGet k₇)
          refine stAssign (d := .dI (lb f idx)) F7 (EV.itemL (EV.local F7.ns ht5 ⟨D, us, rfl, l7, ii⟩) (EV.sub (EV.locI F7.ns hx5) EV.int) (by omega) (by
            rw [show ((idx : Int) - 1).toNat = idx - 1 from by omega]
            have := tabI_get (f := f) (n := n) (i := i) (j := idx - 1) (by omega) (by omega)
            rw [show idx - 1 + 1 = idx from by omega] at this
            exact this) (by rw [tabI_len]; omega)) ?_
          intro vx s₈ F8 tr8 dx
          obtain ⟨tx', rfl⟩ := dx
          refine wpAny_execs_nil ⟨lb f idx, lb_lt f (by omega), lb f idx, tx', _, rfl, F8, hp5, ht5, hi5, rfl, l7.tr tr8 (by simp), brd_trans hB (lb_brd f (by omega)), fun b hb => ?_, tr6.trans ((trOf (kGet k₇)).trans (tr8.mono (by simp)))⟩
          have h1 := hmax b hb
          obtain ⟨h2, h3⟩ := brd_pred hb
          have h4 : b ≠ idx := by rintro rfl; exact hne h3.symm
          exact lb_max (brd_down hB h2 (by omega))
      | false =>
        have heq : f idx = f (i + 1) := by have : f (i + 1) = f idx := by simpa using hc
                                           exact this.symm
        simp only [Bool.false_eq_true, if_false]
        refine stSet (n := (idx : Int) + 1) (j := (i : Int) + 1) F6 ht5 l6 ii hD (by rw [tabI_len]; omega) (EV.add (EV.locI F6.ns hx5) EV.int) (EV.locI F6.ns hi5) (by omega) (by rw [tabI_len]; omega) ?_
        intro us' s₈ F8 tr8 l8 ii8
        refine wpAny_execs_nil (wpAny_execs_nil ⟨rfl, ⟨m₅, F8, hp5, ht5, us', l8, ?_⟩, tr6.trans tr8⟩)
        have hlb : lb f (i + 2) = idx + 1 := lb_eq (brd_succ hB heq) fun c hc => by
          cases c with
          | zero => omega
          | succ c => have := hmax c hc; omega
        have := tabI_set (f := f) hin
        rw [hlb] at this
        rw [show ((i : Int) + 1).toNat = i + 1 from by omega] at ii8
        rw [← this]
        exact ii8
    · rintro m₁ s₃ F3 ⟨hpx, htb, us, l, ii⟩
      have hlen : (rangeNums 1 n 1).length = n - 1 := by rw [rangeNums_length, rangeSize_one]; split <;> omega
      rw [hlen, tabI_all] at ii
      exact stReturn (rest := []) (d := .dL (tab f n)) (EV.local F3.ns htb ⟨D, us, rfl, l, ii⟩) fun v' s' k' dv => ⟨kTrans (InCall.keeps' F3) k', dv⟩
end
end Mine
end

section
open PySem PySem.W PyProof.Rows
set_option Elab.async false
set_option maxRecDepth 100000
set_option linter.unusedVariables false
namespace Mine
def Cs (h h' : Heap) : Prop := ∀ c v, h.IsCell c v → h'.IsCell c v
theorem Cs.trans {h h' h'' : Heap} (a : Cs h h') (b : Cs h' h'') : Cs h h'' := fun c v x => b c v (a c v x)
theorem csOf {h h' : Heap} (k : ∀ b o, h.get? b = some o → h'.get? b = some o) : Cs h h' := fun c v x => x.keeps k
theorem csSame {L : Addr} {m : Str → Option Value} {h h' : Heap} (n : h.Ns L m) (hs : Heap.SameBut L h h') : Cs h h' := fun c v x => x.sameBut hs (by
  rintro rfl
  obtain ⟨o, es, ep, h1, h2, _⟩ := n
  obtain ⟨o', h3, h4⟩ := x
  rw [h1] at h3
  cases h3
  rw [h2] at h4
  cases h4)

section
variable {prog : Program} {w : World} {A : Around} {env : Env} {s₀ s : Shared} {mg mb m : Str → Option Value} {Q : Flow → Shared → Prop} {E : Value → Shared → Prop}

theorem stAssignX {x : Str} {px pos : Pos} {e : Expr} {rest : List Stmt} {d : D} (F : InCall s₀ env.locals m s) (he : EV prog w A env s e d)
    (k : ∀ v s', InCall s₀ env.locals (upd m x v) s' → TrB [] s.heap s'.heap → Cs s.heap s'.heap → Den s'.heap v d → wpAny (model prog w) A (execs rest env) Q E s')
    (hs : swapsWith e (some (.Name x px)) pos.line env = pure false := by rfl) (hx : env.kindOf x = some .local := by rfl)
    (hp : (env.scope.kind == .class || (env.scope.kind == .module && env.locals != env.globals)) = false := by rfl) :
    wpAny (model prog w) A (execs (.Assign [.Name x px] e pos :: rest) env) Q E s :=
  wpAny_execs_cons (wpAny_Assign_Name (he.go (kRefl _) fun v s₁ k₁ dv => wpAny_storeName_local hx (F.ns.keeps (kGet k₁)) (fun h' hn hsb => by
    have tr := trSame (F.ns.keeps (kGet k₁)) hsb
    exact k v _ (inCallSet (inCallK F k₁) hn hsb) ((trOf (kGet k₁)).trans tr) ((csOf (kGet k₁)).trans (csSame (F.ns.keeps (kGet k₁)) hsb)) (dv.tr tr)) hp) hs)
theorem stAssignCell {x : Str} {px pos : Pos} {e : Expr} {rest : List Stmt} {d : D} {c : Addr} {v₀ : Option Value} (F : InCall s₀ env.locals m s) (hc : env.cells.lookup x = some c) (hv : s.heap.IsCell c v₀) (hc₀ : s₀.heap.get? c = none) (he : EV prog w A env s e d)
    (k : ∀ v s', InCall s₀ env.locals m s' → TrB [] s.heap s'.heap → s'.heap.IsCell c (some v) → (∀ c' u, c' ≠ c → s.heap.IsCell c' u → s'.heap.IsCell c' u) → Den s'.heap v d → wpAny (model prog w) A (execs rest env) Q E s')
    (hs : swapsWith e (some (.Name x px)) pos.line env = pure false := by rfl) (hk : env.scope.kind = .function := by rfl) (hx : env.kindOf x = some .cell := by rfl) :
    wpAny (model prog w) A (execs (.Assign [.Name x px] e pos :: rest) env) Q E s :=
  wpAny_execs_cons (wpAny_Assign_Name (he.go (kRefl _) fun v s₁ k₁ dv => wpAny_storeName_cell hk hx hc (hv.keeps (kGet k₁)) (fun h' hn hsb => by
    have F1 := inCallK F k₁
    have hcell := hv.keeps (kGet k₁)
    have hLc : env.locals ≠ c := by
      rintro rfl
      obtain ⟨o, es, ep, h1, h2, _⟩ := F1.ns
      obtain ⟨o', h3, h4⟩ := hcell
      rw [h1] at h3
      cases h3
      rw [h2] at h4
      cases h4
    have tr : TrB [] s₁.heap h' := fun b o p _ e => by
      refine (hsb.2 b ?_).trans e
      rintro rfl
      obtain ⟨o', h3, h4⟩ := hcell
      rw [h3] at e
      cases e
      exact p.2 _ h4
    refine k v { s₁ with heap := h' } ⟨?_, F1.ns.sameBut hsb hLc, fun b o e => (hsb.2 b ?_).trans (F1.keep b o e), F1.fresh⟩ ((trOf (kGet k₁)).trans tr) hn (fun c' u hne x => (x.keeps (kGet k₁)).sameBut hsb hne) (dv.tr tr)
    · obtain ⟨h, t, e⟩ := F1.same
      exact ⟨h', s₁.toks, by rw [e]⟩
    · rintro rfl
      rw [hc₀] at e
      cases e)) hs)

theorem stAssignComp {elt iter : Expr} {x y : Str} {px py : Pos} {ifs : List Expr} {scope : Scope} {cl : List (Str × Addr)} {pos spos : Pos} {src : List Int} {pz : Int → Bool} {G : Int → Value → Prop} {d : D} {rest : List Stmt} (F : InCall s₀ env.locals m s)
    (hs : SVi prog w A env s iter src) (hz : src.length ≤ 1000)
    (test : ∀ C s₃ m₃ n t, n ∈ src → HK s s₃ → s₃.heap.Ns C m₃ → m₃ x = some (.int n t) → TEs prog w A (compEnvC scope cl C env) s₃ ifs (pz n))
    (elem : ∀ C s₃ m₃ n t, n ∈ src → pz n = true → HK s s₃ → s₃.heap.Ns C m₃ → m₃ x = some (.int n t) → ∀ E, wpAny (model prog w) A (eval elt (compEnvC scope cl C env)) (fun y s₄ => G n y ∧ Keeps s₃ s₄) E s₃)
    (out : ∀ h D us, LL h D us → Paired G (src.filter pz) us → Den h (.ref D) d)
    (k : ∀ v s', InCall s₀ env.locals (upd m y v) s' → TrB [] s.heap s'.heap → Cs s.heap s'.heap → Den s'.heap v d → wpAny (model prog w) A (execs rest env) Q E s')
    (hsw : swapsWith (.ListComp elt [⟨.Name x px, iter, ifs, 0⟩] scope pos) (some (.Name y py)) spos.line env = pure true := by rfl)
    (hclos : closureFor scope env = pure cl := by rfl) (hcell : ∀ y ∈ scope.names, y.2 ≠ .cell := by decide) (hkind : scope.kind = .function := by rfl)
    (hnames : ∀ y ∈ scope.names, y.2 = .local → scope.names.lookup y.1 = some .local := by decide) (hx : scope.names.lookup x = some .local := by rfl)
    (hy : env.kindOf y = some .local := by rfl) (hp : (env.scope.kind == .class || (env.scope.kind == .module && env.locals != env.globals)) = false := by rfl)
    (hf : ∀ x, foldedSetIterable iter env x = pure x := by intro _; rfl) :
    wpAny (model prog w) A (execs (.Assign [.Name y py] (.ListComp elt [⟨.Name x px, iter, ifs, 0⟩] scope pos) spos :: rest) env) Q E s :=
  wpAny_execs_cons (wpAny_Assign_ListComp_free (fun v => pz (intOf v)) (fun v y => G (intOf v) y) hsw hclos hcell hkind hnames hx hy hp (hs s (kRefl _) E _ fun I fp wr St s' X => by
    have hLw : env.locals ∉ wr := fun hb => by
      have := X.fresh _ hb
      obtain ⟨o, es, ep, h1, _⟩ := F.ns
      rw [h1] at this
      cases this
    refine ⟨I, fp, wr, _, _, St, m, rfl, X.walksLt, by rw [sizeLine_eq]; omega, X.start, X.lt, hLw, F.ns.keeps (kGet X.kp), compCore X test elem, ?_⟩
    intro D h' tk ys vs hD hl hpl hlen hP hF hns hk
    have hpd := paired_out (ok := fun _ => True) hlen (fun j v hj => (hP j v hj).2) hF
    have up : ∀ b o, b ≠ env.locals → s.heap.get? b = some o → h'.get? b = some o := fun b o hb e => hk b o hb (fun hw => by rw [X.fresh b hw] at e; cases e) (kGet X.kp b o e)
    refine k (.ref D) _ ⟨?_, hns, fun b o e => up b o ?_ (F.keep b o e), F.fresh⟩ (fun b o p _ e => up b o ?_ e) (fun c v x => ?_) (out h' D ys.toList (by rw [LL, Array.toArray_toList]; exact hpl) hpd)
    · obtain ⟨h1, t1, e1⟩ := F.same
      obtain ⟨h2, t2, e2, _⟩ := X.kp
      exact ⟨h', tk, by rw [e2, e1]⟩
    · rintro rfl
      exact absurd (Heap.lt_size e) (Nat.not_lt.mpr F.fresh)
    · rintro rfl
      obtain ⟨o', es, ep, h1, h2, _⟩ := F.ns
      rw [h1] at e
      cases e
      exact p.1 _ _ h2
    · obtain ⟨o, h3, h4⟩ := x
      refine ⟨o, up c o ?_ h3, h4⟩
      rintro rfl
      obtain ⟨o', es, ep, h1, h2, _⟩ := F.ns
      rw [h1] at h3
      cases h3
      rw [h2] at h4
      cases h4) hf)
theorem stAssignCompI {elt iter : Expr} {x y : Str} {px py : Pos} {ifs : List Expr} {scope : Scope} {cl : List (Str × Addr)} {pos spos : Pos} {src : List Int} {pz : Int → Bool} {f : Int → Int} {rest : List Stmt} (F : InCall s₀ env.locals m s)
    (hs : SVi prog w A env s iter src) (hz : src.length ≤ 1000)
    (test : ∀ C s₃ m₃ n t, n ∈ src → HK s s₃ → s₃.heap.Ns C m₃ → m₃ x = some (.int n t) → TEs prog w A (compEnvC scope cl C env) s₃ ifs (pz n))
    (elem : ∀ C s₃ m₃ n t, n ∈ src → pz n = true → HK s s₃ → s₃.heap.Ns C m₃ → m₃ x = some (.int n t) → EV prog w A (compEnvC scope cl C env) s₃ elt (.dI (f n)))
    (k : ∀ v s', InCall s₀ env.locals (upd m y v) s' → TrB [] s.heap s'.heap → Cs s.heap s'.heap → Den s'.heap v (.dL ((src.filter pz).map f)) → wpAny (model prog w) A (execs rest env) Q E s')
    (hsw : swapsWith (.ListComp elt [⟨.Name x px, iter, ifs, 0⟩] scope pos) (some (.Name y py)) spos.line env = pure true := by rfl)
    (hclos : closureFor scope env = pure cl := by rfl) (hcell : ∀ y ∈ scope.names, y.2 ≠ .cell := by decide) (hkind : scope.kind = .function := by rfl)
    (hnames : ∀ y ∈ scope.names, y.2 = .local → scope.names.lookup y.1 = some .local := by decide) (hx : scope.names.lookup x = some .local := by rfl)
    (hy : env.kindOf y = some .local := by rfl) (hp : (env.scope.kind == .class || (env.scope.kind == .module && env.locals != env.globals)) = false := by rfl)
    (hf : ∀ x, foldedSetIterable iter env x = pure x := by intro _; rfl) :
    wpAny (model prog w) A (execs (.Assign [.Name y py] (.ListComp elt [⟨.Name x px, iter, ifs, 0⟩] scope pos) spos :: rest) env) Q E s :=
  stAssignComp (G := fun n y => ∃ t, y = .int (f n) t) (d := .dL ((src.filter pz).map f)) F hs hz test (fun C s₃ m₃ n t hn hp hk hns hm => elemI (elem C s₃ m₃ n t hn hp hk hns hm)) (fun h D us l p => ⟨D, us, rfl, l, paired_ints p⟩) k hsw hclos hcell hkind hnames hx hy hp hf
end
end Mine
end

section
open PySem PySem.W PyProof.Rows
set_option Elab.async false
set_option maxRecDepth 100000
set_option linter.unusedVariables false
namespace Mine

def parts (row : List Int) : List Int := (rangeNums 1 row.length 1).filter fun n => (row.length : Int).fmod n == 0
def again' (row : List Int) : List Int := (parts row).filter fun n => decide (row = (List.replicate ((row.length : Int).fdiv n).toNat (row.take n.toNat)).flatten)
def alone (row : List Int) : Bool := decide (again' row = [])

theorem rangeNums_up_mem {a b n : Int} (h : n ∈ rangeNums a b 1) : a ≤ n ∧ n < b := by
  unfold rangeNums at h
  obtain ⟨i, hi, rfl⟩ := List.mem_map.mp h
  rw [List.mem_range, rangeSize_one] at hi
  split at hi <;> omega
theorem rangeNums_up_len {a b : Int} : (rangeNums a b 1).length = (b - a).toNat := by
  rw [rangeNums_length, rangeSize_one]
  split <;> omega

section
variable {prog : Program} {w : World} {A : Around} {s₀ : Shared} {mg mb : Str → Option Value}
theorem alone_ok (hA : AOk 1 A) (W : Wd w mg mb s₀.heap) {row : List Int} (hz : row.length ≤ 500) : CallOk prog w A s₀ (.ref 52) [.dL row] (.dB (alone row)) := fun vs s k d E => by
  obtain ⟨pm, hl⟩ := lookAlone w
  have W1 := W.at (kGet k)
  cases d with
  | cons d r =>
    cases r
    rename_i v
    refine cellCall hA.room W1 hl (by kernel_rfl) (binds := [("row", v)]) (by rfl) (fun L x hx => .inr ?_) (by rfl) (by rfl) (by rfl) ?_
    · obtain rfl := List.mem_singleton.mp hx
      exact ⟨by rfl, by rfl⟩
    intro s₁ L hL FC E'
    have F := FC.toInCall
    have hcell : s₁.heap.IsCell (L + 1) (some v) := FC.cell "row" (L + 1) rfl
    have k1 : Keeps s s₁ := InCall.keeps' F
    have hA' := (hA.deeper (callEnvC (fdI "_law_alone" 8 pm 51) L 52))
    have W2 := W1.at (kGet k1)
    have d1 := d.k k1
    refine stAssignCompI (cl := [("row", L + 1)]) (src := rangeNums 1 row.length 1) (pz := fun n => (row.length : Int).fmod n == 0) (f := fun n => n) F
      (SVr.toI (SVr.range hA'.1 (EV.callT (EV.boot W2 (noRange w) boot_range)
        (AV.cons EV.int (AV.cons (EV.callB (EV.boot W2 (noLen w) boot_len) (AV.cons (EV.cell (c := L + 1) rfl hcell d1) AV.nil) (callLenL (by omega))) AV.nil))
        callRange2) (smallRange (by omega) (by omega) (by omega) (by omega) (.inl rfl)) (by decide)))
      (by rw [rangeNums_up_len]; omega)
      (fun C s₃ m₃ n t hn hk hns hm => by
        have W3 := W2.at hk
        have hb := rangeNums_up_mem hn
        exact TEs.one (TE.cmp (EV.mod (EV.callB (EV.boot W3 (noLen w) boot_len) (AV.cons (EV.cell (c := L + 1) rfl (hcell.keeps hk) (d1.at hk)) AV.nil) (callLenL (by omega))) (EV.locI hns hm) (by omega)) EV.int cmpEqI))
      (fun C s₃ m₃ n t hn hp hk hns hm => EV.locI hns hm) ?_
    intro vp s₂ F2 tr2 cs2 dp
    rw [List.map_id'] at dp
    have dp : Den s₂.heap vp (.dL (parts row)) := dp
    have hc2 := cs2 _ _ hcell
    have d2 := d1.tr tr2
    have W4 := W1.at F2.keep
    have hpl : (parts row).length ≤ 500 := by
      have := List.length_filter_le (fun n => (row.length : Int).fmod n == 0) (rangeNums 1 row.length 1)
      rw [rangeNums_up_len] at this
      unfold parts
      omega
    refine stReturn (rest := []) (d := .dB (alone row)) ?_ fun v' s' k' dv => ⟨kTrans (InCall.keeps' F2) k', dv⟩
    refine EV.cmp (d₁ := .dL (again' row)) (d₂ := .dL []) ?_ (EV.list (ns := []) AV.nil (by simp)) (cmpEqL hA'.units)
    have e : again' row = ((parts row).filter fun n => decide (row = (List.replicate ((row.length : Int).fdiv n).toNat (row.take n.toNat)).flatten)).map fun n => n := by rw [List.map_id']; rfl
    rw [e]
    refine EV.compI (cl := [("row", L + 1)]) (src := parts row) (pz := fun n => decide (row = (List.replicate ((row.length : Int).fdiv n).toNat (row.take n.toNat)).flatten)) (f := fun n => n) (SVi.list hA'.1 (EV.local F2.ns rfl dp)) (by omega)
      (fun C s₃ m₃ n t hn hk hns hm => ?_)
      (fun C s₃ m₃ n t hn hp hk hns hm => EV.locI hns hm)
    have W3 := W4.at hk
    have hb := rangeNums_up_mem (List.mem_filter.mp hn).1
    have hc3 := hc2.keeps hk
    have d3 := d2.at hk
    have htake : (row.take n.toNat).length = n.toNat := by rw [List.length_take]; omega
    have hdiv : (row.length : Int).fdiv n * n ≤ row.length := by
      have := Int.fmod_add_mul_fdiv (row.length : Int) n
      have h2 : 0 ≤ (row.length : Int).fmod n := Int.fmod_nonneg_of_pos _ (by omega)
      rw [Int.mul_comm] at this
      omega
    have hdn : 0 ≤ (row.length : Int).fdiv n := Int.fdiv_nonneg (by omega) (by omega)
    have hmul : n.toNat * ((row.length : Int).fdiv n).toNat ≤ 500 := by
      have h3 : ((n.toNat * ((row.length : Int).fdiv n).toNat : Nat) : Int) ≤ 500 := by
        rw [Int.natCast_mul, Int.toNat_of_nonneg (by omega), Int.toNat_of_nonneg hdn, Int.mul_comm]
        omega
      omega
    exact TEs.one (TE.cmp (EV.cell (c := L + 1) rfl hc3 d3) (EV.mulL (EV.upto (EV.cell (c := L + 1) rfl hc3 d3) (EV.locI hns hm) (by omega) (by omega))
      (EV.fdiv (EV.callB (EV.boot W3 (noLen w) boot_len) (AV.cons (EV.cell (c := L + 1) rfl hc3 d3) AV.nil) (callLenL (by omega))) (EV.locI hns hm) (by omega) (by omega))
      (by intro h; rw [h] at htake; simp at htake; omega) hdn (by rw [htake]; omega)) (cmpEqL hA'.units))
end
end Mine
end

section
open PySem PySem.W PyProof.Rows
set_option Elab.async false
set_option maxRecDepth 100000
set_option linter.unusedVariables false
namespace Mine

def ahead (high : Int) (made : List Int) (size : Int) : List Int := made ++ List.replicate (size - made.length - made.length - 1).toNat high
def madeStep (low high : Int) (made : List Int) (size : Int) : List Int :=
  if made = [] then [low] ++ List.replicate (size - 1).toNat high
  else if size - made.length ≤ made.length then made.take (size - made.length).toNat ++ made
  else ahead high made size ++ [if alone (ahead high made size ++ [high]) then high else low] ++ made
def madeOf (low high : Int) (sizes : List Int) : List Int := sizes.foldl (madeStep low high) []

theorem madeStep_len {low high : Int} {made : List Int} {size : Int} (h : (made.length : Int) < size) : ((madeStep low high made size).length : Int) = size := by
  unfold madeStep
  split
  · rename_i e
    subst e
    simp at h ⊢
    omega
  · split
    · simp [List.length_take]; omega
    · simp [ahead]; omega

/-- rising, from above k -/
def Rising : Int → List Int → Prop
  | _, [] => True
  | k, n :: r => k < n ∧ Rising n r

theorem flatRep (k : Nat) (x : Int) : (List.replicate k [x]).flatten = List.replicate k x := by
  induction k with
  | zero => rfl
  | succ k ih => rw [List.replicate_succ, List.flatten_cons, ih, List.replicate_succ]; rfl
theorem take_fold (low high : Int) {sizes : List Int} {i : Nat} {n : Int} (h : sizes[i]? = some n) : (sizes.take (i + 1)).foldl (madeStep low high) [] = madeStep low high ((sizes.take i).foldl (madeStep low high) []) n := by
  rw [List.take_add_one, h]
  simp [List.foldl_append]
theorem rising_len {low high : Int} : ∀ {sizes : List Int} {made : List Int} {i : Nat} {n : Int}, Rising (made.length : Int) sizes → sizes[i]? = some n → ((((sizes.take i).foldl (madeStep low high) made).length : Nat) : Int) < n
  | [], _, _, _, _, h => by simp at h
  | x :: r, made, 0, n, hr, h => by
    simp at h
    subst h
    exact hr.1
  | x :: r, made, i + 1, n, hr, h => by
    have h' : r[i]? = some n := by simpa using h
    rw [List.take_succ_cons, List.foldl_cons]
    exact rising_len (by rw [madeStep_len hr.1]; exact hr.2) h'

section
variable {prog : Program} {w : World} {A : Around} {s₀ : Shared} {mg mb : Str → Option Value}
theorem made_ok (hA : AOk 2 A) (W : Wd w mg mb s₀.heap) {sizes : List Int} {low high : Int} (hr : Rising 0 sizes) (hb : ∀ n ∈ sizes, n ≤ 500) (hl5 : sizes.length ≤ 500) : CallOk prog w A s₀ (.ref 59) [.dL sizes, .dI low, .dI high] (.dL (madeOf low high sizes)) := fun vs s k d E => by
  obtain ⟨pm, hl⟩ := lookMade w
  have W1 := W.at (kGet k)
  cases d with
  | cons d r =>
  cases r with
  | cons dl r =>
  cases r with
  | cons dh r =>
    cases r
    rename_i v vl vh
    refine plainCall hA.room W1 hl (by kernel_rfl) (binds := [("sizes", v), ("low", vl), ("high", vh)]) (by rfl) (fun x hx => ?_) (by decide) (by rfl) (by rfl) (by rfl) ?_
    · simp only [List.mem_cons, List.not_mem_nil, or_false] at hx
      rcases hx with rfl | rfl | rfl <;> rfl
    intro s₁ L hL F E'
    have hA' := (hA.deeper (callEnv (fdI "_law_made" 9 pm 58) L 59))
    have k1 : Keeps s s₁ := InCall.keeps' F
    refine stAssign (d := .dL []) F (EV.list (ns := []) AV.nil (by simp)) ?_
    intro v0 s₂ F2 tr2 d0
    refine stForL (src := sizes) F2 (SVi.list hA'.1 (EV.local F2.ns rfl (d.at F2.keep)))
      (fun i m h => m "sizes" = some v ∧ m "low" = some vl ∧ m "high" = some vh ∧ ∃ vm, m "made" = some vm ∧ Den h vm (.dL ((sizes.take i).foldl (madeStep low high) []))) ?_ ⟨rfl, rfl, rfl, v0, rfl, d0⟩ ?_ ?_
    · rintro i m h h' t ⟨a, b, c, vm, e, dd⟩
      exact ⟨a, b, c, vm, e, dd.trc t⟩
    · rintro i n t m₁ s₃ hn ⟨hS, hLo, hHi, vm, hM, dm⟩ F3 E''
      rw [take_fold low high hn]
      have hlt := rising_len (low := low) (high := high) (made := []) (by simpa using hr) hn
      have hn5 := hb n (List.mem_of_getElem? hn)
      generalize hmade : (sizes.take i).foldl (madeStep low high) [] = made at dm hlt ⊢
      refine stAssign (d := .dI (n - made.length)) F3 (EV.sub (EV.locI F3.ns rfl) (EV.callB (EV.boot (W1.at F3.keep) (noLen w) boot_len) (AV.cons (EV.local F3.ns (by exact hM) dm) AV.nil) (callLenL (by omega)))) ?_
      intro vst s₄ F4 tr4 dst
      have dm4 := dm.tr tr4
      refine stIf (c := decide (made = [])) (rest := []) (TE.cmp (EV.local F4.ns (by exact hM) dm4) (EV.list (ns := []) AV.nil (by simp)) (cmpEqL hA'.units)) ?_ ?_
      · intro hc s₅ k₅
        have hc' : made = [] := of_decide_eq_true hc
        have F5 := inCallK F4 k₅
        refine stAssign (d := .dL (madeStep low high made n)) F5 ?_ ?_
        · rw [madeStep, if_pos hc', ← flatRep]
          exact EV.addL (EV.list (ns := [low]) (AV.cons (EV.local F5.ns (by exact hLo) (dl.at F5.keep)) AV.nil) (by simp))
            (EV.mulL (EV.list (ns := [high]) (AV.cons (EV.local F5.ns (by exact hHi) (dh.at F5.keep)) AV.nil) (by simp)) (EV.sub (EV.locI F5.ns rfl) EV.int) (by simp) (by subst hc'; simp at hlt; omega) (by simp; omega))
            (by rw [flatRep]; simp; omega)
        · intro v6 s₆ F6 tr6 d6
          exact wpAny_execs_nil (wpAny_execs_nil ⟨rfl, ⟨_, F6, hS, hLo, hHi, v6, rfl, d6⟩, tr4.trans ((trOf (kGet k₅)).trans tr6)⟩)
      · intro hc s₅ k₅
        have hc' : made ≠ [] := of_decide_eq_false hc
        have F5 := inCallK F4 k₅
        have dm5 := dm4.k k₅
        have dst5 := dst.k k₅
        refine stIf (c := decide (n - made.length ≤ made.length)) (rest := []) (TE.cmp (EV.local F5.ns rfl dst5) (EV.callB (EV.boot (W1.at F5.keep) (noLen w) boot_len) (AV.cons (EV.local F5.ns (by exact hM) dm5) AV.nil) (callLenL (by omega))) cmpLeI) ?_ ?_
        · intro hs s₆ k₆
          have hs' : n - made.length ≤ made.length := of_decide_eq_true hs
          have F6 := inCallK F5 k₆
          have dm6 := dm5.k k₆
          refine stAssign (d := .dL (madeStep low high made n)) F6 ?_ ?_
          · rw [madeStep, if_neg hc', if_pos hs']
            exact EV.addL (EV.upto (EV.local F6.ns (by exact hM) dm6) (EV.local F6.ns rfl (dst5.k k₆)) (by omega) (by omega)) (EV.local F6.ns (by exact hM) dm6) (by simp [List.length_take]; omega)
          · intro v7 s₇ F7 tr7 d7
            exact wpAny_execs_nil (wpAny_execs_nil (wpAny_execs_nil ⟨rfl, ⟨_, F7, hS, hLo, hHi, v7, rfl, d7⟩, tr4.trans ((trOf (kGet k₅)).trans ((trOf (kGet k₆)).trans tr7))⟩))
        · intro hs s₆ k₆
          have hs' : ¬ n - made.length ≤ made.length := of_decide_eq_false hs
          have F6 := inCallK F5 k₆
          have dm6 := dm5.k k₆
          have hal : (ahead high made n).length ≤ 499 := by simp [ahead]; omega
          refine stAssign (d := .dL (ahead high made n)) F6 ?_ ?_
          · rw [ahead, ← flatRep]
            exact EV.addL (EV.local F6.ns (by exact hM) dm6) (EV.mulL (EV.list (ns := [high]) (AV.cons (EV.local F6.ns (by exact hHi) (dh.at F6.keep)) AV.nil) (by simp))
              (EV.sub (EV.sub (EV.local F6.ns rfl (dst5.k k₆)) (EV.callB (EV.boot (W1.at F6.keep) (noLen w) boot_len) (AV.cons (EV.local F6.ns (by exact hM) dm6) AV.nil) (callLenL (by omega)))) EV.int) (by simp) (by omega) (by simp; omega)) (by rw [flatRep]; simp; omega)
          · intro va s₇ F7 tr7 da
            have dm7 := dm6.tr tr7
            obtain ⟨pma, hla⟩ := lookAlone w
            have W7 := W1.at F7.keep
            refine stAssign (d := .dL (madeStep low high made n)) F7 ?_ ?_
            · rw [madeStep, if_neg hc', if_neg hs']
              refine EV.addL (EV.addL (EV.local F7.ns rfl da) (EV.list (ns := [if alone (ahead high made n ++ [high]) then high else low]) (AV.cons (EV.ite (c := alone (ahead high made n ++ [high])) (TE.val (EV.callF (EV.def W7 (nsAlone w)) (AV.cons (EV.addL (EV.local F7.ns rfl da) (EV.list (ns := [high]) (AV.cons (EV.local F7.ns (by exact hHi) (dh.at F7.keep)) AV.nil) (by simp)) (by simp; omega)) AV.nil) (W7.K _ _ hla) rfl (alone_ok hA' W7 (by simp; omega)))) ?_ ?_) AV.nil) (by simp)) (by simp; omega)) (EV.local F7.ns (by exact hM) dm7) (by simp; omega)
              · intro h; rw [if_pos h]; exact EV.local F7.ns (by exact hHi) (dh.at F7.keep)
              · intro h; rw [if_neg (by rw [h]; decide)]; exact EV.local F7.ns (by exact hLo) (dl.at F7.keep)
            · intro v8 s₈ F8 tr8 d8
              exact wpAny_execs_nil (wpAny_execs_nil (wpAny_execs_nil ⟨rfl, ⟨_, F8, hS, hLo, hHi, v8, rfl, d8⟩, tr4.trans ((trOf (kGet k₅)).trans ((trOf (kGet k₆)).trans (tr7.trans tr8)))⟩))
    · rintro m₁ s₃ F3 ⟨hS, hLo, hHi, vm, hM, dm⟩
      rw [List.take_length] at dm
      exact stReturn (rest := []) (d := .dL (madeOf low high sizes)) (EV.local F3.ns hM dm) fun v' s' k' dv => ⟨kTrans (InCall.keeps' F3) k', dv⟩
end
end Mine
end

section
open PySem PySem.W PyProof.Rows
set_option Elab.async false
set_option maxRecDepth 100000
set_option linter.unusedVariables false
namespace Mine

def between (signs : List Int) (number : Int) : List Int := [signs.getD ((number.fdiv 5).fmod 4).toNat 0, signs.getD ((number.fdiv 20).fmod 4).toNat 0]
def drawnStep (signs row : List Int) (number : Int) : List Int :=
  if (number.fmod 5 == 1 || (number.fmod 5 == 2 || false)) = true then row ++ (between signs number).take (number.fmod 5).toNat ++ row
  else if (number.fmod 5 == 0 || (decide (brd row = []) || false)) = true then row ++ row
  else row ++ row.drop (if number.fmod 5 = 3 then (brd row).getD 0 0 else lastI (brd row)).toNat
def drawn (numbers signs : List Int) : List Int := numbers.foldl (drawnStep signs) (signs.take 1)

theorem drawnStep_len (signs row : List Int) (number : Int) : (drawnStep signs row number).length ≤ 2 * row.length + 2 := by
  have h2 : (between signs number).length = 2 := rfl
  unfold drawnStep
  split
  · simp only [List.length_append, List.length_take, h2]; omega
  · split
    · simp only [List.length_append]; omega
    · simp only [List.length_append, List.length_drop]; omega
theorem drawnStep_mem {signs row : List Int} {number : Int} (h4 : signs.length = 4) (h : ∀ x ∈ row, x ∈ signs) : ∀ x ∈ drawnStep signs row number, x ∈ signs := by
  have hget : ∀ n : Int, signs.getD (n.fmod 4).toNat 0 ∈ signs := fun n => by
    have h1 := Int.fmod_nonneg_of_pos n (b := 4) (by omega)
    have h2 := Int.fmod_lt_of_pos n (b := 4) (by omega)
    have hlt : (n.fmod 4).toNat < signs.length := by omega
    rw [List.getD_eq_getElem?_getD, List.getElem?_eq_getElem hlt]
    exact List.getElem_mem hlt
  intro x hx
  unfold drawnStep at hx
  split at hx
  · rcases List.mem_append.mp hx with hx | hx
    · rcases List.mem_append.mp hx with hx | hx
      · exact h x hx
      · have := List.mem_of_mem_take hx
        simp only [between, List.mem_cons, List.not_mem_nil, or_false] at this
        rcases this with rfl | rfl
        · exact hget _
        · exact hget _
    · exact h x hx
  · split at hx
    · rcases List.mem_append.mp hx with hx | hx
      · exact h x hx
      · exact h x hx
    · rcases List.mem_append.mp hx with hx | hx
      · exact h x hx
      · exact h x (List.mem_of_mem_drop hx)
theorem drawnFold_mem {signs : List Int} (h4 : signs.length = 4) : ∀ {numbers row : List Int}, (∀ x ∈ row, x ∈ signs) → ∀ x ∈ numbers.foldl (drawnStep signs) row, x ∈ signs
  | [], _, h => h
  | n :: r, row, h => by
    rw [List.foldl_cons]
    exact drawnFold_mem h4 (drawnStep_mem h4 h)
theorem drawn_mem {numbers signs : List Int} (h4 : signs.length = 4) : ∀ x ∈ drawn numbers signs, x ∈ signs := drawnFold_mem h4 fun x hx => List.mem_of_mem_take hx
theorem drawnFold_len {signs : List Int} : ∀ (numbers row : List Int), (numbers.foldl (drawnStep signs) row).length + 2 ≤ (row.length + 2) * 2 ^ numbers.length
  | [], row => by simp
  | n :: r, row => by
    have h1 := drawnFold_len (signs := signs) r (drawnStep signs row n)
    have h2 := drawnStep_len signs row n
    rw [List.foldl_cons, List.length_cons, Nat.pow_succ]
    have h3 : ((drawnStep signs row n).length + 2) * 2 ^ r.length ≤ (2 * (row.length + 2)) * 2 ^ r.length := Nat.mul_le_mul_right _ (by omega)
    have h4 : (2 * (row.length + 2)) * 2 ^ r.length = (row.length + 2) * (2 ^ r.length * 2) := by rw [Nat.mul_comm 2, Nat.mul_assoc, Nat.mul_comm 2]
    omega
theorem brd_mem {row : List Int} {n : Int} (h : n ∈ brd row) : 0 < n ∧ n < row.length := by
  have := rangeNums_down_mem (List.mem_filter.mp h).1
  omega
theorem brd_len (row : List Int) : (brd row).length ≤ row.length := by
  have h1 := List.length_filter_le (fun n : Int => decide (row.take n.toNat = row.drop ((row.length : Int) - n).toNat)) (rangeNums (row.length - 1) 0 (-1))
  rw [rangeNums_length, rangeSizeDown] at h1
  unfold brd
  split at h1 <;> omega

section
variable {prog : Program} {w : World} {A : Around} {s₀ : Shared} {mg mb : Str → Option Value}
theorem drawn_ok (hA : AOk 3 A) (W : Wd w mg mb s₀.heap) {numbers signs : List Int} (h3 : numbers.length ≤ 3) (h4 : signs.length = 4) : CallOk prog w A s₀ (.ref 47) [.dL numbers, .dL signs] (.dL (drawn numbers signs)) := fun vs s k d E => by
  obtain ⟨pm, hl⟩ := lookDrawn w
  have W1 := W.at (kGet k)
  cases d with
  | cons d r =>
  cases r with
  | cons ds r =>
    cases r
    rename_i v vsn
    refine plainCall hA.room W1 hl (by kernel_rfl) (binds := [("numbers", v), ("signs", vsn)]) (by rfl) (fun x hx => ?_) (by decide) (by rfl) (by rfl) (by rfl) ?_
    · simp only [List.mem_cons, List.not_mem_nil, or_false] at hx
      rcases hx with rfl | rfl <;> rfl
    intro s₁ L hL F E'
    have hA' := (hA.deeper (callEnv (fdI "_law_drawn" 7 pm 46) L 47))
    have k1 : Keeps s s₁ := InCall.keeps' F
    refine stAssign (d := .dL (signs.take 1)) F (EV.upto (y := 1) (EV.local F.ns rfl (ds.k k1)) EV.int (by omega) (by omega)) ?_
    intro v0 s₂ F2 tr2 d0
    refine stForL (src := numbers) F2 (SVi.list hA'.1 (EV.local F2.ns rfl (d.at F2.keep)))
      (fun i m h => m "numbers" = some v ∧ m "signs" = some vsn ∧ ∃ vr, m "row" = some vr ∧ Den h vr (.dL ((numbers.take i).foldl (drawnStep signs) (signs.take 1)))) ?_ ⟨rfl, rfl, v0, rfl, d0⟩ ?_ ?_
    · rintro i m h h' t ⟨a, b, vm, e, dd⟩
      exact ⟨a, b, vm, e, dd.trc t⟩
    · rintro i n t m₁ s₃ hn ⟨hN, hSg, vr, hR, dr⟩ F3 E''
      have hf : (numbers.take (i + 1)).foldl (drawnStep signs) (signs.take 1) = drawnStep signs ((numbers.take i).foldl (drawnStep signs) (signs.take 1)) n := by
        rw [List.take_add_one (l := numbers), hn]
        simp [List.foldl_append]
      rw [hf]
      have hlen : ((numbers.take i).foldl (drawnStep signs) (signs.take 1)).length ≤ 30 := by
        have h1 := drawnFold_len (signs := signs) (numbers.take i) (signs.take 1)
        have h2 : (numbers.take i).length ≤ 3 := by rw [List.length_take]; omega
        have h3 : 2 ^ (numbers.take i).length ≤ 2 ^ 3 := Nat.pow_le_pow_right (by omega) h2
        have h4 : (signs.take 1).length ≤ 1 := by rw [List.length_take]; omega
        have h5 := Nat.mul_le_mul (show (signs.take 1).length + 2 ≤ 3 by omega) h3
        omega
      generalize (numbers.take i).foldl (drawnStep signs) (signs.take 1) = row at dr hlen ⊢
      have hk0 := Int.fmod_nonneg_of_pos n (b := 5) (by omega)
      have hk5 := Int.fmod_lt_of_pos n (b := 5) (by omega)
      refine stAssign (d := .dI (n.fmod 5)) F3 (EV.mod (EV.locI F3.ns rfl) EV.int (by decide)) ?_
      intro vk s₄ F4 tr4 dk
      have dr4 := dr.tr tr4
      obtain ⟨pmb, hlb⟩ := lookBorders w
      have W4 := W1.at F4.keep
      refine stAssign (d := .dL (brd row)) F4 (EV.callF (EV.def W4 (nsBorders w)) (AV.cons (EV.local F4.ns (by exact hR) dr4) AV.nil) (W4.K _ _ hlb) rfl (borders_ok hA' W4 (by omega))) ?_
      intro vb s₅ F5 tr5 db
      have dr5 := dr4.tr tr5
      have dk5 := dk.tr tr5
      have sg : ∀ n : Int, signs[(n.fmod 4).toNat]? = some (signs.getD (n.fmod 4).toNat 0) := fun n => by
        have h1 := Int.fmod_nonneg_of_pos n (b := 4) (by omega)
        have h2 := Int.fmod_lt_of_pos n (b := 4) (by omega)
        have hlt : (n.fmod 4).toNat < signs.length := by omega
        rw [List.getD_eq_getElem?_getD, List.getElem?_eq_getElem hlt]
        rfl
      refine stAssign (d := .dL (between signs n)) F5 (EV.list (ns := between signs n) (AV.cons (EV.itemL (EV.local F5.ns (by exact hSg) (ds.at F5.keep)) (EV.mod (EV.fdiv (EV.locI F5.ns rfl) EV.int (by decide) (by decide)) EV.int (by decide)) (Int.fmod_nonneg_of_pos _ (by omega)) (sg _) (by omega))
        (AV.cons (EV.itemL (EV.local F5.ns (by exact hSg) (ds.at F5.keep)) (EV.mod (EV.fdiv (EV.locI F5.ns rfl) EV.int (by decide) (by decide)) EV.int (by decide)) (Int.fmod_nonneg_of_pos _ (by omega)) (sg _) (by omega)) AV.nil)) (by simp [between])) ?_
      intro vw s₆ F6 tr6 dw
      have dr6 := dr5.tr tr6
      have dk6 := dk5.tr tr6
      have db6 := db.tr tr6
      have tr36 := tr4.trans (tr5.trans tr6)
      have hbl := brd_len row
      refine stIf (c := (n.fmod 5 == 1 || (n.fmod 5 == 2 || false))) (rest := []) (TE.or (or2 (TE.cmp (EV.local F6.ns rfl dk6) EV.int cmpEqI) fun _ => or2 (TE.cmp (EV.local F6.ns rfl dk6) EV.int cmpEqI) fun _ => orNil)) ?_ ?_
      · intro hc s₇ k₇
        have F7 := inCallK F6 k₇
        refine stAssign (d := .dL (drawnStep signs row n)) F7 ?_ ?_
        · rw [drawnStep, if_pos hc]
          exact EV.addL (EV.addL (EV.local F7.ns (by exact hR) (dr6.k k₇)) (EV.upto (EV.local F7.ns rfl (dw.k k₇)) (EV.local F7.ns rfl (dk6.k k₇)) (by omega) (by simp [between])) (by simp [between]; omega)) (EV.local F7.ns (by exact hR) (dr6.k k₇)) (by simp [between]; omega)
        · intro v8 s₈ F8 tr8 d8
          exact wpAny_execs_nil (wpAny_execs_nil ⟨rfl, ⟨_, F8, hN, hSg, v8, rfl, d8⟩, tr36.trans ((trOf (kGet k₇)).trans tr8)⟩)
      · intro hc s₇ k₇
        have F7 := inCallK F6 k₇
        have hc0 : ¬ (n.fmod 5 == 1 || (n.fmod 5 == 2 || false)) = true := by rw [hc]; decide
        refine stIf (c := (n.fmod 5 == 0 || (decide (brd row = []) || false))) (rest := []) (TE.or (or2 (TE.cmp (EV.local F7.ns rfl (dk6.k k₇)) EV.int cmpEqI) fun _ => or2 (TE.cmp (EV.local F7.ns rfl (db6.k k₇)) (EV.list (ns := []) AV.nil (by simp)) (cmpEqL hA'.units)) fun _ => orNil)) ?_ ?_
        · intro he s₈ k₈
          have F8 := inCallK F7 k₈
          have dr8 := (dr6.k k₇).k k₈
          refine stAssign (d := .dL (drawnStep signs row n)) F8 ?_ ?_
          · rw [drawnStep, if_neg hc0, if_pos he]
            exact EV.addL (EV.local F8.ns (by exact hR) dr8) (EV.local F8.ns (by exact hR) dr8) (by omega)
          · intro v9 s₉ F9 tr9 d9
            exact wpAny_execs_nil (wpAny_execs_nil (wpAny_execs_nil ⟨rfl, ⟨_, F9, hN, hSg, v9, rfl, d9⟩, tr36.trans ((trOf (kGet k₇)).trans ((trOf (kGet k₈)).trans tr9))⟩))
        · intro he s₈ k₈
          have he0 : ¬ (n.fmod 5 == 0 || (decide (brd row = []) || false)) = true := by rw [he]; decide
          have hbne : brd row ≠ [] := by
            intro h
            apply he0
            rw [h]
            simp
          have hbp : 0 < (brd row).length := List.length_pos_iff.mpr hbne
          have F8 := inCallK F7 k₈
          have dr8 := (dr6.k k₇).k k₈
          have db8 := (db6.k k₇).k k₈
          have dk8 := (dk6.k k₇).k k₈
          have h0g : (brd row)[(0 : Int).toNat]? = some ((brd row).getD 0 0) := by
            rw [List.getD_eq_getElem?_getD, show (0 : Int).toNat = 0 from rfl, List.getElem?_eq_getElem hbp]
            rfl
          have hx0 := brd_mem (List.mem_of_getElem? h0g)
          have hx1 := brd_mem (lastI_mem hbne)
          have hix : 0 ≤ (if n.fmod 5 = 3 then (brd row).getD 0 0 else lastI (brd row)) := by split <;> omega
          refine stAssign (d := .dL (drawnStep signs row n)) F8 ?_ ?_
          · rw [drawnStep, if_neg hc0, if_neg he0]
            refine EV.addL (EV.local F8.ns (by exact hR) dr8) (EV.from (EV.local F8.ns (by exact hR) dr8) ?_ hix (by omega)) (by simp; omega)
            by_cases h3 : n.fmod 5 = 3
            · rw [if_pos h3]
              exact EV.itemL (EV.local F8.ns rfl db8) (EV.ite (c := (n.fmod 5 == 3)) (TE.cmp (EV.local F8.ns rfl dk8) EV.int cmpEqI) (fun _ => EV.int) (fun h => by rw [h3] at h; cases h)) (by omega) h0g (by omega)
            · rw [if_neg h3]
              exact EV.itemNeg (EV.local F8.ns rfl db8) (EV.ite (c := (n.fmod 5 == 3)) (TE.cmp (EV.local F8.ns rfl dk8) EV.int cmpEqI) (fun h => absurd (by simpa using h) h3) (fun h => EV.neg EV.int)) (by omega) (by omega) (lastI_get hbne) (by omega)
          · intro v9 s₉ F9 tr9 d9
            exact wpAny_execs_nil (wpAny_execs_nil (wpAny_execs_nil ⟨rfl, ⟨_, F9, hN, hSg, v9, rfl, d9⟩, tr36.trans ((trOf (kGet k₇)).trans ((trOf (kGet k₈)).trans tr9))⟩))
    · rintro m₁ s₃ F3 ⟨hN, hSg, vr, hR, dr⟩
      rw [List.take_length] at dr
      exact stReturn (rest := []) (d := .dL (drawn numbers signs)) (EV.local F3.ns hR dr) fun v' s' k' dv => ⟨kTrans (InCall.keeps' F3) k', dv⟩
end
end Mine
end

section
open PySem PySem.W PyProof.Rows
set_option Elab.async false
set_option maxRecDepth 100000
set_option linter.unusedVariables false
namespace Mine
section
variable {prog : Program} {w : World} {A : Around} {s₀ : Shared} {mg mb : Str → Option Value}

theorem isiTup {d : D} {b : Bool} (W : Wd w mg mb s₀.heap)
    (h : ∀ (v : Value) (s : Shared), Den s.heap v d → ∃ t H, KitX (KF w) v t H ∧ H s.heap ∧ kitAny (KF w) t [.type "str", .type "bytes"] = some b ∧ v ≠ .builtin "__main__.__loader__#opaque") :
    CallOk prog w A s₀ (.builtin "isinstance") [d, .dU [.type "str", .type "bytes"]] (.dB b) := fun vs s k ds E => by
  cases ds with
  | cons d1 r =>
  cases r with
  | cons d2 r =>
    cases r
    obtain ⟨a, rfl, ha⟩ := d2
    obtain ⟨t, H, Z, hH, e, hne⟩ := h _ s d1
    exact kia_tup Z (W.at (kGet k)).K hH ha e hne fun tk => ⟨kTok .., rfl⟩

theorem isstring_core (hA : AOk 1 A) (W : Wd w mg mb s₀.heap) {d : D} {b : Bool}
    (h : ∀ (v : Value) (s : Shared), Den s.heap v d → ∃ t H, KitX (KF w) v t H ∧ H s.heap ∧ kitAny (KF w) t [.type "str", .type "bytes"] = some b ∧ v ≠ .builtin "__main__.__loader__#opaque") :
    CallOk prog w A s₀ (.ref 28) [d] (.dB b) := fun vs s k dd E => by
  obtain ⟨pm, hl⟩ := lookIsstring w
  have W1 := W.at (kGet k)
  cases dd with
  | cons dd r =>
    cases r
    rename_i v
    refine plainCall hA.room W1 hl (by kernel_rfl) (binds := [("obj", v)]) (by rfl) (fun x hx => ?_) (by decide) (by rfl) (by rfl) (by rfl) ?_
    · obtain rfl := List.mem_singleton.mp hx
      rfl
    intro s₁ L hL F E'
    have k1 : Keeps s s₁ := InCall.keeps' F
    have W2 := W1.at (kGet k1)
    exact stReturn (rest := []) (d := .dB b) (EV.callB (EV.boot W2 (noIsinstance w) boot_isinstance) (AV.cons (EV.local F.ns rfl (dd.k k1)) (AV.cons (EV.tup (us := [.type "str", .type "bytes"]) (AV.cons (EV.boot W2 (noStr w) boot_str) (AV.cons (EV.boot W2 (noBytes w) boot_bytes) AV.nil)) (by simp)) AV.nil)) (isiTup W2 h)) fun v' s' k' dv => ⟨kTrans k1 k', dv⟩
theorem isstringL (hA : AOk 1 A) (W : Wd w mg mb s₀.heap) {ns : List Int} : CallOk prog w A s₀ (.ref 28) [.dL ns] (.dB false) :=
  isstring_core hA W fun v s d => by
    obtain ⟨a, vs, rfl, ⟨n, e⟩, _⟩ := d
    exact ⟨_, _, kitx_list, ⟨_, e, rfl⟩, by kernel_rfl, by simp⟩
theorem isstringS (hA : AOk 1 A) (W : Wd w mg mb s₀.heap) {x : Str} : CallOk prog w A s₀ (.ref 28) [.dS x] (.dB true) :=
  isstring_core hA W fun v s d => by
    obtain ⟨t, rfl⟩ := d
    exact ⟨_, _, kitx_str, trivial, by kernel_rfl, by simp⟩
theorem isstringY (hA : AOk 1 A) (W : Wd w mg mb s₀.heap) {ks : List Int} : CallOk prog w A s₀ (.ref 28) [.dY ks] (.dB true) :=
  isstring_core hA W fun v s d => by
    obtain ⟨b, t, rfl, _⟩ := d
    exact ⟨_, _, kitx_bytes, trivial, by kernel_rfl, by simp⟩
end
end Mine
end

section
open PySem PySem.W PyProof.Rows
set_option Elab.async false
set_option maxRecDepth 100000
set_option linter.unusedVariables false
namespace Mine

/-! contexts without a code that holds a buffer -/
def badIds : List String := Builtin.Bytes.decodersThatHold ++ ["bytearray.__contains__", "bytearray.__mod__", "bytearray.__rmod__", "_struct.pack_into.held", "bytearray.find.held"]
def cleanCode : Code → Bool
  | .builtin id _ => !badIds.contains id
  | _ => true
def Cln (Γ : Ctx) : Prop := cleanCode Γ.code = true ∧ ∀ x ∈ Γ.below, cleanCode x.1 = true
theorem Cln.enter {Γ : Ctx} (h : Cln Γ) {c : Code} (hc : cleanCode c = true) (hd : Option Value) (p : Pos) : Cln (Γ.enter c hd p) :=
  ⟨hc, fun x hx => by
    rcases List.mem_cons.mp hx with rfl | hx
    · exact h.1
    · exact h.2 x hx⟩
theorem Cln.goto {Γ : Ctx} (h : Cln Γ) {c : Code} (hc : cleanCode c = true) : Cln (Γ.goto c) := ⟨hc, h.2⟩

def wpR {α : Type} (M : Model) (A : Around) (t : Sem α) (Q : α → Shared → Prop) (E : Value → Shared → Prop) (s : Shared) : Prop :=
  ∀ Γ p, Γ.In A → Cln Γ → Sem.wp M Γ t (fun a _ s' => Q a s') (fun e _ s' => E e s') p s
def codeR (M : Model) (A : Around) (c : Code) (R : Result → Shared → Prop) (s : Shared) : Prop :=
  ∀ Γ p, Γ.code = c → Γ.Below A → Cln Γ → wpCode M Γ R p s

section
variable {α β : Type} {M : Model} {A : Around} {E : Value → Shared → Prop} {s : Shared}
theorem rOf {t : Sem α} {Q : α → Shared → Prop} (h : wpAny M A t Q E s) : wpR M A t Q E s := fun Γ p hΓ _ => h Γ p hΓ
theorem rMono {t : Sem α} {Q Q' : α → Shared → Prop} {E' : Value → Shared → Prop} (h : wpR M A t Q E s) (hQ : ∀ a s, Q a s → Q' a s) (hE : ∀ e s, E e s → E' e s) : wpR M A t Q' E' s :=
  fun Γ p hΓ hc => Sem.wp_mono M Γ t (fun a _ s => hQ a s) (fun e _ s => hE e s) p s (h Γ p hΓ hc)
theorem rBind {m : Sem α} {f : α → Sem β} {Q : β → Shared → Prop} (h : wpR M A m (fun a s' => wpR M A (f a) Q E s') E s) : wpR M A (m >>= f) Q E s := fun Γ p hΓ hc => by
  rw [Sem.wp_bind']
  exact Sem.wp_mono M Γ m (fun a p' s' h' => h' Γ p' hΓ hc) (fun _ _ _ h' => h') p s (h Γ p hΓ hc)
/-- the first part at any context, the rest at clean ones -/
theorem rThen {m : Sem α} {f : α → Sem β} {Q : β → Shared → Prop} (h : wpAny M A m (fun a s' => wpR M A (f a) Q E s') E s) : wpR M A (m >>= f) Q E s := rBind (rOf h)
theorem rPure {a : α} {Q : α → Shared → Prop} (h : Q a s) : wpR M A (pure a) Q E s := fun _ _ _ _ => h
theorem rHolding {vs : List Value} {m : Sem α} {Q : α → Shared → Prop} (h : wpR M A m Q E s) : wpR M A (holding vs m) Q E s := fun Γ p hΓ hc => by rw [Sem.wp_holding]; exact h Γ p hΓ hc
theorem rKeep {vs : List Value} {m : Sem α} {Q : α → Shared → Prop} (h : wpR M A m Q E s) : wpR M A (m.keep vs) Q E s := fun Γ p hΓ hc => by rw [Sem.wp_keep]; exact h Γ p hΓ hc
theorem rOnRaise {m : Sem α} {k : Value → Sem Unit} {Q : α → Shared → Prop} (h : wpR M A m Q (fun _ _ => False) s) : wpR M A (m.onRaise k) Q E s := fun Γ p hΓ hc => by
  rw [Sem.wp_onRaise]
  exact Sem.wp_mono M Γ m (fun _ _ _ h' => h') (fun e p' s' h' => h'.elim) p s (h Γ p hΓ hc)
theorem rRun {c : Code} {Q : Flow → Shared → Prop} (hcl : cleanCode c = true) (hc : codeR M (A.mark none) c (fun r s' => match r with | .ok f => Q f s' | .error e => E e s') s) : wpR M A (run c none) Q E s := fun Γ p hΓ hcln => by
  rw [Sem.wp_run]
  exact hc _ p rfl (hΓ.enter c none p (by intro x; cases x)) (hcln.enter hcl none p)
theorem rCall {f : Value} {pos : List Value} {kw : List (Str × Value)} {Q : Value → Shared → Prop}
    (hc : codeR M A (.call f ⟨pos, kw⟩) (fun r s' => match r with | .ok (.ret v) => Q v s' | .ok _ => False | .error e => E e s') s) : wpR M A (call f pos kw) Q E s := fun Γ p hΓ hcln => by
  unfold call
  rw [Sem.wp_runValue]
  exact hc _ p rfl (hΓ.enter (.call f ⟨pos, kw⟩) none p (by intro x; cases x)) (hcln.enter rfl none p)
theorem crMono {c : Code} {R R' : Result → Shared → Prop} (h : codeR M A c R s) (hR : ∀ r s, R r s → R' r s) : codeR M A c R' s := fun Γ p hc hΓ hcln => wpCode_mono hR (h Γ p hc hΓ hcln)
theorem crOf {c : Code} {R : Result → Shared → Prop} (h : codeAny M A c R s) : codeR M A c R s := fun Γ p hc hΓ _ => h Γ p hc hΓ
theorem crTree {c : Code} {R : Result → Shared → Prop}
    (h : wpR M (A.under c) (M.den c) (fun fin s' => match fin with | .done f => R (.ok f) s' | .again c' => c'.quiet = true ∧ cleanCode c' = true ∧ codeR M A c' R s') (fun e s' => R (.error e) s') s) : codeR M A c R s := fun Γ p hc hΓ hcln => by
  rw [wpCode_iff_wp, hc]
  refine Sem.wp_mono M Γ _ (fun fin p' s' h' => ?_) (fun _ _ _ h' => h') p s (h Γ p (hc ▸ hΓ.in) hcln)
  cases fin with
  | done f => exact h'
  | again c' => exact ⟨h'.1, h'.2.2 (Γ.goto c') p' rfl (hΓ.goto c') (hcln.goto h'.2.1)⟩
theorem crLoop {c : Code} {R : Result → Shared → Prop} (hq : c.quiet = true) (hcl : cleanCode c = true) (I : Nat → Shared → Prop)
    (turn : ∀ n s, I n s → wpR M (A.under c) (M.den c) (fun fin s' => match fin with | .done f => R (.ok f) s' | .again c' => (c' = c ∧ ∃ m, m < n ∧ I m s') ∨ (c'.quiet = true ∧ cleanCode c' = true ∧ codeR M A c' R s')) (fun e s' => R (.error e) s') s)
    (n : Nat) (h : I n s) : codeR M A c R s := by
  induction n using Nat.strongRecOn generalizing s with
  | ind n ih =>
    refine crTree (rMono (turn n s h) (fun fin s' hf => ?_) fun _ _ h' => h')
    cases fin with
    | done f => exact hf
    | again c' =>
      rcases hf with ⟨rfl, m, hm, hI⟩ | hf
      · exact ⟨hq, hcl, ih m hm hI⟩
      · exact hf
end

section
variable {prog : Program} {w : World} {A : Around} {E : Value → Shared → Prop} {s : Shared} {env : Env}
theorem rStand {p : Pos} {β : Type} {f : Unit → Sem β} {M : Model} {Q : β → Shared → Prop} (h : wpR M A (f ()) Q E s) : wpR M A (standAt p >>= f) Q E s := rThen (wpAny_standAt h)

theorem rExecs {st : Stmt} {rest : List Stmt} {Q : Flow → Shared → Prop} (h : wpR (model prog w) A (exec st env) (fun f s' => match f with | .next => wpR (model prog w) A (execs rest env) Q E s' | f => Q f s') E s) :
    wpR (model prog w) A (execs (st :: rest) env) Q E s := by
  rw [execs_cons]
  refine rBind (rMono h (fun f s' h' => ?_) fun _ _ e => e)
  cases f with
  | next => exact h'
  | brk => exact rPure h'
  | cont => exact rPure h'
  | ret v => exact rPure h'
/-- one statement by the rules for all contexts -/
theorem rStmt {st : Stmt} {rest : List Stmt} {Q : Flow → Shared → Prop} (h : wpAny (model prog w) A (execs [st] env) (fun f s' => match f with | .next => wpR (model prog w) A (execs rest env) Q E s' | f => Q f s') E s) :
    wpR (model prog w) A (execs (st :: rest) env) Q E s := by
  refine rExecs (rOf ?_)
  intro Γ p hΓ
  have h' := h Γ p hΓ
  rw [execs_cons, Sem.wp_bind'] at h'
  refine Sem.wp_mono _ Γ _ (fun f p' s' q => ?_) (fun _ _ _ q => q) p s h'
  cases f with
  | next => exact q
  | brk => exact q
  | cont => exact q
  | ret v => exact q

theorem rFor {target iter : Expr} {body rest : List Stmt} {pos : Pos} {Q : Flow → Shared → Prop}
    (h : wpAny (model prog w) A (eval iter env) (fun x s₁ => wpAny (model prog w) A (pyIter x) (fun it s₂ =>
      codeR (model prog w) A (.forLoop target it body [] env) (fun r s' => match r with | .ok .next => wpR (model prog w) A (execs rest env) Q E s' | .ok f => Q f s' | .error _ => False) s₂) E s₁) E s)
    (hs : ∀ x, foldedSetIterable iter env x = pure x := by intro _; rfl) : wpR (model prog w) A (execs (.For target iter body [] pos :: rest) env) Q E s := by
  refine rExecs ?_
  rw [exec_For]
  refine rStand (rThen (wpAny_mono h (fun x s₁ h₁ => ?_) fun _ _ e => e))
  refine rThen (wpAny_of_eq (hs x) (rStand (rThen (wpAny_holding (wpAny_mono h₁ (fun it s₂ h₂ => ?_) fun _ _ e => e)))))
  unfold runOwn
  refine rOnRaise (rRun rfl ?_)
  have hm : A.mark none = A := by cases A; simp [Around.mark]
  rw [hm]
  refine crMono h₂ fun r s' hr => ?_
  cases r with
  | error e => exact hr
  | ok f => cases f <;> exact hr
theorem crForLoop {target : Expr} {it : Value} {body : List Stmt} {R : Result → Shared → Prop} (I : Nat → Shared → Prop)
    (turn : ∀ n s, I n s → wpAny (model prog w) A (pyNext it) (fun r s₁ => match r with
      | none => R (.ok .next) s₁
      | some v => wpAny (model prog w) A (assign target env v) (fun _ s₂ => wpR (model prog w) A (execs body env) (fun f s₃ => f = .next ∧ ∃ m, m < n ∧ I m s₃) (fun _ _ => False) s₂) (fun _ _ => False) s₁) (fun _ _ => False) s)
    (n : Nat) (h : I n s) (ht : ∀ v, letOwnedTupleGo target it v = pure () := by intro _; rfl) : codeR (model prog w) A (.forLoop target it body [] env) R s := by
  refine crLoop rfl rfl I (fun n s hI => ?_) n h
  show wpR _ _ ((forTurn target it body [] env).onRaise (fun x => do noteFrame x env; theTreesLotGoes x)) _ _ s
  refine rOnRaise ?_
  simp only [forTurn]
  refine rStand (rThen (wpAny_onRaise (wpAny_mono (turn n s hI) (fun r s₁ h₁ => ?_) fun _ _ h' => h'.elim)))
  cases r with
  | none => exact rPure (.inr ⟨rfl, rfl, crOf (codeAny_block (wpAny_execs_nil h₁))⟩)
  | some v =>
    refine rThen (wpAny_of_eq (ht v) (rThen (wpAny_mono h₁ (fun _ s₂ h₂ => rBind (rMono h₂ (fun f s₃ h₃ => ?_) fun _ _ e => e)) fun _ _ e => e)))
    obtain ⟨rfl, h₃⟩ := h₃
    exact rPure (.inl ⟨rfl, h₃⟩)
end
end Mine
end

section
open PySem PySem.W PyProof.Rows
set_option Elab.async false
set_option maxRecDepth 100000
set_option linter.unusedVariables false
namespace Mine
section
variable {prog : Program} {w : World} {A : Around} {E : Value → Shared → Prop} {s : Shared} {env : Env}

theorem crFunc {body : List Stmt} {R : Result → Shared → Prop}
    (h : wpR (model prog w) (A.deeper env) (execs body env) (fun f s' => R (.ok (.ret (match f with | .ret v => v | _ => .none))) s') (fun _ _ => False) s) : codeR (model prog w) A (.func body env) R s := by
  refine crTree ?_
  show wpR _ (A.deeper env) (do point; match ← (execs body env).onRaise (leaving env) with | .ret v => ret v | _ => ret .none) _ _ s
  refine rThen (wpAny_point (rBind (rOnRaise (rMono h (fun f s' h' => ?_) fun _ _ e => e))))
  cases f <;> exact rPure h'
theorem crCall {a : Addr} {args : Args} {o : Obj} {fd : FuncData} {body : List Stmt} {R : Result → Shared → Prop} (hroom : A.depth < recursionLimit) (ho : s.heap.get? a = some o) (hd' : o.data = .func fd)
    (hco : fd.scope.isCoroutine = false) (hgen : fd.scope.isGenerator = false) (hbody : fd.body = .stmts body) (hcd : s.heap.CodeRec fd.code fd.qualname)
    (h : wpAny (model prog w) A.in1 (bindArgs fd args) (fun binds s₁ =>
      wpAny (model prog w) A.in1 (newFunctionEnv fd.scope fd.globals fd.closure binds (fd.qualname ++ ".<locals>.") (some a) fd.code none fd.builtins)
        (fun env s₂ => s₂.heap.NoLimit ∧ codeR (model prog w) A (.func body env) R s₂) (fun e s' => R (.error e) s') s₁) (fun e s' => R (.error e) s') s) :
    codeR (model prog w) A (.call (.ref a) args) R s := by
  refine crTree (rOf ?_)
  show wpAny _ A.in1 (callAny (.ref a) args) _ _ s
  simp only [callAny]
  refine wpAny_bind (wpAny_load ho ?_)
  obtain ⟨c, oc, vs, tq, hc, hoc, hdc, hq⟩ := hcd
  simp only [hd', callFunction, hco, hgen, hbody, hc]
  rw [hc] at h
  refine wpAny_bind (m := field (.ref c) 1) (wpAny_field hoc hdc hq (wpAny_bind (wpAny_pure ?_)))
  refine wpAny_bind (wpAny_mono h (fun binds s₁ h₁ => wpAny_bind (wpAny_mono h₁ (fun env s₂ h₂ => ?_) fun _ _ e => e)) fun _ _ e => e)
  exact wpAny_bind (wpAny_enterFrame h₂.1 hroom (wpAny_pure ⟨rfl, rfl, h₂.2⟩))

/-- a call of a def of the text, its own names plain -/
theorem rPlainCall {mg mb : Str → Option Value} {a c : Addr} {name : Str} {i : Nat} {pm : Value} {vs : List Value} {binds : List (Str × Value)} {Q : Value → Shared → Prop}
    (hA : A.depth < recursionLimit) (W : Wd w mg mb s.heap) (hl : (KF w).lookup a = some (fnObj name i pm c)) (hc : codeIn (KF w) (.ref c) name = true)
    (hb : bindArgs (fdI name i pm c) ⟨vs, []⟩ = pure binds) (hloc : ∀ x ∈ binds, (sScope (fnSt i)).names.lookup x.1 = some .local) (hcell : ∀ x ∈ (sScope (fnSt i)).names, x.2 ≠ .cell)
    (hco : (sScope (fnSt i)).isCoroutine = false) (hgen : (sScope (fnSt i)).isGenerator = false) (hk : (sScope (fnSt i)).kind = .function)
    (h : ∀ s₁ L, L = s.heap.objs.size → InCall s L (fun x => binds.reverse.lookup x) s₁ →
      wpR (model prog w) (A.deeper (callEnv (fdI name i pm c) L a)) (execs (sBody (fnSt i)) (callEnv (fdI name i pm c) L a)) (fun f s' => Q (match f with | .ret v => v | _ => .none) s') (fun _ _ => False) s₁) :
    wpR (model prog w) A (call (.ref a) vs) Q E s := by
  refine rCall (crCall (fd := fdI name i pm c) hA (W.K _ _ hl) rfl hco hgen rfl (codeRec_of W.K hc) (wpAny_of_eq hb ?_))
  refine wpAny_newFunctionEnv hcell hloc (fun h₀ hns₀ hsb₀ => ⟨W.lim.fresh _ hsb₀, crFunc (h _ _ rfl ⟨⟨h₀, _, rfl⟩, hns₀, fun b o e => ?_, Nat.le_refl _⟩)⟩) hk
  exact hsb₀.extBut b o (Nat.ne_of_lt (Heap.lt_size e)) (Heap.get?_push_of_some _ e)

/-- an assignment whose value is a call of a def -/
theorem rAssignCall {x : Str} {px pos cpos : Pos} {f e : Expr} {args : List Expr} {rest : List Stmt} {a : Addr} {o : Obj} {fd : FuncData} {ds : List D} {Q : Flow → Shared → Prop} {s₀ : Shared} {m : Str → Option Value} {d : D}
    (F : InCall s₀ env.locals m s) (hf : EV prog w A env s f (.dV (.ref a))) (ha : AV prog w A env s cpos (e :: args) ds) (ho : s.heap.get? a = some o) (hd : o.data = .func fd)
    (hc : ∀ vs s₁, Keeps s s₁ → DenL s₁.heap vs ds → wpR (model prog w) A (call (.ref a) vs) (fun v s₂ => Keeps s₁ s₂ ∧ Den s₂.heap v d) E s₁)
    (k : ∀ v s', InCall s₀ env.locals (upd m x v) s' → TrB [] s.heap s'.heap → Cs s.heap s'.heap → Den s'.heap v d → wpR (model prog w) A (execs rest env) Q E s')
    (hcall : eval (.Call f (e :: args) [] cpos) env = (do callWith cpos (← eval f env) [] (backTo cpos (starEach (e :: args) env)) (backToKw cpos (keywordEach [] env))) := by rfl)
    (he : starEach (e :: args) env = (false, eval e env) :: starEach args env := by rfl) (hp : (backTo cpos (starEach args env)).any (·.1) = false := by rfl) (hn : (decide ((backTo cpos (starEach (e :: args) env)).length + 2 * ([] : List (Option Str × Sem Value)).length > 30)) = false := by rfl)
    (hs : swapsWith (.Call f (e :: args) [] cpos) (some (.Name x px)) pos.line env = pure false := by rfl) (hx : env.kindOf x = some .local := by rfl)
    (hpk : (env.scope.kind == .class || (env.scope.kind == .module && env.locals != env.globals)) = false := by rfl) :
    wpR (model prog w) A (execs (.Assign [.Name x px] (.Call f (e :: args) [] cpos) pos :: rest) env) Q E s := by
  refine rExecs ?_
  rw [exec_Assign_Name env x px _ pos hs, hcall, show backToKw cpos (keywordEach [] env) = [] from rfl]
  refine rStand (rBind (rThen (hf.go (kRefl _) fun v s₁ k₁ dv => ?_)))
  obtain rfl := dv
  unfold callWith
  refine rThen (wpAny_holding ?_)
  have hev : ∀ Q' : Args → Shared → Prop, (∀ vs s₂, Keeps s₁ s₂ → DenL s₂.heap vs ds → Q' ⟨vs, []⟩ s₂) → wpAny (model prog w) A (evalArgs (.ref a) true (backTo cpos (starEach (e :: args) env)) []) Q' E s₁ := fun Q' hQ => by
    rw [he]
    refine Calls.evalArgs_plain ?_
    have := ha s₁ k₁ E
    rw [he] at this
    exact wpAny_mono this (fun vs s₂ q => hQ vs s₂ q.1 q.2) fun _ _ e => e
  refine hev _ fun vs s₂ k₂ dvs => rStand ?_
  have k12 := kTrans k₁ k₂
  have hstar : ((backTo cpos (starEach (e :: args) env)).any (·.1) || ([] : List (Option Str × Sem Value)).any (·.1.isNone)) = false := by
    rw [he]
    show ((false || (backTo cpos (starEach args env)).any (·.1)) || false) = false
    rw [hp]; rfl
  have tail : wpR (model prog w) A (call (.ref a) vs) (fun r s₃ => wpR (model prog w) A (holding [r] point >>= fun _ => pure r) (fun v s₄ => wpR (model prog w) A (do standAt px; bindName env x v; pure Flow.next) (fun f s' => match f with | .next => wpR (model prog w) A (execs rest env) Q E s' | f => Q f s') E s₄) E s₃) E s₂ := by
    refine rMono (hc vs s₂ k12 dvs) (fun v s₃ q => ?_) fun _ _ e => e
    have k13 := kTrans k12 q.1
    refine rThen (wpAny_holding (wpAny_point (rPure (rStand (rThen (wpAny_bindName (wpAny_storeName_local hx (F.ns.keeps (kGet k13)) (fun h' hn hsb => ?_) hpk)))))))
    have tr := trSame (F.ns.keeps (kGet k13)) hsb
    exact rPure (k v _ (inCallSet (inCallK F k13) hn hsb) ((trOf (kGet k13)).trans tr) ((csOf (kGet k13)).trans (csSame (F.ns.keeps (kGet k13)) hsb)) (q.2.tr tr))
  have hlen : ¬ ((backTo cpos (starEach (e :: args) env)).length + 2 * ([] : List (Option Str × Sem Value)).length > 30) := by simpa using hn
  simp only [hstar]
  refine rThen (m := keeperOf (.ref a)) ?_
  unfold keeperOf
  refine wpAny_bind (wpAny_load (kGet k12 _ _ ho) ?_)
  rw [hd]
  refine wpAny_pure ?_
  simp only [hlen, if_false, List.nil_append]
  refine rBind ?_
  unfold callMarked
  exact rKeep tail
end
end Mine
end

section
open PySem PySem.W PyProof.Rows
set_option Elab.async false
set_option maxRecDepth 100000
set_option linter.unusedVariables false
namespace Mine
namespace BA
theorem mro : mroOf (.type "bytearray") = pure [.type "bytearray", .type "object"] := by rw [mroOf_type]; kernel_rfl
theorem lnew : typeLookup (.type "bytearray") "__new__" = pure (some (.builtin "bytearray.__new__")) := by rw [typeLookup_type, builtinLookup_eq_fast]; kernel_rfl
theorem slot_init : Slot "bytearray" "__init__" "bytearray.__init__" :=
  .of (owner := "bytearray") (n := "__init__") (by rw [typeLookup_type, builtinLookup_eq_fast]; kernel_rfl) (by decide +kernel) (by decide +kernel) (by decide +kernel)
    (by first | exact .inl (by decide +kernel) | exact .inr (by decide +kernel)) (by rw [isSubtype_type]; kernel_rfl)
theorem sub : isSubtype (.type "bytearray") (.type "bytearray") = pure true := by rw [isSubtype_type]; kernel_rfl
theorem called : TypeCalled "bytearray" "bytearray.__new__" "bytearray.__init__" :=
  ⟨by decide +kernel, by decide +kernel, ⟨_, _, mro⟩, madeBy_type mro lnew (by decide +kernel), by decide +kernel, sub, slot_init⟩
theorem typeCall (a : Value) : checkTypeCall "bytearray" ⟨[a], []⟩ = pure () := by kernel_rfl
theorem newCall (a : Value) : checkBuiltinCall "bytearray.__new__" ⟨[.type "bytearray", a], []⟩ = pure () := by kernel_rfl
theorem entry_new : entryFor table "bytearray.__new__" = some Builtin.«list.__new__» :=
  entryFor_alias (id' := "list.__new__") (by kernel_rfl) (by first | rfl | decide +kernel) (by decide +kernel) (by kernel_rfl)
theorem entry_init : entryFor table "bytearray.__init__" = some Builtin.«bytearray.__init__» := entryFor_of_tree (by kernel_rfl)
theorem plain_new : plainId "bytearray.__new__" = true := by decide +kernel
theorem args_init (a b : Value) : argsOk "bytearray.__init__" ⟨[a, b], []⟩ := by
  first | kernel_rfl | exact (by decide +kernel) | (unfold argsOk; kernel_rfl) | (unfold argsOk; trivial)
set_option maxRecDepth 1000000 in
set_option maxHeartbeats 4000000 in
theorem owner_new : ("bytearray.__new__".splitOn ".__new__").headD "" = "bytearray" := by simp +decide [String.splitOn, String.splitOnAux]
theorem bind (v : Value) : Builtin.Bytes.bindOptional "bytearray.__init__" "bytearray" ["source", "encoding", "errors"] [v] [] = pure [some v, none, none] := by kernel_rfl
theorem release : typeLookup (.type "bytearray") "__release_buffer__" = pure (some (.builtin "bytearray.__release_buffer__")) := by rw [typeLookup_type, builtinLookup_eq_fast]; kernel_rfl
theorem lbuffer : typeLookup (.type "bytearray") "__buffer__" = pure (some (.builtin "bytearray.__buffer__")) := by rw [typeLookup_type, builtinLookup_eq_fast]; kernel_rfl
theorem noBytes : typeLookup (.type "bytearray") "__bytes__" = pure none := by rw [typeLookup_type, builtinLookup_eq_fast]; kernel_rfl
theorem noIndex : typeLookup (.type "bytearray") "__index__" = pure none := by rw [typeLookup_type, builtinLookup_eq_fast]; kernel_rfl
theorem drop_release : ("bytearray.__release_buffer__" : String).dropRight ("__release_buffer__".length + 1) = "bytearray" := by decide +kernel
theorem ends_release : ("bytearray.__release_buffer__" : String).endsWith ("." ++ "__release_buffer__") = true := by decide +kernel
end BA
section
variable {prog : Program} {w : World} {A : Around} {E : Value → Shared → Prop} {s : Shared}
theorem code_ba_new (a : Value) {Q₁ : Value → Shared → Prop}
    (h : Q₁ (.ref s.heap.objs.size) { s with heap := s.heap.push { cls := .type "bytearray", data := .bytearray #[] } }) :
    codeAny (model prog w) A (.call (.builtin "bytearray.__new__") ⟨[.type "bytearray", a], []⟩) (wants Q₁ E) s := by
  refine codeAny_of_tree ?_
  show wpAny _ A.in1 (do checkBuiltinCall "bytearray.__new__" ⟨[.type "bytearray", a], []⟩; again (.builtin "bytearray.__new__" ⟨[.type "bytearray", a], []⟩)) _ _ s
  refine wpAny_bind (wpAny_of_eq (BA.newCall a) (wpAny_pure ⟨plainId_quiet BA.plain_new _, codeAny_builtin_stack BA.entry_new rfl fun p st => ?_⟩))
  rw [Around.under_plainId BA.plain_new _]
  have hsub := BA.sub
  have hown := BA.owner_new
  obtain ⟨hp, g, d, tk, os⟩ := s
  simp only [hown]
  wp_walk
  exact h

theorem rExported {M : Model} {self : Value} {Q : Bool → Shared → Prop} (h : Q false s) : wpR M A (Builtin.Bytes.exported self) Q E s := fun Γ p hΓ hc => by
  unfold Builtin.Bytes.exported
  show Sem.wp M Γ (Sem.bind stack _) _ _ p s
  unfold stack
  rw [Sem.wp_bind, Sem.wp_stack, Sem.wp_pure]
  have hcl : ∀ x ∈ ((Γ.code, p) :: Γ.below : List (Code × Pos)), cleanCode x.1 = true := by
    intro x hx
    rcases List.mem_cons.mp hx with rfl | hx
    · exact hc.1
    · exact hc.2 x hx
  show Sem.wp M Γ (pure (List.any ((Γ.code, p) :: Γ.below) _)) _ _ p s
  have : ∀ f : Code × Pos → Bool, (∀ x, cleanCode x.1 = true → f x = false) → List.any ((Γ.code, p) :: Γ.below) f = false := fun f hf =>
    List.any_eq_false.mpr fun x hx => by rw [hf x (hcl x hx)]; decide
  rw [this]
  · exact h
  · rintro ⟨c, q⟩ hx
    dsimp only at hx ⊢
    split
    all_goals first | rfl | skip
    all_goals (rename_i heq; obtain ⟨rfl, rfl⟩ := Prod.mk.inj heq)
    all_goals simp only [cleanCode, badIds, Bool.not_eq_true', List.contains_eq_any_beq, List.any_append, Bool.or_eq_false_iff] at hx
    all_goals first | exact absurd hx.2 (by decide +kernel) | skip
    rw [List.contains_eq_any_beq, hx.1, Bool.and_false]
theorem typeBA {a : Addr} {b : Array UInt8} (h : s.heap.get? a = some { cls := .type "bytearray", data := .bytearray b }) : s.TypeIs (.ref a) "bytearray" := ⟨_, h, rfl⟩
theorem aOwnRelease {M : Model} {a : Addr} {b : Array UInt8} {Q : Bool → Shared → Prop} (h : s.heap.get? a = some { cls := .type "bytearray", data := .bytearray b }) (hQ : Q false s) : wpAny M A (Builtin.Bytes.ownRelease (.ref a)) Q E s := by
  unfold Builtin.Bytes.ownRelease Builtin.Bytes.slotIsOwn
  refine wpAny_bind (wpAny_bind (wpAny_specialOf (typeBA h) BA.release ?_))
  dsimp only
  rw [BA.ends_release, BA.drop_release]
  exact wpAny_isInstance (typeBA h) BA.sub (wpAny_pure hQ)
theorem aWrite {M : Model} {a : Addr} {b : Array UInt8} {f : Array UInt8 → Array UInt8} {Q : Unit → Shared → Prop} (h : s.heap.get? a = some { cls := .type "bytearray", data := .bytearray b }) (hz : (f b).size ≤ sizeLine)
    (hQ : ∀ h', h'.get? a = some { cls := .type "bytearray", data := .bytearray (f b) } → s.heap.SameBut a h' → Q () { s with heap := h' }) : wpAny M A (Builtin.Bytes.write (.ref a) f) Q E s := by
  show wpAny _ _ (updateBytearray a f) _ _ _
  unfold updateBytearray
  refine wpAny_bind (wpAny_load h ?_)
  show wpAny _ _ (update a (Obj.mapBytearray f) >>= fun _ => lookBehind a) _ _ _
  refine wpAny_bind (wpAny_update h ?_)
  have h2 : (s.heap.update a (Obj.mapBytearray f)).get? a = some { cls := .type "bytearray", data := .bytearray (f b) } := Heap.get?_update_self (Obj.mapBytearray f) h rfl
  refine wpAny_lookBehind h2 ?_ (hQ _ h2 (Heap.SameBut.update ..))
  show (if (f b).size > sizeLine then some "bytearray:memory" else none) = none
  rw [if_neg (by omega)]
end
end Mine
end

section
open PySem PySem.W PyProof.Rows
set_option Elab.async false
set_option maxRecDepth 100000
set_option linter.unusedVariables false
namespace Mine
section
variable {prog : Program} {w : World} {A : Around} {E : Value → Shared → Prop} {s : Shared}
theorem rIfF {α : Type} {M : Model} {c : Bool} {a b : Sem α} {Q : α → Shared → Prop} (hc : c = false) (h : wpR M A b Q E s) : wpR M A (if c = true then a else b) Q E s := by
  subst hc
  exact h
theorem rIfT {α : Type} {M : Model} {c : Bool} {a b : Sem α} {Q : α → Shared → Prop} (hc : c = true) (h : wpR M A a Q E s) : wpR M A (if c = true then a else b) Q E s := by
  subst hc
  exact h
theorem crBuiltin {id : String} {args : Args} {b : Builtin} {R : Result → Shared → Prop} (hb : entryFor table id = some b)
    (h : wpR (model prog w) (A.under (.builtin id args)) (b args)
      (fun fin s' => match fin with | .done f => R (.ok f) s' | .again c' => c'.quiet = true ∧ cleanCode c' = true ∧ codeR (model prog w) A c' R s') (fun e s' => R (.error e) s') s) :
    codeR (model prog w) A (.builtin id args) R s := by
  refine crTree ?_
  show wpR _ _ (match entryFor table id with | some b => b args | none => unsupported ((withoutEnding? id "#data").getD id)) _ _ s
  rw [hb]; exact h
theorem rSpecialSlot {M : Model} {self : Value} {T : String} {name : Str} {id : String} {args : List Value} {kw : List (Str × Value)}
    {Q : Option Value → Shared → Prop} (hT : s.TypeIs self T) (h : Slot T name id)
    (hc : wpR M A (call (.builtin id) (self :: args) kw) (fun v => Q (some v)) E s) : wpR M A (callSpecial? self name args kw) Q E s := by
  simp only [callSpecial?]
  refine rThen (wpAny_specialOf hT h.lookup ?_)
  simp only [h.bind]
  exact rHolding (rThen (wpAny_pure (rBind (rMono hc (fun v s' h' => rPure h') fun _ _ h' => h'))))
theorem stepGen {α β : Type} {M : Model} {m : Sem α} {k : α → Sem β} {Q : β → Shared → Prop} {s' : Shared} {r : α} (hm : ∀ Q : α → Shared → Prop, Q r s' → wpAny M A m Q E s) (h : wpAny M A (k r) Q E s') : wpAny M A (m >>= k) Q E s := wpAny_bind (hm _ h)
/-- the init itself, at the object just made -/
theorem rInit {a : Addr} {n : Nat} {t : Tok} {R : Fin → Shared → Prop} (h : s.heap.get? a = some { cls := .type "bytearray", data := .bytearray #[] }) (hn : 0 < n) (hz : n ≤ sizeLine)
    (hR : ∀ h', h'.get? a = some { cls := .type "bytearray", data := .bytearray (Array.replicate n 0) } → s.heap.SameBut a h' → R (.done (.ret .none)) { s with heap := h' }) :
    wpR (model prog w) A (Builtin.«bytearray.__init__» ⟨[.ref a, .int (n : Int) t], []⟩) R E s := by
  unfold Builtin.«bytearray.__init__»
  refine rThen (aOwnRelease h ?_)
  refine rIfF rfl ?_
  refine rThen (wpAny_of_eq (BA.bind _) ?_)
  refine rThen (wpAny_of_eq (a := ()) rfl ?_)
  refine rThen (wpAny_of_eq (a := ()) rfl ?_)
  refine rBind (rBind (rExported ?_))
  refine rOf ?_
  show wpAny _ _ (Builtin.Bytes.exportsOf (.ref a) >>= _) _ _ _
  unfold Builtin.Bytes.exportsOf
  refine wpAny_bind (wpAny_bind (wpAny_load h (wpAny_pure (wpAny_pure ?_))))
  refine rOf ?_
  refine bm_if_false rfl ?_
  refine wpAny_bind (aWrite h (by simp) fun h₁ g₁ e₁ => ?_)
  show wpAny _ _ (asStr? (.int (n : Int) t) >>= _) _ _ _
  have has : asStr? (.int (n : Int) t) = pure none := by unfold asStr? notAStandIn; rfl
  refine wpAny_bind ?_
  rw [has]
  refine wpAny_pure ?_
  show wpAny _ _ (if (none : Option PySem.Str).isSome = true then _ else _) _ _ _
  rw [if_neg (by simp)]
  refine wpAny_bind ?_
  rw [show (none : Option Value).isSome = false from rfl]
  simp only [Bool.false_eq_true, if_false]
  refine wpAny_pure ?_
  have hsp : wpAny (model prog w) A (specialOf (.int (n : Int) t) (Str.ofString "__index__")) (fun r s' => r = some (.builtin "int.__index__") ∧ s' = { s with heap := h₁ }) E { s with heap := h₁ } :=
    wpAny_specialOf (name := Str.ofString "__index__") (typeIs_int _ _ _) F.slot_int_index.lookup ⟨rfl, rfl⟩
  generalize specialOf (.int (n : Int) t) (Str.ofString "__index__") = m at *
  refine wpAny_bind (wpAny_mono hsp (fun r s' q => ?_) fun _ _ e => e)
  obtain ⟨rfl, rfl⟩ := q
  rw [if_pos (by rfl)]
  have hsi : wpAny (model prog w) A (asIndex (.int (n : Int) t)).attempt (fun r s' => r = .ok (n : Int) ∧ s' = { s with heap := h₁ }) E { s with heap := h₁ } :=
    wpAny_attempt (wpAny_of_eq (rfl : asIndex (.int (n : Int) t) = pure (n : Int)) ⟨rfl, rfl⟩)
  generalize (asIndex (.int (n : Int) t)).attempt = m2 at *
  refine wpAny_bind (wpAny_mono hsi (fun r s' q => ?_) fun _ _ e => e)
  obtain ⟨rfl, rfl⟩ := q
  dsimp only
  have hsl : sizeLine < 2 ^ 62 := by decide +kernel
  have hfit : Builtin.Bytes.fitsIndex (n : Int) = true := by
    unfold Builtin.Bytes.fitsIndex
    simp only [Bool.and_eq_true, decide_eq_true_eq]
    omega
  have hlt : ¬ ((n : Int) < 0) := by omega
  have hmax : ((n : Int) == 2 ^ 63 - 1) = false := by
    rw [beq_eq_false_iff_ne]; omega
  have htl : Builtin.Bytes.tooLong (n : Int).toNat = false := by unfold Builtin.Bytes.tooLong; simp; omega
  have hgt : (n : Int) > 0 := by omega
  simp only [hfit, hlt, hmax, htl, hgt, Bool.not_true, Bool.false_eq_true, if_false, if_true]
  refine wpAny_bind (wpAny_rule ?_)
  refine wpAny_bind (aWrite g₁ (by simp; omega) fun h₂ g₂ e₂ => ?_)
  refine wpAny_pure (hR h₂ ?_ ⟨e₂.1.trans e₁.1, fun b hb => (e₂.2 b hb).trans (e₁.2 b hb)⟩)
  simpa using g₂
theorem rCallBA {n : Nat} {t : Tok} {Q : Value → Shared → Prop} (hn : 0 < n) (hz : n ≤ sizeLine)
    (hQ : ∀ h', h'.get? s.heap.objs.size = some { cls := .type "bytearray", data := .bytearray (Array.replicate n 0) } → (∀ b o, s.heap.get? b = some o → h'.get? b = some o) → Q (.ref s.heap.objs.size) { s with heap := h' }) :
    wpR (model prog w) A (call (.type "bytearray") [.int (n : Int) t]) Q E s := by
  refine rCall (crTree ?_)
  show wpR _ _ (callAny (.type "bytearray") _) _ _ _
  refine rPure ⟨Code.quiet_builtin _ (by decide +kernel), rfl, crBuiltin F.entry_type_call ?_⟩
  rw [Around.under_plain (weight_type_call_type "bytearray" [.int (n : Int) t] []) rfl]
  unfold Builtin.«type.__call__»
  refine rIfF BA.called.notType ?_
  refine rIfF BA.called.canCreate ?_
  refine rThen (wpAny_of_eq (BA.typeCall _) ?_)
  refine rThen (wpAny_of_eq BA.mro ?_)
  refine rIfF rfl ?_
  refine rThen (wpAny_of_eq BA.called.made ?_)
  refine rThen (wpAny_pure ?_)
  refine rThen (wpAny_holding (wpAny_call (codeAny_mono (code_ba_new _ (Q₁ := fun v s' => v = .ref s.heap.objs.size ∧ s' = { s with heap := s.heap.push { cls := .type "bytearray", data := .bytearray #[] } }) (E := fun _ _ => False) ⟨rfl, rfl⟩) fun r s₁ hr => ?_)))
  have hS : (s.heap.push { cls := .type "bytearray", data := .bytearray #[] }).get? s.heap.objs.size = some { cls := .type "bytearray", data := .bytearray #[] } := Heap.get?_push_size _ rfl
  cases r with
  | error e => exact hr.elim
  | ok fl =>
    cases fl with
    | ret obj =>
      obtain ⟨rfl, rfl⟩ := hr
      refine rThen (wpAny_isInstance ⟨_, hS, rfl⟩ BA.sub ?_)
      refine rIfF rfl ?_
      refine rBind (rHolding (rSpecialSlot (T := "bytearray") (name := Str.ofString "__init__") ⟨_, hS, rfl⟩ BA.slot_init (rCall (crTree ?_))))
      show wpR _ _ (do checkBuiltinCall "bytearray.__init__" ⟨[.ref s.heap.objs.size, .int (n : Int) t], []⟩; again (.builtin "bytearray.__init__" ⟨[.ref s.heap.objs.size, .int (n : Int) t], []⟩)) _ _ _
      refine rThen (BA.slot_init.check _ _ _ _ _ _ _ _ ⟨_, hS, rfl⟩ (BA.args_init _ _) (rPure ⟨plainId_quiet BA.slot_init.plain _, rfl, crBuiltin BA.entry_init ?_⟩))
      rw [Around.under_plainId BA.slot_init.plain _]
      refine rInit hS hn hz fun h' g' e' => ?_
      refine rIfF rfl ?_
      refine rPure (hQ h' g' fun b o e => ?_)
      rw [e'.2 b (Nat.ne_of_lt (Heap.lt_size e))]
      exact Heap.get?_push_of_some _ e
    | _ => exact hr.elim
end
end Mine
end

section
open PySem PySem.W PyProof.Rows
set_option Elab.async false
set_option maxRecDepth 100000
set_option linter.unusedVariables false
namespace Mine
namespace BA
theorem slot_setitem : Slot "bytearray" "__setitem__" "bytearray.__setitem__" :=
  .of (owner := "bytearray") (n := "__setitem__") (by rw [typeLookup_type, builtinLookup_eq_fast]; kernel_rfl) (by decide +kernel) (by decide +kernel) (by decide +kernel)
    (by first | exact .inl (by decide +kernel) | exact .inr (by decide +kernel)) (by rw [isSubtype_type]; kernel_rfl)
theorem entry_setitem : entryFor table "bytearray.__setitem__" = some Builtin.«bytearray.__setitem__» := entryFor_of_tree (by kernel_rfl)
theorem args_setitem (a b c : Value) : argsOk "bytearray.__setitem__" ⟨[a, b, c], []⟩ := by
  first | kernel_rfl | exact (by decide +kernel) | (unfold argsOk; kernel_rfl) | (unfold argsOk; trivial)
end BA
section
variable {prog : Program} {w : World} {A : Around} {E : Value → Shared → Prop} {s : Shared}
theorem baSet {l : Addr} {b : Array UInt8} {k n : Int} {t u : Tok} {Q : Unit → Shared → Prop} (ho : s.heap.get? l = some { cls := .type "bytearray", data := .bytearray b }) (h0 : 0 ≤ k) (hn : k < b.size) (hb : b.size ≤ 1000) (hv : 0 ≤ n ∧ n < 256)
    (hQ : ∀ h', h'.get? l = some { cls := .type "bytearray", data := .bytearray (b.setIfInBounds k.toNat n.toNat.toUInt8) } → s.heap.SameBut l h' → Q () { s with heap := h' }) : wpAny (model prog w) A (setItem (.ref l) (.int k t) (.int n u)) Q E s := by
  have hT := typeBA ho
  unfold setItem
  try with_reducible refine wpAny_holding ?_
  first | refine wpAny_bind (wpAny_pure ?_) | skip
  refine wpAny_bind (wpAny_sequenceKey hT (by decide) ?_)
  refine wpAny_bind (wpAny_callSpecial?_slot (name := Str.ofString "__setitem__") hT BA.slot_setitem
    (wpAny_call_entry BA.slot_setitem hT BA.entry_setitem ?_ (BA.args_setitem _ _ _)))
  unfold Builtin.«bytearray.__setitem__»
  refine bm_if_false rfl ?_
  refine wpAny_bind ?_
  unfold Builtin.Bytes.subscript?
  refine wpAny_bind (wpAny_specialOf (name := Str.ofString "__index__") (typeIs_int _ _ _) F.slot_int_index.lookup ?_)
  refine bm_if_false rfl ?_
  refine wpAny_bind (wpAny_of_eq (rfl : asIndex (.int k t) = pure k) ?_)
  have hfit : Builtin.Bytes.fitsIndex k = true := by
    unfold Builtin.Bytes.fitsIndex
    simp only [Bool.and_eq_true, decide_eq_true_eq]
    omega
  refine bm_if_false (by rw [hfit]; rfl) ?_
  refine wpAny_pure ?_
  refine wpAny_bind ?_
  unfold Builtin.Bytes.byteValue
  refine wpAny_bind (wpAny_of_eq (rfl : asIndex (.int n u) = pure n) ?_)
  refine bm_if_false (by simp only [Bool.or_eq_false_iff, decide_eq_false_iff_not]; omega) ?_
  refine wpAny_pure ?_
  refine wpAny_bind ?_
  unfold Builtin.Bytes.payload Builtin.Bytes.payload?
  refine wpAny_bind (wpAny_bind (wpAny_load ho (wpAny_pure (wpAny_pure ?_))))
  have hsi : seqIndex? k b.size = some k.toNat := seqIndex_of h0 hn
  rw [hsi]
  refine wpAny_bind (aWrite ho (by simp only [Array.size_setIfInBounds]; rw [sizeLine_eq]; omega) fun h' g' e' => ?_)
  first
    | exact wpAny_bind (wpAny_pure (wpAny_pure ⟨.none, rfl, wpAny_pure (hQ h' g' e')⟩))
    | exact wpAny_pure ⟨.none, rfl, wpAny_pure (hQ h' g' e')⟩
end
end Mine
end

section
open PySem PySem.W PyProof.Rows
set_option Elab.async false
set_option maxRecDepth 100000
set_option linter.unusedVariables false
namespace Mine
namespace BA
theorem drop_buffer : ("bytearray.__buffer__" : String).dropRight ("__buffer__".length + 1) = "bytearray" := by decide +kernel
theorem ends_buffer : ("bytearray.__buffer__" : String).endsWith ("." ++ "__buffer__") = true := by decide +kernel
end BA
section
variable {prog : Program} {w : World} {A : Around} {E : Value → Shared → Prop} {s : Shared}
theorem aBuffer {M : Model} {l : Addr} {b : Array UInt8} {Q : Option (Array UInt8) → Shared → Prop} (ho : s.heap.get? l = some { cls := .type "bytearray", data := .bytearray b }) (hQ : Q (some b) s) :
    wpAny M A (Builtin.Bytes.buffer? "bytes.__new__" (.ref l) true) Q E s := by
  have hT := typeBA ho
  unfold Builtin.Bytes.buffer?
  refine wpAny_bind (wpAny_specialOf hT BA.lbuffer ?_)
  dsimp only
  refine wpAny_bind ?_
  unfold Builtin.Bytes.slotIsOwn
  refine wpAny_bind (wpAny_specialOf hT BA.lbuffer ?_)
  dsimp only
  rw [BA.ends_buffer, BA.drop_buffer]
  refine wpAny_isInstance hT BA.sub ?_
  refine bm_if_false rfl ?_
  refine wpAny_bind (wpAny_specialOf hT BA.lbuffer ?_)
  refine wpAny_bind (aOwnRelease ho ?_)
  refine bm_if_false rfl ?_
  refine wpAny_bind ?_
  unfold Builtin.Bytes.payload Builtin.Bytes.payload?
  exact wpAny_bind (wpAny_bind (wpAny_load ho (wpAny_pure (wpAny_pure (wpAny_pure hQ)))))
theorem baNew {l : Addr} {b : Array UInt8} {Q : Value → Shared → Prop} (ho : s.heap.get? l = some { cls := .type "bytearray", data := .bytearray b }) (hz : b.size ≤ sizeLine)
    (hQ : Q (.bytes b s.toks) { s with toks := s.toks + 1 }) :
    codeAny (model prog w) A (.call (.builtin "bytes.__new__") ⟨[.type "bytes", .ref l], []⟩) (wants Q E) s := by
  refine codeAny_of_tree ?_
  show wpAny _ A.in1 (do checkBuiltinCall "bytes.__new__" ⟨[.type "bytes", .ref l], []⟩; again (.builtin "bytes.__new__" ⟨[.type "bytes", .ref l], []⟩)) _ _ s
  refine wpAny_bind (wpAny_of_eq (F.bm_newCall _) (wpAny_pure ⟨plainId_quiet F.bm_plain _, codeAny_builtin F.bm_entry ?_⟩))
  rw [Around.under_plainId F.bm_plain _]
  have hT := typeBA ho
  unfold Builtin.«bytes.__new__»
  refine wpAny_bind (wpAny_of_eq (a := true) rfl ?_)
  refine bm_if_false rfl ?_
  refine wpAny_bind (wpAny_of_eq F.bm_sub ?_)
  refine bm_if_false rfl ?_
  refine wpAny_bind (wpAny_of_eq (F.bm_bind _) ?_)
  refine wpAny_bind (wpAny_of_eq (a := ()) rfl ?_)
  refine wpAny_bind (wpAny_of_eq (a := ()) rfl ?_)
  refine bm_if_false rfl ?_
  refine wpAny_bind (wpAny_specialOf hT BA.noBytes ?_)
  refine wpAny_bind (wpAny_bind ?_)
  show wpAny _ _ (load l >>= _) _ _ _
  refine wpAny_bind (wpAny_load ho ?_)
  refine wpAny_pure (wpAny_pure ?_)
  refine bm_if_false rfl ?_
  refine wpAny_bind (wpAny_specialOf hT BA.noIndex ?_)
  refine bm_if_true rfl ?_
  first
    | show wpAny _ _ (Builtin.Bytes.buffer? "bytes.__new__" (.ref l) true >>= _) _ _ _
    | (refine wpAny_bind ?_; show wpAny _ _ (Builtin.Bytes.buffer? "bytes.__new__" (.ref l) true >>= _) _ _ _)
  refine wpAny_bind (aBuffer ho ?_)
  dsimp only
  refine wpAny_bind (wpAny_rule (wpAny_bind (wpAny_mkBytes ?_ hz)))
  show wpAny _ _ (if (Value.type "bytes" == Value.type "bytes") = true then _ else _) _ _ _
  refine bm_if_true (by decide) ?_
  first
    | exact wpAny_pure hQ
    | exact wpAny_bind (wpAny_pure (wpAny_pure hQ))
theorem callBytesBA {l : Addr} {b : Array UInt8} {Q : Value → Shared → Prop} (ho : s.heap.get? l = some { cls := .type "bytearray", data := .bytearray b }) (hz : b.size ≤ sizeLine)
    (hQ : Q (.bytes b s.toks) { s with toks := s.toks + 1 }) : wpAny (model prog w) A (call (.type "bytes") [.ref l]) Q E s := by
  refine callType_codes (Q₁ := fun obj s₁ => s₁.TypeIs obj "bytes" ∧ Q obj s₁) F.bm_called (F.bm_typeCall _) F.entry_object_init
    (baNew ho hz ⟨PySem.W.typeIs_bytes _ _ _, hQ⟩) fun obj s₁ h₁ => ?_
  exact ⟨h₁.1, F.args_object_init_2 obj _, object_init_meets F.bm_called.init.lookup F.bm_called.made (by decide) prog w A.in1 _ s₁ ⟨h₁.1, rfl, h₁.2⟩⟩
end
end Mine
end

section
open PySem PySem.W PyProof.Rows
set_option Elab.async false
set_option maxRecDepth 100000
set_option linter.unusedVariables false
namespace Mine
def OldK (s : Shared) (h h' : Heap) : Prop := ∀ b o, plainO o → s.heap.get? b = some o → h.get? b = some o → h'.get? b = some o
section
variable {prog : Program} {w : World} {A : Around} {env : Env} {s₀ s : Shared} {mg mb m : Str → Option Value} {Q : Flow → Shared → Prop} {E : Value → Shared → Prop}
theorem stForRO {x : Str} {px pos : Pos} {iter : Expr} {body rest : List Stmt} {src : List Int} {S : List Addr} (F : InCall s₀ env.locals m s) (hsrc : SVr prog w A env s iter src) (hS : ∀ b ∈ S, ∃ o, s.heap.get? b = some o)
    (J : Nat → (Str → Option Value) → Heap → Prop) (hN : ∀ i m h h', TrC [] h h' → OldK s h h' → J i m h → J i m h') (h0 : J 0 m s.heap)
    (turn : ∀ i n t m₁ s₁, src[i]? = some n → J i m₁ s₁.heap → InCall s₀ env.locals (upd m₁ x (.int n t)) s₁ → ∀ E,
      wpAny (model prog w) A (execs body env) (fun f s₄ => f = .next ∧ (∃ m₂, InCall s₀ env.locals m₂ s₄ ∧ J (i + 1) m₂ s₄.heap) ∧ TrB S s₁.heap s₄.heap) E s₁)
    (done : ∀ m₁ s₁, InCall s₀ env.locals m₁ s₁ → J src.length m₁ s₁.heap → wpAny (model prog w) A (execs rest env) Q E s₁)
    (hf : ∀ x, foldedSetIterable iter env x = pure x := by intro _; rfl) (hx : env.kindOf x = some .local := by rfl)
    (hp : (env.scope.kind == .class || (env.scope.kind == .module && env.locals != env.globals)) = false := by rfl) :
    wpAny (model prog w) A (execs (.For (.Name x px) iter body [] pos :: rest) env) Q E s := by
  refine wpAny_execs_cons (wpAny_For (hsrc s (kRefl _) _ _ fun I fp wr St s' X hfp => ?_) hf)
  have hS' : ∀ b ∈ S, b ∉ fp := fun b hb hb' => by
    obtain ⟨o, e⟩ := hS b hb
    rw [hfp b hb'] at e
    cases e
  have kB : Keeps s₀ s := InCall.keeps' F
  refine forLoop X hS' (fun i s₁ => ∃ m₁, InCall s₀ env.locals m₁ s₁ ∧ J i m₁ s₁.heap) ⟨m, inCallK F X.kp, hN _ _ _ _ (trcOf (kGet X.kp)) (fun b o _ _ e => kGet X.kp _ _ e) h0⟩ ?_ ?_
  · rintro i n t s₁ h tk hn ⟨m₁, F₁, j⟩ tN old E'
    have F₂ := inCallN (tk := tk) F₁ tN kB old
    refine wpAny_assign_Name (wpAny_storeName_local hx F₂.ns (fun h' hn' hs' => ?_) hp)
    have tr := trSame F₂.ns hs'
    refine wpAny_mono (turn i n t m₁ _ hn (hN _ _ _ _ (TrC.trans (tN.toC) tr.toC) (fun b o p e e' => tr b o p (by simp) (old b o e e')) j) (inCallSet F₂ hn' hs') E') (fun f s₄ q => ⟨q.1, q.2.1, fun b o p nS e => q.2.2 b o p nS (tr b o p (by simp) e)⟩) fun _ _ e => e
  · rintro s₁ h tk ⟨m₁, F₁, j⟩ tN old
    exact done m₁ _ (inCallN F₁ tN kB old) (hN _ _ _ _ tN.toC (fun b o p e e' => old b o e e') j)

/-- a bytearray -/
def BAo (h : Heap) (a : Addr) (b : Array UInt8) : Prop := h.get? a = some { cls := .type "bytearray", data := .bytearray b }
theorem plainBA {b : Array UInt8} : plainO { cls := .type "bytearray", data := .bytearray b } := ⟨fun _ _ h => (by cases h), fun _ h => (by cases h)⟩
theorem notItBA {b : Array UInt8} : ¬ isIt { cls := .type "bytearray", data := .bytearray b } := fun h => by obtain ⟨⟨_, h⟩, _⟩ := h; cases h
theorem stSetBA {x : Str} {px p pos : Pos} {i e : Expr} {rest : List Stmt} {D : Addr} {b : Array UInt8} {n j : Int} (F : InCall s₀ env.locals m s) (hm : m x = some (.ref D)) (hl : BAo s.heap D b) (hD : s₀.heap.get? D = none) (hz : b.size ≤ 1000)
    (he : EV prog w A env s e (.dI n)) (hj : EV prog w A env s i (.dI j)) (h0 : 0 ≤ j) (h1 : j < b.size) (hv : 0 ≤ n ∧ n < 256)
    (k : ∀ s', InCall s₀ env.locals m s' → TrB [D] s.heap s'.heap → BAo s'.heap D (b.setIfInBounds j.toNat n.toNat.toUInt8) → wpAny (model prog w) A (execs rest env) Q E s')
    (hs : swapsWith e (some (.Subscript (.Name x px) i p)) pos.line env = pure false := by rfl)
    (hk : env.scope.kind = .function := by rfl) (hx : env.kindOf x = some .local := by rfl) (hdb : (x == ("__debug__" : Str)) = false := by decide) :
    wpAny (model prog w) A (execs (.Assign [.Subscript (.Name x px) i p] e pos :: rest) env) Q E s := by
  refine wpAny_execs_cons (wpAny_Assign_Subscript (he.go (kRefl _) fun v s₁ k₁ dv => wpAny_Name (wpAny_loadName_local hk hx (F.ns.keeps (kGet k₁)) hm (hj.go k₁ fun jv s₂ k₂ dj => ?_)) hdb) hs)
  obtain ⟨t, rfl⟩ := dv
  obtain ⟨u, rfl⟩ := dj
  have k12 := kTrans k₁ k₂
  have ee : BAo s₂.heap D b := kGet k12 _ _ hl
  refine baSet ee h0 h1 hz hv fun h' g' e' => ?_
  exact k _ (inCallMut (inCallK F k12) e' hD ee plainBA) ((trOf (kGet k12)).trans (trbSame e')) g'

/-- the bytes of a bytearray -/
theorem callBytesOf {D : Addr} {b : Array UInt8} (hl : BAo s₀.heap D b) (hz : b.size ≤ 1000) : CallOk prog w A s₀ (.type "bytes") [.dV (.ref D)] (.dY (KBw.bInts b)) := fun vs s k d E => by
  cases d with
  | cons d r =>
    cases r
    obtain rfl := d
    exact callBytesBA (kGet k _ _ hl) (by rw [sizeLine_eq]; omega) ⟨kTok .., _, _, rfl, rfl⟩

/-- an assignment of bytearray(n) -/
theorem rAssignBA {x : Str} {px pos cpos : Pos} {f e : Expr} {rest : List Stmt} {n : Nat}
    (F : InCall s₀ env.locals m s) (hf : EV prog w A env s f (.dV (.type "bytearray"))) (ha : AV prog w A env s cpos [e] [.dI n]) (hn : 0 < n) (hz : n ≤ 1000)
    (k : ∀ D s', InCall s₀ env.locals (upd m x (.ref D)) s' → TrB [] s.heap s'.heap → s₀.heap.get? D = none → BAo s'.heap D (Array.replicate n 0) → wpR (model prog w) A (execs rest env) Q E s')
    (hcall : eval (.Call f [e] [] cpos) env = (do callWith cpos (← eval f env) [] (backTo cpos (starEach [e] env)) (backToKw cpos (keywordEach [] env))) := by rfl)
    (he : starEach [e] env = (false, eval e env) :: starEach [] env := by rfl) (hp : (backTo cpos (starEach [] env)).any (·.1) = false := by rfl) (hn' : (decide ((backTo cpos (starEach [e] env)).length + 2 * ([] : List (Option Str × Sem Value)).length > 30)) = false := by rfl)
    (hs : swapsWith (.Call f [e] [] cpos) (some (.Name x px)) pos.line env = pure false := by rfl) (hx : env.kindOf x = some .local := by rfl)
    (hpk : (env.scope.kind == .class || (env.scope.kind == .module && env.locals != env.globals)) = false := by rfl) :
    wpR (model prog w) A (execs (.Assign [.Name x px] (.Call f [e] [] cpos) pos :: rest) env) Q E s := by
  refine rExecs ?_
  rw [exec_Assign_Name env x px _ pos hs, hcall, show backToKw cpos (keywordEach [] env) = [] from rfl]
  refine rStand (rBind (rThen (hf.go (kRefl _) fun v s₁ k₁ dv => ?_)))
  obtain rfl := dv
  unfold callWith
  refine rThen (wpAny_holding ?_)
  have hev : ∀ Q' : Args → Shared → Prop, (∀ vs s₂, Keeps s₁ s₂ → DenL s₂.heap vs [.dI n] → Q' ⟨vs, []⟩ s₂) → wpAny (model prog w) A (evalArgs (.type "bytearray") true (backTo cpos (starEach [e] env)) []) Q' E s₁ := fun Q' hQ => by
    rw [he]
    refine Calls.evalArgs_plain ?_
    have := ha s₁ k₁ E
    rw [he] at this
    exact wpAny_mono this (fun vs s₂ q => hQ vs s₂ q.1 q.2) fun _ _ e => e
  refine hev _ fun vs s₂ k₂ dvs => rStand ?_
  have k12 := kTrans k₁ k₂
  have hstar : ((backTo cpos (starEach [e] env)).any (·.1) || ([] : List (Option Str × Sem Value)).any (·.1.isNone)) = false := by
    rw [he]
    show ((false || (backTo cpos (starEach [] env)).any (·.1)) || false) = false
    rw [hp]; rfl
  have tail : wpR (model prog w) A (call (.type "bytearray") vs) (fun r s₃ => wpR (model prog w) A (holding [r] point >>= fun _ => pure r) (fun v s₄ => wpR (model prog w) A (do standAt px; bindName env x v; pure Flow.next) (fun f s' => match f with | .next => wpR (model prog w) A (execs rest env) Q E s' | f => Q f s') E s₄) E s₃) E s₂ := by
    cases dvs with
    | cons d r =>
    cases r
    obtain ⟨t, rfl⟩ := d
    refine rCallBA hn (by rw [sizeLine_eq]; omega) fun h₃ g₃ k₃ => ?_
    have k13 : Keeps s { s₂ with heap := h₃ } := kTrans k12 ⟨h₃, s₂.toks, rfl, k₃⟩
    refine rThen (wpAny_holding (wpAny_point (rPure (rStand (rThen (wpAny_bindName (wpAny_storeName_local hx (F.ns.keeps (kGet k13)) (fun h' hn hsb => ?_) hpk)))))))
    have tr := trSame (F.ns.keeps (kGet k13)) hsb
    refine rPure (k s₂.heap.objs.size _ (inCallSet (inCallK F k13) hn hsb) ((trOf (kGet k13)).trans tr) ?_ (tr _ _ plainBA (by simp) g₃))
    exact kNone (kTrans (InCall.keeps' F) k12) (Nat.le_refl _)
  simp only [hstar]
  refine rThen (m := keeperOf (.type "bytearray")) ?_
  unfold keeperOf
  refine wpAny_pure ?_
  have hlen : ¬ ((backTo cpos (starEach [e] env)).length + 2 * ([] : List (Option Str × Sem Value)).length > 30) := by simpa using hn'
  simp only [hlen, if_false, List.nil_append]
  exact rBind tail
end
end Mine
end

section
open PySem PySem.W PyProof.Rows
set_option Elab.async false
set_option maxRecDepth 100000
set_option linter.unusedVariables false
namespace Mine
/-- each word of p turned about -/
def swp (p : Nat) (ks : List Int) : List Int := (List.range ks.length).map fun j => ks.getD (j / p * p + (p - 1 - j % p)) 0
theorem rangeSizeStep {q p : Nat} (hp : 0 < p) (hq : 0 < q) : Builtin.Range.rangeSize 0 ((q * p : Nat) : Int) p = q := by
  obtain ⟨q', rfl⟩ : ∃ q', q = q' + 1 := ⟨q - 1, by omega⟩
  unfold Builtin.Range.rangeSize
  have h1 : 0 < (q' + 1) * p := Nat.mul_pos (by omega) hp
  rw [if_pos (by omega), if_pos (by omega)]
  have h2 : (((q' + 1) * p : Nat) : Int) - 0 - 1 = ((p : Int) - 1) + (q' : Int) * (p : Int) := by
    rw [Nat.add_mul, Nat.one_mul, Int.natCast_add, Int.natCast_mul]; omega
  rw [h2, Int.add_mul_ediv_right _ _ (by omega), Int.ediv_eq_zero_of_lt (by omega) (by omega)]
  omega
theorem smallStep {q p : Nat} (hp : 0 < p) (hq : 0 < q) (hz : q * p ≤ 500) : Builtin.Range.small 0 ((q * p : Nat) : Int) p = true := by
  have h1 := rangeSizeStep hp hq
  have h2 : p ≤ q * p := Nat.le_mul_of_pos_left _ hq
  have h3 : q ≤ q * p := Nat.le_mul_of_pos_right _ hp
  unfold Builtin.Range.small
  rw [h1]
  simp only [Builtin.Range.rangeFitsLong, Bool.and_eq_true, Bool.or_eq_true, decide_eq_true_eq, beq_iff_eq]
  refine ⟨by omega, .inr ?_⟩
  rw [if_pos (by omega)]
  simp only [Bool.and_eq_true, decide_eq_true_eq]
  omega
theorem bInts_set {b : Array UInt8} {k : Nat} {x : Int} (h : 0 ≤ x ∧ x < 256) : KBw.bInts (b.setIfInBounds k x.toNat.toUInt8) = (KBw.bInts b).set k x := by
  unfold KBw.bInts
  rw [Array.toList_setIfInBounds, List.map_set]
  congr 1
  have : x.toNat < 256 := by omega
  simp only [Nat.toUInt8]
  rw [UInt8.toNat_ofNat', Nat.mod_eq_of_lt (by omega)]
  omega
theorem getD_set {l : List Int} {k j : Nat} {x : Int} (hk : k < l.length) : (l.set k x).getD j 0 = if k = j then x else l.getD j 0 := by
  rw [List.getD_eq_getElem?_getD, List.getElem?_set, List.getD_eq_getElem?_getD]
  split
  · subst_vars; simp [hk]
  · rfl

section
variable {prog : Program} {w : World} {A : Around} {s : Shared} {mg mb : Str → Option Value} {E : Value → Shared → Prop}
theorem byteswap_ok (hA : AOk 1 A) (W : Wd w mg mb s.heap) {ks : List Int} {p q : Nat} (hp : 0 < p) (hq : 0 < q) (hlen : ks.length = q * p) (hz : ks.length ≤ 500) {vs : List Value} (d : DenL s.heap vs [.dY ks, .dI p]) :
    wpR (model prog w) A (call (.ref 35) vs) (fun v s₂ => Keeps s s₂ ∧ Den s₂.heap v (.dY (swp p ks))) E s := by
  obtain ⟨pm, hl⟩ := lookByteswap w
  have hpk : p ≤ q * p := Nat.le_mul_of_pos_left _ hq
  cases d with
  | cons d r =>
  cases r with
  | cons dw r =>
    cases r
    rename_i v vw
    have hks : ∀ x ∈ ks, 0 ≤ x ∧ x < 256 := by
      obtain ⟨b, t, rfl, hb⟩ := d
      intro x hx
      rw [← hb] at hx
      exact KBw.ints_in hx
    refine rPlainCall hA.room W hl (by kernel_rfl) (binds := [("data", v), ("width", vw)]) (by rfl) (fun x hx => ?_) (by decide) (by rfl) (by rfl) (by rfl) ?_
    · simp only [List.mem_cons, List.not_mem_nil, or_false] at hx
      rcases hx with rfl | rfl <;> rfl
    intro s₁ L hL F
    have hA' := (hA.deeper (callEnv (fdI "_byteswap" 4 pm 34) L 35))
    have k1 : Keeps s s₁ := InCall.keeps' F
    have W2 := W.at (kGet k1)
    refine rAssignBA (n := ks.length) F (EV.boot W2 (noBytearray w) bootBytearray) (AV.cons (EV.callB (EV.boot W2 (noLen w) boot_len) (AV.cons (EV.local F.ns rfl (d.k k1)) AV.nil) (callLenY (by omega))) AV.nil) (by omega) (by omega) ?_
    intro D s₂ F2 tr2 hD hB2
    refine rOf ?_
    have W3 := W.at F2.keep
    have hlc : (ks.length : Int) = ((q * p : Nat) : Int) := by rw [hlen]
    have hmul : ∀ {i : Nat}, i < q → i * p + p ≤ q * p := fun {i} hi => by
      have := Nat.mul_le_mul_right p (show i + 1 ≤ q from hi)
      rw [Nat.add_mul, Nat.one_mul] at this
      exact this
    refine stForR (S := [D]) (src := rangeNums 0 ks.length p) F2 (SVr.range hA'.1 (EV.callT (EV.boot W3 (noRange w) boot_range) (AV.cons EV.int (AV.cons (EV.callB (EV.boot W3 (noLen w) boot_len) (AV.cons (EV.local F2.ns rfl (d.at F2.keep)) AV.nil) (callLenY (by omega))) (AV.cons (EV.local F2.ns rfl (dw.at F2.keep)) AV.nil))) (callRange3 (by omega) (by omega))) (by rw [hlc]; exact smallStep hp hq (by omega)) (by omega))
      (fun b hb => by rw [List.mem_singleton.mp hb]; exact ⟨_, hB2⟩)
      (fun i m h => m "data" = some v ∧ m "width" = some vw ∧ m "swapped_data" = some (.ref D) ∧ ∃ b, BAo h D b ∧ b.size = ks.length ∧ ∀ j, j < i * p → (KBw.bInts b).getD j 0 = ks.getD (j / p * p + (p - 1 - j % p)) 0) ?_ ⟨rfl, rfl, rfl, _, hB2, by simp, fun j hj => by omega⟩ ?_ ?_
    · rintro i m h h' t ⟨a, b, c, bb, hb, h1, h2⟩
      exact ⟨a, b, c, bb, t _ _ plainBA notItBA (by simp) hb, h1, h2⟩
    · rintro i n t m₁ s₃ hn ⟨hda, hwi, hsw, b, hB, hbs, hold⟩ F3 E''
      have hi : i < q ∧ n = (i * p : Nat) := by
        have h1 := (List.getElem?_eq_some_iff.mp hn).1
        rw [rangeNums_length, hlc, rangeSizeStep hp hq] at h1
        have h2 : (rangeNums 0 ks.length p).getD i 0 = n := by rw [List.getD_eq_getElem?_getD, hn]; rfl
        rw [rangeNums_get (by rw [hlc, rangeSizeStep hp hq]; exact h1)] at h2
        refine ⟨by omega, ?_⟩
        rw [← h2, Int.natCast_mul]; omega
      obtain ⟨hiq, rfl⟩ := hi
      have hip := hmul hiq
      have W4 := W.at F3.keep
      refine stForRO (S := [D]) (src := rangeNums 0 p 1) F3 (SVr.range hA'.1 (EV.callT (EV.boot W4 (noRange w) boot_range) (AV.cons (EV.local F3.ns (by exact hwi) (dw.at F3.keep)) AV.nil) callRange1) (smallRange (by omega) (by omega) (by omega) (by omega) (.inl rfl)) (by decide))
        (fun b hb => by rw [List.mem_singleton.mp hb]; exact ⟨_, hB⟩)
        (fun jj m h => m "data" = some v ∧ m "width" = some vw ∧ m "swapped_data" = some (.ref D) ∧ m "i" = some (.int ((i * p : Nat) : Int) t) ∧ TrB [D] s₃.heap h ∧ ∃ b, BAo h D b ∧ b.size = ks.length ∧ (∀ j, j < i * p → (KBw.bInts b).getD j 0 = ks.getD (j / p * p + (p - 1 - j % p)) 0) ∧
          ∀ r, r < jj → (KBw.bInts b).getD (i * p + (p - 1 - r)) 0 = ks.getD (i * p + r) 0) ?_ ⟨hda, hwi, hsw, rfl, trOf (fun _ _ e => e), b, hB, hbs, hold, fun r hr => by omega⟩ ?_ ?_
      · rintro jj m h h' t ok ⟨a1, a2, a3, a4, a5, bb, hb, h1, h2⟩
        exact ⟨a1, a2, a3, a4, fun x o po hx e => ok x o po e (a5 x o po hx e), bb, t _ _ plainBA notItBA (by simp) hb, h1, h2⟩
      · rintro jj n t' m₂ s₄ hn' ⟨hda, hwi, hsw, hii, htr, b, hB, hbs, hold, hnew⟩ F4 E4
        have hj : jj < p ∧ n = jj := by
          have h1 := (List.getElem?_eq_some_iff.mp hn').1
          rw [rangeNums_length, rangeSize_one] at h1
          have h2 : (rangeNums 0 p 1).getD jj 0 = n := by rw [List.getD_eq_getElem?_getD, hn']; rfl
          rw [rangeNums_get (by rw [rangeSize_one]; exact h1)] at h2
          split at h1 <;> omega
        obtain ⟨hjp, rfl⟩ := hj
        have hlt : i * p + jj < ks.length := by omega
        have hx : ks[i * p + jj]? = some (ks.getD (i * p + jj) 0) := by rw [List.getD_eq_getElem?_getD, List.getElem?_eq_getElem hlt]; rfl
        refine stSetBA (n := ks.getD (i * p + jj) 0) (j := ((i * p : Nat) : Int) + p - 1 - jj) F4 (by exact hsw) hB hD (by omega) (EV.itemY (k := ((i * p : Nat) : Int) + jj) (EV.local F4.ns (by exact hda) (d.at F4.keep)) (EV.add (EV.locI F4.ns (by exact hii)) (EV.locI F4.ns rfl)) (by omega) (by rw [show (((i * p : Nat) : Int) + (jj : Int)).toNat = i * p + jj from by omega]; exact hx) (by omega))
          (EV.sub (EV.sub (EV.add (EV.locI F4.ns (by exact hii)) (EV.local F4.ns (by exact hwi) (dw.at F4.keep))) EV.int) (EV.locI F4.ns rfl)) (by omega) (by omega) (hks _ (List.mem_of_getElem? hx)) ?_
        intro s₅ F5 tr5 hB5
        refine wpAny_execs_nil ⟨rfl, ⟨_, F5, hda, hwi, hsw, hii, htr.trans tr5, _, hB5, by simp [hbs], ?_, ?_⟩, tr5⟩
        · intro j hj
          rw [bInts_set (hks _ (List.mem_of_getElem? hx)), getD_set (by rw [KBw.ints_length]; omega), if_neg (by omega)]
          exact hold j hj
        · intro r hr
          rw [bInts_set (hks _ (List.mem_of_getElem? hx)), getD_set (by rw [KBw.ints_length]; omega)]
          by_cases he : r = jj
          · subst he
            rw [if_pos (by omega)]
          · rw [if_neg (by omega)]
            exact hnew r (by omega)
      · rintro m₂ s₄ F4 ⟨hda, hwi, hsw, hii, htr, b, hB, hbs, hold, hnew⟩
        have hlr : (rangeNums 0 p 1).length = p := by rw [rangeNums_length, rangeSize_one]; split <;> omega
        rw [hlr] at hnew
        refine wpAny_execs_nil ⟨rfl, ⟨_, F4, hda, hwi, hsw, b, hB, hbs, ?_⟩, htr⟩
        intro j hj
        rw [Nat.add_mul, Nat.one_mul] at hj
        by_cases hji : j < i * p
        · exact hold j hji
        · obtain ⟨r, hr, rfl⟩ : ∃ r, r < p ∧ j = i * p + r := ⟨j - i * p, by omega, by omega⟩
          have e1 : (i * p + r) / p = i := by
            rw [Nat.add_comm, Nat.add_mul_div_right _ _ hp, Nat.div_eq_of_lt hr]; omega
          have e2 : (i * p + r) % p = r := by
            rw [Nat.add_comm, Nat.add_mul_mod_self_right, Nat.mod_eq_of_lt hr]
          rw [e1, e2]
          have := hnew (p - 1 - r) (by omega)
          rw [show p - 1 - (p - 1 - r) = r from by omega] at this
          exact this
    · rintro m₁ s₃ F3 ⟨hda, hwi, hsw, b, hB, hbs, hold⟩
      have hlr : (rangeNums 0 ks.length p).length = q := by rw [rangeNums_length, hlc, rangeSizeStep hp hq]; omega
      rw [hlr] at hold
      have he : KBw.bInts b = swp p ks := by
        apply List.ext_getElem?
        intro j
        by_cases hj : j < ks.length
        · have h1 := hold j (by omega)
          rw [List.getD_eq_getElem?_getD, List.getElem?_eq_getElem (by rw [KBw.ints_length]; omega)] at h1
          rw [List.getElem?_eq_getElem (by rw [KBw.ints_length]; omega)]
          simp only [swp, List.getElem?_map, List.getElem?_range hj, Option.map_some]
          rw [← h1]; rfl
        · rw [List.getElem?_eq_none (by rw [KBw.ints_length]; omega), List.getElem?_eq_none (by simp [swp]; omega)]
      rw [← he]
      refine stReturn (rest := []) (d := .dY (KBw.bInts b)) (EV.callT (EV.boot (W.at F3.keep) (noBytes w) boot_bytes) (AV.cons (EV.local (d := .dV (.ref D)) F3.ns hsw rfl) AV.nil) (callBytesOf hB (by omega))) fun v' s' k' dv => ⟨kTrans (InCall.keeps' F3) k', dv⟩
end
end Mine
end

section
open PySem PySem.W PyProof.Rows
set_option Elab.async false
set_option maxRecDepth 100000
set_option linter.unusedVariables false
namespace Mine
section
variable {prog : Program} {w : World} {A : Around} {E : Value → Shared → Prop} {s s₀ : Shared}
theorem callSum (hh : A.handled = none) {ns : List Int} : CallOk prog w A s₀ (.builtin "sum") [.dL ns] (.dI ns.sum) := fun vs s k d E => by
  cases d with
  | cons d r =>
    cases r
    obtain ⟨l, us, rfl, p, hi⟩ := d
    obtain ⟨xs, hx⟩ := hi.allInts.items
    have hl' : s.heap.IsList l (intItems xs) := hx ▸ p.isList
    refine sum_intListG hh hl' fun h' tk t' hk => ?_
    have e1 : ns = xs.toList.map (·.1) := by
      rw [← nums_intItems, ← hx]
      exact (show numsOf us.toArray.toList = ns from hi.numsOf).symm
    have e2 : preSum (numAt xs) xs.size = ns.sum := by
      rw [preSum_eq, List.take_of_length_le (by simp), e1]
    rw [e2]
    exact ⟨kMk hk, _, rfl⟩
theorem callTypeL {ns : List Int} : CallOk prog w A s₀ (.type "type") [.dL ns] (.dV (.type "list")) := fun vs s k d E => by
  cases d with
  | cons d r =>
    cases r
    obtain ⟨l, us, rfl, p, hi⟩ := d
    exact call_type_of p.isList.typeIs (by decide +kernel) ⟨kRefl _, rfl⟩
theorem callTypeI {n : Int} : CallOk prog w A s₀ (.type "type") [.dI n] (.dV (.type "int")) := fun vs s k d E => by
  cases d with
  | cons d r =>
    cases r
    obtain ⟨t, rfl⟩ := d
    exact call_type_of (typeIs_int _ _ _) (by decide +kernel) ⟨kRefl _, rfl⟩
theorem callTypeY {ks : List Int} : CallOk prog w A s₀ (.type "type") [.dY ks] (.dV (.type "bytes")) := fun vs s k d E => by
  cases d with
  | cons d r =>
    cases r
    obtain ⟨b, t, rfl, _⟩ := d
    exact call_type_of (typeIs_bytes _ _ _) (by decide +kernel) ⟨kRefl _, rfl⟩
theorem cmpIsNotT {X : String} : CmpOk prog w A .IsNot (.dV (.type X)) (.dV (.type X)) false :=
  fun _ _ _ da db _ => by obtain rfl := da; obtain rfl := db; exact isnot_type_same ⟨kRefl _, rfl⟩
theorem cmpIsNotB {a b : Bool} : CmpOk prog w A .IsNot (.dB a) (.dB b) (a != b) :=
  fun _ _ _ da db _ => by
    obtain rfl := da
    obtain rfl := db
    refine wpAny_isNot_plain (by cases a <;> cases b <;> rfl) ⟨kRefl _, ?_⟩
    cases a <;> cases b <;> rfl
theorem bInts_byteArr {ns : List Int} (h : ∀ n ∈ ns, 0 ≤ n ∧ n < 256) : KBw.bInts (byteArr ns) = ns := by
  unfold KBw.bInts byteArr
  rw [List.map_map]
  conv => rhs; rw [← List.map_id ns]
  refine List.map_congr_left fun n hn => ?_
  have := h n hn
  simp only [Function.comp, id, Nat.toUInt8]
  rw [UInt8.toNat_ofNat', Nat.mod_eq_of_lt (by omega)]
  omega
theorem callBytesL (hh : A.handled = none) {ns : List Int} (hr : ∀ n ∈ ns, 0 ≤ n ∧ n < 256) (hz : ns.length ≤ 1000) : CallOk prog w A s₀ (.type "bytes") [.dL ns] (.dY ns) := fun vs s k d E => by
  cases d with
  | cons d r =>
    cases r
    obtain ⟨l, us, rfl, p, hi⟩ := d
    exact call_bytes_ints p.isList hi hr (by rw [hi.length, sizeLine_eq]; omega) hh fun h' t k hk => ⟨kMk hk, _, _, rfl, bInts_byteArr hr⟩

/-! list(bytes) -/
namespace LB
theorem blen : typeLookup (.type "bytes") "__len__" = pure (some (.builtin "bytes.__len__")) := by rw [typeLookup_type, builtinLookup_eq_fast]; kernel_rfl
end LB
abbrev ByteAt (b : Array UInt8) (i : Nat) (v : Value) : Prop := ∃ c u, b[i]? = some c ∧ v = .int (c.toNat : Int) u
theorem extendBytes {R : Result → Shared → Prop} (hh : A.handled = none) (x : Array UInt8) (t : Tok) (S : Addr) (res : Value) (c₀ : Nat) (hS : s.heap.get? S = some { cls := .type "list", data := .seq #[] c₀ })
    (hR : ∀ h' tk acc' c', (∀ b o, b ≠ S → s.heap.get? b = some o → h'.get? b = some o) → h'.get? S = some { cls := .type "list", dict := none, data := .seq acc' c', slots := #[] } →
      ItemsOf (ByteAt x) acc' x.size → R (.ok (.ret res)) { s with heap := h', toks := tk }) (hn : x.size ≤ sizeLine) :
    wpAny (model prog w) A.in1 (Builtin.List.listExtendWith (.ref S) (.bytes x t) res)
      (fun fin s' => match fin with | .done f => R (.ok f) s' | .again c' => c'.quiet = true ∧ codeAny (model prog w) A c' R s') (fun e s' => R (.error e) s') s := by
  have hSI : S ≠ s.heap.objs.size := Nat.ne_of_lt (Heap.lt_size hS)
  have hSf : S ∉ [s.heap.objs.size] := fun hm => hSI (List.mem_singleton.mp hm)
  unfold Builtin.List.listExtendWith
  refine wpAny_bind (wpAny_typeOf (T := "bytes") (v := .bytes x t) rfl ?_)
  have h1 : Builtin.List.listSameRef (.ref S) (.bytes x t) = false := rfl
  have h2 : (Value.type "bytes" == Value.type "list") = false := by decide
  have h3 : (Value.type "bytes" == Value.type "tuple") = false := by decide
  simp only [h1, h2, h3, Bool.or_false, Bool.false_eq_true, if_false]
  refine wpAny_bind (KBw.pyIter_bytes ?_)
  have hst : KBw.IsBytesIter (s.heap.push { cls := .type "bytes_iterator", data := .fields #[.bytes x t, .int 0 0] }) s.heap.objs.size x t 0 := ⟨_, Heap.get?_push_size _ rfl, rfl, rfl⟩
  refine wpAny_bind (wpAny_holding ?_)
  unfold Builtin.List.listLengthHint
  refine wpAny_bind (wpAny_specialOf (T := "bytes") (v := .bytes x t) rfl LB.blen ?_)
  wp_delta
  refine wpAny_bind (wpAny_isInstance (T := "bytes") (v := .bytes x t) (b := true) rfl (by rw [isSubtype_type]; kernel_rfl) ?_)
  show wpAny _ _ (typeOf (Value.bytes x t) >>= _) _ _ _
  refine wpAny_bind (wpAny_typeOf (T := "bytes") (v := .bytes x t) rfl ?_)
  refine wpAny_pure ?_
  rw [if_neg (by decide)]
  refine wpAny_pure ⟨plainId_quiet F.plain_extend_loop _, codeAny_extend_loopS (KBw.walks (A := A.in1) hh s.heap.objs.size x t).toS hn _ hSf _ x.size 0 _ _ _ rfl (Nat.zero_le _) hst (Heap.get?_push_of_some _ hS) (ItemsOf.nil _) fun s' acc' c' hm hS' hacc => ?_⟩
  rw [Moved.eq_with hm]
  refine hR s'.heap s'.toks acc' c' (fun b ob hb e => hm.heap b ob (fun hmem => ?_) (Heap.get?_push_of_some _ e)) hS' hacc
  rcases List.mem_cons.mp hmem with e' | hmem
  · exact hb e'
  · exact absurd (Heap.lt_size e) (by rw [List.mem_singleton.mp hmem]; exact Nat.lt_irrefl _)
theorem initBytes {R : Result → Shared → Prop} (hh : A.handled = none) (x : Array UInt8) (t : Tok) (S : Addr) (hS : s.heap.get? S = some { cls := .type "list", data := .seq #[] })
    (hR : ∀ h' tk acc' c', (∀ b o, b ≠ S → s.heap.get? b = some o → h'.get? b = some o) → h'.get? S = some { cls := .type "list", dict := none, data := .seq acc' c', slots := #[] } →
      ItemsOf (ByteAt x) acc' x.size → R (.ok (.ret .none)) { s with heap := h', toks := tk }) (hn : x.size ≤ sizeLine) :
    wpAny (model prog w) A.in1 (Builtin.«list.__init__» ⟨[.ref S, .bytes x t], []⟩)
      (fun fin s' => match fin with | .done f => R (.ok f) s' | .again c' => c'.quiet = true ∧ codeAny (model prog w) A c' R s') (fun e s' => R (.error e) s') s := by
  show wpAny _ _ (do let old ← Builtin.List.listItems (.ref S); Builtin.List.listUpdate (.ref S) (fun _ => #[]); letGo old.toList.reverse; Builtin.List.listExtendWith (.ref S) (.bytes x t) .none) _ _ s
  refine wpAny_bind ?_
  unfold Builtin.List.listItems
  refine wpAny_bind (wpAny_seqItems hS rfl (wpAny_pure ?_))
  show wpAny _ _ (updateSeq S (fun _ => #[]) >>= fun _ => letGo (#[] : Array Value).toList.reverse >>= fun _ => Builtin.List.listExtendWith (.ref S) (.bytes x t) .none) _ _ s
  refine wpAny_bind (wpAny_updateSeq hS rfl ?_)
  have hS₂ := Heap.get?_update_self (Obj.mapSeq (fun _ => (#[] : Array Value))) hS rfl
  have oth : ∀ b o, b ≠ S → s.heap.get? b = some o → (s.heap.update S (Obj.mapSeq (fun _ => (#[] : Array Value)))).get? b = some o :=
    fun b o hb e => (Heap.get?_update_other _ _ (Ne.symm hb)).trans e
  refine wpAny_bind (wpAny_letGo ?_)
  refine extendBytes (hn := hn) hh x t S .none _ hS₂ fun h' tk acc' c' hk hS' hacc => ?_
  exact hR h' tk acc' c' (fun b o hb e => hk b o hb (oth b o hb e)) hS' hacc
theorem itemsInts {x : Array UInt8} {acc : Array Value} (h : ItemsOf (ByteAt x) acc x.size) : IntsAre acc.toList (KBw.bInts x) := by
  obtain ⟨h1, h2⟩ := h
  have : ∀ (vs : List Value) (bs : List UInt8), vs.length = bs.length → (∀ (j : Nat) v, vs[j]? = some v → ∃ (c : UInt8) (u : Tok), bs[j]? = some c ∧ v = .int (c.toNat : Int) u) → IntsAre vs (bs.map fun c => (c.toNat : Int)) := by
    intro vs
    induction vs with
    | nil => intro bs hl _; cases bs with
      | nil => exact .nil
      | cons _ _ => simp at hl
    | cons v vs ih =>
      intro bs hl hv
      cases bs with
      | nil => simp at hl
      | cons b bs =>
        obtain ⟨c, u, hc, rfl⟩ := hv 0 v rfl
        have : c = b := by simpa using hc.symm
        subst this
        exact .cons _ u (ih bs (by simpa using hl) fun j v hj => by
          have := hv (j + 1) v (by simpa using hj)
          simpa using this)
  refine this _ _ (by simp [h1]) fun j v hj => ?_
  obtain ⟨c, u, hc, e⟩ := h2 j v (by simpa using hj)
  exact ⟨c, u, by simpa using hc, e⟩
theorem callListY (hh : A.handled = none) {ks : List Int} (hz : ks.length ≤ 1000) : CallOk prog w A s₀ (.type "list") [.dY ks] (.dL ks) := fun vs s k d E => by
  cases d with
  | cons d r =>
    cases r
    obtain ⟨b, t, rfl, hb⟩ := d
    have hlen : b.size = ks.length := by rw [← hb, KBw.ints_length]
    refine callType_codes (Q₁ := fun obj s₁ => obj = .ref s.heap.objs.size ∧ s₁ = { s with heap := s.heap.push { cls := .type "list", data := .seq #[] } }) F.called_list (F.typeCall_list_1 _) F.entry_list_init
      (code_list_new _ ⟨rfl, rfl⟩) fun obj s₁ h₁ => ?_
    obtain ⟨rfl, rfl⟩ := h₁
    have hS : (s.heap.push { cls := .type "list", data := .seq #[] }).get? s.heap.objs.size = some { cls := .type "list", data := .seq #[] } := Heap.get?_push_size _ rfl
    refine ⟨⟨_, hS, rfl⟩, F.args_list_init_2 _ _, initBytes (A := A.in1) hh b t _ hS (fun h' tk acc' c' hk hS' hacc => ?_) (by rw [sizeLine_eq]; omega)⟩
    refine ⟨rfl, kMk (fun b o e => hk b o (Nat.ne_of_lt (Heap.lt_size e)) (Heap.get?_push_of_some _ e)), s.heap.objs.size, acc'.toList, rfl, ?_, hb ▸ itemsInts hacc⟩
    rw [LL, Array.toArray_toList]
    exact ⟨_, hS'⟩
end
end Mine
end

section
open PySem PySem.W PyProof.Rows
set_option Elab.async false
set_option maxRecDepth 100000
set_option linter.unusedVariables false
namespace Mine
theorem joinCps' : ∀ zs : List Str, (Str.join (Str.ofString "") zs).cps.toList = zs.flatMap (·.cps.toList)
  | [] => rfl
  | [x] => by simp [Str.join]
  | x :: y :: r => by
    have ih := joinCps' (y :: r)
    rw [Str.join, List.flatMap_cons, ← ih]
    · have ap : ∀ a b : Str, (a ++ b).cps.toList = a.cps.toList ++ b.cps.toList := fun a b => by
        show (a.cps ++ b.cps).toList = _
        simp
      rw [ap, ap]
      have : (Str.ofString "").cps.toList = [] := by decide
      rw [this, List.append_nil]
    · intro h; cases h
theorem joinCps (zs : List Str) : (Txt.join (Str.ofString "") zs).cps.toList = zs.flatMap (·.cps.toList) := by
  show (Builtin.Str.glued (Str.ofString "") zs).cps.toList = _
  rw [StrLaws.glued_eq_join]
  exact joinCps' zs
section
variable {prog : Program} {w : World} {A : Around} {env : Env} {s s₀ : Shared}
theorem EV.join {o elt : Expr} {apos pos : Pos} {zs : List Str} (ho : EV prog w A env s₀ o (.dS (Str.ofString ""))) (he : EV prog w A env s₀ elt (.dT zs)) (h1 : ∀ z ∈ zs, z.length = 1) (hz : zs.length ≤ 1000)
    (hline : (apos.endLine == pos.line) = true := by rfl) (htrees : backTo pos (starEach [elt] env) = [(false, eval elt env)] := by rfl)
    (hbase : attributeBase o "join" env (eval o env) = eval o env := by rfl)
    (hfew : methodCallForm (([elt] : List Expr).length + ([] : List Keyword).length) (backTo pos (starEach [elt] env)) (backToKw pos (keywordEach [] env)) = true := by rfl) :
    EV prog w A env s₀ (.Call (.Attribute o "join" apos) [elt] [] pos) (.dS (Txt.join (Str.ofString "") zs)) := fun s k E => by
  show wpAny _ _ (eval (.Call (.Attribute o "join" apos) [elt] [] pos) env) _ _ _
  rw [arm_eval_Call, hbase]
  refine wpAny_bind (ho.go k fun ov s₁ k₁ d => ?_)
  obtain ⟨t, rfl⟩ := d
  refine wpAny_bind (wpAny_standAt ?_)
  have fin : wpAny (model prog w) A (callWith pos (.builtin "str.join") [.str (Str.ofString "") t] (backTo pos (starEach [elt] env)) []) (fun v s' => Keeps s s' ∧ Den s'.heap v (.dS (Txt.join (Str.ofString "") zs))) E s₁ := by
    rw [htrees]
    refine Calls.callWith_builtin rfl (Calls.evalArgs_plain (Calls.spliced_cons (he.go (kTrans k k₁) fun y s₂ k₂ dy => Calls.spliced_nil ?_)))
    obtain ⟨a, vs, rfl, l, hi⟩ := dy
    have hsum : (zs.map (·.length)).sum ≤ zs.length := by
      clear l hi he hz
      induction zs with
      | nil => simp
      | cons z r ih =>
        have := h1 z (by simp)
        have := ih (fun z hz => h1 z (by simp [hz]))
        simp only [List.map_cons, List.sum_cons, List.length_cons]
        omega
    have z0 : (Str.ofString "").length = 0 := by decide
    refine join_list l.isList hi ?_ fun t' k' => ⟨kTrans k₁ (kTrans k₂ (kTok ..)), _, rfl⟩
    rw [z0]
    omega
  have hpos : methodCallPos true o env apos pos = pure pos := by unfold methodCallPos; simp [hline]
  unfold methodCall
  rw [hfew]
  refine wpAny_bind (wpAny_holding (GM.join ?_))
  exact wpAny_bind (wpAny_of_eq hpos fin)

/-! a comprehension over zip -/
theorem zipLoop {elt iter : Expr} {scope : Scope} {pos pa pb tp : Pos} {kk : Nat} {a b : Str} {cenv : Env} {I D : Addr} {fp wr : List Addr} {n : Nat} {Pt : Nat → Array Value → Prop} {St : Nat → Heap → Prop} {Mid : Nat → Addr → Heap → Prop}
    {R : Result → Shared → Prop} {m : Str → Option Value} (hh : A.handled = none) (W : WalksT prog w A I fp wr n Pt St Mid) (src : List (Int × Int)) (hn : n = src.length) (hz : n ≤ 1000)
    (hP : ∀ i vals, Pt i vals → ∃ p t u, src[i]? = some p ∧ vals = #[.int p.1 t, .int p.2 u])
    (ha : cenv.kindOf a = some .local) (hb : cenv.kindOf b = some .local) (hp : (cenv.scope.kind == .class || (cenv.scope.kind == .module && cenv.locals != cenv.globals)) = false)
    (hab : a ≠ b) (hDC : D ≠ cenv.locals) (hDf : D ∉ fp) (hCf : cenv.locals ∉ fp) (f : Int → Int → Int)
    (elem : ∀ s₃ m₃ x y t u, s₃.heap.Ns cenv.locals m₃ → m₃ a = some (.int x t) → m₃ b = some (.int y u) → EV prog w A cenv s₃ elt (.dI (f x y)))
    (hst : St 0 s.heap) (hacc : s.heap.PlainList D #[]) (hns : s.heap.Ns cenv.locals m)
    (fin : ∀ h' tk m' vs, h'.Ns cenv.locals m' → LL h' D vs → IntsAre vs (src.map fun p => f p.1 p.2) → (∀ c o, c ∉ wr → c ≠ D → c ≠ cenv.locals → s.heap.get? c = some o → h'.get? c = some o) → R (.ok .next) { s with heap := h', toks := tk }) :
    codeAny (model prog w) A (.compLoop (.ListComp elt [⟨.Tuple [.Name a pa, .Name b pb] kk tp, iter, [], 0⟩] scope pos) 0 (.ref I) (.ref D) cenv) R s := by
  refine kcp_loop (fun k s' => ∃ i h tk m' vs, s' = { s with heap := h, toks := tk } ∧ i ≤ n ∧ k = n + 1 - i ∧ St i h ∧ h.Ns cenv.locals m' ∧ LL h D vs ∧ IntsAre vs ((src.take i).map fun p => f p.1 p.2) ∧
    (∀ c o, c ∉ wr → c ≠ D → c ≠ cenv.locals → s.heap.get? c = some o → h.get? c = some o)) ?_ (n + 1) ⟨0, s.heap, s.toks, m, [], rfl, Nat.zero_le _, rfl, hst, hns, hacc, by simpa using IntsAre.nil, fun _ _ _ _ _ e => e⟩
  rintro k _ ⟨i, h, tk, m', vs, rfl, hi, rfl, hSt, hN, hL, hI, hK⟩
  by_cases hlt : i < n
  · refine W.item i _ _ _ hlt hSt fun T vals h₁ tk₁ hPt hT hTup hMid hk₁ => ?_
    obtain ⟨p, t, u, hp', rfl⟩ := hP i vals hPt
    have hwr : ∀ c, c ∉ fp → c ∉ wr := fun c hc hw => hc (W.sub c hw)
    refine W.go _ _ _ i T _ _ _ hMid fun h₂ hSt₂ hk₂ => ?_
    have hTw := W.apart i T h₁ hMid
    have hTup₂ : h₂.IsTuple T #[.int p.1 t, .int p.2 u] := by
      obtain ⟨o, e, r⟩ := hTup
      exact ⟨o, hk₂ _ _ hTw e, r⟩
    have up : ∀ c o, c ∉ wr → h.get? c = some o → h₂.get? c = some o := fun c o hc e => hk₂ c o hc (hk₁ c o hc e)
    have hN₂ : h₂.Ns cenv.locals m' := hN.at' fun o e => up _ o (hwr _ hCf) e
    have hL₂ : LL h₂ D vs := by
      obtain ⟨nn, e⟩ := hL
      exact ⟨nn, up _ _ (hwr _ hDf) e⟩
    refine kcp_assign hh hTup₂ ha hb hp hN₂ fun h₃ tk₃ hN₃ hk₃ => ?_
    have hL₃ : LL h₃ D vs := by
      obtain ⟨nn, e⟩ := hL₂
      exact ⟨nn, hk₃ _ _ hDC e⟩
    refine (elem { s with heap := h₃, toks := tk₃ } _ p.1 p.2 t u hN₃ (by simp [hab]) (by simp)).go (kRefl _) fun v s₄ k₄ dv => ?_
    obtain ⟨tv, rfl⟩ := dv
    obtain ⟨h₄, tk₄, rfl, kk₄⟩ := k₄
    have hL₄ : LL h₄ D vs := hL₃.at kk₄
    have hvl := hI.length
    refine wpAny_list_append_plain hL₄ (fun h₅ hL₅ hs₅ => ?_) (by rw [List.size_toArray, hvl, sizeLine_eq]; simp; omega)
    have hfr : ∀ c o, c ∉ wr → c ≠ D → c ≠ cenv.locals → h.get? c = some o → h₅.get? c = some o := fun c o c1 c2 c3 e => (hs₅.2 c c2).trans (kk₄ c o (hk₃ c o c3 (up c o c1 e)))
    have hSt₅ : St (i + 1) h₅ := W.frame _ _ _ hSt₂ fun c hc o e => (hs₅.2 c (fun x => hDf (x ▸ hc))).trans (kk₄ c o (hk₃ c o (fun x => hCf (x ▸ hc)) e))
    refine ⟨n + 1 - (i + 1), by omega, i + 1, h₅, tk₄, _, vs ++ [.int (f p.1 p.2) tv], rfl, by omega, rfl, hSt₅, (hN₃.keeps kk₄).sameBut hs₅ (Ne.symm hDC), ?_, ?_, fun c o c1 c2 c3 e => hfr c o c1 c2 c3 (hK c o c1 c2 c3 e)⟩
    · rw [LL, ← show vs.toArray.push (Value.int (f p.1 p.2) tv) = (vs ++ [Value.int (f p.1 p.2) tv]).toArray from by simp]
      exact hL₅
    · rw [List.take_add_one, hp']
      simp only [Option.toList_some, List.map_append, List.map_cons, List.map_nil]
      exact hI.append (.cons _ _ .nil)
  · have : i = n := by omega
    subst this
    refine W.done _ _ _ hSt fun h₁ tk₁ hk₁ => ?_
    have hwr : ∀ c, c ∉ fp → c ∉ wr := fun c hc hw => hc (W.sub c hw)
    rw [List.take_of_length_le (by omega)] at hI
    refine fin h₁ tk₁ m' vs (hN.at' fun o e => hk₁ _ o (hwr _ hCf) e) ?_ hI fun c o c1 c2 c3 e => hk₁ c o c1 (hK c o c1 c2 c3 e)
    obtain ⟨nn, e⟩ := hL
    exact ⟨nn, hk₁ _ _ (hwr _ hDf) e⟩
end
end Mine
end

section
open PySem PySem.W PyProof.Rows
set_option Elab.async false
set_option maxRecDepth 100000
set_option linter.unusedVariables false
namespace Mine
section
variable {prog : Program} {w : World} {A : Around} {env : Env} {s₀ s : Shared} {mg mb m : Str → Option Value} {Q : Flow → Shared → Prop} {E : Value → Shared → Prop}
theorem stAssignZip {elt f e1 e2 : Expr} {a b y : Str} {pa pb tp py zpos pos spos : Pos} {kk : Nat} {scope : Scope} {cl : List (Str × Addr)} {rest : List Stmt} {xs ys : List Int} {g : Int → Int → Int}
    (hh : A.handled = none) (F : InCall s₀ env.locals m s) (hf : EV prog w A env s f (.dV (.type "zip"))) (h12 : AV prog w A env s zpos [e1, e2] [.dL xs, .dL ys]) (hz : xs.length ≤ 1000)
    (elem : ∀ C s₃ m₃ x y t u, s₃.heap.Ns C m₃ → m₃ a = some (.int x t) → m₃ b = some (.int y u) → EV prog w A (compEnvC scope cl C env) s₃ elt (.dI (g x y)))
    (k : ∀ v s', InCall s₀ env.locals (upd m y v) s' → TrB [] s.heap s'.heap → Cs s.heap s'.heap → Den s'.heap v (.dL ((xs.zip ys).map fun p => g p.1 p.2)) → wpAny (model prog w) A (execs rest env) Q E s')
    (hab : a ≠ b := by decide)
    (hsw : swapsWith (.ListComp elt [⟨.Tuple [.Name a pa, .Name b pb] kk tp, .Call f [e1, e2] [] zpos, [], 0⟩] scope pos) (some (.Name y py)) spos.line env = pure true := by rfl)
    (hclos : closureFor scope env = pure cl := by rfl) (hcell : ∀ y ∈ scope.names, y.2 ≠ .cell := by decide) (hkind : scope.kind = .function := by rfl)
    (hnames : ∀ y ∈ scope.names, y.2 = .local → scope.names.lookup y.1 = some .local := by decide) (ha : scope.names.lookup a = some .local := by rfl) (hb : scope.names.lookup b = some .local := by rfl)
    (hy : env.kindOf y = some .local := by rfl) (hp : (env.scope.kind == .class || (env.scope.kind == .module && env.locals != env.globals)) = false := by rfl)
    (hcall : eval (.Call f [e1, e2] [] zpos) env = (do callWith zpos (← eval f env) [] (backTo zpos (starEach [e1, e2] env)) (backToKw zpos (keywordEach [] env))) := by rfl)
    (he : starEach [e1, e2] env = (false, eval e1 env) :: starEach [e2] env := by rfl) (hpl : (backTo zpos (starEach [e2] env)).any (·.1) = false := by rfl)
    (hfo : ∀ x, foldedSetIterable (.Call f [e1, e2] [] zpos) env x = pure x := by intro _; rfl) :
    wpAny (model prog w) A (execs (.Assign [.Name y py] (.ListComp elt [⟨.Tuple [.Name a pa, .Name b pb] kk tp, .Call f [e1, e2] [] zpos, [], 0⟩] scope pos) spos :: rest) env) Q E s := by
  refine wpAny_execs_cons ?_
  rw [exec_Assign_Name_used _ _ _ _ hsw]
  refine wpAny_bind (wpAny_standAt (wpAny_bind ?_))
  show wpAny _ A (do let _ ← comprehension (.ListComp elt [⟨.Tuple [.Name a pa, .Name b pb] kk tp, .Call f [e1, e2] [] zpos, [], 0⟩] scope pos) scope env _ (newList []) false (eval (.Call f [e1, e2] [] zpos) env) (some (assign (.Name y py) env))) _ _ s
  refine wpAny_bind (wpAny_mono (wpAny_comprehension_free (use := some (assign (.Name y py) env)) (Q := fun _ s' => wpAny (model prog w) A (execs rest env) Q E s') rfl hfo hclos hkind hnames ?_) (fun _ s' hq => wpAny_pure (wpAny_pure hq)) fun _ _ e => e)
  refine Call_ (hf.go (kRefl _) fun v s₁ k₁ dv => ?_) hcall
  obtain rfl := dv
  refine PyProof.Rows.callWith_type1 (wpAny_mono (h12 s₁ k₁ _) (fun vs s₂ q => ?_) fun _ _ e => e) he hpl
  obtain ⟨q1, q2⟩ := q
  have k2 := kTrans k₁ q1
  cases q2 with
  | cons d1 r =>
  cases r with
  | cons d2 r =>
  cases r
  obtain ⟨l1, us, rfl, p1, i1⟩ := d1
  obtain ⟨l2, vs, rfl, p2, i2⟩ := d2
  have lt1 := p1.lt
  have lt2 := p2.lt
  refine call_zip_2 p1.isList p2.isList fun h' hZ hTI hTO hI1 hI2 hsz hk => ?_
  generalize hN : s₂.heap.objs.size = N at *
  refine wpAny_pyIter_zip hZ ?_
  have kz : Keeps s { s₂ with heap := h' } := kTrans k2 ⟨h', s₂.toks, rfl, hk⟩
  have ne : ∀ {x y : Nat}, (x < y ∨ y < x) → x ≠ y := fun h => by omega
  have lts : ∀ {h : Heap} {b : Nat} {o : Obj}, h.get? b = some o → @LT.lt Nat _ b h.objs.size := fun e => Heap.lt_size e
  have lt1 : @LT.lt Nat _ l1 N := lt1
  have lt2 : @LT.lt Nat _ l2 N := lt2
  have D : ZipApart (N + 4) (N + 2) (N + 3) N (N + 1) l1 l2 := ⟨ne (by omega), ne (by omega), ne (by omega), ne (by omega), ne (by omega), ne (by omega), ne (by omega), ne (by omega), ne (by omega), ne (by omega), ne (by omega), ne (by omega), ne (by omega), ne (by omega), ne (by omega), ne (by omega), ne (by omega), ne (by omega)⟩
  have W := WalksT.zip2 (prog := prog) (w := w) (A := A) hh (N + 4) (N + 2) (N + 3) N (N + 1) l1 l2 D us.toArray vs.toArray
  have hfp : ∀ c : Nat, c ∈ ([N + 4, N + 2, N + 3, N, N + 1, l1, l2] : List Nat) → c < N + 5 := by
    intro c hc
    simp only [List.mem_cons, List.not_mem_nil, or_false] at hc
    rcases hc with rfl | rfl | rfl | rfl | rfl | rfl | rfl <;> omega
  have hwr : ∀ c : Nat, c ∈ ([N + 4, N + 3, N, N + 1] : List Nat) → N ≤ c := by
    intro c hc
    simp only [List.mem_cons, List.not_mem_nil, or_false] at hc
    rcases hc with rfl | rfl | rfl | rfl <;> omega
  have hl1 := i1.length
  have hl2 := i2.length
  refine wpAny_newObj_type (wpAny_newFunctionEnv hcell (by intro y hy; simp at hy) (fun h₁ hns₁ hsb₁ => ?_) hkind)
  dsimp only at hns₁ hsb₁ ⊢
  generalize hH2 : h'.push { cls := .type "list", dict := none, data := .seq ([] : List Value).toArray } = H2 at hns₁ hsb₁ ⊢
  have hC : H2.objs.size = N + 6 := by rw [← hH2, Heap.size_push, hsz]
  rw [hsz]
  have old : ∀ b o, h'.get? b = some o → h₁.get? b = some o := fun b o e => hsb₁.extBut b o (by have := lts e; rw [hsz] at this; rw [hC]; exact ne (by omega)) (Heap.get?_push_of_some _ (hH2 ▸ Heap.get?_push_of_some _ e))
  have hacc : h₁.PlainList (N + 5) #[] := ⟨_, hsb₁.extBut _ _ (by rw [hC]; exact ne (by omega)) (Heap.get?_push_of_some _ (hH2 ▸ (hsz ▸ Heap.get?_push_size _ rfl)))⟩
  have hst₁ : (fun (i : Nat) (h : Heap) => IsZip h (N + 4) (N + 2) (N + 3) .none ∧ IsPair h (N + 2) (.ref N) (.ref (N + 1)) ∧ (∃ a b, IsPair h (N + 3) a b) ∧ h.IsListIter N l1 i ∧ h.IsListIter (N + 1) l2 i ∧ h.IsList l1 us.toArray ∧ h.IsList l2 vs.toArray) 0 h₁ := by
    refine W.frame 0 h' h₁ ⟨hZ, hTI, ⟨_, _, hTO⟩, hI1, hI2, (p1.at hk).isList, (p2.at hk).isList⟩ fun b _ o e => old b o e
  have hLlt : @LT.lt Nat _ env.locals N := by
    obtain ⟨o, es, ep, h1, _⟩ := F.ns
    have := lts (kGet k2 _ _ h1)
    rw [hN] at this
    exact this
  have loop : ∀ s₃ : Shared, s₃ = { s₂ with heap := h₁, toks := s₂.toks + ([] : List (Str × Value)).length } →
      codeAny (model prog w) A (.compLoop (.ListComp elt [⟨.Tuple [.Name a pa, .Name b pb] kk tp, .Call f [e1, e2] [] zpos, [], 0⟩] scope pos) 0 (.ref (N + 4)) (.ref (N + 5)) (compEnvC scope cl H2.objs.size env))
        (compPost (model prog w) A E (some (assign (.Name y py) env)) (fun _ s' => wpAny (model prog w) A (execs rest env) Q E s') (.ref (N + 5)) H2.objs.size) s₃ := by
    rintro s₃ rfl
    refine zipLoop (cenv := compEnvC scope cl H2.objs.size env) hh W (xs.zip ys) (by simp [List.length_zip, hl1, hl2]) (by simp [hl1]; omega) ?_ (lookup_relabel_local ha) (lookup_relabel_local hb) (by simp [compEnvC, relabel, hkind]) hab
      (by show N + 5 ≠ H2.objs.size; rw [hC]; exact ne (by omega)) (fun hm => by have := hfp _ hm; omega) (fun hm => by have := hfp _ hm; have e : (compEnvC scope cl H2.objs.size env).locals = N + 6 := hC; rw [e] at this; omega) g (fun s₃ m₃ x y t u hn hx hy => elem _ s₃ m₃ x y t u hn hx hy) hst₁ hacc hns₁ ?_
    · rintro i vals ⟨x, y, hx, hy, rfl⟩
      obtain ⟨n1, t, rfl, e1⟩ := IntsAre.at i1 i x (by simpa using hx)
      obtain ⟨n2, u, rfl, e2⟩ := IntsAre.at i2 i y (by simpa using hy)
      refine ⟨(n1, n2), t, u, ?_, rfl⟩
      rw [List.getElem?_zip_eq_some]
      exact ⟨e1, e2⟩
    intro h₂ tk₂ m' zs hn₂ hL₂ hI₂ hk₂
    have hk₃ : ∀ c o, s₂.heap.get? c = some o → h₂.get? c = some o := fun c o e => hk₂ c o (fun hw => by have := hwr c hw; have := lts e; omega) (ne (by have := lts e; omega)) (by show c ≠ H2.objs.size; rw [hC]; exact ne (by have := lts e; omega)) (old _ _ (hk _ _ e))
    have kf : Keeps s { s₂ with heap := h₂, toks := tk₂ } := kTrans k2 ⟨h₂, tk₂, rfl, hk₃⟩
    show wpAny _ A (assign (.Name y py) env (.ref (N + 5))) _ _ _
    refine wpAny_assign_Name (wpAny_storeName_local hy (F.ns.keeps (kGet kf)) (fun h₃ hn₃ hs₃ => ?_) hp)
    have hLC : env.locals ≠ H2.objs.size := by rw [hC]; exact ne (by omega)
    refine ⟨m', Heap.Ns.sameBut hn₂ hs₃ (Ne.symm hLC), fun h₄ hs₄ => ?_⟩
    have tr := trSame (F.ns.keeps (kGet kf)) hs₃
    have F3 := inCallSet (t := tk₂) (inCallK F kf) hn₃ hs₃
    have up : ∀ c o, c ≠ H2.objs.size → h₃.get? c = some o → h₄.get? c = some o := fun c o hc e => hs₄.extBut c o hc e
    refine k (.ref (N + 5)) _ ⟨?_, hn₃.sameBut hs₄ hLC, fun c o e => up c o ?_ (F3.keep c o e), F.fresh⟩ ?_ ?_ ?_
    · obtain ⟨ha, ta, ea⟩ := F3.same
      exact ⟨h₄, tk₂ + 1, by
        have : ({ s₂ with heap := h₃, toks := tk₂ } : Shared) = { s₀ with heap := ha, toks := ta } := ea
        simp only [Shared.mk.injEq] at this ⊢
        exact ⟨trivial, this.2.1, this.2.2.1, trivial, this.2.2.2.2⟩⟩
    · have := lts (kGet (kTrans (InCall.keeps' F) k2) _ _ e)
      rw [hC]; exact ne (by omega)
    · intro c o po _ e
      have := lts (kGet k2 _ _ e)
      exact up c o (by rw [hC]; exact ne (by omega)) (tr c o po (by simp) (kGet kf _ _ e))
    · intro c v x
      have hx2 := (csOf (kGet kf)).trans (csSame (F.ns.keeps (kGet kf)) hs₃) c v x
      obtain ⟨o, e, e'⟩ := hx2
      refine ⟨o, up c o ?_ e, e'⟩
      obtain ⟨o', e1, _⟩ := x
      have := lts (kGet k2 _ _ e1)
      rw [hC]; exact ne (by omega)
    · refine ⟨N + 5, zs, rfl, ?_, hI₂⟩
      obtain ⟨nn, e⟩ := hL₂
      exact ⟨nn, up _ _ (by rw [hC]; exact ne (by omega)) (tr _ _ plainL (by simp) e)⟩
  exact codeAny_compStart_list (loop _ rfl) (W.self 0 _ _ _ hst₁ (loop _ rfl))
end
end Mine
end

section
open PySem PySem.W PyProof.Rows
set_option Elab.async false
set_option maxRecDepth 100000
set_option linter.unusedVariables false
namespace Mine
/-- a pair of a word and a truth value -/
def PD (h : Heap) (v : Value) (p : D × Bool) : Prop := ∃ T x, v = .ref T ∧ h.get? T = some { cls := .type "tuple", data := .seq #[x, .bool p.2] } ∧ Den h x p.1
inductive PDL (h : Heap) : List Value → List (D × Bool) → Prop
  | nil : PDL h [] []
  | cons {v : Value} {p : D × Bool} {vs : List Value} {ps : List (D × Bool)} : PD h v p → PDL h vs ps → PDL h (v :: vs) (p :: ps)
theorem PD.at {h h' : Heap} {v : Value} {p : D × Bool} (x : PD h v p) (k : ∀ b o, h.get? b = some o → h'.get? b = some o) : PD h' v p := by
  obtain ⟨T, y, e, g, d⟩ := x
  exact ⟨T, y, e, k _ _ g, d.at k⟩
theorem PDL.at {h h' : Heap} (k : ∀ b o, h.get? b = some o → h'.get? b = some o) : ∀ {vs : List Value} {ps : List (D × Bool)}, PDL h vs ps → PDL h' vs ps
  | _, _, .nil => .nil
  | _, _, .cons a r => .cons (a.at k) (PDL.at k r)
theorem PDL.length {h : Heap} : ∀ {vs : List Value} {ps : List (D × Bool)}, PDL h vs ps → vs.length = ps.length
  | _, _, .nil => rfl
  | _, _, .cons _ r => by simp [r.length]
theorem PDL.get {h : Heap} : ∀ {vs : List Value} {ps : List (D × Bool)}, PDL h vs ps → ∀ {i : Nat} {v : Value}, vs[i]? = some v → ∃ p, ps[i]? = some p ∧ PD h v p
  | _, _, .nil, i, v, e => by simp at e
  | _, _, .cons a r, 0, v, e => by
    simp only [List.getElem?_cons_zero, Option.some.injEq] at e
    subst e
    exact ⟨_, rfl, a⟩
  | _, _, .cons a r, i + 1, v, e => by
    simp only [List.getElem?_cons_succ] at e ⊢
    exact r.get e
section
variable {prog : Program} {w : World} {A : Around} {env : Env} {s₀ s : Shared} {mg mb m : Str → Option Value} {Q : Flow → Shared → Prop} {E : Value → Shared → Prop}
def AVP (prog : Program) (w : World) (A : Around) (env : Env) (s₀ : Shared) (pos : Pos) (es : List Expr) (ps : List (D × Bool)) : Prop :=
  ∀ s, Keeps s₀ s → ∀ E : Value → Shared → Prop, wpAny (model prog w) A (spliced (backTo pos (starEach es env))) (fun vs s' => Keeps s s' ∧ PDL s'.heap vs ps) E s
theorem AVP.nil {pos : Pos} : AVP prog w A env s₀ pos [] [] := fun _ _ _ => args_nil ⟨kRefl _, .nil⟩
theorem AVP.cons {pos pos' bpos : Pos} {kb kt : Nat} {e : Expr} {b : Bool} {es : List Expr} {d : D} {ps : List (D × Bool)} (h : EV prog w A env s₀ e d) (r : AVP prog w A env s₀ pos es ps)
    (he : starEach (.Tuple [e, .Constant (.bool b) kb bpos] kt pos' :: es) env = (false, eval (.Tuple [e, .Constant (.bool b) kb bpos] kt pos') env) :: starEach es env := by rfl)
    (he2 : starEach [e, .Constant (.bool b) kb bpos] env = (false, eval e env) :: starEach [.Constant (.bool b) kb bpos] env := by rfl) :
    AVP prog w A env s₀ pos (.Tuple [e, .Constant (.bool b) kb bpos] kt pos' :: es) ((d, b) :: ps) :=
  fun s k E => args_cons (wpAny_Tuple (wpAny_mono (AV.cons h (AV.cons EV.cbool AV.nil) he2 s k E) (fun vs s₁ q => by
    obtain ⟨q1, q2⟩ := q
    cases q2 with
    | cons d1 r1 =>
    cases r1 with
    | cons d2 r2 =>
    cases r2
    rename_i x y
    obtain rfl : y = .bool b := d2
    refine ⟨by simp [sizeLine_eq], wpAny_mono (r _ (kTrans k (kTrans q1 (kPush ..))) E) (fun vs s₂ q => ⟨kTrans q1 (kTrans (kPush ..) q.1), .cons ?_ q.2⟩) fun _ _ e => e⟩
    refine ⟨s₁.heap.objs.size, x, rfl, kGet q.1 _ _ (Heap.get?_push_size _ rfl), (d1.at fun b o e => Heap.get?_push_of_some _ e).k q.1⟩) fun _ _ e => e)) he

theorem stForPairs {a b : Str} {pa pb tp lpos pos : Pos} {kk : Nat} {es : List Expr} {body rest : List Stmt} {ps : List (D × Bool)} (hh : A.handled = none) (F : InCall s₀ env.locals m s) (he : AVP prog w A env s lpos es ps) (hz : ps.length ≤ 1000) (hab : a ≠ b)
    (turn : ∀ p v m₁ s₁, p ∈ ps → InCall s₀ env.locals (upd (upd m₁ a v) b (.bool p.2)) s₁ → (∀ y, y ≠ a → y ≠ b → m₁ y = m y) → (∀ c o, c ≠ env.locals → s.heap.get? c = some o → s₁.heap.get? c = some o) → Den s₁.heap v p.1 →
      ∀ E, wpAny (model prog w) A (execs body env) (fun f s₂ => f = .next ∧ Keeps s₁ s₂) E s₁)
    (done : ∀ m₁ s₁, InCall s₀ env.locals m₁ s₁ → (∀ y, y ≠ a → y ≠ b → m₁ y = m y) → (∀ c o, c ≠ env.locals → s.heap.get? c = some o → s₁.heap.get? c = some o) → wpAny (model prog w) A (execs rest env) Q E s₁)
    (ha : env.kindOf a = some .local := by rfl) (hb : env.kindOf b = some .local := by rfl)
    (hp : (env.scope.kind == .class || (env.scope.kind == .module && env.locals != env.globals)) = false := by rfl)
    (hf : ∀ x, foldedSetIterable (.List es lpos) env x = pure x := by intro _; rfl) :
    wpAny (model prog w) A (execs (.For (.Tuple [.Name a pa, .Name b pb] kk tp) (.List es lpos) body [] pos :: rest) env) Q E s := by
  refine wpAny_execs_cons (wpAny_For (wpAny_List (wpAny_mono (he s (kRefl _) _) (fun vs s₁ q => ?_) fun _ _ e => e)) hf)
  obtain ⟨k₁, q⟩ := q
  have hlen := q.length
  refine ⟨by rw [sizeLine_eq]; omega, ?_⟩
  have hl : (s₁.heap.push { cls := .type "list", data := .seq vs.toArray }).IsList s₁.heap.objs.size vs.toArray := ⟨_, Heap.get?_push_size _ rfl, rfl, _, rfl⟩
  refine wpAny_pyIter_list hl ?_
  have q₂ : PDL ((s₁.heap.push { cls := .type "list", data := .seq vs.toArray }).push { cls := .type "list_iterator", data := .fields #[.ref s₁.heap.objs.size, .int 0 0] }) vs ps := q.at fun b o e => Heap.get?_push_of_some _ (Heap.get?_push_of_some _ e)
  have k₂ : Keeps s { s₁ with heap := (s₁.heap.push { cls := .type "list", data := .seq vs.toArray }).push { cls := .type "list_iterator", data := .fields #[.ref s₁.heap.objs.size, .int 0 0] } } := kTrans k₁ (kTrans (kPush ..) (kPush ..))
  have hI : ((s₁.heap.push { cls := .type "list", data := .seq vs.toArray }).push { cls := .type "list_iterator", data := .fields #[.ref s₁.heap.objs.size, .int 0 0] }).IsListIter (s₁.heap.push { cls := .type "list", data := .seq vs.toArray }).objs.size s₁.heap.objs.size 0 :=
    ⟨_, Heap.get?_push_size _ rfl, rfl, rfl⟩
  have hl₂ := hl.push { cls := .type "list_iterator", data := .fields #[.ref s₁.heap.objs.size, .int 0 0] }
  have hIl : s₁.heap.objs.size ≠ (s₁.heap.push { cls := .type "list", data := .seq vs.toArray }).objs.size := by rw [Heap.size_push]; exact Nat.ne_of_lt (Nat.lt_succ_self _)
  have hIn : s.heap.get? (s₁.heap.push { cls := .type "list", data := .seq vs.toArray }).objs.size = none := kNone k₁ (by rw [Heap.size_push]; exact Nat.le_succ _)
  have hln : s.heap.get? s₁.heap.objs.size = none := kNone k₁ (Nat.le_refl _)
  generalize (s₁.heap.push { cls := .type "list", data := .seq vs.toArray }).objs.size = I at *
  generalize s₁.heap.objs.size = l at *
  generalize hsl : ({ s₁ with heap := _ } : Shared) = sl at *
  have hq₂ : PDL sl.heap vs ps := by rw [← hsl]; exact q₂
  have hIsl : sl.heap.IsListIter I l 0 := by rw [← hsl]; exact hI
  have hlsl : sl.heap.IsList l vs.toArray := by rw [← hsl]; exact hl₂
  clear q₂ hI hl₂ hl hsl q k₁ s₁
  have F₂ := inCallK F k₂
  have hLs : ∃ o, s.heap.get? env.locals = some o := by obtain ⟨o, _, _, e, _⟩ := F.ns; exact ⟨o, e⟩
  have hLI : env.locals ≠ I := by rintro rfl; obtain ⟨o, e⟩ := hLs; rw [hIn] at e; cases e
  have hLl : env.locals ≠ l := by rintro rfl; obtain ⟨o, e⟩ := hLs; rw [hln] at e; cases e
  have hs₀ : ∀ c o, s₀.heap.get? c = some o → c ≠ env.locals ∧ c ≠ I := fun c o e => ⟨by rintro rfl; exact absurd (Heap.lt_size e) (Nat.not_lt.mpr F.fresh), by rintro rfl; rw [F.keep _ _ e] at hIn; cases hIn⟩
  have mk : ∀ h tk m₁, h.Ns env.locals m₁ → (∀ c o, c ≠ env.locals → c ≠ I → sl.heap.get? c = some o → h.get? c = some o) → InCall s₀ env.locals m₁ { sl with heap := h, toks := tk } := fun h tk m₁ hn hk => by
    obtain ⟨h₁, t₁, e⟩ := F₂.same
    exact ⟨⟨h, tk, by rw [e]⟩, hn, fun c o e => hk c o (hs₀ c o e).1 (hs₀ c o e).2 (F₂.keep c o e), F.fresh⟩
  have fromS : ∀ h : Heap, (∀ c o, c ≠ env.locals → c ≠ I → sl.heap.get? c = some o → h.get? c = some o) → ∀ c o, c ≠ env.locals → s.heap.get? c = some o → h.get? c = some o := fun h hk c o hc e =>
    hk c o hc (by rintro rfl; rw [hIn] at e; cases e) (kGet k₂ _ _ e)
  refine codeAny_forLoop_any (fun k s' => ∃ i h tk m₁, s' = { sl with heap := h, toks := tk } ∧ i ≤ ps.length ∧ k = ps.length + 1 - i ∧ h.IsListIter I l i ∧ h.IsList l vs.toArray ∧ h.Ns env.locals m₁ ∧ (∀ y, y ≠ a → y ≠ b → m₁ y = m y) ∧
    (∀ c o, c ≠ env.locals → c ≠ I → sl.heap.get? c = some o → h.get? c = some o)) ?_ (ps.length + 1) ⟨0, sl.heap, sl.toks, m, rfl, Nat.zero_le _, rfl, hIsl, hlsl, F₂.ns, fun _ _ _ => rfl, fun _ _ _ _ e => e⟩
  rintro k _ ⟨i, h, tk, m₁, rfl, hi, rfl, hIt, hLi, hN, hag, hk⟩
  by_cases hlt : i < ps.length
  · have hv : vs[i]? = some vs[i] := List.getElem?_eq_getElem (by omega)
    refine wpAny_pyNext_list_item (x := vs[i]) hIt hLi (by rw [List.getElem?_toArray]; exact hv) fun h₁ hIt₁ hs₁ => ?_
    obtain ⟨p, hp', T, x, hT, hTg, hx⟩ := hq₂.get hv
    rw [hT]
    have hk₁ : ∀ c o, c ≠ env.locals → c ≠ I → sl.heap.get? c = some o → h₁.get? c = some o := fun c o c1 c2 e => (hs₁.2 c c2).trans (hk c o c1 c2 e)
    have hTL : T ≠ env.locals := by
      rintro rfl
      obtain ⟨o, es, ep, h1, h2, _⟩ := F₂.ns
      rw [hTg] at h1
      cases h1
      cases h2
    have hTI : T ≠ I := by
      rintro rfl
      obtain ⟨o, h1, h2, h3⟩ := hIsl
      rw [hTg] at h1
      cases h1
      cases h3
    have hTup : h₁.IsTuple T #[x, .bool p.2] := ⟨_, hk₁ _ _ hTL hTI hTg, rfl, _, rfl⟩
    refine wpAny_letOwnedTupleGo_listiter hIt₁ ?_
    have hN₁ : h₁.Ns env.locals m₁ := hN.sameBut hs₁ hLI
    refine kcp_assign hh hTup ha hb hp hN₁ fun h₂ tk₂ hN₂ hk₂ => ?_
    have hk₃ : ∀ c o, c ≠ env.locals → c ≠ I → sl.heap.get? c = some o → h₂.get? c = some o := fun c o c1 c2 e => hk₂ c o c1 (hk₁ c o c1 c2 e)
    have hxd : Den h₂ x p.1 := by
      have : TrC [] sl.heap h₂ := fun c o pl ni _ e => hk₃ c o (by
        rintro rfl
        obtain ⟨o', es, ep, h1, h2, _⟩ := F₂.ns
        rw [e] at h1
        cases h1
        exact pl.1 _ _ h2) (by
        rintro rfl
        obtain ⟨o', h1, h2, h3⟩ := hIsl
        rw [e] at h1
        cases h1
        exact ni ⟨⟨_, h3⟩, .inr h2⟩) e
      exact hx.trc this
    refine wpAny_mono (turn p x m₁ { sl with heap := h₂, toks := tk₂ } (List.mem_of_getElem? hp') (mk h₂ tk₂ _ hN₂ hk₃) hag (fromS h₂ hk₃) hxd _) (fun f s₃ q => ?_) fun _ _ e => e
    obtain ⟨rfl, h₃, tk₃, rfl, kk₃⟩ := q
    refine ⟨ps.length + 1 - (i + 1), by omega, i + 1, h₃, tk₃, _, rfl, by omega, rfl, ?_, ?_, hN₂.keeps kk₃, fun y y1 y2 => ?_, fun c o c1 c2 e => kk₃ c o (hk₃ c o c1 c2 e)⟩
    · obtain ⟨o, e, r⟩ := hIt₁
      exact ⟨o, kk₃ _ _ (hk₂ _ _ (Ne.symm hLI) e), r⟩
    · obtain ⟨o, e, r⟩ := hlsl
      exact ⟨o, kk₃ _ _ (hk₃ _ _ (Ne.symm hLl) hIl e), r⟩
    · simp only [y1, y2, if_false]
      exact hag y y1 y2
  · have : i = ps.length := by omega
    subst this
    refine wpAny_pyNext_list_end hh hIt hLi (by simp [hlen]) fun h₁ he₁ => ?_
    have hk₁ : ∀ c o, c ≠ env.locals → c ≠ I → sl.heap.get? c = some o → h₁.get? c = some o := fun c o c1 c2 e => he₁ c o c2 (hk c o c1 c2 e)
    exact wpAny_execs_nil (done m₁ _ (mk h₁ tk m₁ (hN.at' fun o e => he₁ _ o hLI e) hk₁) hag (fromS h₁ hk₁))
end
end Mine
end

section
open PySem PySem.W PyProof.Rows
set_option Elab.async false
set_option maxRecDepth 100000
set_option linter.unusedVariables false
namespace Mine
section
variable {prog : Program} {w : World} {A : Around} {env : Env} {s₀ s : Shared} {mg mb m : Str → Option Value} {Q : Flow → Shared → Prop} {E : Value → Shared → Prop}
theorem rForR {x : Str} {px pos : Pos} {iter : Expr} {body rest : List Stmt} {src : List Int} (F : InCall s₀ env.locals m s) (hsrc : SVr prog w A env s iter src)
    (J : Nat → (Str → Option Value) → Heap → Prop) (hN : ∀ i m h h', TrC [] h h' → Cs h h' → J i m h → J i m h') (h0 : J 0 m s.heap)
    (turn : ∀ i n t m₁ s₁, src[i]? = some n → J i m₁ s₁.heap → InCall s₀ env.locals (upd m₁ x (.int n t)) s₁ →
      wpR (model prog w) A (execs body env) (fun f s₄ => f = .next ∧ (∃ m₂, InCall s₀ env.locals m₂ s₄ ∧ J (i + 1) m₂ s₄.heap) ∧ TrB [] s₁.heap s₄.heap) (fun _ _ => False) s₁)
    (done : ∀ m₁ s₁, InCall s₀ env.locals m₁ s₁ → J src.length m₁ s₁.heap → wpR (model prog w) A (execs rest env) Q E s₁)
    (hf : ∀ x, foldedSetIterable iter env x = pure x := by intro _; rfl) (hx : env.kindOf x = some .local := by rfl)
    (hp : (env.scope.kind == .class || (env.scope.kind == .module && env.locals != env.globals)) = false := by rfl) :
    wpR (model prog w) A (execs (.For (.Name x px) iter body [] pos :: rest) env) Q E s := by
  refine rFor (hsrc s (kRefl _) _ _ fun I fp wr St s' X hfp => ?_) hf
  have kB : Keeps s₀ s := InCall.keeps' F
  refine crForLoop (fun k s' => ∃ i m₁, InCall s₀ env.locals m₁ s' ∧ J i m₁ s'.heap ∧ St i s'.heap ∧ i ≤ src.length ∧ k = src.length + 1 - i) ?_ (src.length + 1) ⟨0, m, inCallK F X.kp, hN _ _ _ _ (trcOf (kGet X.kp)) (csOf (kGet X.kp)) h0, X.start, Nat.zero_le _, rfl⟩
  rintro k s₁ ⟨i, m₁, F₁, j, hst, hi, rfl⟩
  have nx : ∀ h₁ : Heap, (∀ b o, b ∉ wr → s₁.heap.get? b = some o → h₁.get? b = some o) → TrN s₁.heap h₁ := fun h₁ hk b o q e => hk b o (fun hb => q (X.its i _ hst b hb o e)) e
  have old : ∀ h₁ : Heap, (∀ b o, b ∉ wr → s₁.heap.get? b = some o → h₁.get? b = some o) → ∀ b o, s.heap.get? b = some o → s₁.heap.get? b = some o → h₁.get? b = some o :=
    fun h₁ hk b o e e' => hk b o (fun hb => by rw [X.fresh b hb] at e; cases e) e'
  by_cases hlt : i < src.length
  · refine X.walks.item i _ _ _ hlt hst fun v h₁ tk₁ hP hst₁ hk₁ => ?_
    obtain ⟨t, rfl⟩ := hP
    have hsrc' : src[i]? = some (src.getD i 0) := by rw [List.getD_eq_getElem?_getD]; simp [hlt]
    have tN := nx h₁ hk₁
    have F₂ := inCallN (tk := tk₁) F₁ tN kB (old h₁ hk₁)
    refine wpAny_assign_Name (wpAny_storeName_local hx F₂.ns (fun h' hn' hs' => ?_) hp)
    have tr := trSame F₂.ns hs'
    have cs : Cs s₁.heap h' := fun c v y => csSame F₂.ns hs' c v (tN.cell y)
    refine rMono (turn i _ t m₁ _ hsrc' (hN _ _ _ _ (TrC.trans (tN.toC) tr.toC) cs j) (inCallSet F₂ hn' hs')) (fun f s₄ q => ?_) fun _ _ e => e
    obtain ⟨rfl, ⟨m₂, F₄, j₄⟩, tr₄⟩ := q
    refine ⟨rfl, src.length + 1 - (i + 1), by omega, i + 1, m₂, F₄, j₄, ?_, hlt, rfl⟩
    exact X.frame [] (by simp) _ _ _ hst₁ (tr.trans tr₄)
  · have : i = src.length := by omega
    subst this
    refine X.walks.done _ _ _ hst fun h₁ tk₁ hk₁ => ?_
    have tN := nx h₁ hk₁
    exact done m₁ _ (inCallN (tk := tk₁) F₁ tN kB (old h₁ hk₁)) (hN _ _ _ _ tN.toC (fun c v y => tN.cell y) j)
end
end Mine
end

section
open PySem PySem.W PyProof.Rows
set_option Elab.async false
set_option maxRecDepth 100000
set_option linter.unusedVariables false
namespace Mine
theorem tab_len {f : Nat → Int} {n : Nat} : (tab f n).length = n := by simp [tab]
theorem tab_take {f : Nat → Int} {n k : Nat} (h : k ≤ n) : (tab f n).take k = tab f k := by
  unfold tab
  rw [← List.map_take, List.take_range, Nat.min_eq_left h]
theorem tab_le {f : Nat → Int} {n : Nat} : ∀ x ∈ tab f n, x ≤ (tab f n).length := by
  intro x hx
  rw [tab_len]
  obtain ⟨j, hj, rfl⟩ := List.mem_map.mp hx
  have h1 := List.mem_range.mp hj
  have h2 := lb_lt f (n := j + 1) (by omega)
  omega
theorem lookLaw (w : World) : ∃ pm, (KF w).lookup 69 = some (fnObj "law" 11 pm 68) := ⟨_, rfl⟩
section
variable {prog : Program} {w : World} {A : Around} {E : Value → Shared → Prop} {s : Shared}
theorem rCellCall {mg mb : Str → Option Value} {a c : Addr} {name : Str} {i : Nat} {pm : Value} {vs : List Value} {binds : List (Str × Value)} {Q : Value → Shared → Prop}
    (hA : A.depth < recursionLimit) (W : Wd w mg mb s.heap) (hl : (KF w).lookup a = some (fnObj name i pm c)) (hc : codeIn (KF w) (.ref c) name = true)
    (hb : bindArgs (fdI name i pm c) ⟨vs, []⟩ = pure binds)
    (hkind : ∀ L, ∀ x ∈ binds, (sScope (fnSt i)).names.lookup x.1 = some .local ∨ ((sScope (fnSt i)).names.lookup x.1 = some .cell ∧ ((cellsFrom (L + 1) (sScope (fnSt i)).names []).lookup x.1).isSome = true))
    (hco : (sScope (fnSt i)).isCoroutine = false) (hgen : (sScope (fnSt i)).isGenerator = false) (hk : (sScope (fnSt i)).kind = .function)
    (h : ∀ s₁ L, L = s.heap.objs.size → InCallC s (callEnvC (fdI name i pm c) L a).locals (bindL (callEnvC (fdI name i pm c) L a).kindOf binds fun _ => none) (callEnvC (fdI name i pm c) L a).cells
        (bindC (callEnvC (fdI name i pm c) L a).kindOf binds fun _ => none) s₁ →
      wpR (model prog w) (A.deeper (callEnvC (fdI name i pm c) L a)) (execs (sBody (fnSt i)) (callEnvC (fdI name i pm c) L a)) (fun f s' => Q (match f with | .ret v => v | _ => .none) s') (fun _ _ => False) s₁) :
    wpR (model prog w) A (call (.ref a) vs) Q E s := by
  refine rCall (crCall (fd := fdI name i pm c) hA (W.K _ _ hl) rfl hco hgen rfl (codeRec_of W.K hc) (wpAny_of_eq hb ?_))
  refine wpAny_newFunctionEnv_cells hk (hkind _) fun env he s' x => ?_
  subst he
  exact ⟨W.lim.keeps x.toInCall.keep, crFunc (h s' _ rfl x)⟩
end

/-- the two letters -/
def letter (z n : Int) : Str := if (n == z) = true then Str.ofString "l" else Str.ofString "h"
def textOf (made : List Int) : Str := Txt.join (Str.ofString "") (made.map (letter (made.getD 0 0)))
/-- what the law's loop needs of one size -/
structure TurnFacts (row : List Int) (first : Int) (size : Nat) (made : List Int) : Prop where
  made_eq : made = madeOf ((first + 1).fmod 256) ((first + 2).fmod 256) ((brd (row.take size)).reverse ++ [(size : Int)])
  pos : 0 < size
  le : size ≤ row.length
  row16 : row.length ≤ 100
  told0 : told (tab (fun i => row.getD i 0) size) = brd (row.take size)
  rising : Rising 0 ((brd (row.take size)).reverse ++ [(size : Int)])
  mlen : made.length = size
  mbyte : ∀ x ∈ made, 0 ≤ x ∧ x < 256
  rbyte : ∀ x ∈ row, 0 ≤ x ∧ x < 256
  swap : swp size (row.take size ++ made ++ row.take size) = (row.take size).reverse ++ made.reverse ++ (row.take size).reverse
  t1 : told (tab (fun i => (made.map (· + 1000)).getD i 0) size) = brd (row.take size)
  t2 : told (tab (fun i => (((textOf made).cps.toList.getD i 0 : Nat) : Int)) size) = brd (row.take size)
  t3 : told (tab (fun i => ((row.take size).reverse).getD i 0) size) = brd (row.take size)
  t4 : told (tab (fun i => (made.reverse).getD i 0) size) = brd (row.take size)
theorem letter_len (z n : Int) : (letter z n).length = 1 := by unfold letter; split <;> decide
theorem textOf_len (made : List Int) : (textOf made).length = made.length := by
  have : ∀ (z : Int) (l : List Int), ((l.map (letter z)).flatMap (·.cps.toList)).length = l.length := by
    intro z l
    induction l with
    | nil => rfl
    | cons a r ih =>
      rw [List.map_cons, List.flatMap_cons, List.length_append, ih, List.length_cons]
      have := letter_len z a
      simp only [Str.length] at this
      rw [Array.length_toList, this]
      omega
  show (textOf made).cps.size = _
  rw [← Array.length_toList, textOf, joinCps]
  exact this _ _

abbrev lawEnv (pm : Value) (L : Addr) : Env := callEnvC (fdI "law" 11 pm 68) L 69
def lawFor : Stmt := (sBody (fnSt 11)).getD 7 (.Pass default)
def forBody : Stmt → List Stmt
  | .For _ _ b _ _ => b
  | _ => []
end Mine
end

section
open PySem PySem.W PyProof.Rows
set_option Elab.async false
set_option maxRecDepth 100000
set_option maxHeartbeats 2000000
set_option linter.unusedVariables false
namespace Mine
section
variable {prog : Program} {w : World} {A : Around} {s₀ : Shared} {mg mb : Str → Option Value}
theorem lawTurn (hA : AOk 3 A) (W : Wd w mg mb s₀.heap) {pm : Value} {L : Addr} {row : List Int} {first : Int} {size : Nat} {made : List Int} {vr vt : Value} {tf t : Tok} {m₁ : Str → Option Value} {s₁ : Shared} {um : Option Value}
    (T : TurnFacts row first size made)
    (F : InCall s₀ L (upd m₁ "size" (.int size t)) s₁) (hR : m₁ "row" = some vr) (hT : m₁ "table" = some vt) (dr : Den s₁.heap vr (.dL row)) (dt : Den s₁.heap vt (.dL (tab (fun i => row.getD i 0) row.length)))
    (hcf : s₁.heap.IsCell (L + 1) (some (.int first tf))) (hcm : s₁.heap.IsCell (L + 2) um) :
    wpR (model prog w) A (execs (forBody lawFor) (lawEnv pm L)) (fun f s₄ => f = .next ∧ (∃ m₂, InCall s₀ L m₂ s₄ ∧ m₂ "row" = some vr ∧ m₂ "table" = some vt ∧ Den s₄.heap vr (.dL row) ∧ Den s₄.heap vt (.dL (tab (fun i => row.getD i 0) row.length)) ∧
      s₄.heap.IsCell (L + 1) (some (.int first tf)) ∧ ∃ um, s₄.heap.IsCell (L + 2) um) ∧ TrB [] s₁.heap s₄.heap) (fun _ _ => False) s₁ := by
  have hp := T.pos
  have hle := T.le
  have h16 := T.row16
  have hfl : (row.take size).length = size := by rw [List.length_take]; omega
  have hL1 : s₀.heap.get? (L + 1) = none := by
    cases e : s₀.heap.get? (L + 1) with
    | none => rfl
    | some o => exact absurd (Nat.lt_of_lt_of_le (Heap.lt_size e) F.fresh) (Nat.not_lt.mpr (Nat.le_succ _))
  have hL2 : s₀.heap.get? (L + 2) = none := by
    cases e : s₀.heap.get? (L + 2) with
    | none => rfl
    | some o => exact absurd (Nat.lt_of_lt_of_le (Heap.lt_size e) F.fresh) (Nat.not_lt.mpr (Nat.le_add_right _ _))
  -- front
  refine rStmt (stAssignX (d := .dL (row.take size)) F (EV.upto (y := size) (EV.local F.ns (by exact hR) dr) (EV.locI F.ns rfl) (by omega) (by omega)) ?_)
  intro v1 s2 F2 tr2 cs2 d1
  refine wpAny_execs_nil ?_
  have W2 := W.at F2.keep
  obtain ⟨pmb, hlb⟩ := lookBorders w
  obtain ⟨pmt, hlt⟩ := lookTold w
  obtain ⟨pmm, hlm⟩ := lookMade w
  obtain ⟨pms, hls⟩ := lookByteswap w
  obtain ⟨pmi, hli⟩ := lookIsstring w
  obtain ⟨pmo, hlo⟩ := lookTable w
  -- due
  refine rStmt (stAssignX (d := .dL (brd (row.take size))) F2 (EV.callF (EV.def W2 (nsBorders w)) (AV.cons (EV.local F2.ns rfl d1) AV.nil) (W2.K _ _ hlb) rfl (borders_ok (hA.less (by omega)) W2 (by omega))) ?_)
  intro v2 s3 F3 tr3 cs3 d2
  refine wpAny_execs_nil ?_
  have W3 := W.at F3.keep
  have dt3 := (dt.tr tr2).tr tr3
  have hbl := brd_len (row.take size)
  -- told
  refine rStmt (stIf (c := false) (rest := []) ?_ (fun h => by cases h) fun _ s4 k4 => wpAny_execs_nil (wpAny_execs_nil ?_))
  · have h : (!decide (told ((tab (fun i => row.getD i 0) row.length).take (size : Int).toNat) = brd (row.take size))) = false := by
      rw [Int.toNat_natCast, tab_take hle, T.told0]; simp
    rw [← h]
    have htk : (tab (fun i => row.getD i 0) row.length).take (size : Int).toNat = tab (fun i => row.getD i 0) size := by rw [Int.toNat_natCast, tab_take hle]
    refine TE.cmp (EV.callF (EV.def W3 (nsTold w)) (AV.cons (EV.upto (y := size) (EV.local F3.ns (by exact hT) dt3) (EV.locI F3.ns rfl) (by omega) (by rw [tab_len]; omega)) AV.nil) (W3.K _ _ hlt) rfl (told_ok (hA.less (by omega)) W3 ?_ ?_ ?_)) (EV.local F3.ns rfl d2) (cmpNeL hA.units)
    · rw [htk]; intro e; have := congrArg List.length e; rw [tab_len] at this; simp at this; omega
    · rw [htk]; exact tab_le
    · rw [htk, tab_len]; omega
  have F4 := inCallK F3 k4
  have W4 := W.at F4.keep
  have cf4 := ((cs3 _ _ (cs2 _ _ hcf))).keeps (kGet k4)
  have cm4 := ((cs3 _ _ (cs2 _ _ hcm))).keeps (kGet k4)
  have d1' := (d1.tr tr3).k k4
  have d2' := d2.k k4
  -- made
  refine rStmt (stAssignCell (c := L + 2) (d := .dL made) F4 rfl cm4 hL2 ?_ ?_)
  · rw [T.made_eq]
    refine EV.callF (EV.def W4 (nsMade w)) (AV.cons (EV.addL (EV.revL (EV.local F4.ns rfl d2') (EV.neg EV.int) (by omega)) (EV.list (ns := [(size : Int)]) (AV.cons (EV.locI F4.ns rfl) AV.nil) (by simp)) (by simp; omega))
      (AV.cons (EV.mod (EV.add (EV.cell (c := L + 1) rfl cf4 ⟨tf, rfl⟩) EV.int) EV.int (by decide)) (AV.cons (EV.mod (EV.add (EV.cell (c := L + 1) rfl cf4 ⟨tf, rfl⟩) EV.int) EV.int (by decide)) AV.nil))) (W4.K _ _ hlm) rfl (made_ok (hA.less (by omega)) W4 T.rising ?_ ?_)
    · intro n hn
      rcases List.mem_append.mp hn with hn | hn
      · have := brd_mem (List.mem_reverse.mp hn)
        omega
      · rw [List.mem_singleton.mp hn]; omega
    · simp; omega
  intro vm s5 F5 tr5 cm5 cs5 dm
  refine wpAny_execs_nil ?_
  have W5 := W.at F5.keep
  have ne12 : (L + 1 : Addr) ≠ L + 2 := Nat.ne_of_lt (Nat.lt_succ_self _)
  have cf5 := cs5 _ _ ne12 cf4
  have d1'' := d1'.tr tr5
  have d2'' := d2'.tr tr5
  have hmb := T.mbyte
  have hrb := T.rbyte
  have hml := T.mlen
  -- turned
  refine rAssignCall (a := 35) (d := .dY ((row.take size).reverse ++ made.reverse ++ (row.take size).reverse)) (ds := [.dY (row.take size ++ made ++ row.take size), .dI size]) F5 (EV.def W5 (nsByteswap w))
    (AV.cons (EV.callT (EV.boot W5 (noBytes w) boot_bytes) (AV.cons (EV.addL (EV.addL (EV.local F5.ns rfl d1'') (EV.cell (c := L + 2) rfl cm5 dm) (by omega)) (EV.local F5.ns rfl d1'') (by simp; omega)) AV.nil) (callBytesL hA.1 ?_ (by simp; omega))) (AV.cons (EV.locI F5.ns rfl) AV.nil))
    (W5.K _ _ hls) rfl ?_ ?_
  · intro x hx
    rcases List.mem_append.mp hx with hx | hx
    · rcases List.mem_append.mp hx with hx | hx
      · exact hrb x (List.mem_of_mem_take hx)
      · exact hmb x hx
    · exact hrb x (List.mem_of_mem_take hx)
  · intro vs s' k' dd
    have := byteswap_ok (prog := prog) (A := A) (E := fun _ _ => False) (hA.less (by omega)) (W5.at (kGet k')) (p := size) (q := 3) hp (by omega) (by simp; omega) (by simp; omega) dd
    rw [T.swap] at this
    exact this
  intro v6 s6 F6 tr6 cs6 d6
  have W6 := W.at F6.keep
  have cf6 := cs6 _ _ cf5
  have cm6 := cs6 _ _ cm5
  have dm6 := dm.tr tr6
  have d16 := d1''.tr tr6
  have d26 := d2''.tr tr6
  -- what it gives
  refine rStmt (stIf (c := false) (rest := []) (TE.or (orF (TE.cmp (EV.callT (EV.boot W6 (noType w) boot_type) (AV.cons (EV.local F6.ns rfl d6) AV.nil) callTypeY) (EV.boot W6 (noBytes w) boot_bytes) cmpIsNotT) (orF ?_ orNil))) (fun h => by cases h) fun _ s7 k7 => wpAny_execs_nil (wpAny_execs_nil ?_))
  · have h : (!decide ((row.take size).reverse ++ made.reverse ++ (row.take size).reverse = (row.take size).reverse ++ made.reverse ++ (row.take size).reverse)) = false := by simp
    rw [← h]
    exact TE.cmp (EV.callT (EV.boot W6 (noList w) boot_list) (AV.cons (EV.local F6.ns rfl d6) AV.nil) (callListY hA.1 (by simp; omega)))
      (EV.addL (EV.addL (EV.revL (EV.local F6.ns rfl d16) (EV.neg EV.int) (by omega)) (EV.revL (EV.cell (c := L + 2) rfl cm6 dm6) (EV.neg EV.int) (by omega)) (by simp; omega)) (EV.revL (EV.local F6.ns rfl d16) (EV.neg EV.int) (by omega)) (by simp; omega)) (cmpNeL hA.units)
  have F7 := inCallK F6 k7
  have W7 := W.at F7.keep
  have cf7 := cf6.keeps (kGet k7)
  have cm7 := cm6.keeps (kGet k7)
  have dm7 := dm6.k k7
  have d27 := d26.k k7
  have d67 := d6.k k7
  -- raised
  refine rStmt (stAssignCompI (pz := fun _ => true) (f := fun n => n + 1000) F7 (SVi.list hA.1 (EV.cell (c := L + 2) rfl cm7 dm7)) (by omega) (fun C s₃ m₃ n t hn hk hns hm => TEs.nil) (fun C s₃ m₃ n t hn _ hk hns hm => EV.add (EV.locI hns hm) EV.int) ?_)
  intro v8 s8 F8 tr8 cs8 d8
  refine wpAny_execs_nil ?_
  have W8 := W.at F8.keep
  have cf8 := cs8 _ _ cf7
  have cm8 := cs8 _ _ cm7
  have dm8 := dm7.tr tr8
  have d28 := d27.tr tr8
  have d68 := d67.tr tr8
  have hft : (made.filter fun _ => true) = made := List.filter_eq_self.mpr (by simp)
  rw [hft] at d8
  have hm0 : made[(0 : Int).toNat]? = some (made.getD 0 0) := by
    rw [List.getD_eq_getElem?_getD, show (0 : Int).toNat = 0 from rfl, List.getElem?_eq_getElem (by omega)]
    rfl
  -- text
  refine rStmt (stAssignX (d := .dS (textOf made)) F8 (EV.join (zs := made.map (letter (made.getD 0 0))) EV.cstr ?_ ?_ (by simp; omega)) ?_)
  · refine EV.comp (pz := fun _ => true) (G := fun n y => ∃ t, y = .str (letter (made.getD 0 0) n) t) (SVi.list hA.1 (EV.cell (c := L + 2) rfl cm8 dm8)) (by omega) (fun C s₃ m₃ n t hn hk hns hm => TEs.nil) (fun C s₃ m₃ n t hn _ hk hns hm => elemS ?_) (fun h D us l p => ⟨D, us, rfl, l, ?_⟩)
    · refine EV.ite (c := (n == made.getD 0 0)) (TE.cmp (EV.locI hns hm) (EV.itemL (EV.cell (c := L + 2) rfl (cm8.keeps hk) (dm8.at hk)) EV.int (by omega) hm0 (by omega)) cmpEqI) (fun h => ?_) (fun h => ?_)
      · rw [letter, if_pos h]; exact EV.cstr
      · rw [letter, if_neg (by rw [h]; decide)]; exact EV.cstr
    · rw [hft] at p
      exact paired_strs p
  · intro z hz
    obtain ⟨n, _, rfl⟩ := List.mem_map.mp hz
    exact letter_len _ _
  intro v9 s9 F9 tr9 cs9 d9
  refine wpAny_execs_nil ?_
  have cf9 := cs9 _ _ cf8
  have cm9 := cs9 _ _ cm8
  have d29 := d28.tr tr9
  have d69 := d68.tr tr9
  have d89 := d8.tr tr9
  have tr19 : TrB [] s₁.heap s9.heap := tr2.trans (tr3.trans ((trOf (kGet k4)).trans (tr5.trans (tr6.trans ((trOf (kGet k7)).trans (tr8.trans tr9))))))
  -- the four words
  refine rOf (stForPairs (ps := [(.dL (made.map fun n => n + 1000), false), (.dS (textOf made), true), (.dY (row.take size).reverse, true), (.dY made.reverse, true)]) hA.1 F9
    (AVP.cons (EV.local F9.ns rfl d89) (AVP.cons (EV.local F9.ns rfl d9) (AVP.cons (EV.sliceY (EV.local F9.ns rfl d69) .none (.some (EV.locI F9.ns rfl)) ?_ (by simp; omega)) (AVP.cons (EV.sliceY (EV.local F9.ns rfl d69) (.some (EV.locI F9.ns rfl)) (.some (EV.mul EV.int (EV.locI F9.ns rfl) (IntMulOk.of_left (by decide)))) ?_ (by simp; omega)) AVP.nil)))) (by simp) (by decide) ?_ ?_)
  · have h1 : clipAt ((row.take size).reverse ++ made.reverse ++ (row.take size).reverse).length size = size := by
      unfold clipAt
      rw [if_neg (by omega)]
      simp only [List.length_append, List.length_reverse, hfl, hml]
      omega
    simp only [Option.elim, h1, List.drop_zero, Nat.sub_zero]
    rw [List.append_assoc, List.take_append_of_le_length (by simp; omega), List.take_of_length_le (by simp; omega)]
  · have h1 : clipAt ((row.take size).reverse ++ made.reverse ++ (row.take size).reverse).length size = size := by
      unfold clipAt
      rw [if_neg (by omega)]
      simp only [List.length_append, List.length_reverse, hfl, hml]
      omega
    have h2 : clipAt ((row.take size).reverse ++ made.reverse ++ (row.take size).reverse).length (2 * (size : Int)) = size + size := by
      unfold clipAt
      rw [if_neg (by omega)]
      simp only [List.length_append, List.length_reverse, hfl, hml]
      omega
    simp only [Option.elim, h1, h2]
    rw [List.append_assoc, List.drop_append_of_le_length (by simp; omega), List.drop_of_length_le (by simp; omega), List.nil_append, Nat.add_sub_cancel, List.take_append_of_le_length (by simp; omega), List.take_of_length_le (by simp; omega)]
  · intro p v m10 s10 hpm F10 hag hk10 dv E'
    have hLn : ∀ c o, plainO o → s9.heap.get? c = some o → c ≠ L := fun c o po e => by
      rintro rfl
      obtain ⟨o', es, ep, h1, h2, _⟩ := F9.ns
      have h1' : s9.heap.get? c = some o' := h1
      rw [e] at h1'
      cases h1'
      exact po.1 _ _ h2
    have tr10 : TrB [] s9.heap s10.heap := fun c o po _ e => hk10 c o (hLn c o po e) e
    have d210 := d29.tr tr10
    have hdue : (upd (upd m10 "word" v) "said" (.bool p.2)) "due" = some v2 := by
      show m10 "due" = some v2
      rw [hag "due" (by decide) (by decide)]
      rfl
    have W10 := W.at F10.keep
    have key : ∀ (f : Nat → Int), Pfx prog w f size p.1 → told (tab f size) = brd (row.take size) → CallOk prog w A s10 (.ref 28) [p.1] (.dB p.2) →
        wpAny (model prog w) A (execs (forBody ((forBody lawFor).getD 8 (.Pass default))) (lawEnv pm L)) (fun f s₂ => f = .next ∧ Keeps s10 s₂) E' s10 := fun f P ht hi => by
      refine stIf (c := false) (rest := []) (TE.or (orF ?_ (orF ?_ orNil))) (fun h => by cases h) fun _ s11 k11 => wpAny_execs_nil (wpAny_execs_nil ⟨rfl, k11⟩)
      · have h : (p.2 != p.2) = false := by simp
        rw [← h]
        exact TE.cmp (EV.callF (EV.def W10 (nsIsstring w)) (AV.cons (EV.local F10.ns rfl dv) AV.nil) (W10.K _ _ hli) rfl hi) (EV.local (d := .dB p.2) F10.ns rfl rfl) cmpIsNotB
      · have h : (!decide (told (tab f size) = brd (row.take size))) = false := by rw [ht]; simp
        rw [← h]
        refine TE.cmp (EV.callF (EV.def W10 (nsTold w)) (AV.cons (EV.callF (EV.def W10 (nsTable w)) (AV.cons (EV.local F10.ns rfl dv) AV.nil) (W10.K _ _ hlo) rfl (table_ok (hA.less (by omega)) W10 P (by omega) hp)) AV.nil) (W10.K _ _ hlt) rfl (told_ok (hA.less (by omega)) W10 ?_ tab_le (by rw [tab_len]; omega))) (EV.local F10.ns hdue d210) (cmpNeL hA.units)
        intro e; have := congrArg List.length e; rw [tab_len] at this; simp at this; omega
    simp only [List.mem_cons, List.not_mem_nil, or_false] at hpm
    rcases hpm with rfl | rfl | rfl | rfl
    · have P := pfxL (prog := prog) (w := w) (ns := made.map fun n => n + 1000) (by simp; omega)
      rw [List.length_map, hml] at P
      exact key _ P T.t1 (isstringL (hA.less (by omega)) W10)
    · have P := pfxS (prog := prog) (w := w) (x := textOf made) (by rw [textOf_len]; omega)
      rw [textOf_len, hml] at P
      exact key _ P T.t2 (isstringS (hA.less (by omega)) W10)
    · have P := pfxY (prog := prog) (w := w) (ks := (row.take size).reverse) (by simp; omega)
      rw [List.length_reverse, hfl] at P
      exact key _ P T.t3 (isstringY (hA.less (by omega)) W10)
    · have P := pfxY (prog := prog) (w := w) (ks := made.reverse) (by simp; omega)
      rw [List.length_reverse, hml] at P
      exact key _ P T.t4 (isstringY (hA.less (by omega)) W10)
  · intro m10 s10 F10 hag hk10
    have hLn : ∀ c o, plainO o → s9.heap.get? c = some o → c ≠ L := fun c o po e => by
      rintro rfl
      obtain ⟨o', es, ep, h1, h2, _⟩ := F9.ns
      have h1' : s9.heap.get? c = some o' := h1
      rw [e] at h1'
      cases h1'
      exact po.1 _ _ h2
    have tr10 : TrB [] s9.heap s10.heap := fun c o po _ e => hk10 c o (hLn c o po e) e
    have tr := tr19.trans tr10
    have cell10 : ∀ c v, s9.heap.IsCell c v → s10.heap.IsCell c v := fun c v x => by
      obtain ⟨o, e, e'⟩ := x
      refine ⟨o, hk10 c o (fun hc => ?_) e, e'⟩
      obtain ⟨o', es, ep, h1, h2, _⟩ := F9.ns
      have h1' : s9.heap.get? c = some o' := by rw [hc]; exact h1
      rw [e] at h1'
      cases h1'
      rw [e'] at h2
      cases h2
    refine wpAny_execs_nil ⟨rfl, ⟨m10, F10, ?_, ?_, dr.tr tr, dt.tr tr, cell10 _ _ cf9, _, cell10 _ _ cm9⟩, tr⟩
    · rw [hag "row" (by decide) (by decide)]
      exact hR
    · rw [hag "table" (by decide) (by decide)]
      exact hT
end
end Mine
end

section
open PySem PySem.W PyProof.Rows
set_option Elab.async false
set_option maxRecDepth 100000
set_option maxHeartbeats 2000000
set_option linter.unusedVariables false
namespace Mine
def lawFirst (script : List Int) : Int := ((script.take 60).sum).fmod 256
def lawSigns (first : Int) : List Int := (rangeNums 0 4 1).map fun k => (first + 85 * k).fmod 256
def lawNumbers (script : List Int) : List Int := (([6, 11, 3] : List Int).zip ((script.take 60).take 3 ++ [0, 0, 0])).map fun p => p.1 + p.2
def lawRow (script : List Int) : List Int := (drawn (lawNumbers script) (lawSigns (lawFirst script))).take 15 ++ [(lawSigns (lawFirst script)).getD ((1 + ((script.take 60).drop 3).sum).fmod 4).toNat 0]
theorem lawSigns_len (first : Int) : (lawSigns first).length = 4 := by
  unfold lawSigns
  rw [List.length_map, rangeNums_length, rangeSize_one]
  rfl
theorem lawSigns_byte {first : Int} : ∀ x ∈ lawSigns first, 0 ≤ x ∧ x < 256 := by
  intro x hx
  obtain ⟨k, _, rfl⟩ := List.mem_map.mp hx
  exact ⟨Int.fmod_nonneg_of_pos _ (by omega), Int.fmod_lt_of_pos _ (by omega)⟩
theorem lawRow_len (script : List Int) : 0 < (lawRow script).length ∧ (lawRow script).length ≤ 16 := by
  unfold lawRow
  simp only [List.length_append, List.length_take, List.length_cons, List.length_nil]
  omega
theorem signs_get (first n : Int) : (lawSigns first)[(n.fmod 4).toNat]? = some ((lawSigns first).getD (n.fmod 4).toNat 0) := by
  have h1 := Int.fmod_nonneg_of_pos n (b := 4) (by omega)
  have h2 := Int.fmod_lt_of_pos n (b := 4) (by omega)
  have h4 := lawSigns_len first
  have hlt : (n.fmod 4).toNat < (lawSigns first).length := by omega
  rw [List.getD_eq_getElem?_getD, List.getElem?_eq_getElem hlt]
  rfl
theorem lawRow_byte (script : List Int) : ∀ x ∈ lawRow script, 0 ≤ x ∧ x < 256 := by
  intro x hx
  unfold lawRow at hx
  rcases List.mem_append.mp hx with hx | hx
  · exact lawSigns_byte x (drawn_mem (lawSigns_len _) x (List.mem_of_mem_take hx))
  · rw [List.mem_singleton.mp hx]
    exact lawSigns_byte _ (List.mem_of_getElem? (signs_get _ _))
section
variable {prog : Program} {w : World} {A : Around} {s : Shared} {mg mb : Str → Option Value} {E : Value → Shared → Prop}
theorem IsListK {h h' : Heap} {a : Addr} {vs : Array Value} (x : h.IsList a vs) (k : ∀ b o, h.get? b = some o → h'.get? b = some o) : h'.IsList a vs := x.at fun o e => k a o e
theorem EV.uptoI {env : Env} {v hi : Expr} {p pos : Pos} {l : Addr} {us : List Value} {ns : List Int} {y : Int} (hv : EV prog w A env s v (.dV (.ref l))) (hl : s.heap.IsList l us.toArray) (ii : IntsAre us ns) (hh : EV prog w A env s hi (.dI y)) (h0 : 0 ≤ y) (hz : ns.length ≤ 1000) :
    EV prog w A env s (.Subscript v (.Slice none (some hi) none p) pos) (.dL (ns.take y.toNat)) :=
  hv.slice .none (.some hh) .none fun o vl vu vt s' k dO pl pu pt E => by
    obtain rfl := dO
    have hl' := IsListK hl (kGet k)
    have hlen := ii.length
    refine ⟨"list", _, hl'.typeIs, slot_list_getitem.lookup, wpAny_getItem_list_slice (hl'.push _) (Heap.IsSliceOf.new ..) pl pu pt (by decide) ?_ (by simp only [List.size_toArray, sizeLine_eq]; omega)⟩
    refine ⟨kTrans (kPush ..) (kPush ..), _, (slicePick us.toArray none (some y) none).toList, rfl, ?_, kmk_upto ii h0⟩
    rw [LL, Array.toArray_toList]
    exact ⟨_, Heap.get?_push_size _ rfl⟩
theorem teCast {env : Env} {e : Expr} {c c' : Bool} (h : c = c') (x : TE prog w A env s e c) : TE prog w A env s e c' := h ▸ x
theorem law_ok (hA : AOk 4 A) (W : Wd w mg mb s.heap) {script : List Int} {l : Addr} {us : List Value} (hz : script.length ≤ 500) (hl0 : s.heap.IsList l us.toArray) (hi0 : IntsAre us script)
    (TF : ∀ size, 0 < size → size ≤ (lawRow script).length → ∃ made, TurnFacts (lawRow script) (lawFirst script) size made) :
    wpR (model prog w) A (call (.ref 69) [.ref l]) (fun r s' => Keeps s s' ∧ r = .bool true) E s := by
  obtain ⟨pm, hl⟩ := lookLaw w
  refine rCellCall hA.room W hl (by kernel_rfl) (binds := [("script", .ref l)]) (by rfl) (fun L x hx => ?_) (by rfl) (by rfl) (by rfl) ?_
  · obtain rfl := List.mem_singleton.mp hx
    exact .inl rfl
  intro s₁ L hL X
  have F : InCall s L (bindL (lawEnv pm L).kindOf [("script", .ref l)] fun _ => none) s₁ := X.toInCall
  have hA' := hA.deeper (lawEnv pm L)
  have c1 : s₁.heap.IsCell (L + 1) none := X.cell "first" (L + 1) rfl
  have c2 : s₁.heap.IsCell (L + 2) none := X.cell "made" (L + 2) rfl
  have hL1 : s.heap.get? (L + 1) = none := by
    cases e : s.heap.get? (L + 1) with
    | none => rfl
    | some o => exact absurd (Nat.lt_of_lt_of_le (Heap.lt_size e) F.fresh) (Nat.not_lt.mpr (Nat.le_succ _))
  have ne12 : (L + 2 : Addr) ≠ L + 1 := Nat.ne_of_gt (Nat.lt_succ_self _)
  -- drawn
  refine rStmt (stAssignX (d := .dL (script.take 60)) F (EV.uptoI (y := 60) (EV.local (d := .dV (.ref l)) F.ns rfl rfl) (IsListK hl0 F.keep) hi0 EV.int (by omega) (by omega)) ?_)
  intro v1 s2 F2 tr2 cs2 d1
  refine wpAny_execs_nil ?_
  have W2 := W.at F2.keep
  have hdl : (script.take 60).length ≤ 60 := by rw [List.length_take]; omega
  -- first
  refine rStmt (stAssignCell (c := L + 1) (d := .dI (lawFirst script)) F2 rfl (cs2 _ _ c1) hL1 (EV.mod (EV.callB (EV.boot W2 (noSum w) boot_sum) (AV.cons (EV.local F2.ns rfl d1) AV.nil) (callSum hA'.1)) EV.int (by decide)) ?_)
  intro vf s3 F3 tr3 cf3 cs3 df
  refine wpAny_execs_nil ?_
  obtain ⟨tf, rfl⟩ := df
  have W3 := W.at F3.keep
  have d13 := d1.tr tr3
  have cm3 := cs3 _ _ ne12 (cs2 _ _ c2)
  -- signs
  refine rStmt (stAssignCompI (pz := fun _ => true) (f := fun k => (lawFirst script + 85 * k).fmod 256) F3 (SVr.toI (SVr.range (a := 0) (b := 4) (c := 1) hA'.1 (EV.callT (EV.boot W3 (noRange w) boot_range) (AV.cons EV.int AV.nil) callRange1) (smallRange (by omega) (by omega) (by omega) (by omega) (.inl rfl)) (by decide))) (by rw [rangeNums_length, rangeSize_one]; decide) (fun C s₃ m₃ n t hn hk hns hm => TEs.nil)
    (fun C s₃ m₃ n t hn _ hk hns hm => EV.mod (EV.add (EV.cell (c := L + 1) rfl (cf3.keeps hk) ⟨tf, rfl⟩) (EV.mul EV.int (EV.locI hns hm) (IntMulOk.of_left (by decide)))) EV.int (by decide)) ?_)
  intro v4 s4 F4 tr4 cs4 d4
  refine wpAny_execs_nil ?_
  have hft : ((rangeNums 0 4 1).filter fun _ => true) = rangeNums 0 4 1 := List.filter_eq_self.mpr (by simp)
  rw [hft] at d4
  have d4 : Den s4.heap v4 (.dL (lawSigns (lawFirst script))) := d4
  have W4 := W.at F4.keep
  have d14 := d13.tr tr4
  have cf4 := cs4 _ _ cf3
  have cm4 := cs4 _ _ cm3
  -- numbers
  refine rStmt (stAssignZip (xs := [6, 11, 3]) (ys := (script.take 60).take 3 ++ [0, 0, 0]) (g := fun x y => x + y) hA'.1 F4 (EV.boot W4 (noZip w) boot_zip) (AV.cons (EV.list (ns := [6, 11, 3]) (AV.cons EV.int (AV.cons EV.int (AV.cons EV.int AV.nil))) (by simp))
    (AV.cons (EV.addL (EV.upto (y := 3) (EV.local F4.ns rfl d14) EV.int (by omega) (by omega)) (EV.list (ns := [0, 0, 0]) (AV.cons EV.int (AV.cons EV.int (AV.cons EV.int AV.nil))) (by simp)) (by simp; omega)) AV.nil)) (by simp) (fun C s₃ m₃ x y t u hns hx hy => EV.add (EV.locI hns hx) (EV.locI hns hy)) ?_)
  intro v5 s5 F5 tr5 cs5 d5
  refine wpAny_execs_nil ?_
  have d5 : Den s5.heap v5 (.dL (lawNumbers script)) := d5
  have W5 := W.at F5.keep
  have d15 := d14.tr tr5
  have d45 := d4.tr tr5
  have cf5 := cs5 _ _ cf4
  have cm5 := cs5 _ _ cm4
  obtain ⟨pmd, hld⟩ := lookDrawn w
  obtain ⟨pmo, hlo⟩ := lookTable w
  have h4 := lawSigns_len (lawFirst script)
  have hnum : (lawNumbers script).length ≤ 3 := by
    unfold lawNumbers
    rw [List.length_map, List.length_zip]
    exact Nat.min_le_left _ _
  have hdrl : (drawn (lawNumbers script) (lawSigns (lawFirst script))).length ≤ 100 := by
    have h1 := drawnFold_len (signs := lawSigns (lawFirst script)) (lawNumbers script) ((lawSigns (lawFirst script)).take 1)
    have h3 : 2 ^ (lawNumbers script).length ≤ 2 ^ 3 := Nat.pow_le_pow_right (by omega) hnum
    have h4 : ((lawSigns (lawFirst script)).take 1).length ≤ 1 := by rw [List.length_take]; omega
    have h5 := Nat.mul_le_mul (show ((lawSigns (lawFirst script)).take 1).length + 2 ≤ 3 by omega) h3
    have h6 : (drawn (lawNumbers script) (lawSigns (lawFirst script))).length + 2 ≤ (((lawSigns (lawFirst script)).take 1).length + 2) * 2 ^ (lawNumbers script).length := h1
    omega
  -- row
  refine rStmt (stAssignX (d := .dL (lawRow script)) F5 (EV.addL (EV.upto (y := 15) (EV.callF (EV.def W5 (nsDrawn w)) (AV.cons (EV.local F5.ns rfl d5) (AV.cons (EV.local F5.ns rfl d45) AV.nil)) (W5.K _ _ hld) rfl (drawn_ok hA' W5 hnum h4)) EV.int (by omega) (by omega))
    (EV.list (ns := [(lawSigns (lawFirst script)).getD ((1 + ((script.take 60).drop 3).sum).fmod 4).toNat 0]) (AV.cons (EV.itemL (EV.local F5.ns rfl d45) (EV.mod (EV.add EV.int (EV.callB (EV.boot W5 (noSum w) boot_sum) (AV.cons (EV.from (x := 3) (EV.local F5.ns rfl d15) EV.int (by omega) (by omega)) AV.nil) (callSum hA'.1))) EV.int (by decide)) (Int.fmod_nonneg_of_pos _ (by omega)) (signs_get _ _) (by omega)) AV.nil) (by simp)) (by simp; omega)) ?_)
  intro v6 s6 F6 tr6 cs6 d6
  refine wpAny_execs_nil ?_
  have W6 := W.at F6.keep
  have cf6 := cs6 _ _ cf5
  have cm6 := cs6 _ _ cm5
  have hrl := lawRow_len script
  have hrb := lawRow_byte script
  generalize lawRow script = row at *
  generalize lawFirst script = first at *
  -- table
  refine rStmt (stAssignX (d := .dL (tab (fun i => row.getD i 0) row.length)) F6 (EV.callF (EV.def W6 (nsTable w)) (AV.cons (EV.callT (EV.boot W6 (noBytes w) boot_bytes) (AV.cons (EV.local F6.ns rfl d6) AV.nil) (callBytesL hA'.1 hrb (by omega))) AV.nil) (W6.K _ _ hlo) rfl (table_ok (hA'.less (by omega)) W6 (pfxY (by omega)) (by omega) (by omega))) ?_)
  intro v7 s7 F7 tr7 cs7 d7
  refine wpAny_execs_nil ?_
  have W7 := W.at F7.keep
  have d67 := d6.tr tr7
  have cf7 := cs7 _ _ cf6
  have cm7 := cs7 _ _ cm6
  -- what it is
  refine rStmt (stIf (c := false) (rest := []) (TE.or (orF (TE.cmp (EV.callT (EV.boot W7 (noType w) boot_type) (AV.cons (EV.local F7.ns rfl d7) AV.nil) callTypeL) (EV.boot W7 (noList w) boot_list) cmpIsNotT) (orF ?_ (orF ?_ orNil)))) (fun h => by cases h) fun _ s8 k8 => wpAny_execs_nil (wpAny_execs_nil ?_))
  · have h : (!decide ((((tab (fun i => row.getD i 0) row.length).filter fun _ => false).map fun n => n) = [])) = false := by simp
    refine teCast h ?_
    exact TE.cmp (EV.compI (pz := fun _ => false) (f := fun n => n) (SVi.list hA'.1 (EV.local F7.ns rfl d7)) (by rw [tab_len]; omega) (fun C s₃ m₃ n t hn hk hns hm => TEs.one (TE.cmp (EV.callT (EV.boot (W7.at hk) (noType w) boot_type) (AV.cons (EV.locI hns hm) AV.nil) callTypeI) (EV.boot (W7.at hk) (noInt w) boot_int) cmpIsNotT)) (fun C s₃ m₃ n t hn hf => by cases hf))
      (EV.list (ns := []) AV.nil (by simp)) (cmpNeL hA'.units)
  · have h : (((tab (fun i => row.getD i 0) row.length).length : Int) != (row.length : Int)) = false := by rw [tab_len]; simp
    rw [← h]
    exact TE.cmp (EV.callB (EV.boot W7 (noLen w) boot_len) (AV.cons (EV.local F7.ns rfl d7) AV.nil) (callLenL (by rw [tab_len]; omega))) (EV.callB (EV.boot W7 (noLen w) boot_len) (AV.cons (EV.local F7.ns rfl d67) AV.nil) (callLenL (by omega))) cmpNeI
  have F8 := inCallK F7 k8
  have W8 := W.at F8.keep
  have d68 := d67.k k8
  have d78 := d7.k k8
  have cf8 := cf7.keeps (kGet k8)
  have cm8 := cm7.keeps (kGet k8)
  -- each size
  refine rForR (src := rangeNums 1 ((row.length : Int) + 1) 1) F8 (SVr.range hA'.1 (EV.callT (EV.boot W8 (noRange w) boot_range) (AV.cons EV.int (AV.cons (EV.add (EV.callB (EV.boot W8 (noLen w) boot_len) (AV.cons (EV.local F8.ns rfl d68) AV.nil) (callLenL (by omega))) EV.int) AV.nil)) callRange2) (smallRange (by omega) (by omega) (by omega) (by omega) (.inl rfl)) (by decide))
    (fun i m h => m "row" = some v6 ∧ m "table" = some v7 ∧ Den h v6 (.dL row) ∧ Den h v7 (.dL (tab (fun i => row.getD i 0) row.length)) ∧ h.IsCell (L + 1) (some (.int first tf)) ∧ ∃ um, h.IsCell (L + 2) um) ?_ ⟨rfl, rfl, d68, d78, cf8, _, cm8⟩ ?_ ?_
  · rintro i m h h' tr cs ⟨a1, a2, a3, a4, a5, um, a6⟩
    exact ⟨a1, a2, a3.trc tr, a4.trc tr, cs _ _ a5, um, cs _ _ a6⟩
  · rintro i n t m₁ s9 hn ⟨a1, a2, a3, a4, a5, um, a6⟩ F9
    have hi : i < row.length ∧ n = ((i + 1 : Nat) : Int) := by
      have h1 := (List.getElem?_eq_some_iff.mp hn).1
      rw [rangeNums_length, rangeSize_one] at h1
      have h2 : (rangeNums 1 ((row.length : Int) + 1) 1).getD i 0 = n := by rw [List.getD_eq_getElem?_getD, hn]; rfl
      rw [rangeNums_get (by rw [rangeSize_one]; exact h1)] at h2
      split at h1 <;> omega
    obtain ⟨hil, rfl⟩ := hi
    obtain ⟨made, T⟩ := TF (i + 1) (by omega) (by omega)
    refine rMono (lawTurn hA' W T F9 a1 a2 a3 a4 a5 a6) (fun f s4 q => ?_) fun _ _ e => e
    obtain ⟨rfl, ⟨m₂, F₂, q⟩, tr⟩ := q
    exact ⟨rfl, ⟨m₂, F₂, q⟩, tr⟩
  · rintro m₁ s9 F9 _
    exact rOf (stReturn (rest := []) (d := .dB true) EV.cbool fun v' s' k' dv => ⟨kTrans (InCall.keeps' F9) k', dv⟩)
end
end Mine
end

section
open PySem PySem.W PyProof.Rows PySem.Calls
set_option Elab.async false
set_option maxRecDepth 100000
set_option maxHeartbeats 2000000
namespace Mine
theorem intsOfReads {R : WRecords} {cl : Str → Option Addr} {h : Heap} : ∀ {vs : List Value} {ns : List Int} {as : List Addr}, ReadsAllW R cl h vs (ofPys (ns.map PyData.int)) as → IntsAre vs ns
  | vs, [], as, x => by
    have e : ReadsAllW R cl h vs [] as := x
    cases e
    exact .nil
  | vs, n :: r, as, x => by
    have e : ReadsAllW R cl h vs (.int n :: ofPys (r.map PyData.int)) as := x
    cases e with
    | cons a b =>
      cases a
      exact .cons _ _ (intsOfReads b)
theorem argsOf {args : List WData} {vals : List Value} {as : List Addr} {cl : Str → Option Addr} {h : Heap} (hpre : RW.claim.pre args = true) (hlay : WData.layableAll args = true) (hrd : ReadsAllW RW.records cl h vals args as) :
   ∃ l us script, vals = [.ref l] ∧ h.IsList l (List.toArray us) ∧ IntsAre us script ∧ script.length ≤ 63 ∧ args = [ofPy (PyData.list (script.map .int))] := by
  have hsh := (pre_splitW hpre).1
  have hcond := (pre_splitW hpre).2
  wrow_hasAll hsh hlay
  rename_i ns _ _ _ _ _
  have hlen : ns.length ≤ 63 := by
    w_cond hcond
    rename_i hc _
    omega
  obtain ⟨_, _, _, _, he, ha, r1, hr⟩ := readsAllW_cons_inv hrd
  have he2 := (readsAllW_nil_inv hr).1
  subst he2
  subst he
  have r2 : ReadsW RW.records cl h _ (.list (ofPys (ns.map PyData.int))) _ := r1
  cases r2 with
  | list h1 h2 h3 h4 =>
    exact ⟨_, _, ns, rfl, ⟨_, h1, h2, _, h3⟩, intsOfReads h4, hlen, rfl⟩

/-- the plain law: each size's facts -/
def PlainLaw : Prop := ∀ script : List Int, ∀ size, 0 < size → size ≤ (lawRow script).length → ∃ made, TurnFacts (lawRow script) (lawFirst script) size made
theorem nsLaw (w : World) : nsIn (KF w) mainGlobals "law" = some (some (.ref 69)) := by kernel_rfl
theorem clean0 : Cln ctx0 := ⟨by decide, fun x hx => by cases hx⟩
theorem aok0 : AOk 4 callerA := ⟨rfl, by decide +kernel, by decide +kernel⟩
theorem lawRun (P : PlainLaw) {d : DefRec} {kwd : List (Str × Expr)} (hd : defOf hd.view_39 RW.name = some (d, kwd)) : LawRun d := by
  intro w s₀ s₁ mg mb G Y a o pm cd doc dV kV ho hdat hcd hmg hg args vals as hpre hlay hrd
  have K : (KF w).In s₁.heap := Y
  have W : Wd w mg mb s₁.heap := ⟨K, ⟨G.T.g, G.T.b⟩, G.T.nolimit, G.T.builtins⟩
  obtain ⟨l, us, script, rfl, hl, hi, hlen, rfl⟩ := argsOf hpre hlay hrd
  have hn : d.name = "law" := defOf_name hd
  have ha : a = 69 := by
    have h1 := W.own (nsLaw w)
    rw [hn, h1] at hmg
    injection hmg with e
    injection e with e
    exact e.symm
  subst ha
  have run := law_ok (prog := RW.prog) (E := fun _ _ => False) aok0 W (by omega) hl hi (P script)
  refine Sem.wp_mono _ _ _ (fun v _ s' q => ?_) (fun e _ s' q => q.elim) _ _ (run ctx0 default caller_in clean0)
  obtain ⟨⟨h', tk, rfl, hk⟩, rfl⟩ := q
  refine GoodW.toG ⟨.inl ⟨_, .bool true, [], rfl, raisesW_false ?_, ReadsW.bool _, ?_, fun _ => ⟨.nil, fun a ha => by cases ha⟩⟩, hk, rfl, hg⟩
  · wrow_none_raised
  · wrow_post
theorem holdsOf (P : PlainLaw) : PySem.Challenge.rw_rs0017_01.Holds := fin fun d kwd h => lawRun P h
end Mine
end

section
open PySem PySem.W PyProof.Rows
set_option Elab.async false
set_option maxRecDepth 100000
set_option linter.unusedVariables false
namespace Mine
/-! the borders of a word, as a falling list -/
def IsBs (f : Nat → Int) (n : Nat) (l : List Int) : Prop := l.Pairwise (fun a b => b < a) ∧ ∀ x : Int, x ∈ l ↔ 0 < x ∧ Brd f n x.toNat
theorem falling_eq : ∀ {l l' : List Int}, l.Pairwise (fun a b => b < a) → l'.Pairwise (fun a b => b < a) → (∀ x, x ∈ l ↔ x ∈ l') → l = l'
  | [], [], _, _, _ => rfl
  | [], y :: r', _, _, h => absurd ((h y).mpr (by simp)) (by simp)
  | x :: r, [], _, _, h => absurd ((h x).mp (by simp)) (by simp)
  | x :: r, y :: r', p, p', h => by
    rw [List.pairwise_cons] at p p'
    have h1 : x = y := by
      have a1 := (h x).mp (by simp)
      have a2 := (h y).mpr (by simp)
      rcases List.mem_cons.mp a1 with a1 | a1
      · exact a1
      · rcases List.mem_cons.mp a2 with a2 | a2
        · exact a2.symm
        · have b1 := p'.1 x a1
          have b2 := p.1 y a2
          omega
    subst h1
    congr 1
    refine falling_eq p.2 p'.2 fun z => ?_
    constructor
    · intro hz
      rcases List.mem_cons.mp ((h z).mp (by simp [hz])) with e | e
      · have := p.1 z hz; omega
      · exact e
    · intro hz
      rcases List.mem_cons.mp ((h z).mpr (by simp [hz])) with e | e
      · have := p'.1 z hz; omega
      · exact e
theorem IsBs.uniq {f g : Nat → Int} {n : Nat} {l l' : List Int} (h : IsBs f n l) (h' : IsBs g n l') (e : ∀ b, 0 < b → (Brd f n b ↔ Brd g n b)) : l = l' :=
  falling_eq h.1 h'.1 fun x => by
    rw [h.2, h'.2]
    constructor
    · rintro ⟨a, b⟩
      exact ⟨a, (e _ (by omega)).mp b⟩
    · rintro ⟨a, b⟩
      exact ⟨a, (e _ (by omega)).mpr b⟩

noncomputable def down (f : Nat → Int) : Nat → Nat → List Int
  | 0, _ => []
  | k + 1, n => if lb f n = 0 then [] else (lb f n : Int) :: down f k (lb f n)
theorem isBs_down {f : Nat → Int} : ∀ {k n : Nat}, 0 < n → n ≤ k → IsBs f n (down f k n)
  | 0, n, h, hk => by omega
  | k + 1, n, h, hk => by
    have hl := lb_lt f h
    unfold down
    split
    · rename_i e
      refine ⟨.nil, fun x => ⟨fun hx => by simp at hx, fun hx => ?_⟩⟩
      have := lb_max hx.2
      omega
    · rename_i e
      obtain ⟨i1, i2⟩ := isBs_down (f := f) (k := k) (n := lb f n) (by omega) (by omega)
      refine ⟨List.pairwise_cons.mpr ⟨fun y hy => ?_, i1⟩, fun x => ?_⟩
      · have := ((i2 y).mp hy)
        have := this.2.1
        omega
      · rw [List.mem_cons, i2]
        constructor
        · rintro (rfl | ⟨a, b⟩)
          · exact ⟨by omega, by rw [Int.toNat_natCast]; exact lb_brd f h⟩
          · exact ⟨a, brd_trans (lb_brd f h) b⟩
        · rintro ⟨a, b⟩
          have hm := lb_max b
          by_cases hx : x = (lb f n : Int)
          · exact .inl hx
          · exact .inr ⟨a, brd_down (lb_brd f h) b (by omega)⟩

/-! told -/
def itold (ns : List Int) : Nat → List Int → List Int
  | 0, l => l
  | k + 1, l => itold ns k (toldStep ns l)
theorem itold_out (ns : List Int) : ∀ (k : Nat) (l : List Int), itold ns (k + 1) l = toldStep ns (itold ns k l)
  | 0, l => rfl
  | k + 1, l => itold_out ns k (toldStep ns l)
theorem toldN_it (ns : List Int) : ∀ k, toldN ns k = itold ns k [lastI ns]
  | 0 => rfl
  | k + 1 => by rw [itold_out, ← toldN_it]; rfl
theorem lastI_snoc (A : List Int) (x : Int) : lastI (A ++ [x]) = x := by simp [lastI]
theorem tab_getD {f : Nat → Int} {n x : Nat} (h0 : 0 < x) (h : x ≤ n) : (tab f n).getD ((x : Int) - 1).toNat 0 = (lb f x : Int) := by
  have : ((x : Int) - 1).toNat = x - 1 := by omega
  rw [this, List.getD_eq_getElem?_getD]
  simp only [tab, List.getElem?_map, List.getElem?_range (show x - 1 < n by omega), Option.map_some, Option.getD_some]
  rw [show x - 1 + 1 = x from by omega]
theorem itold_filter {f : Nat → Int} {n : Nat} : ∀ (j : Nat) (A : List Int) (x : Nat), x ≤ n → (itold (tab f n) j (A ++ [(x : Int)])).filter (fun y => y != 0) = A.filter (fun y => y != 0) ++ (if x = 0 then [] else (x : Int) :: down f j x)
  | 0, A, x, hx => by
    show (A ++ [(x : Int)]).filter _ = _
    rw [List.filter_append]
    by_cases h : x = 0
    · subst h; simp
    · rw [if_neg h]; simp [h, down]
  | j + 1, A, x, hx => by
    show (itold (tab f n) j (toldStep (tab f n) (A ++ [(x : Int)]))).filter _ = _
    unfold toldStep
    rw [lastI_snoc]
    by_cases h : x = 0
    · subst h
      rw [if_neg (by omega), itold_filter j A 0 (by omega)]
      simp
    · rw [if_pos (by omega), tab_getD (by omega) hx, itold_filter j (A ++ [(x : Int)]) (lb f x) (by have := lb_lt f (n := x) (by omega); omega)]
      rw [if_neg h, List.filter_append]
      simp only [down]
      by_cases hl : lb f x = 0
      · simp [hl, h]
      · simp [hl, h]
theorem told_tab {f : Nat → Int} {n : Nat} (h : 0 < n) : told (tab f n) = down f (n + 1) n := by
  unfold told
  rw [toldN_it, tab_len]
  have hl : lastI (tab f n) = ((lb f n : Nat) : Int) := by
    have : tab f n = tab f (n - 1) ++ [((lb f n : Nat) : Int)] := by
      obtain ⟨m, rfl⟩ : ∃ m, n = m + 1 := ⟨n - 1, by omega⟩
      unfold tab
      rw [List.range_succ, List.map_append]
      rfl
    rw [this, lastI_snoc]
  rw [hl]
  have := itold_filter (f := f) (n := n) n [] (lb f n) (by have := lb_lt f h; omega)
  rw [List.nil_append] at this
  rw [this]
  rfl
theorem isBs_told {f : Nat → Int} {n : Nat} (h : 0 < n) : IsBs f n (told (tab f n)) := by
  rw [told_tab h]
  exact isBs_down h (by omega)

/-! brd -/
theorem rangeDown_fall (a : Int) : (rangeNums a 0 (-1)).Pairwise (fun x y => y < x) := by
  unfold rangeNums
  rw [List.pairwise_map]
  refine List.Pairwise.imp (fun {x y} h => ?_) List.pairwise_lt_range
  omega
theorem rangeDown_mem (a n : Int) : n ∈ rangeNums a 0 (-1) ↔ 0 < n ∧ n ≤ a := by
  constructor
  · exact rangeNums_down_mem
  · rintro ⟨h1, h2⟩
    unfold rangeNums
    rw [rangeSizeDown, if_pos (by omega)]
    refine List.mem_map.mpr ⟨(a - n).toNat, List.mem_range.mpr (by omega), by omega⟩
theorem take_drop_brd (l : List Int) (b : Nat) (hb : b < l.length) : l.take b = l.drop (l.length - b) ↔ Brd (fun i => l.getD i 0) l.length b := by
  constructor
  · intro e
    refine ⟨hb, fun i hi => ?_⟩
    have := congrArg (fun m => m.getD i 0) e
    simp only [List.getD_eq_getElem?_getD, List.getElem?_take, if_pos hi, List.getElem?_drop] at this ⊢
    exact this
  · rintro ⟨_, h⟩
    apply List.ext_getElem?
    intro i
    rw [List.getElem?_take, List.getElem?_drop]
    by_cases hi : i < b
    · rw [if_pos hi]
      have := h i hi
      simp only [List.getD_eq_getElem?_getD] at this
      rw [List.getElem?_eq_getElem (show i < l.length by omega), List.getElem?_eq_getElem (show l.length - b + i < l.length by omega)] at this ⊢
      simpa using this
    · rw [if_neg hi, List.getElem?_eq_none (by omega)]
theorem isBs_brd (l : List Int) : IsBs (fun i => l.getD i 0) l.length (brd l) := by
  refine ⟨List.Pairwise.filter _ (rangeDown_fall _), fun x => ?_⟩
  unfold brd
  rw [List.mem_filter, rangeDown_mem, decide_eq_true_eq]
  constructor
  · rintro ⟨⟨h1, h2⟩, h3⟩
    refine ⟨h1, (take_drop_brd l x.toNat (by omega)).mp ?_⟩
    rw [h3]
    congr 1
    omega
  · rintro ⟨h1, h2⟩
    have hlt := h2.1
    refine ⟨⟨h1, by omega⟩, ?_⟩
    rw [(take_drop_brd l x.toNat hlt).mpr h2]
    congr 1
    omega
end Mine
end

section
open PySem PySem.W PyProof.Rows
set_option Elab.async false
set_option maxRecDepth 100000
set_option linter.unusedVariables false
namespace Mine
/-! periods -/
def Sh (f : Nat → Int) (m d : Nat) : Prop := ∀ i, i + d < m → f i = f (i + d)
theorem sh_mod {f : Nat → Int} {m d : Nat} (hd : 0 < d) (h : Sh f m d) : ∀ i, i < m → f i = f (i % d) := by
  intro i
  induction i using Nat.strongRecOn with
  | ind i ih =>
    intro hi
    by_cases hlt : i < d
    · rw [Nat.mod_eq_of_lt hlt]
    · have h1 := h (i - d) (by omega)
      rw [show i - d + d = i from by omega] at h1
      rw [← h1, ih (i - d) (by omega) (by omega)]
      congr 1
      rw [Nat.mod_eq_sub_mod (Nat.le_of_not_lt hlt)]
theorem sh_of_mod {f : Nat → Int} {m d : Nat} (h : ∀ i, i < m → f i = f (i % d)) : Sh f m d := fun i hi => by
  rw [h i (by omega), h (i + d) hi, Nat.add_mod_right]
theorem brd_sh {f : Nat → Int} {n b : Nat} (hb : b < n) : Brd f n b ↔ Sh f n (n - b) := by
  constructor
  · rintro ⟨_, h⟩ i hi
    rw [h i (by omega)]
    congr 1
    omega
  · intro h
    refine ⟨hb, fun i hi => ?_⟩
    rw [h i (by omega)]
    congr 1
    omega
theorem sh_brd {f : Nat → Int} {n d : Nat} (h0 : 0 < d) (hd : d ≤ n) : Sh f n d ↔ Brd f n (n - d) := by
  have hn : n - d < n := by omega
  rw [brd_sh hn, show n - (n - d) = d from by omega]
theorem sh_sub {f : Nat → Int} {m a b : Nat} (ha : Sh f m a) (hb : Sh f m b) (hlt : b < a) (hm : a + b ≤ m) : Sh f m (a - b) := fun i hi => by
  by_cases h : i + a < m
  · have h1 := ha i h
    have h2 := hb (i + (a - b)) (by omega)
    rw [show i + (a - b) + b = i + a from by omega] at h2
    rw [h1, h2]
  · have h1 := hb (i - b) (by omega)
    have h2 := ha (i - b) (by omega)
    rw [show i - b + b = i from by omega] at h1
    rw [← h1, h2]
    congr 1
    omega
/-- the weak theorem of Fine and Wilf -/
theorem fine_wilf {f : Nat → Int} {m : Nat} : ∀ (k a b : Nat), a + b ≤ k → 0 < a → 0 < b → Sh f m a → Sh f m b → a + b ≤ m → Sh f m (Nat.gcd a b)
  | 0, a, b, hk, ha, hb, _, _, _ => by omega
  | k + 1, a, b, hk, ha, hb, pa, pb, hm => by
    rcases Nat.lt_trichotomy a b with h | h | h
    · have := fine_wilf k a (b - a) (by omega) ha (by omega) pa (sh_sub pb pa h (by omega)) (by omega)
      rw [Nat.gcd_sub_self_right (Nat.le_of_lt h)] at this
      exact this
    · subst h
      rw [Nat.gcd_self]
      exact pa
    · have := fine_wilf k (a - b) b (by omega) (by omega) hb (sh_sub pa pb h hm) pb (by omega)
      rw [Nat.gcd_sub_self_left (Nat.le_of_lt h)] at this
      exact this
theorem sh_mono {f : Nat → Int} {m m' d : Nat} (h : Sh f m d) (hm : m' ≤ m) : Sh f m' d := fun i hi => h i (by omega)
theorem sh_congr {f g : Nat → Int} {m d : Nat} (h : Sh f m d) (e : ∀ i, i < m → f i = g i) : Sh g m d := fun i hi => by rw [← e i (by omega), ← e (i + d) hi]; exact h i hi
theorem brd_congr {f g : Nat → Int} {n b : Nat} (e : ∀ i, i < n → f i = g i) : Brd f n b ↔ Brd g n b := by
  constructor
  · rintro ⟨h1, h2⟩
    exact ⟨h1, fun i hi => by rw [← e i (by omega), ← e _ (by omega)]; exact h2 i hi⟩
  · rintro ⟨h1, h2⟩
    exact ⟨h1, fun i hi => by rw [e i (by omega), e _ (by omega)]; exact h2 i hi⟩

/-! a row laid again and again -/
theorem getD_rep {wd : List Int} (hw : 0 < wd.length) : ∀ (k i : Nat), i < k * wd.length → ((List.replicate k wd).flatten).getD i 0 = wd.getD (i % wd.length) 0
  | 0, i, h => by omega
  | k + 1, i, h => by
    rw [List.replicate_succ, List.flatten_cons, List.getD_eq_getElem?_getD]
    by_cases hi : i < wd.length
    · rw [List.getElem?_append_left hi, Nat.mod_eq_of_lt hi, List.getD_eq_getElem?_getD]
    · rw [List.getElem?_append_right (Nat.le_of_not_lt hi), ← List.getD_eq_getElem?_getD, getD_rep hw k (i - wd.length) (by rw [Nat.add_mul, Nat.one_mul] at h; omega), Nat.mod_eq_sub_mod (Nat.le_of_not_lt hi)]
theorem rep_length (wd : List Int) : ∀ k : Nat, ((List.replicate k wd).flatten).length = k * wd.length
  | 0 => by simp
  | k + 1 => by rw [List.replicate_succ, List.flatten_cons, List.length_append, rep_length wd k, Nat.add_mul, Nat.one_mul]; omega
theorem again_iff {row : List Int} {d q : Nat} (hd : 0 < d) (hq : row.length = q * d) (hq0 : 0 < q) : row = (List.replicate q (row.take d)).flatten ↔ Sh (fun i => row.getD i 0) row.length d := by
  have hdl : d ≤ row.length := by rw [hq]; exact Nat.le_mul_of_pos_left _ hq0
  have htl : (row.take d).length = d := by rw [List.length_take]; omega
  have hg : ∀ i, i < d → (row.take d).getD i 0 = row.getD i 0 := fun i hi => by
    rw [List.getD_eq_getElem?_getD, List.getElem?_take, if_pos hi, ← List.getD_eq_getElem?_getD]
  constructor
  · intro e
    refine sh_of_mod fun i hi => ?_
    have h1 := getD_rep (wd := row.take d) (by omega) q i (by rw [htl]; omega)
    rw [← e, htl, hg _ (Nat.mod_lt _ hd)] at h1
    exact h1
  · intro h
    have hm := sh_mod hd h
    apply List.ext_getElem?
    intro i
    by_cases hi : i < row.length
    · have h1 := getD_rep (wd := row.take d) (by omega) q i (by rw [htl]; omega)
      rw [htl, hg _ (Nat.mod_lt _ hd), ← hm i hi] at h1
      have hi2 : i < ((List.replicate q (row.take d)).flatten).length := by rw [rep_length, htl]; omega
      simp only [List.getD_eq_getElem?_getD] at h1
      rw [List.getElem?_eq_getElem hi2, List.getElem?_eq_getElem hi] at h1 ⊢
      simpa using h1.symm
    · rw [List.getElem?_eq_none (by omega), List.getElem?_eq_none (by rw [rep_length, htl]; omega)]
theorem rangeUp_mem (a b n : Int) : n ∈ rangeNums a b 1 ↔ a ≤ n ∧ n < b := by
  constructor
  · exact rangeNums_up_mem
  · rintro ⟨h1, h2⟩
    unfold rangeNums
    rw [rangeSize_one, if_pos (by omega)]
    exact List.mem_map.mpr ⟨(n - a).toNat, List.mem_range.mpr (by omega), by omega⟩
/-- laid again: a part that divides -/
def Prim (row : List Int) : Prop := ∀ d, 0 < d → d < row.length → d ∣ row.length → ¬ Sh (fun i => row.getD i 0) row.length d
theorem mem_again {row : List Int} {d : Nat} (hd : 0 < d) (hl : d < row.length) (hdv : d ∣ row.length) : (d : Int) ∈ again' row ↔ Sh (fun i => row.getD i 0) row.length d := by
  obtain ⟨q, hq⟩ := hdv
  have hq' : row.length = q * d := by rw [hq, Nat.mul_comm]
  have hq0 : 0 < q := by
    rcases Nat.eq_zero_or_pos q with h | h
    · subst h; simp at hq'; omega
    · exact h
  have hfd : ((row.length : Int).fdiv d).toNat = q := by
    rw [Int.fdiv_eq_ediv_of_nonneg _ (by omega), hq', Int.natCast_mul, Int.mul_ediv_cancel _ (by omega)]
    omega
  have hfm : ((row.length : Int).fmod d == 0) = true := by
    rw [Int.fmod_eq_emod_of_nonneg _ (by omega), hq', Int.natCast_mul, Int.mul_emod_left]
    rfl
  unfold again' parts
  rw [List.mem_filter, List.mem_filter, rangeUp_mem, decide_eq_true_eq, hfd, Int.toNat_natCast, ← again_iff hd hq' hq0]
  constructor
  · exact fun h => h.2
  · exact fun h => ⟨⟨⟨by omega, by omega⟩, hfm⟩, h⟩
theorem alone_true {row : List Int} (h : alone row = true) : Prim row := fun d h1 h2 h3 h4 => by
  unfold alone at h
  rw [decide_eq_true_eq] at h
  have := (mem_again h1 h2 h3).mpr h4
  rw [h] at this
  simp at this
theorem alone_false {row : List Int} (h : ¬ alone row = true) : ∃ d, 0 < d ∧ d < row.length ∧ d ∣ row.length ∧ Sh (fun i => row.getD i 0) row.length d := by
  unfold alone at h
  rw [decide_eq_true_eq] at h
  obtain ⟨x, hx⟩ := List.exists_mem_of_ne_nil _ h
  have hp : x ∈ parts row := (List.mem_filter.mp hx).1
  have hr := rangeNums_up_mem (List.mem_filter.mp hp).1
  have hm : (row.length : Int).fmod x = 0 := by simpa using (List.mem_filter.mp hp).2
  obtain ⟨d, rfl⟩ : ∃ d : Nat, x = d := ⟨x.toNat, by omega⟩
  have hdv : d ∣ row.length := by
    rw [Int.fmod_eq_emod_of_nonneg _ (by omega)] at hm
    exact Int.natCast_dvd_natCast.mp (Int.dvd_of_emod_eq_zero hm)
  exact ⟨d, by omega, by omega, hdv, (mem_again (by omega) (by omega) hdv).mp hx⟩
/-- not both ends make a row laid again -/
theorem prim_two {z : List Int} {low high : Int} (hne : low ≠ high) (h : ¬ alone (z ++ [high]) = true) : Prim (z ++ [low]) := by
  obtain ⟨d1, a1, a2, ⟨q1, a3⟩, a4⟩ := alone_false h
  rintro d2 b1 b2 ⟨q2, b3⟩ b4
  have hl : (z ++ [high]).length = z.length + 1 := by simp
  have hl' : (z ++ [low]).length = z.length + 1 := by simp
  rw [hl] at a2 a3 a4
  rw [hl'] at b2 b3 b4
  have gz : ∀ x : Int, ∀ i, i < z.length → (z ++ [x]).getD i 0 = z.getD i 0 := fun x i hi => by
    rw [List.getD_eq_getElem?_getD, List.getElem?_append_left hi, ← List.getD_eq_getElem?_getD]
  have gl : ∀ x : Int, (z ++ [x]).getD z.length 0 = x := fun x => by simp
  have c1 : 2 * d1 ≤ z.length + 1 := by
    rcases q1 with _ | _ | q1
    · omega
    · omega
    · rw [a3, show d1 * (q1 + 1 + 1) = d1 * q1 + 2 * d1 from by rw [Nat.mul_add, Nat.mul_add]; omega]; omega
  have c2 : 2 * d2 ≤ z.length + 1 := by
    rcases q2 with _ | _ | q2
    · omega
    · omega
    · rw [b3, show d2 * (q2 + 1 + 1) = d2 * q2 + 2 * d2 from by rw [Nat.mul_add, Nat.mul_add]; omega]; omega
  have e1 : z.getD (z.length - d1) 0 = high := by
    have := a4 (z.length - d1) (by omega)
    simp only at this
    rw [show z.length - d1 + d1 = z.length from by omega, gl, gz _ _ (by omega)] at this
    exact this
  have e2 : z.getD (z.length - d2) 0 = low := by
    have := b4 (z.length - d2) (by omega)
    simp only at this
    rw [show z.length - d2 + d2 = z.length from by omega, gl, gz _ _ (by omega)] at this
    exact this
  by_cases hs : d1 + d2 ≤ z.length
  · have f1 := b4 (z.length - d1 - d2) (by omega)
    simp only at f1
    rw [show z.length - d1 - d2 + d2 = z.length - d1 from by omega, gz _ _ (by omega), gz _ _ (by omega), e1] at f1
    have f2 := a4 (z.length - d1 - d2) (by omega)
    simp only at f2
    rw [show z.length - d1 - d2 + d1 = z.length - d2 from by omega, gz _ _ (by omega), gz _ _ (by omega), e2] at f2
    exact hne (f2.symm.trans f1)
  · have : d1 = d2 := by omega
    subst this
    exact hne (e2.symm.trans e1)
end Mine
end

section
open PySem PySem.W PyProof.Rows
set_option Elab.async false
set_option maxRecDepth 100000
set_option linter.unusedVariables false
namespace Mine
structure Good (low high : Int) (f : Nat → Int) (g : List Int) (p : Nat) : Prop where
  len : g.length = p
  pos : 0 < p
  head : g.getD 0 0 = low
  mem : ∀ x ∈ g, x = low ∨ x = high
  brd : ∀ b, 0 < b → (Brd (fun i => g.getD i 0) p b ↔ Brd f p b)
theorem getD_left {a b : List Int} {i : Nat} (h : i < a.length) : (a ++ b).getD i 0 = a.getD i 0 := by
  rw [List.getD_eq_getElem?_getD, List.getElem?_append_left h, ← List.getD_eq_getElem?_getD]
theorem getD_right {a b : List Int} {i : Nat} (h : a.length ≤ i) : (a ++ b).getD i 0 = b.getD (i - a.length) 0 := by
  rw [List.getD_eq_getElem?_getD, List.getElem?_append_right h, ← List.getD_eq_getElem?_getD]
theorem getD_take {a : List Int} {i k : Nat} (h : i < k) : (a.take k).getD i 0 = a.getD i 0 := by
  rw [List.getD_eq_getElem?_getD, List.getElem?_take, if_pos h, ← List.getD_eq_getElem?_getD]

theorem good_base {low high : Int} (hne : low ≠ high) {f : Nat → Int} {q : Nat} (hq : 0 < q) (hl : lb f q = 0) : Good low high f (madeStep low high [] q) q := by
  have e : madeStep low high [] q = [low] ++ List.replicate (q - 1) high := by
    unfold madeStep
    rw [if_pos rfl]
    congr 2
    omega
  rw [e]
  have hi : ∀ i, 0 < i → i < q → ([low] ++ List.replicate (q - 1) high).getD i 0 = high := fun i h0 h1 => by
    rw [getD_right (by simp; omega), List.getD_eq_getElem?_getD, List.getElem?_replicate, if_pos (by simp; omega)]
    rfl
  refine ⟨by simp; omega, hq, rfl, fun x hx => ?_, fun b hb => ⟨fun h => ?_, fun h => ?_⟩⟩
  · rcases List.mem_append.mp hx with hx | hx
    · exact .inl (List.mem_singleton.mp hx)
    · exact .inr (List.eq_of_mem_replicate hx)
  · have h1 := h.2 0 hb
    have h2 := h.1
    simp only at h1
    rw [hi (q - b + 0) (by omega) (by omega)] at h1
    exact absurd h1 hne
  · have := lb_max h
    omega

/-- borders of the longer row from those of the shorter -/
theorem brd_ext {f : Nat → Int} {g g' : List Int} {p q : Nat} (hq : 0 < q) (hl : lb f q = p) (hp : 0 < p) (hg : ∀ b, 0 < b → (Brd (fun i => g.getD i 0) p b ↔ Brd f p b)) (pre : ∀ i, i < p → g'.getD i 0 = g.getD i 0)
    (hb : Brd (fun i => g'.getD i 0) q p) (no : ∀ b, p < b → ¬ Brd (fun i => g'.getD i 0) q b) (b : Nat) (h0 : 0 < b) : Brd (fun i => g'.getD i 0) q b ↔ Brd f q b := by
  have hf : Brd f q p := hl ▸ lb_brd f hq
  have hgg : Brd (fun i => g'.getD i 0) p b ↔ Brd (fun i => g.getD i 0) p b := brd_congr pre
  constructor
  · intro h
    rcases Nat.lt_trichotomy b p with hlt | rfl | hgt
    · exact brd_trans hf ((hg b h0).mp (hgg.mp (brd_down hb h hlt)))
    · exact hf
    · exact absurd h (no b hgt)
  · intro h
    have hm : b ≤ p := hl ▸ lb_max h
    rcases Nat.lt_or_eq_of_le hm with hlt | rfl
    · exact brd_trans hb (hgg.mpr ((hg b h0).mpr (brd_down hf h hlt)))
    · exact hb

theorem good_lap {low high : Int} {f : Nat → Int} {g : List Int} {p q : Nat} (G : Good low high f g p) (hq : 0 < q) (hl : lb f q = p) (hs : q - p ≤ p) : Good low high f (g.take (q - p) ++ g) q := by
  have hlen := G.len
  have hpos := G.pos
  have hpq : p < q := hl ▸ lb_lt f hq
  have htl : (g.take (q - p)).length = q - p := by rw [List.length_take]; omega
  have hf : Brd f q p := hl ▸ lb_brd f hq
  have shf : Sh f q (q - p) := (brd_sh hpq).mp hf
  have shg : Sh (fun i => g.getD i 0) p (q - p) := by
    rcases Nat.lt_or_eq_of_le hs with hlt | he
    · have h1 : Brd f p (p - (q - p)) := (sh_brd (by omega) hs).mp (sh_mono shf (by omega))
      exact (sh_brd (by omega) hs).mpr ((G.brd _ (by omega)).mpr h1)
    · intro i hi; omega
  have hr : ∀ i, q - p ≤ i → (g.take (q - p) ++ g).getD i 0 = g.getD (i - (q - p)) 0 := fun i hi => by
    rw [getD_right (by omega), htl]
  have pre : ∀ i, i < p → (g.take (q - p) ++ g).getD i 0 = g.getD i 0 := fun i hi => by
    by_cases h : i < q - p
    · rw [getD_left (by omega), getD_take h]
    · rw [hr i (by omega)]
      have := shg (i - (q - p)) (by omega)
      simp only at this
      rw [this]
      congr 1
      omega
  have hb : Brd (fun i => (g.take (q - p) ++ g).getD i 0) q p := ⟨hpq, fun i hi => by
    simp only
    rw [pre i hi, hr _ (by omega)]
    congr 1
    omega⟩
  refine ⟨by rw [List.length_append, htl]; omega, hq, by rw [pre 0 hpos]; exact G.head, fun x hx => ?_, brd_ext hq hl hpos G.brd pre hb fun b hbp h => ?_⟩
  · rcases List.mem_append.mp hx with hx | hx
    · exact G.mem x (List.mem_of_mem_take hx)
    · exact G.mem x hx
  · have hbq := h.1
    have sh1 := (brd_sh hbq).mp h
    have sh2 := (brd_sh hpq).mp hb
    have fw := fine_wilf _ (q - b) (q - p) (Nat.le_refl _) (by omega) (by omega) sh1 sh2 (by omega)
    have hd0 : 0 < Nat.gcd (q - b) (q - p) := Nat.gcd_pos_of_pos_left _ (by omega)
    have hd1 : Nat.gcd (q - b) (q - p) ≤ q - b := Nat.gcd_le_left _ (by omega)
    have hdv : Nat.gcd (q - b) (q - p) ∣ q - p := Nat.gcd_dvd_right _ _
    generalize Nat.gcd (q - b) (q - p) = d at *
    have s1 : Sh (fun i => g.getD i 0) p d := sh_congr (sh_mono fw (by omega)) pre
    have s2 : Sh f p d := (sh_brd hd0 (by omega)).mpr ((G.brd _ (by omega)).mp ((sh_brd hd0 (by omega)).mp s1))
    have s3 : Sh f q d := sh_of_mod fun i hi => by
      have hm := Nat.mod_lt i (show 0 < q - p by omega)
      rw [sh_mod (by omega) shf i hi, sh_mod hd0 s2 (i % (q - p)) (by omega), Nat.mod_mod_of_dvd _ hdv]
    have := lb_max ((sh_brd hd0 (by omega)).mp s3)
    omega

theorem count_rep {low high : Int} (hne : low ≠ high) (k : Nat) : (List.replicate k high).count low = 0 := by
  rw [List.count_eq_zero]
  intro h
  exact hne (List.eq_of_mem_replicate h)
theorem good_apart {low high x : Int} (hne : low ≠ high) {f : Nat → Int} {g : List Int} {p q k : Nat} (G : Good low high f g p) (hq : 0 < q) (hl : lb f q = p) (hs : p < q - p) (hk : k = q - p - p - 1) (hx : x = low ∨ x = high)
    (hv : Prim (g ++ List.replicate k high ++ [x])) : Good low high f (g ++ List.replicate k high ++ [x] ++ g) q := by
  have hlen := G.len
  have hpos := G.pos
  have hpq : p < q := hl ▸ lb_lt f hq
  have hvl : (g ++ List.replicate k high ++ [x]).length = q - p := by simp; omega
  have pre : ∀ i, i < p → (g ++ List.replicate k high ++ [x] ++ g).getD i 0 = g.getD i 0 := fun i hi => by
    rw [getD_left (by omega), getD_left (by simp; omega), getD_left (by omega)]
  have hr : ∀ i, q - p ≤ i → (g ++ List.replicate k high ++ [x] ++ g).getD i 0 = g.getD (i - (q - p)) 0 := fun i hi => by
    rw [getD_right (by omega), hvl]
  have hgl : (g ++ List.replicate k high ++ [x] ++ g).length = q := by rw [List.length_append, hvl]; omega
  have hb : Brd (fun i => (g ++ List.replicate k high ++ [x] ++ g).getD i 0) q p := ⟨hpq, fun i hi => by
    simp only
    rw [pre i hi, hr _ (by omega)]
    congr 1
    omega⟩
  refine ⟨hgl, hq, by rw [pre 0 hpos]; exact G.head, fun y hy => ?_, brd_ext hq hl hpos G.brd pre hb fun b hbp h => ?_⟩
  · rcases List.mem_append.mp hy with hy | hy
    · rcases List.mem_append.mp hy with hy | hy
      · rcases List.mem_append.mp hy with hy | hy
        · exact G.mem y hy
        · exact .inr (List.eq_of_mem_replicate hy)
      · rw [List.mem_singleton.mp hy]; exact hx
    · exact G.mem y hy
  · have hbq := h.1
    by_cases hbs : q - p ≤ b
    · have sh1 := (brd_sh hbq).mp h
      have sh2 := (brd_sh hpq).mp hb
      have fw := fine_wilf _ (q - b) (q - p) (Nat.le_refl _) (by omega) (by omega) sh1 sh2 (by omega)
      have hd0 : 0 < Nat.gcd (q - b) (q - p) := Nat.gcd_pos_of_pos_left _ (by omega)
      have hd1 : Nat.gcd (q - b) (q - p) ≤ q - b := Nat.gcd_le_left _ (by omega)
      have hdv : Nat.gcd (q - b) (q - p) ∣ q - p := Nat.gcd_dvd_right _ _
      generalize Nat.gcd (q - b) (q - p) = d at *
      refine hv d hd0 (by omega) (by rw [hvl]; exact hdv) ?_
      refine sh_congr (sh_mono fw (by omega)) fun i hi => ?_
      exact getD_left hi
    · have e := (take_drop_brd (g ++ List.replicate k high ++ [x] ++ g) b (by omega)).mpr (by rw [hgl]; exact h)
      rw [hgl, List.take_append_of_le_length (by omega), List.take_append_of_le_length (by simp; omega), List.take_append, List.take_of_length_le (by omega), List.take_replicate,
        List.drop_append_of_le_length (by omega), List.drop_append_of_le_length (by simp; omega), List.drop_append, List.drop_of_length_le (by omega), List.nil_append, List.drop_replicate] at e
      rcases hx with rfl | rfl
      · have := congrArg (fun l => l.count x) e
        simp only [List.count_append, count_rep hne, List.count_singleton_self] at this
        omega
      · have := congrArg (fun l => l.getD 0 0) e
        rw [getD_left (by omega), G.head] at this
        generalize k - (q - b - g.length) = r at this
        cases r with
        | zero => simp at this; exact hne this
        | succ r => rw [List.replicate_succ] at this; simp at this; exact hne this

theorem good_step {low high : Int} (hne : low ≠ high) {f : Nat → Int} {g : List Int} {p q : Nat} (G : Good low high f g p) (hq : 0 < q) (hl : lb f q = p) : Good low high f (madeStep low high g q) q := by
  have hlen := G.len
  have hpos := G.pos
  have hpq : p < q := hl ▸ lb_lt f hq
  have hgn : g ≠ [] := by rintro rfl; simp at hlen; omega
  unfold madeStep
  rw [if_neg hgn]
  by_cases hs : (q : Int) - g.length ≤ g.length
  · rw [if_pos hs, show ((q : Int) - g.length).toNat = q - p from by omega]
    exact good_lap G hq hl (by omega)
  · rw [if_neg hs]
    have hk : ((q : Int) - g.length - g.length - 1).toNat = q - p - p - 1 := by omega
    unfold ahead
    rw [hk]
    by_cases ha : alone (g ++ List.replicate (q - p - p - 1) high ++ [high]) = true
    · rw [if_pos ha]
      exact good_apart hne G hq hl (by omega) rfl (.inr rfl) (alone_true ha)
    · rw [if_neg ha]
      exact good_apart hne G hq hl (by omega) rfl (.inl rfl) (prim_two hne ha)
theorem good_down {low high : Int} (hne : low ≠ high) {f : Nat → Int} : ∀ (k n : Nat), 0 < n → n ≤ k → Good low high f (madeOf low high ((down f k n).reverse ++ [(n : Int)])) n
  | 0, n, h, hk => by omega
  | k + 1, n, h, hk => by
    have hlt := lb_lt f h
    unfold madeOf
    rw [List.foldl_append]
    unfold down
    split
    · rename_i e
      exact good_base hne h e
    · rename_i e
      have ih := good_down hne (f := f) k (lb f n) (by omega) (by omega)
      rw [List.reverse_cons]
      exact good_step hne ih h rfl
theorem rising_snoc : ∀ (A : List Int) (c x y : Int), Rising c (A ++ [x]) → x < y → Rising c (A ++ [x] ++ [y])
  | [], c, x, y, h, hlt => ⟨h.1, hlt, trivial⟩
  | a :: r, c, x, y, h, hlt => ⟨h.1, rising_snoc r a x y h.2 hlt⟩
theorem rising_down {f : Nat → Int} : ∀ (k n : Nat), 0 < n → n ≤ k → Rising 0 ((down f k n).reverse ++ [(n : Int)])
  | 0, n, h, hk => by omega
  | k + 1, n, h, hk => by
    have hlt := lb_lt f h
    unfold down
    split
    · exact ⟨by omega, trivial⟩
    · rename_i e
      rw [List.reverse_cons]
      exact rising_snoc _ _ _ _ (rising_down k (lb f n) (by omega) (by omega)) (by omega)
end Mine
end

section
open PySem PySem.W PyProof.Rows
set_option Elab.async false
set_option maxRecDepth 100000
set_option linter.unusedVariables false
namespace Mine
theorem brd_inj {f g : Nat → Int} {n b : Nat} (h : ∀ i j, i < n → j < n → (f i = f j ↔ g i = g j)) : Brd f n b ↔ Brd g n b := by
  constructor
  · rintro ⟨h1, h2⟩
    exact ⟨h1, fun i hi => (h _ _ (by omega) (by omega)).mp (h2 i hi)⟩
  · rintro ⟨h1, h2⟩
    exact ⟨h1, fun i hi => (h _ _ (by omega) (by omega)).mpr (h2 i hi)⟩
theorem brd_rev {f g : Nat → Int} {n b : Nat} (h : ∀ i, i < n → g i = f (n - 1 - i)) : Brd g n b ↔ Brd f n b := by
  constructor
  · rintro ⟨h1, h2⟩
    refine ⟨h1, fun i hi => ?_⟩
    have := h2 (b - 1 - i) (by omega)
    rw [h _ (by omega), h _ (by omega)] at this
    rw [show n - 1 - (b - 1 - i) = n - b + i from by omega, show n - 1 - (n - b + (b - 1 - i)) = i from by omega] at this
    exact this.symm
  · rintro ⟨h1, h2⟩
    refine ⟨h1, fun i hi => ?_⟩
    rw [h _ (by omega), h _ (by omega)]
    have := h2 (b - 1 - i) (by omega)
    rw [show n - b + (b - 1 - i) = n - 1 - i from by omega] at this
    rw [show n - 1 - (n - b + i) = b - 1 - i from by omega]
    exact this.symm
theorem getD_rev {l : List Int} {i : Nat} (h : i < l.length) : l.reverse.getD i 0 = l.getD (l.length - 1 - i) 0 := by
  rw [List.getD_eq_getElem?_getD, List.getElem?_reverse h, ← List.getD_eq_getElem?_getD]
theorem told_brd {f : Nat → Int} {l : List Int} {n : Nat} (hn : 0 < n) (hl : l.length = n) (e : ∀ b, 0 < b → (Brd f n b ↔ Brd (fun i => l.getD i 0) n b)) : told (tab f n) = brd l := by
  have h := isBs_brd l
  rw [hl] at h
  exact (isBs_told hn).uniq h e
/-- the codes of the text -/
def code (z n : Int) : Nat := if (n == z) = true then 108 else 104
theorem textCps (made : List Int) : (textOf made).cps.toList = made.map (code (made.getD 0 0)) := by
  unfold textOf
  rw [joinCps]
  generalize made.getD 0 0 = z
  induction made with
  | nil => rfl
  | cons a r ih =>
    rw [List.map_cons, List.flatMap_cons, ih, List.map_cons]
    have : (letter z a).cps.toList = [code z a] := by
      unfold letter code
      split <;> decide
    rw [this]
    rfl
theorem swp_three {p : Nat} {a b c : List Int} (hp : 0 < p) (ha : a.length = p) (hb : b.length = p) (hc : c.length = p) : swp p (a ++ b ++ c) = a.reverse ++ b.reverse ++ c.reverse := by
  have hl : (a ++ b ++ c).length = p + p + p := by rw [List.length_append, List.length_append, ha, hb, hc]
  apply List.ext_getElem?
  intro j
  by_cases hj : j < p + p + p
  · have hR : (a.reverse ++ b.reverse ++ c.reverse)[j]? = some ((a.reverse ++ b.reverse ++ c.reverse).getD j 0) := by
      rw [List.getD_eq_getElem?_getD, List.getElem?_eq_getElem (by simp [ha, hb, hc]; omega)]
      rfl
    rw [hR]
    unfold swp
    rw [hl, List.getElem?_map, List.getElem?_range hj, Option.map_some]
    congr 1
    have div : ∀ cc r, r < p → (cc * p + r) / p = cc ∧ (cc * p + r) % p = r := fun cc r hr => by
      constructor
      · rw [Nat.add_comm, Nat.add_mul_div_right _ _ hp, Nat.div_eq_of_lt hr]; omega
      · rw [Nat.add_comm, Nat.add_mul_mod_self_right, Nat.mod_eq_of_lt hr]
    have hal : a.reverse.length = p := by simp [ha]
    have hbl : b.reverse.length = p := by simp [hb]
    by_cases h1 : j < p
    · have d := div 0 j h1
      rw [Nat.zero_mul, Nat.zero_add] at d
      rw [d.1, d.2, Nat.zero_mul, Nat.zero_add, List.append_assoc, List.append_assoc, getD_left (by omega), getD_left (by omega), getD_rev (by omega), ha]
    · by_cases h2 : j < p + p
      · obtain ⟨r, hr, rfl⟩ : ∃ r, r < p ∧ j = 1 * p + r := ⟨j - p, by omega, by omega⟩
        have d := div 1 r hr
        rw [d.1, d.2, Nat.one_mul, getD_left (by simp; omega), getD_right (by omega), getD_left (by simp; omega), getD_right (by omega), getD_rev (by omega), ha, hal, hb]
        congr 1
        omega
      · obtain ⟨r, hr, rfl⟩ : ∃ r, r < p ∧ j = 2 * p + r := ⟨j - (p + p), by omega, by omega⟩
        have d := div 2 r hr
        have l1 : (a ++ b).length = p + p := by simp [ha, hb]
        have l2 : (a.reverse ++ b.reverse).length = p + p := by simp [ha, hb]
        rw [d.1, d.2, getD_right (by omega), getD_right (by omega), l1, l2, getD_rev (by omega), hc]
        congr 1
        omega
  · rw [List.getElem?_eq_none (by simp [swp, ha, hb, hc]; omega), List.getElem?_eq_none (by simp [ha, hb, hc]; omega)]

theorem turnFacts {row : List Int} {first : Int} {size : Nat} (h0 : 0 < size) (hs : size ≤ row.length) (h16 : row.length ≤ 100) (hrb : ∀ x ∈ row, 0 ≤ x ∧ x < 256) :
    TurnFacts row first size (madeOf ((first + 1).fmod 256) ((first + 2).fmod 256) ((brd (row.take size)).reverse ++ [(size : Int)])) := by
  have hfl : (row.take size).length = size := by rw [List.length_take]; omega
  have hlow := (⟨Int.fmod_nonneg_of_pos (first + 1) (b := 256) (by omega), Int.fmod_lt_of_pos (first + 1) (b := 256) (by omega)⟩ : 0 ≤ (first + 1).fmod 256 ∧ (first + 1).fmod 256 < 256)
  have hhigh := (⟨Int.fmod_nonneg_of_pos (first + 2) (b := 256) (by omega), Int.fmod_lt_of_pos (first + 2) (b := 256) (by omega)⟩ : 0 ≤ (first + 2).fmod 256 ∧ (first + 2).fmod 256 < 256)
  have hne : (first + 1).fmod 256 ≠ (first + 2).fmod 256 := by
    rw [Int.fmod_eq_emod_of_nonneg _ (by omega), Int.fmod_eq_emod_of_nonneg _ (by omega)]
    omega
  generalize hlo : (first + 1).fmod 256 = low at *
  generalize hhi : (first + 2).fmod 256 = high at *
  have hdown : brd (row.take size) = down (fun i => (row.take size).getD i 0) (size + 1) size := by
    have h := isBs_brd (row.take size)
    rw [hfl] at h
    exact h.uniq (isBs_down h0 (by omega)) fun b _ => Iff.rfl
  have G : Good low high (fun i => (row.take size).getD i 0) (madeOf low high ((brd (row.take size)).reverse ++ [(size : Int)])) size := by
    rw [hdown]
    exact good_down hne _ _ h0 (by omega)
  have R : Rising 0 ((brd (row.take size)).reverse ++ [(size : Int)]) := by
    rw [hdown]
    exact rising_down _ _ h0 (by omega)
  have hme : madeOf low high ((brd (row.take size)).reverse ++ [(size : Int)]) = madeOf ((first + 1).fmod 256) ((first + 2).fmod 256) ((brd (row.take size)).reverse ++ [(size : Int)]) := by rw [hlo, hhi]
  generalize madeOf low high ((brd (row.take size)).reverse ++ [(size : Int)]) = made at *
  have hml := G.len
  have hgm : ∀ i, i < size → made.getD i 0 = low ∨ made.getD i 0 = high := fun i hi => by
    refine G.mem _ ?_
    rw [List.getD_eq_getElem?_getD, List.getElem?_eq_getElem (by omega)]
    exact List.getElem_mem _
  refine ⟨hme, h0, hs, h16, ?_, R, hml, fun x hx => ?_, hrb, swp_three h0 hfl hml hfl, ?_, ?_, ?_, ?_⟩
  · exact told_brd h0 hfl fun b _ => brd_congr fun i hi => (getD_take hi).symm
  · rcases G.mem x hx with rfl | rfl
    · exact hlow
    · exact hhigh
  · refine told_brd h0 hfl fun b hb => Iff.trans (brd_inj fun i j hi hj => ?_) (G.brd b hb)
    have e : ∀ i, i < size → (made.map (· + 1000)).getD i 0 = made.getD i 0 + 1000 := fun i hi => by
      rw [List.getD_eq_getElem?_getD, List.getElem?_map, List.getD_eq_getElem?_getD, List.getElem?_eq_getElem (by omega)]
      rfl
    rw [e i hi, e j hj]
    omega
  · refine told_brd h0 hfl fun b hb => Iff.trans (brd_inj fun i j hi hj => ?_) (G.brd b hb)
    have e : ∀ i, i < size → (((textOf made).cps.toList.getD i 0 : Nat) : Int) = code low (made.getD i 0) := fun i hi => by
      rw [textCps, G.head, List.getD_eq_getElem?_getD, List.getElem?_map, List.getD_eq_getElem?_getD, List.getElem?_eq_getElem (by omega)]
      rfl
    rw [e i hi, e j hj]
    have c1 : code low low = 108 := by simp [code]
    have c2 : code low high = 104 := by
      unfold code
      rw [if_neg]
      intro h
      exact hne (by simpa using h : high = low).symm
    rcases hgm i hi with h1 | h1 <;> rcases hgm j hj with h2 | h2 <;> rw [h1, h2]
    · simp
    · rw [c1, c2]
      constructor
      · intro h; omega
      · intro h; exact absurd h hne
    · rw [c1, c2]
      constructor
      · intro h; omega
      · intro h; exact absurd h.symm hne
    · simp
  · exact told_brd h0 hfl fun b hb => brd_rev fun i hi => by rw [getD_rev (by omega), hfl]
  · exact told_brd h0 hfl fun b hb => Iff.trans (brd_rev fun i hi => by rw [getD_rev (by omega), hml]) (G.brd b hb)
end Mine
end

namespace Mine
theorem plainLaw : PlainLaw := fun script size h0 hs => ⟨_, turnFacts h0 hs (by have := lawRow_len script; omega) (lawRow_byte script)⟩
end Mine
theorem PySem.Challenge.cw_rs0017_01_holds : PySem.Challenge.rw_rs0017_01.Holds := by
  exact Mine.holdsOf Mine.plainLaw
