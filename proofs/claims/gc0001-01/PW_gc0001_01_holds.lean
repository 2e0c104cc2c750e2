import PyProof.Rows.All
import Wide.All
import OpenK.AllK
import Wide.FinOn
import PySem.Challenge.RW_gc0001_01
open PySem PySem.W PySem.Calls PyProof.Rows
set_option Elab.async false
set_option maxRecDepth 100000
set_option maxHeartbeats 8000000

namespace Mine
open Sem (wp)

/-! Clean contexts: no builtin on the stack that holds a bytearray's memory -/
def okCode : Code → Bool
  | .builtin id _ => !(Builtin.Bytes.decodersThatHold.contains id || guardIds.contains id)
  | _ => true
structure Clean (Γ : Ctx) : Prop where
  own : okCode Γ.code = true
  rest : ∀ x ∈ Γ.below, okCode x.1 = true

def wpC {α : Type} (M : Model) (A : Around) (t : Sem α) (Q : α → Shared → Prop) (E : Value → Shared → Prop) (s : Shared) : Prop :=
  ∀ Γ p, Γ.In A → Clean Γ → wp M Γ t (fun a _ s' => Q a s') (fun e _ s' => E e s') p s
def codeC (M : Model) (A : Around) (c : Code) (R : Result → Shared → Prop) (s : Shared) : Prop :=
  ∀ Γ p, Γ.code = c → Γ.Below A → (∀ x ∈ Γ.below, okCode x.1 = true) → wpCode M Γ R p s

section
variable {α β : Type} {M : Model} {A : Around} {E : Value → Shared → Prop} {s : Shared}
theorem wpC_of {t : Sem α} {Q : α → Shared → Prop} (h : wpAny M A t Q E s) : wpC M A t Q E s := fun Γ p hΓ _ => h Γ p hΓ
theorem wpC_pure {a : α} {Q : α → Shared → Prop} (h : Q a s) : wpC M A (pure a) Q E s := wpC_of (wpAny_pure h)
theorem wpC_mono {t : Sem α} {Q Q' : α → Shared → Prop} {E' : Value → Shared → Prop} (h : wpC M A t Q E s) (hQ : ∀ a s, Q a s → Q' a s) (hE : ∀ e s, E e s → E' e s) : wpC M A t Q' E' s :=
  fun Γ p hΓ hc => Sem.wp_mono M Γ t (fun a _ s => hQ a s) (fun e _ s => hE e s) p s (h Γ p hΓ hc)
theorem wpC_bind {m : Sem α} {f : α → Sem β} {Q : β → Shared → Prop} (h : wpC M A m (fun a s' => wpC M A (f a) Q E s') E s) : wpC M A (m >>= f) Q E s := fun Γ p hΓ hc => by
  rw [Sem.wp_bind']
  exact Sem.wp_mono M Γ m (fun a p' s' h' => h' Γ p' hΓ hc) (fun _ _ _ h' => h') p s (h Γ p hΓ hc)
/-- a piece by the library's rules, the rest at clean contexts -/
theorem wpC_bindA {m : Sem α} {f : α → Sem β} {Q : β → Shared → Prop} (h : wpAny M A m (fun a s' => wpC M A (f a) Q E s') E s) : wpC M A (m >>= f) Q E s := wpC_bind (wpC_of h)
theorem wpC_onRaise {m : Sem α} {k : Value → Sem Unit} {Q : α → Shared → Prop} (h : wpC M A m Q (fun e s' => wpAny M A (k e) (fun _ s'' => E e s'') E s') s) : wpC M A (m.onRaise k) Q E s := fun Γ p hΓ hc => by
  rw [Sem.wp_onRaise]
  exact Sem.wp_mono M Γ m (fun _ _ _ h' => h') (fun e p' s' h' => h' Γ p' hΓ) p s (h Γ p hΓ hc)
theorem wpC_holding {vs : List Value} {m : Sem α} {Q : α → Shared → Prop} (h : wpC M A m Q E s) : wpC M A (holding vs m) Q E s :=
  fun Γ p hΓ hc => by rw [Sem.wp_holding]; exact h Γ p hΓ hc
theorem wpC_keep {vs : List Value} {m : Sem α} {Q : α → Shared → Prop} (h : wpC M A m Q E s) : wpC M A (m.keep vs) Q E s :=
  fun Γ p hΓ hc => by rw [Sem.wp_keep]; exact h Γ p hΓ hc
theorem Clean.enter {Γ : Ctx} (h : Clean Γ) (c : Code) (hd : Option Value) (p : Pos) : ∀ x ∈ (Γ.enter c hd p).below, okCode x.1 = true := by
  intro x hx
  rcases List.mem_cons.mp hx with rfl | hx
  · exact h.own
  · exact h.rest x hx
theorem wpC_run {c : Code} {Q : Flow → Shared → Prop} (hc : codeC M A c (fun r s' => match r with | .ok f => Q f s' | .error e => E e s') s) : wpC M A (run c none) Q E s :=
  fun Γ p hΓ hk => by rw [Sem.wp_run]; exact hc _ p rfl (hΓ.enter c none p (by intro x; cases x)) (hk.enter c none p)
theorem wpC_call {f : Value} {pos : List Value} {kw : List (Str × Value)} {Q : Value → Shared → Prop}
    (hc : codeC M A (.call f ⟨pos, kw⟩) (fun r s' => match r with | .ok (.ret v) => Q v s' | .ok _ => False | .error e => E e s') s) : wpC M A (call f pos kw) Q E s :=
  fun Γ p hΓ hk => by
    show wp M Γ (runValue _) _ _ p s
    rw [Sem.wp_runValue]; exact hc _ p rfl (hΓ.enter _ none p (by intro x; cases x)) (hk.enter _ none p)
theorem codeC_of {c : Code} {R : Result → Shared → Prop} (h : codeAny M A c R s) : codeC M A c R s := fun Γ p hc hΓ _ => h Γ p hc hΓ
theorem codeC_mono {c : Code} {R R' : Result → Shared → Prop} (h : codeC M A c R s) (hR : ∀ r s, R r s → R' r s) : codeC M A c R' s :=
  fun Γ p hc hΓ hk => wpCode_mono hR (h Γ p hc hΓ hk)
theorem codeC_tree {c : Code} {R : Result → Shared → Prop} (ok : okCode c = true)
    (h : wpC M (A.under c) (M.den c) (fun fin s' => match fin with | .done f => R (.ok f) s' | .again c' => c'.quiet = true ∧ codeC M A c' R s') (fun e s' => R (.error e) s') s) : codeC M A c R s := fun Γ p hc hΓ hk => by
  rw [wpCode_iff_wp, hc]
  refine Sem.wp_mono M Γ _ (fun fin p' s' h' => ?_) (fun _ _ _ h' => h') p s (h Γ p (hc ▸ hΓ.in) ⟨hc ▸ ok, hk⟩)
  cases fin with
  | done f => exact h'
  | again c' => exact ⟨h'.1, h'.2 (Γ.goto c') p' rfl (hΓ.goto c') hk⟩
end

/-! The head at clean contexts -/
theorem clean_caller : Clean (⟨.builtin "claim.caller" {}, none, none, [], none⟩ : Ctx) := ⟨by decide +kernel, fun _ hx => nomatch hx⟩
theorem ends_C {prog : Program} {w : World} {t : Sem Fin} {s : Shared} {R : Result → Shared → Prop} (hreg : s.asleep)
    (h : wpC (model prog w) callerA t (fun fin s' => ∃ f, fin = .done f ∧ R (.ok f) s' ∧ AllBare s'.gens) (fun e s' => R (.error e) s' ∧ AllBare s'.gens) s) :
    ∃ n r s' s'', runN (denote table) prog w n s ⟨t, .builtin "claim.caller" {}, default, []⟩ = .halted (outcomeOf r) s' ∧
      schedN (denote table) prog w n (.single s ⟨t, .builtin "claim.caller" {}, default, []⟩) = .halted (outcomeOf r) s' ∧ s'.forget = s''.forget ∧ R r s'' := by
  have h0 := h _ default caller_in clean_caller
  obtain ⟨n, r, s₁, s₂, a, b, c, d⟩ := wp_halts_full (M := model prog w) (R := R) hreg (Sem.wp_mono _ _ _ (fun fin p' s' h' => by
    obtain ⟨f, rfl, x, y⟩ := h'
    exact ⟨x, leftWithCleanup_false_of_bare y⟩) (fun e p' s' h' => ⟨h'.1, leftWithCleanup_false_of_bare h'.2⟩) _ _ h0)
  exact ⟨n, r, s₂, s₁, b, a, c, d⟩

theorem callFrom_C {c : ClaimW} {tree : List Value → Sem Fin} {w : World} {s : Shared} {free : Addr → Prop} {gens : Prop} {kept : Heap → Prop} (hz : s.asleep) (hgens : s.gens = #[])
    (hspec : ∀ args, c.pre args = true → WData.layableAll args = true → ∀ ord : List DictEntry → List DictEntry, (∀ l, (ord l).Perm l) →
      ∃ vs s₁, layAllW c.records (classAt s.heap) w.params ord args s = some (vs, s₁) ∧
        wpC (model c.prog w) callerA (tree vs) (fun fin s' => ∃ f, fin = .done f ∧ (c.Ends s args vs s₁ (.ok f) s' ∧ s'.os = s.os ∧ kept s'.heap) ∧ AllBare s'.gens)
          (fun e s' => (c.Ends s args vs s₁ (.error e) s' ∧ s'.os = s.os ∧ kept s'.heap) ∧ AllBare s'.gens) s₁) :
    c.CallFrom (fun vs => ⟨tree vs, .builtin "claim.caller" {}, default, []⟩) w free gens kept s := by
  intro args hpre hlay ord hord
  obtain ⟨vs, s₁, hlaid, hcode⟩ := hspec args hpre hlay ord hord
  have hal := layAllW_rest _ _ _ hlaid
  obtain ⟨k, r, s', s'', hrun, hsched, hfo, hR⟩ := ends_C (prog := c.prog) (w := w) (t := tree vs) (s := s₁) (R := fun r s' => c.Ends s args vs s₁ r s' ∧ s'.os = s.os ∧ kept s'.heap)
    (Shared.asleep_of_life hal.2.2.2 hz) hcode
  obtain ⟨eh, _, _, eo, _⟩ := Shared.forget_eq hfo
  obtain ⟨hcase, hos, hkp⟩ := hR
  have hcase := ClaimW.Ends.congr (s' := s') eh hcase
  rw [← eo] at hos
  rw [← eh] at hkp
  refine ⟨vs, s₁, hlaid, k, _, s', hsched, ?_, (fun _ i x hx => by rw [hgens] at hx; simp at hx), hkp, by rw [(runN_life _ _ _ hrun).trans hal.2.2.2], Shared.rest_eq hos⟩
  rcases hcase with ⟨v, rfl, d1, d2, d3, d4, d5⟩ | ⟨e, ob, cls, rfl, d1, d2, d3, d4, d5⟩
  · exact .inl ⟨v, rfl, d1, d2, d3, fun b o y _ => d4 b o y, d5⟩
  · exact .inr ⟨e, ob, cls, rfl, d1, d2, d3, d4, fun b o y _ => d5 b o y⟩

abbrev WalkC (q : Program) (loose : List Str) (XP : (Str → Option Value) → Heap → Prop) (YP : World → Heap → Prop) (r : RowW) (d : DefRec) (kwd : List (Str × Expr)) : Prop :=
  ∀ (w : World) (s₀ s₁ : Shared) (mg mb : Str → Option Value), Ground q loose r.records XP w s₀ mg mb s₁.heap → YP w s₁.heap → ∀ (a : Addr) (o : Obj) (pm cd doc dV kV : Value), s₁.heap.get? a = some o →
    o.data = .func { docDef d.name d.params d.body d.scope pm cd doc with defaults := dV, kwdefaults := kV } → s₁.heap.CodeRec cd d.name → Dflts mg s₁.heap d.params kwd dV kV → mg d.name = some (.ref a) → s₁.gens = #[] →
    ∀ (args : List WData) (vals : List Value) (as : List Addr), r.claim.pre args = true → WData.layableAll args = true → ReadsAllW r.records (classAt s₀.heap) s₁.heap vals args as → WellAll w.params s₁.heap vals args → (∀ a ∈ as, (a == sysModules) = false) →
      wpC (model r.prog w) callerA (PySem.call (.ref a) vals) (fun v s' => GoodWG r.claim (classAt s₀.heap) (ExcName.means s₀.heap) args s₁ (.ok (.ret v)) s')
        (fun e s' => GoodWG r.claim (classAt s₀.heap) (ExcName.means s₀.heap) args s₁ (.error e) s') s₁

theorem PySem.W.holds_open {r : OpenRow} {q : Program} {loose : List Str} {Xt : Shared → Bool} {XP : (Str → Option Value) → Heap → Prop} {α : Type} {Yf : Shared → α} {Ya : World → α} {YP : World → Heap → Prop} {d : DefRec} {kwd : List (Str × Expr)} {N : Nat}
    (left : LeftO r.prog q loose Xt Yf Ya N) (hY : ∀ w s, Yf s = Ya w → YP w s.heap) (hYk : ∀ w h h', YP w h → (∀ b o, h.get? b = some o → h'.get? b = some o) → YP w h')
    (hX : ∀ s, Xt s = true → XP (s.heap.nsMap mainGlobals) s.heap) (hXk : ∀ mg h h', XP mg h → (∀ b o, h.get? b = some o → h'.get? b = some o) → XP mg h')
    (hdef : defOf q r.name = some (d, kwd)) (hp : r.prog.theDef r.name = some (d.params, d.body, d.scope)) (hk : kwWritten? d.params.kwonlyargs d.params.kw_defaults = some kwd) (hRf : ∀ s, Xt s = true → RecFacts r.records s.heap) (hwr : (!r.writes || r.records.isEmpty) = true)
    (k1 : r.wellSaid = true) (ok : (chainsOk q && opensWell r.prog && (frees r.toRowW && r.within.isEmpty)) = true) (hb : r.prog.bare) (hw : r.toRowW.promised)
    (call : WalkC q loose XP YP r.toRowW d kwd) : r.Holds := by
  obtain ⟨ok, k5⟩ := Bool.and_eq_true_iff.mp ok
  obtain ⟨hch, o1⟩ := Bool.and_eq_true_iff.mp ok
  obtain ⟨k5, k6⟩ := Bool.and_eq_true_iff.mp k5
  obtain ⟨hsame, hu, ha, hap, hm⟩ := frees_parts k5
  have hwi : r.toRowW.claim.within = [] := List.isEmpty_iff.mp k6
  refine ⟨k1, hw, ⟨hb, o1, by show r.makers.map _ = []; rw [hm]; rfl⟩, hw.witness, fun w => ⟨(left.behind hX hch w).1, fun s' hs' => ?_⟩⟩
  obtain ⟨s₀, hf, hg0, s, hT, hz, hgens, hg, G00, y⟩ := (left.behind (XP := fun mg h => XP mg h ∧ RecFacts r.records h) (fun s hs => ⟨hX s hs, hRf s hs⟩) hch w).2 s' hs'
  have G0 : Ground q loose [] XP w s (s.heap.nsMap mainGlobals) (s.heap.nsMap builtinsNs) s.heap := ⟨G00.T, G00.B, G00.D, G00.TE, G00.TD, G00.W, G00.X.1, G00.cls, G00.has, G00.apart, G00.once, G00.K⟩
  have RF := G00.X.2
  have G : Ground q loose r.records XP w s _ _ s.heap := RF.ground G0
  have hgens : s.gens = #[] := Array.eq_empty_of_size_eq_zero (beq_iff_eq.mp hgens)
  refine ⟨s₀, hf, hg0, s, hT, fun n hn => ?_, RF.1, RF.2.1, ?_⟩
  · obtain rfl : n = r.name := by split at hn <;> simp_all
    exact pinned_of_view hg G0 hdef hp hk
  · refine callFrom_C (c := r.toRowW.claim) hz hgens fun args hpre hlay ord hord => ?_
    obtain ⟨⟨vs, s₁⟩, hlaid⟩ := Option.isSome_iff_exists.mp (layAllW_isSome (P := w.params) (ord := ord) G.has args r.args s (pre_splitW hpre).1)
    have keeps := layAllW_keeps _ _ _ hlaid
    have hal := layAllW_rest _ _ _ hlaid
    obtain ⟨as, hrd, hin, hold⟩ := reads_layAllW hord _ _ _ hlaid hlay s₁.heap (fun _ _ e => e)
    have L : Laid r.records w s s₁ args vs as := ⟨⟨ord, hord, hlaid⟩, hrd, hin, hold, keeps, hal.1.trans hgens, hal.2.2.1⟩
    have G₁ := G.keeps hXk keeps
    obtain ⟨a, o, pm, cd, doc, dV, kV, h1, h2, h3, h4, h5⟩ := G₁.fn hdef
    have h := call w s s₁ _ _ G₁ (hYk _ _ _ (hY w s y) keeps) a o pm cd doc dV kV h2 h3 h4 h5 (defOf_name hdef ▸ h1) L.gens args vs as hpre hlay L.reads L.well (L.low G.low)
    have hi := ident_freeW hu ha hap
    refine ⟨vs, s₁, hlaid, ?_⟩
    show wpC _ _ (do match ← nsGet mainNs r.name with | some f => do ret (← PySem.call f vs) | none => unsupported "claim.caller:no-such-global") _ _ _
    refine wpC_bindA (wpAny_nsGet G₁.T.g ?_)
    rw [h1]
    refine wpC_bind (wpC_mono h (fun v s' g => wpC_pure ⟨_, rfl, ?_⟩) fun e s' g => ?_)
    · have z := g.laid (c := r.toRowW.claim) hsame hwi hi L
      exact ⟨⟨z.1, z.2.1, fun q => ⟨namesKept_of hT hg r.keeps keeps g.2.1.old, noTable hwr q⟩⟩, z.2.2⟩
    · have z := g.laid (c := r.toRowW.claim) hsame hwi hi L
      exact ⟨⟨z.1, z.2.1, fun q => ⟨namesKept_of hT hg r.keeps keeps g.2.1.old, noTable hwr q⟩⟩, z.2.2⟩
end Mine

namespace Mine
open_top hd for PySem.Challenge.rw_gc0001_01
end Mine

namespace Mine
open Sem (wp)
theorem ba_mro : mroOf (.type "bytearray") = pure [.type "bytearray", .type "object"] := by rw [mroOf_type]; kernel_rfl
theorem ba_look_new : typeLookup (.type "bytearray") "__new__" = pure (some (.builtin "bytearray.__new__")) := by rw [typeLookup_type, builtinLookup_eq_fast]; kernel_rfl
theorem ba_slot_init : Slot "bytearray" "__init__" "bytearray.__init__" :=
  .of (owner := "bytearray") (n := "__init__") (by rw [typeLookup_type, builtinLookup_eq_fast]; kernel_rfl) (by decide +kernel) (by decide +kernel) (by decide +kernel)
    (by first | exact .inl (by decide +kernel) | exact .inr (by decide +kernel)) (by rw [isSubtype_type]; kernel_rfl)
theorem ba_called : TypeCalled "bytearray" "bytearray.__new__" "bytearray.__init__" :=
  ⟨by decide +kernel, by decide +kernel, ⟨_, _, ba_mro⟩, madeBy_type ba_mro ba_look_new (by decide +kernel), by decide +kernel, by rw [isSubtype_type]; kernel_rfl, ba_slot_init⟩
theorem ba_typeCall (a : Value) : checkTypeCall "bytearray" ⟨[a], []⟩ = pure () := by kernel_rfl
theorem ba_newCall (a : Value) : checkBuiltinCall "bytearray.__new__" ⟨[.type "bytearray", a], []⟩ = pure () := by kernel_rfl
theorem ba_entry_new : entryFor table "bytearray.__new__" = some Builtin.«list.__new__» :=
  entryFor_alias (id' := "list.__new__") (by kernel_rfl) (by first | rfl | decide +kernel) (by decide +kernel) (by kernel_rfl)
theorem ba_entry_init : entryFor table "bytearray.__init__" = some Builtin.«bytearray.__init__» := by first | exact entryFor_of_fast (by kernel_rfl) | exact entryFor_of_tree (by kernel_rfl)
theorem ba_args_init (a b : Value) : argsOk "bytearray.__init__" ⟨[a, b], []⟩ := by
  unfold argsOk; first | kernel_rfl | rfl
theorem ba_sub : isSubtype (.type "bytearray") (.type "bytearray") = pure true := by rw [isSubtype_type]; kernel_rfl
theorem ba_look_release : typeLookup (.type "bytearray") "__release_buffer__" = pure (some (.builtin "bytearray.__release_buffer__")) := by rw [typeLookup_type, builtinLookup_eq_fast]; kernel_rfl
theorem ba_bind (v : Value) : Builtin.Bytes.bindOptional "bytearray.__init__" "bytearray" ["source", "encoding", "errors"] [v] [] = pure [some v, none, none] := by kernel_rfl
theorem int_look_index : typeLookup (.type "int") "__index__" = pure (some (.builtin "int.__index__")) := by rw [typeLookup_type, builtinLookup_eq_fast]; kernel_rfl
set_option maxRecDepth 1000000 in
set_option maxHeartbeats 4000000 in
theorem ba_owner : ("bytearray.__new__".splitOn ".__new__").headD "" = "bytearray" := by simp +decide [String.splitOn, String.splitOnAux]
theorem ba_plain_new : plainId "bytearray.__new__" = true := by decide +kernel
theorem ba_plain_init : plainId "bytearray.__init__" = true := by decide +kernel
theorem ba_slot_setitem : Slot "bytearray" "__setitem__" "bytearray.__setitem__" :=
  .of (owner := "bytearray") (n := "__setitem__") (by rw [typeLookup_type, builtinLookup_eq_fast]; kernel_rfl) (by decide +kernel) (by decide +kernel) (by decide +kernel)
    (by first | exact .inl (by decide +kernel) | exact .inr (by decide +kernel)) (by rw [isSubtype_type]; kernel_rfl)
theorem ba_entry_setitem : entryFor table "bytearray.__setitem__" = some Builtin.«bytearray.__setitem__» := by first | exact entryFor_of_fast (by kernel_rfl) | exact entryFor_of_tree (by kernel_rfl)
theorem ba_args_setitem (a b c : Value) : argsOk "bytearray.__setitem__" ⟨[a, b, c], []⟩ := by
  unfold argsOk; first | kernel_rfl | rfl
theorem ba_no_bytes : typeLookup (.type "bytearray") "__bytes__" = pure none := by rw [typeLookup_type, builtinLookup_eq_fast]; kernel_rfl
theorem ba_no_index : typeLookup (.type "bytearray") "__index__" = pure none := by rw [typeLookup_type, builtinLookup_eq_fast]; kernel_rfl
theorem ba_look_buffer : typeLookup (.type "bytearray") "__buffer__" = pure (some (.builtin "bytearray.__buffer__")) := by rw [typeLookup_type, builtinLookup_eq_fast]; kernel_rfl
end Mine

namespace Mine
open Sem (wp)
abbrev baObj (b : Array UInt8) : Obj := { cls := .type "bytearray", data := .bytearray b }
section
variable {prog : Program} {w : World} {A : Around} {E : Value → Shared → Prop} {s : Shared} {S : Addr} {b : Array UInt8}

theorem ba_type (h : s.heap.get? S = some (baObj b)) : s.TypeIs (.ref S) "bytearray" := ⟨_, h, rfl⟩
theorem ba_ownRelease {M : Model} {Q : Bool → Shared → Prop} (h : s.heap.get? S = some (baObj b)) (hq : Q false s) : wpAny M A (Builtin.Bytes.ownRelease (.ref S)) Q E s := by
  unfold Builtin.Bytes.ownRelease Builtin.Bytes.slotIsOwn
  refine wpAny_bind (wpAny_bind (wpAny_specialOf (ba_type h) ba_look_release ?_))
  show wpAny M A (if (!String.endsWith "bytearray.__release_buffer__" ("." ++ "__release_buffer__")) = true then _ else _) _ _ _
  rw [if_neg (by decide +kernel)]
  refine wpAny_isInstance (ba_type h) (b := true) (by rw [show (("bytearray.__release_buffer__" : String).dropRight (("__release_buffer__" : String).length + 1)) = "bytearray" from by decide +kernel]; exact ba_sub) ?_
  exact wpAny_pure hq
theorem ba_payload {M : Model} {Q : Array UInt8 → Shared → Prop} (h : s.heap.get? S = some (baObj b)) (hq : Q b s) : wpAny M A (Builtin.Bytes.payload (.ref S)) Q E s := by
  unfold Builtin.Bytes.payload Builtin.Bytes.payload?
  refine wpAny_bind (wpAny_bind (wpAny_load h ?_))
  exact wpAny_pure (wpAny_pure hq)
theorem ba_write {M : Model} {f : Array UInt8 → Array UInt8} {Q : Unit → Shared → Prop} (h : s.heap.get? S = some (baObj b)) (hz : (f b).size ≤ sizeLine)
    (hq : ∀ h', Heap.SameBut S s.heap h' → h'.get? S = some (baObj (f b)) → Q () { s with heap := h' }) : wpAny M A (Builtin.Bytes.write (.ref S) f) Q E s := by
  show wpAny M A (updateBytearray S f) Q E s
  unfold updateBytearray
  refine wpAny_bind (wpAny_load h ?_)
  show wpAny _ _ (update S (Obj.mapBytearray f) >>= fun _ => lookBehind S) _ _ _
  refine wpAny_bind (wpAny_update h ?_)
  have h₂ : (s.heap.update S (Obj.mapBytearray f)).get? S = some (baObj (f b)) := Heap.get?_update_self (Obj.mapBytearray f) h rfl
  refine wpAny_lookBehind h₂ ?_ (hq _ (Heap.SameBut.update ..) h₂)
  show (if (f b).size > sizeLine then some "bytearray:memory" else none) = none
  rw [if_neg (Nat.not_lt.mpr hz)]

def holdsIt (self : Value) : Code × Pos → Bool
    | (.builtin "bytearray.__contains__" ⟨v :: _, _⟩, _) | (.builtin "bytearray.__mod__" ⟨v :: _, _⟩, _)
    | (.builtin "bytearray.__rmod__" ⟨_ :: v :: _, _⟩, _) | (.builtin "_struct.pack_into.held" ⟨v :: _, _⟩, _) => Builtin.Bytes.sameRef v self
    | (.builtin "bytearray.find.held" ⟨_ :: _ :: held, _⟩, _) => held.any (Builtin.Bytes.sameRef self)
    | (.builtin id ⟨v :: _, _⟩, _) => Builtin.Bytes.sameRef v self && Builtin.Bytes.decodersThatHold.contains id
    | _ => false
theorem holdsIt_clean (self : Value) : ∀ x : Code × Pos, okCode x.1 = true → holdsIt self x = false := by
  rintro ⟨c, p⟩ h
  unfold holdsIt
  split <;> first
    | rfl
    | (exfalso; rename_i e; simp only [Prod.mk.injEq] at e; obtain ⟨rfl, _⟩ := e; simp only [okCode] at h; revert h; decide +kernel)
    | (rename_i e; simp only [Prod.mk.injEq] at e; obtain ⟨rfl, _⟩ := e; simp only [okCode, Bool.not_eq_true', Bool.or_eq_false_iff] at h; rw [h.1]; simp)
theorem exported_clean {M : Model} {Q : Bool → Shared → Prop} {self : Value} (hq : Q false s) : wpC M A (Builtin.Bytes.exported self) Q E s := fun Γ p _ hc => by
  show Q (((Γ.code, p) :: Γ.below).any (holdsIt self)) s
  have e : ((Γ.code, p) :: Γ.below).any (holdsIt self) = false := by
    rw [List.any_eq_false]
    intro x hx
    rcases List.mem_cons.mp hx with rfl | hx
    · rw [holdsIt_clean self _ hc.own]; simp
    · rw [holdsIt_clean self _ (hc.rest x hx)]; simp
  rw [e]; exact hq
end
end Mine

namespace Mine
open Sem (wp)
theorem wpC_eq {α β : Type} {M : Model} {A : Around} {E : Value → Shared → Prop} {s : Shared} {m : Sem α} {f : α → Sem β} {a : α} {Q : β → Shared → Prop} (e : m = pure a) (h : wpC M A (f a) Q E s) : wpC M A (m >>= f) Q E s := by
  subst e
  exact h
theorem if_no {α : Type} {M : Model} {A : Around} {E : Value → Shared → Prop} {s : Shared} {c : Bool} {a b : Sem α} {Q : α → Shared → Prop} (hc : c = false) (h : wpC M A b Q E s) : wpC M A (if c = true then a else b) Q E s := by
  subst hc
  exact h
theorem if_yes {α : Type} {M : Model} {A : Around} {E : Value → Shared → Prop} {s : Shared} {c : Bool} {a b : Sem α} {Q : α → Shared → Prop} (hc : c = true) (h : wpC M A a Q E s) : wpC M A (if c = true then a else b) Q E s := by
  subst hc
  exact h
section
variable {prog : Program} {w : World} {A : Around} {E : Value → Shared → Prop} {s : Shared} {S : Addr} {b : Array UInt8}
theorem ba_init_C {n : Nat} {t : Tok} {Q : Fin → Shared → Prop} (h : s.heap.get? S = some (baObj #[])) (hz : n ≤ sizeLine)
    (hq : ∀ h', Heap.SameBut S s.heap h' → h'.get? S = some (baObj (Array.replicate n 0)) → Q (.done (.ret .none)) { s with heap := h' }) :
    wpC (model prog w) A (Builtin.«bytearray.__init__» ⟨[.ref S, .int (n : Int) t], []⟩) Q E s := by
  unfold Builtin.«bytearray.__init__»
  refine wpC_bindA (ba_ownRelease h ?_)
  refine if_no rfl ?_
  refine wpC_bindA (wpAny_of_eq (ba_bind _) ?_)
  refine wpC_bindA (wpAny_of_eq (a := ()) rfl ?_)
  refine wpC_bindA (wpAny_of_eq (a := ()) rfl ?_)
  refine wpC_bind ?_
  refine wpC_bind (m := Builtin.Bytes.exported (.ref S)) (exported_clean ?_)
  show wpC _ A (Builtin.Bytes.exportsOf (.ref S) >>= fun k => pure (decide (k > 0))) _ _ _
  refine wpC_bindA ?_
  unfold Builtin.Bytes.exportsOf
  refine wpAny_bind (wpAny_load h (wpAny_pure (wpC_pure ?_)))
  refine if_no rfl ?_
  refine wpC_bindA (ba_write h (Nat.zero_le _) fun h₁ hs₁ hg₁ => ?_)
  dsimp only
  have e1 : asStr? (.int (n : Int) t) = pure none := rfl
  with_reducible refine wpC_eq e1 ?_
  with_reducible refine if_no rfl ?_
  with_reducible refine wpC_bind ?_
  with_reducible refine if_no rfl ?_
  with_reducible refine if_no rfl ?_
  with_reducible refine wpC_pure ?_
  with_reducible refine wpC_bindA ?_
  with_reducible refine wpAny_specialOf_val (T := "int") ?_ int_look_index ?_
  · rfl
  with_reducible refine if_yes rfl ?_
  with_reducible refine wpC_bindA ?_
  have e2 : asIndex (.int (n : Int) t) = pure (n : Int) := rfl
  with_reducible refine wpAny_attempt ?_
  rw [e2]
  with_reducible refine wpAny_pure ?_
  have hn : (n : Int) ≤ 16777216 := by have := PySem.sizeLine_eq; omega
  dsimp only
  with_reducible refine if_no ?_ ?_
  · simp only [Builtin.Bytes.fitsIndex, Bool.not_eq_false', Bool.and_eq_true, decide_eq_true_eq]; omega
  rw [if_neg (by omega)]
  with_reducible refine if_no ?_ ?_
  · simp only [beq_eq_false_iff_ne, ne_eq]; omega
  with_reducible refine if_no ?_ ?_
  · simp only [Builtin.Bytes.tooLong, Int.toNat_natCast, decide_eq_false_iff_not]; omega
  with_reducible refine wpC_bindA ?_
  with_reducible refine wpAny_rule ?_
  by_cases h0 : (n : Int) > 0
  · rw [if_pos h0]
    with_reducible refine wpC_bindA ?_
    refine ba_write hg₁ (by simpa using hz) fun h₂ hs₂ hg₂ => ?_
    exact wpC_pure (hq h₂ (hs₁.trans hs₂) (by simpa using hg₂))
  · rw [if_neg h0]
    have hn0 : n = 0 := by omega
    subst hn0
    exact wpC_pure (hq h₁ hs₁ (by simpa using hg₁))
end
end Mine

namespace Mine
open Sem (wp)
section
variable {prog : Program} {w : World} {A : Around} {E : Value → Shared → Prop} {s : Shared} {S : Addr} {b : Array UInt8}
theorem ba_new_code (a : Value) {Q₁ : Value → Shared → Prop}
    (h : Q₁ (.ref s.heap.objs.size) { s with heap := s.heap.push (baObj #[]) }) :
    codeAny (model prog w) A (.call (.builtin "bytearray.__new__") ⟨[.type "bytearray", a], []⟩) (wants Q₁ E) s := by
  refine codeAny_of_tree ?_
  show wpAny _ A.in1 (do checkBuiltinCall "bytearray.__new__" ⟨[.type "bytearray", a], []⟩; again (.builtin "bytearray.__new__" ⟨[.type "bytearray", a], []⟩)) _ _ s
  refine wpAny_bind (wpAny_of_eq (ba_newCall a) (wpAny_pure ⟨plainId_quiet ba_plain_new _, codeAny_builtin_stack ba_entry_new rfl fun p st => ?_⟩))
  rw [Around.under_plainId ba_plain_new _]
  have hsub := ba_sub
  have hown := ba_owner
  obtain ⟨hp, g, d, tk, os⟩ := s
  simp only [hown]
  wp_walk
  exact h
theorem codeC_builtin {id : String} {args : Args} {bt : Builtin} {R : Result → Shared → Prop} (hb : entryFor table id = some bt) (ok : okCode (.builtin id args) = true)
    (h : wpC (model prog w) (A.under (.builtin id args)) (bt args)
      (fun fin s' => match fin with | .done f => R (.ok f) s' | .again c' => c'.quiet = true ∧ codeC (model prog w) A c' R s') (fun e s' => R (.error e) s') s) :
    codeC (model prog w) A (.builtin id args) R s := by
  refine codeC_tree ok ?_
  show wpC _ _ (match entryFor table id with | some b => b args | none => unsupported ((withoutEnding? id "#data").getD id)) _ _ s
  rw [hb]; exact h

theorem ok_id {id : String} (h : (!(Builtin.Bytes.decodersThatHold.contains id || guardIds.contains id)) = true) (args : Args) : okCode (.builtin id args) = true := h

theorem call_bytearray_C {n : Nat} {t : Tok} {Q : Value → Shared → Prop} (hz : n ≤ sizeLine)
    (hq : ∀ h', Heap.SameBut s.heap.objs.size (s.heap.push (baObj #[])) h' → h'.get? s.heap.objs.size = some (baObj (Array.replicate n 0)) → Q (.ref s.heap.objs.size) { s with heap := h' }) :
    wpC (model prog w) A (call (.type "bytearray") [.int (n : Int) t]) Q E s := by
  refine wpC_call (codeC_tree rfl ?_)
  show wpC _ _ (callAny (.type "bytearray") _) _ _ _
  refine wpC_pure ⟨Code.quiet_builtin _ (by decide +kernel), codeC_builtin F.entry_type_call (ok_id (by decide +kernel) _) ?_⟩
  rw [Around.under_plain (weight_type_call_type "bytearray" [.int (n : Int) t] []) rfl]
  unfold Builtin.«type.__call__»
  dsimp only
  with_reducible refine if_no ba_called.notType ?_
  with_reducible refine if_no ba_called.canCreate ?_
  with_reducible refine wpC_eq (ba_typeCall _) ?_
  with_reducible refine wpC_eq ba_mro ?_
  with_reducible refine if_no rfl ?_
  with_reducible refine wpC_eq ba_called.made ?_
  dsimp only
  with_reducible refine wpC_eq (a := .builtin "bytearray.__new__") rfl ?_
  with_reducible refine wpC_bindA ?_
  with_reducible refine wpAny_holding ?_
  refine wpAny_call (codeAny_mono (ba_new_code (Q₁ := fun v s' => v = .ref s.heap.objs.size ∧ s' = { s with heap := s.heap.push (baObj #[]) }) (E := fun _ _ => False) _ ⟨rfl, rfl⟩) fun r s₁ hr => ?_)
  cases r with
  | error e => exact hr.elim
  | ok fl =>
    cases fl with
    | ret obj =>
      obtain ⟨rfl, rfl⟩ := hr
      have hS : (s.heap.push (baObj #[])).get? s.heap.objs.size = some (baObj #[]) := Heap.get?_push_size _ rfl
      have hT : Shared.TypeIs { s with heap := s.heap.push (baObj #[]) } (.ref s.heap.objs.size) "bytearray" := ⟨_, hS, rfl⟩
      dsimp only
      with_reducible refine wpC_bindA ?_
      with_reducible refine wpAny_isInstance hT ba_sub ?_
      with_reducible refine if_no rfl ?_
      with_reducible refine wpC_bind ?_
      with_reducible refine wpC_holding ?_
      unfold callSpecial?
      with_reducible refine wpC_bindA ?_
      with_reducible refine wpAny_specialOf hT ba_called.init.lookup ?_
      dsimp only
      with_reducible refine wpC_holding ?_
      with_reducible refine wpC_eq (ba_called.init.bind _) ?_
      dsimp only
      with_reducible refine wpC_bind ?_
      refine wpC_call (codeC_tree rfl ?_)
      show wpC _ _ (do checkBuiltinCall "bytearray.__init__" ⟨[.ref s.heap.objs.size, .int (n : Int) t], []⟩; again (.builtin "bytearray.__init__" ⟨[.ref s.heap.objs.size, .int (n : Int) t], []⟩)) _ _ _
      refine wpC_bindA (ba_called.init.check _ _ _ _ _ _ _ _ hT (ba_args_init _ _) ?_)
      refine wpC_pure ⟨plainId_quiet ba_plain_init _, codeC_builtin ba_entry_init (ok_id (by decide +kernel) _) ?_⟩
      refine ba_init_C hS hz fun h' hs' hg' => ?_
      refine wpC_pure ?_
      dsimp only
      with_reducible refine if_no rfl ?_
      exact wpC_pure (hq h' hs' hg')
    | _ => exact hr.elim
end
end Mine

namespace Mine
open Sem (wp)
section
variable {prog : Program} {w : World} {A : Around} {E : Value → Shared → Prop} {s : Shared} {S : Addr} {b : Array UInt8}

theorem ba_setItem {k x : Int} {t u : Tok} {Q : Unit → Shared → Prop} (h : s.heap.get? S = some (baObj b)) (hz : b.size ≤ sizeLine) (h0 : 0 ≤ k) (h1 : k < b.size) (hx0 : 0 ≤ x) (hx1 : x < 256)
    (hq : ∀ h', Heap.SameBut S s.heap h' → h'.get? S = some (baObj (b.setIfInBounds k.toNat x.toNat.toUInt8)) → Q () { s with heap := h' }) :
    wpAny (model prog w) A (setItem (.ref S) (.int k t) (.int x u)) Q E s := by
  have hT := ba_type h
  have hzz := PySem.sizeLine_eq
  unfold setItem
  with_reducible refine wpAny_holding ?_
  with_reducible refine wpAny_bind ?_
  refine wpAny_sequenceKey hT (by decide) ?_
  with_reducible refine wpAny_bind ?_
  refine wpAny_callSpecial?_slot (name := Str.ofString "__setitem__") hT ba_slot_setitem (wpAny_call_entry ba_slot_setitem hT ba_entry_setitem ?_ (ba_args_setitem _ _ _))
  unfold Builtin.«bytearray.__setitem__»
  dsimp only
  with_reducible refine bm_if_false rfl ?_
  unfold Builtin.Bytes.subscript?
  with_reducible refine wpAny_bind ?_
  with_reducible refine wpAny_bind ?_
  with_reducible refine wpAny_specialOf_val (T := "int") ?_ int_look_index ?_
  · rfl
  with_reducible refine bm_if_false rfl ?_
  with_reducible refine wpAny_bind ?_
  refine wpAny_of_eq (rfl : asIndex (.int k t) = pure k) ?_
  have hf : Builtin.Bytes.fitsIndex k = true := by simp only [Builtin.Bytes.fitsIndex, Bool.and_eq_true, decide_eq_true_eq]; omega
  with_reducible refine bm_if_false ?_ ?_
  · rw [hf]; decide
  with_reducible refine wpAny_pure ?_
  dsimp only
  unfold Builtin.Bytes.byteValue
  with_reducible refine wpAny_bind ?_
  with_reducible refine wpAny_bind ?_
  refine wpAny_of_eq (rfl : asIndex (.int x u) = pure x) ?_
  with_reducible refine bm_if_false ?_ ?_
  · simp only [Bool.or_eq_false_iff, decide_eq_false_iff_not]; omega
  with_reducible refine wpAny_pure ?_
  with_reducible refine wpAny_bind ?_
  refine ba_payload h ?_
  have hs : seqIndex? k b.size = some k.toNat := by
    have hj : ¬ k < 0 := by omega
    simp only [seqIndex?, if_neg hj, Bool.and_eq_true, decide_eq_true_eq]
    rw [if_pos ⟨h0, h1⟩]
  rw [hs]
  dsimp only
  with_reducible refine wpAny_bind ?_
  refine ba_write h (by simpa using hz) fun h' hs' hg' => ?_
  exact wpAny_pure ⟨_, rfl, wpAny_pure (hq h' hs' hg')⟩
end
end Mine

namespace Mine
open Sem (wp)
section
variable {prog : Program} {w : World} {A : Around} {E : Value → Shared → Prop} {s : Shared} {S : Addr} {b : Array UInt8}
theorem ba_buffer {M : Model} {Q : Option (Array UInt8) → Shared → Prop} {id : String} {full : Bool} (h : s.heap.get? S = some (baObj b)) (hq : Q (some b) s) : wpAny M A (Builtin.Bytes.buffer? id (.ref S) full) Q E s := by
  have hT := ba_type h
  unfold Builtin.Bytes.buffer?
  with_reducible refine wpAny_bind ?_
  with_reducible refine wpAny_specialOf hT ba_look_buffer ?_
  dsimp only
  unfold Builtin.Bytes.slotIsOwn
  with_reducible refine wpAny_bind ?_
  with_reducible refine wpAny_bind ?_
  refine wpAny_specialOf hT ba_look_buffer ?_
  show wpAny M A (if (!String.endsWith "bytearray.__buffer__" ("." ++ "__buffer__")) = true then _ else _) _ _ _
  rw [if_neg (by decide +kernel)]
  refine wpAny_isInstance hT (b := true) (by rw [show (("bytearray.__buffer__" : String).dropRight (("__buffer__" : String).length + 1)) = "bytearray" from by decide +kernel]; exact ba_sub) ?_
  with_reducible refine bm_if_false ?_ ?_
  · rfl
  with_reducible refine wpAny_bind ?_
  with_reducible refine wpAny_specialOf hT ba_look_buffer ?_
  show wpAny M A (Builtin.Bytes.ownRelease (.ref S) >>= _) Q E s
  with_reducible refine wpAny_bind ?_
  refine ba_ownRelease h ?_
  with_reducible refine bm_if_false ?_ ?_
  · rfl
  with_reducible refine wpAny_bind ?_
  refine ba_payload h ?_
  exact wpAny_pure hq

theorem ba_bytes_new {Q : Value → Shared → Prop} (h : s.heap.get? S = some (baObj b)) (hz : b.size ≤ sizeLine) (hq : Q (.bytes b s.toks) { s with toks := s.toks + 1 }) :
    codeAny (model prog w) A (.call (.builtin "bytes.__new__") ⟨[.type "bytes", .ref S], []⟩) (wants Q E) s := by
  have hT := ba_type h
  refine codeAny_of_tree ?_
  show wpAny _ A.in1 (do checkBuiltinCall "bytes.__new__" ⟨[.type "bytes", .ref S], []⟩; again (.builtin "bytes.__new__" ⟨[.type "bytes", .ref S], []⟩)) _ _ s
  refine wpAny_bind (wpAny_of_eq (F.bm_newCall _) (wpAny_pure ⟨plainId_quiet F.bm_plain _, codeAny_builtin F.bm_entry ?_⟩))
  rw [Around.under_plainId F.bm_plain _]
  unfold Builtin.«bytes.__new__»
  refine wpAny_bind (wpAny_of_eq (a := true) rfl ?_)
  refine bm_if_false rfl ?_
  refine wpAny_bind (wpAny_of_eq F.bm_sub ?_)
  refine bm_if_false rfl ?_
  refine wpAny_bind (wpAny_of_eq (F.bm_bind _) ?_)
  refine wpAny_bind (wpAny_of_eq (a := ()) rfl ?_)
  refine wpAny_bind (wpAny_of_eq (a := ()) rfl ?_)
  refine bm_if_false rfl ?_
  refine wpAny_bind (wpAny_specialOf hT ba_no_bytes ?_)
  dsimp only
  with_reducible refine wpAny_bind ?_
  with_reducible refine wpAny_bind ?_
  unfold asStr?
  dsimp only
  with_reducible refine wpAny_bind ?_
  with_reducible refine wpAny_load h ?_
  dsimp only
  with_reducible refine wpAny_pure ?_
  with_reducible refine wpAny_pure ?_
  with_reducible refine bm_if_false ?_ ?_
  · rfl
  with_reducible refine wpAny_bind ?_
  with_reducible refine wpAny_specialOf hT ba_no_index ?_
  with_reducible refine bm_if_true ?_ ?_
  · rfl
  first
    | show wpAny _ _ (Builtin.Bytes.buffer? "bytes.__new__" (.ref S) true >>= _) _ _ _
    | (refine wpAny_bind ?_; show wpAny _ _ (Builtin.Bytes.buffer? "bytes.__new__" (.ref S) true >>= _) _ _ _)
  with_reducible refine wpAny_bind ?_
  refine ba_buffer h ?_
  dsimp only
  refine wpAny_bind (wpAny_rule ?_)
  refine wpAny_bind (wpAny_mkBytes ?_ hz)
  show wpAny _ _ (if (Value.type "bytes" == Value.type "bytes") = true then _ else _) _ _ _
  refine bm_if_true (by decide) ?_
  first
    | exact wpAny_pure hq
    | exact wpAny_bind (wpAny_pure (wpAny_pure hq))

theorem call_bytes_ba {Q : Value → Shared → Prop} (h : s.heap.get? S = some (baObj b)) (hz : b.size ≤ sizeLine) (hq : ∀ t tk, Q (.bytes b t) { s with toks := tk }) :
    wpAny (model prog w) A (call (.type "bytes") [.ref S]) Q E s := by
  refine callType_codes (Q₁ := fun obj s₁ => s₁.TypeIs obj "bytes" ∧ Q obj s₁) F.bm_called (F.bm_typeCall _) F.entry_object_init
    (ba_bytes_new h hz ⟨PySem.W.typeIs_bytes _ _ _, hq _ _⟩) fun obj s₁ h₁ => ?_
  exact ⟨h₁.1, F.args_object_init_2 obj _, object_init_meets F.bm_called.init.lookup F.bm_called.made (by decide) prog w A.in1 _ s₁ ⟨h₁.1, rfl, h₁.2⟩⟩
end
end Mine

namespace Mine
open Sem (wp)
section
variable {prog : Program} {w : World} {A : Around} {E : Value → Shared → Prop} {s : Shared}

theorem codeC_func {R : Result → Shared → Prop} {body : List Stmt} {env : Env}
    (h : wpC (model prog w) (A.deeper env) (execs body env) (fun f s' => R (.ok (.ret (match f with | .ret v => v | _ => .none))) s') (fun _ _ => False) s) :
    codeC (model prog w) A (.func body env) R s := by
  refine codeC_tree rfl ?_
  show wpC _ (A.deeper env) (do point; match ← (execs body env).onRaise (leaving env) with | .ret v => ret v | _ => ret .none) _ _ s
  refine wpC_bindA (wpAny_point (wpC_bind (wpC_onRaise (wpC_mono h (fun f s' h' => ?_) fun _ _ h' => h'.elim))))
  cases f <;> exact wpC_pure h'

theorem codeC_call_def {R : Result → Shared → Prop} {a : Addr} {o : Obj} {fd : FuncData} {body : List Stmt} {args : Args} {binds : List (Str × Value)}
    (hroom : A.depth < recursionLimit) (ho : s.heap.get? a = some o) (hdata : o.data = .func fd) (hlim : s.heap.NoLimit) (hcd : s.heap.CodeRec fd.code fd.qualname)
    (hbody : fd.body = .stmts body) (hbind : BindsTo s fd args binds)
    (hcell : ∀ x ∈ fd.scope.names, x.2 ≠ .cell) (hloc : ∀ x ∈ binds, fd.scope.names.lookup x.1 = some .local)
    (h : ∀ h₀, h₀.Ns s.heap.objs.size (fun x => binds.reverse.lookup x) → (∀ b o, s.heap.get? b = some o → h₀.get? b = some o) →
      wpC (model prog w) (A.deeper (callEnv fd s.heap.objs.size a)) (execs body (callEnv fd s.heap.objs.size a)) (fun f s' => R (.ok (.ret (match f with | .ret v => v | _ => .none))) s')
        (fun _ _ => False) { s with heap := h₀, toks := s.toks + binds.length })
    (hco : fd.scope.isCoroutine = false) (hgen : fd.scope.isGenerator = false) (hk : fd.scope.kind = .function) :
    codeC (model prog w) A (.call (.ref a) args) R s := by
  refine codeC_tree rfl ?_
  show wpC _ A.in1 (callAny (.ref a) args) _ _ s
  simp only [callAny]
  refine wpC_bindA (wpAny_load ho ?_)
  obtain ⟨c, oc, vs, tq, hc, hoc, hdc, hq⟩ := hcd
  simp only [hdata, callFunction, hco, hgen, hbody, hc]
  refine wpC_bindA (m := field (.ref c) 1) (wpAny_field hoc hdc hq (wpC_bindA (wpAny_pure ?_)))
  refine wpC_bindA (hbind _ _ _ _ ?_)
  refine wpC_bindA (wpAny_newFunctionEnv hcell hloc (fun h₀ hns₀ hsb₀ => ?_) hk)
  refine wpC_bindA (wpAny_enterFrame (hlim.fresh _ hsb₀) hroom ?_)
  refine wpC_pure (And.intro rfl (codeC_func ?_))
  have e := h h₀ hns₀ fun b o e => hsb₀.extBut b o (Nat.ne_of_lt (Heap.lt_size e)) (Heap.get?_push_of_some _ e)
  unfold callEnv at e
  rw [hc] at e
  exact e
end

def flowVal : Flow → Value
  | .ret v => v
  | _ => .none
/-- the end of a pure call: what the caller had stands, and Q -/
def PureEnd (g : Heap) (L : Addr) (hid : List (Addr × Obj)) (s : Shared) (Q : Value → Shared → Prop) (fl : Flow) (s' : Shared) : Prop :=
  ∃ m' news', Fr g L s'.heap m' ∧ News g L s'.heap news' ∧ (∀ p ∈ hid, p ∈ news') ∧
    ((∀ b o, s.heap.get? b = some o → s'.heap.get? b = some o) → Q (flowVal fl) s')
theorem PureEnd.out {hid : List (Addr × Obj)} {L : Addr} {s s' : Shared} {Q : Value → Shared → Prop} {fl : Flow} (hh : ∀ p ∈ hid, s.heap.get? p.1 = some p.2)
    (h : PureEnd (hideAll s.heap (hid.map (·.1))) L hid s Q fl s') : Q (flowVal fl) s' := by
  obtain ⟨m', news', F, N, hs, k⟩ := h
  refine k fun b o e => ?_
  by_cases hb : b ∈ hid.map (·.1)
  · obtain ⟨p, hp, rfl⟩ := List.mem_map.mp hb
    have := hh p hp
    rw [this] at e
    obtain rfl := Option.some.inj e
    exact (N p (hs p hp)).1
  · exact F.keep b o (hideAll_get _ e hb)

section
variable {prog : Program} {w : World} {A : Around} {E : Value → Shared → Prop} {s : Shared} {K : Frag} {h₀ : Heap} {L : Addr} {m mg mb : Str → Option Value} {news hid : List (Addr × Obj)} {p : Program} {loose : List Str} {mean : ExcName → Option Value}
  {name qual : Str} {params : Arguments} {body : List Stmt} {scope : Scope} {dV kV doc pm cdv ct oc : Value} {an od : Option Addr} {osl : Array (Option Value)} {f : Addr} {args : List Value} {binds : List (Str × Value)} {Q : Value → Shared → Prop}

theorem hid_stays (F : Fr h₀ L s.heap m) (N : News h₀ L s.heap news) (hh : ∀ p ∈ hid, p ∈ news) : ∀ b o, h₀.get? b = some o → (hideAll s.heap (hid.map (·.1))).get? b = some o := fun b o e => by
  refine hideAll_get _ (F.keep b o e) fun hb => ?_
  obtain ⟨p, hp, rfl⟩ := List.mem_map.mp hb
  rw [(N p (hh p hp)).2.2] at e
  cases e

theorem enter_pure (F : Fr h₀ L s.heap m) (X : K.In h₀) (N : News h₀ L s.heap news) (T : Top p loose mean mg mb h₀) (hh : ∀ q ∈ hid, q ∈ news)
    (ho : K.lookup f = some ⟨oc, od, .func (fnOf name qual params body scope dV kV doc pm an cdv ct), osl⟩) (hcd : codeIn K cdv qual = true) (hroom : A.depth < recursionLimit)
    (hbind : BindsTo s (fnOf name qual params body scope dV kV doc pm an cdv ct) ⟨args, []⟩ binds) (hloc : ∀ y ∈ binds, scope.names.lookup y.1 = some .local)
    (hcell : ∀ x ∈ scope.names, x.2 ≠ .cell) (hco : scope.isCoroutine = false) (hgen : scope.isGenerator = false) (hk : scope.kind = .function)
    (h : ∀ g L' h₁, g = hideAll s.heap (hid.map (·.1)) → L' = s.heap.objs.size → Fr g L' h₁ (fun y => binds.reverse.lookup y) → News g L' h₁ hid → K.In g → Top p loose mean mg mb g →
      wpAny (model prog w) (A.deeper (envOf qual scope L' f cdv)) (execs body (envOf qual scope L' f cdv)) (PureEnd g L' hid s Q) (fun _ _ => False) { s with heap := h₁, toks := s.toks + binds.length }) :
    wpAny (model prog w) A (call (.ref f) args) Q E s := by
  have st := hid_stays F N hh
  have hg : ∀ q ∈ hid, s.heap.get? q.1 = some q.2 := fun q hq => (N q (hh q hq)).1
  refine wpAny_call (codeAny_call_def (fd := fnOf name qual params body scope dV kV doc pm an cdv ct) (body := body) (binds := binds) hroom ((X.keeps F.keep) _ _ ho) rfl (T.nolimit.keeps F.keep) (codeRec_of (X.keeps F.keep) hcd) rfl hbind hcell hloc (fun h₁ hns hk₁ => ?_) hco hgen hk)
  refine wpAny_mono (h _ s.heap.objs.size h₁ rfl rfl ⟨hns, fun b o e => hk₁ b o (of_hideAll _ e), Nat.le_of_eq (hideAll_size _ _)⟩
    (fun q hq => ⟨hk₁ _ _ (hg q hq), Nat.ne_of_lt (Heap.lt_size (hg q hq)), hideAll_none _ (List.mem_map_of_mem hq)⟩) (X.keeps st) (T.keeps st)) (fun fl s' hl => by cases fl <;> exact hl.out hg) fun _ _ x => x.elim

theorem enter_pureC (F : Fr h₀ L s.heap m) (X : K.In h₀) (N : News h₀ L s.heap news) (T : Top p loose mean mg mb h₀) (hh : ∀ q ∈ hid, q ∈ news)
    (ho : K.lookup f = some ⟨oc, od, .func (fnOf name qual params body scope dV kV doc pm an cdv ct), osl⟩) (hcd : codeIn K cdv qual = true) (hroom : A.depth < recursionLimit)
    (hbind : BindsTo s (fnOf name qual params body scope dV kV doc pm an cdv ct) ⟨args, []⟩ binds) (hloc : ∀ y ∈ binds, scope.names.lookup y.1 = some .local)
    (hcell : ∀ x ∈ scope.names, x.2 ≠ .cell) (hco : scope.isCoroutine = false) (hgen : scope.isGenerator = false) (hk : scope.kind = .function)
    (h : ∀ g L' h₁, g = hideAll s.heap (hid.map (·.1)) → L' = s.heap.objs.size → Fr g L' h₁ (fun y => binds.reverse.lookup y) → News g L' h₁ hid → K.In g → Top p loose mean mg mb g →
      wpC (model prog w) (A.deeper (envOf qual scope L' f cdv)) (execs body (envOf qual scope L' f cdv)) (PureEnd g L' hid s Q) (fun _ _ => False) { s with heap := h₁, toks := s.toks + binds.length }) :
    wpC (model prog w) A (call (.ref f) args) Q E s := by
  have st := hid_stays F N hh
  have hg : ∀ q ∈ hid, s.heap.get? q.1 = some q.2 := fun q hq => (N q (hh q hq)).1
  refine wpC_call (codeC_call_def (fd := fnOf name qual params body scope dV kV doc pm an cdv ct) (body := body) (binds := binds) hroom ((X.keeps F.keep) _ _ ho) rfl (T.nolimit.keeps F.keep) (codeRec_of (X.keeps F.keep) hcd) rfl hbind hcell hloc (fun h₁ hns hk₁ => ?_) hco hgen hk)
  exact wpC_mono (h _ s.heap.objs.size h₁ rfl rfl ⟨hns, fun b o e => hk₁ b o (of_hideAll _ e), Nat.le_of_eq (hideAll_size _ _)⟩
    (fun q hq => ⟨hk₁ _ _ (hg q hq), Nat.ne_of_lt (Heap.lt_size (hg q hq)), hideAll_none _ (List.mem_map_of_mem hq)⟩) (X.keeps st) (T.keeps st)) (fun fl s' hl => by cases fl <;> exact hl.out hg) fun _ _ x => x.elim

/-- a def with cells -/
theorem enter_cells (F : Fr h₀ L s.heap m) (X : K.In h₀) (T : Top p loose mean mg mb h₀)
    (ho : K.lookup f = some ⟨oc, od, .func (fnOf name qual params body scope dV kV doc pm an cdv ct), osl⟩) (hcd : codeIn K cdv qual = true) (hroom : A.depth < recursionLimit)
    (hbind : BindsTo s (fnOf name qual params body scope dV kV doc pm an cdv ct) ⟨args, []⟩ binds) (hkind : (binds.all fun y => scope.names.lookup y.1 == some .local || scope.names.lookup y.1 == some .cell) = true)
    (hnd : ((cellsFrom 0 scope.names []).map (·.1)).Nodup)
    (hco : scope.isCoroutine = false) (hgen : scope.isGenerator = false) (hk : scope.kind = .function)
    (h : ∀ g L' h₁ tk cells, g = s.heap → Fr g L' h₁ (bindL (envOfC qual scope L' f cdv).kindOf binds fun _ => none) → News g L' h₁ cells →
      CellsAre (bindC (envOfC qual scope L' f cdv).kindOf binds fun _ => none) (cellsFrom (L' + 1) scope.names []) cells → K.In g → Top p loose mean mg mb g →
      wpAny (model prog w) (A.deeper (envOfC qual scope L' f cdv)) (execs body (envOfC qual scope L' f cdv)) (PureEnd g L' [] s Q) (fun _ _ => False) { s with heap := h₁, toks := tk }) :
    wpAny (model prog w) A (call (.ref f) args) Q E s := by
  refine wpAny_call (codeAny_call_function (fd := fnOf name qual params body scope dV kV doc pm an cdv ct) (body := body) hroom ((X.keeps F.keep) _ _ ho) rfl hco hgen rfl (codeRec_of (X.keeps F.keep) hcd) (hbind _ _ _ _ ?_))
  refine wpAny_newFunctionEnv_cells hk (kindsX hkind _) fun env' he s' x => ?_
  subst he
  refine ⟨(T.nolimit.keeps F.keep).keeps x.toInCall.keep, codeAny_func ?_⟩
  obtain ⟨h₁, tk, rfl, _⟩ := x.done
  obtain ⟨cells, NC, Y⟩ := Cl.news (h₀ := s.heap) (Nat.le_refl _) fun n c hm => ⟨x.cell n c (lookup_of_mem_nodup (cellsFrom_names scope.names 0 (s.heap.objs.size + 1) [] [] rfl ▸ hnd) hm), x.above n c hm⟩
  refine wpAny_mono (h s.heap s.heap.objs.size h₁ tk cells rfl ⟨x.toInCall.ns, x.toInCall.keep, Nat.le_refl _⟩ NC Y (X.keeps F.keep) (T.keeps F.keep)) (fun fl s' hl => ?_) fun _ _ x => x.elim
  have := PureEnd.out (hid := []) (s := s) (Q := Q) (fl := fl) (s' := s') (fun _ hq => nomatch hq) hl
  cases fl <;> exact this
end
end Mine

namespace Mine
open Sem (wp)

/-! statements at clean contexts -/
section
variable {M : Model} {A : Around} {E : Value → Shared → Prop} {s : Shared} {env : Env}
theorem execs_nilC {Q : Flow → Shared → Prop} (h : Q .next s) : wpC M A (execs [] env) Q E s := wpC_pure h
theorem execs_consC {st : Stmt} {rest : List Stmt} {Q : Flow → Shared → Prop}
    (h : wpC M A (exec st env) (fun f s' => match f with | .next => wpC M A (execs rest env) Q E s' | f => Q f s') E s) : wpC M A (execs (st :: rest) env) Q E s := by
  rw [execs_cons]
  refine wpC_bind (wpC_mono h (fun f s' h' => ?_) fun _ _ x => x)
  cases f <;> first | exact h' | exact wpC_pure h'
theorem execs_consA {st : Stmt} {rest : List Stmt} {Q : Flow → Shared → Prop}
    (h : wpAny M A (exec st env) (fun f s' => match f with | .next => wpC M A (execs rest env) Q E s' | f => Q f s') E s) : wpC M A (execs (st :: rest) env) Q E s := execs_consC (wpC_of h)
theorem IfC {test : Expr} {body orelse : List Stmt} {pos : Pos} {Q : Flow → Shared → Prop}
    (h : wpAny M A (isTrue test env (eval test env)) (fun b s₂ => if b then wpC M A (execs body env) Q E s₂ else wpC M A (execs orelse env) Q E s₂) E s) :
    wpC M A (exec (.If test body orelse pos) env) Q E s := by
  rw [exec_If]
  refine wpC_bindA (wpAny_standAt (wpC_bindA (wpAny_mono h (fun b s₂ h₂ => ?_) fun _ _ x => x)))
  cases b <;> exact h₂
theorem ReturnC {e : Expr} {pos : Pos} {Q : Flow → Shared → Prop} (h : wpC M A (eval e env) (fun v => Q (.ret v)) E s) : wpC M A (exec (.Return (some e) pos) env) Q E s := by
  rw [exec_Return_some]
  exact wpC_bindA (wpAny_standAt (wpC_bind (wpC_mono h (fun v s' h' => wpC_pure h') fun _ _ x => x)))
theorem AssignC {x : Str} {pos' pos : Pos} {value : Expr} {Q : Flow → Shared → Prop}
    (h : wpC M A (eval value env) (fun v s₁ => wpAny M A (storeName env x v) (fun _ => Q .next) E s₁) E s)
    (hs : swapsWith value (some (.Name x pos')) pos.line env = pure false := by rfl) : wpC M A (exec (.Assign [.Name x pos'] value pos) env) Q E s := by
  rw [exec_Assign_Name env x pos' value pos hs]
  refine wpC_bindA (wpAny_standAt (wpC_bind (wpC_mono h (fun v s' h' => ?_) fun _ _ x => x)))
  exact wpC_bindA (wpAny_standAt (wpC_bindA (wpAny_bindName (wpAny_mono h' (fun _ _ z => wpC_pure z) fun _ _ x => x))))
theorem IfExpC {test body orelse : Expr} {pos : Pos} {Q : Value → Shared → Prop}
    (h : wpAny M A (isTrue test env (eval test env)) (fun b s₁ => if b then wpC M A (eval body env) Q E s₁ else wpC M A (eval orelse env) Q E s₁) E s) :
    wpC M A (eval (.IfExp test body orelse pos) env) Q E s := by
  rw [eval_IfExp]
  refine wpC_bindA (wpAny_mono h (fun b s₁ h₁ => ?_) fun _ _ x => x)
  cases b <;> exact h₁
theorem BinOpC {l r : Expr} {op : Operator} {pos : Pos} {Q : Value → Shared → Prop}
    (h : wpC M A (eval l env) (fun a s₁ => wpAny M A (eval r env) (fun b s₂ => wpAny M A (binaryOp op a b) Q E s₂) E s₁) E s) : wpC M A (eval (.BinOp l op r pos) env) Q E s := fun Γ p hΓ hc => by
  simp only [eval_BinOp, Sem.wp_bind', Sem.wp_holding, Sem.wp_cmd_standAt, Sem.wp_operate]
  exact Sem.wp_mono M Γ _ (fun a p₁ s₁ h₁ => Sem.wp_mono M Γ _ (fun b _ s₂ h₂ => h₂ Γ _ hΓ) (fun _ _ _ h' => h') _ _ (h₁ Γ p₁ hΓ)) (fun _ _ _ h' => h') _ _ (h Γ p hΓ hc)
theorem ForC {target : Expr} {iter : Expr} {body orelse : List Stmt} {pos : Pos} {Q : Flow → Shared → Prop}
    (h : wpAny M A (eval iter env) (fun x s₁ => wpAny M A (pyIter x) (fun it s₂ => codeC M A (.forLoop target it body orelse env) (fun r s' => match r with | .ok f => Q f s' | .error _ => False) s₂) E s₁) E s)
    (hs : ∀ x, foldedSetIterable iter env x = pure x := by intro _; rfl) : wpC M A (exec (.For target iter body orelse pos) env) Q E s := by
  rw [exec_For]
  refine wpC_bindA (wpAny_standAt (wpC_bindA (wpAny_mono h (fun x s₁ h₁ => ?_) fun _ _ x => x)))
  refine wpC_eq (hs x) (wpC_bindA (wpAny_standAt (wpC_bindA (wpAny_holding (wpAny_mono h₁ (fun it s₂ h₂ => ?_) fun _ _ x => x)))))
  unfold runOwn
  exact wpC_onRaise (wpC_run (codeC_mono h₂ fun r s' hr => by cases r with | ok f => exact hr | error e => exact hr.elim))
end

/-! calls at clean contexts -/
section
variable {M : Model} {A : Around} {E : Value → Shared → Prop} {s : Shared} {env : Env} {K : Frag}
theorem CallC_core {P : Value → List Value → Shared → Prop} {func e : Expr} {rest : List Expr} {pos : Pos} {Q : Value → Shared → Prop}
    (hP : ∀ fv vs s₂, P fv vs s₂ → ∃ k, (k = Keeper.frame ∨ k = Keeper.machine) ∧ ∀ {R : Keeper → Shared → Prop} {E' : Value → Shared → Prop}, R k s₂ → wpAny M A (keeperOf fv) R E' s₂)
    (h : wpAny M A (eval func env) (fun fv s₁ => wpAny M A (spliced (backTo pos (starEach (e :: rest) env))) (fun vs s₂ => P fv vs s₂ ∧ wpC M A (call fv vs) Q E s₂) E s₁) E s)
    (he : eval (.Call func (e :: rest) [] pos) env = (do callWith pos (← eval func env) [] (backTo pos (starEach (e :: rest) env)) []) := by rfl)
    (hs : starEach (e :: rest) env = (false, eval e env) :: starEach rest env := by rfl) (hplain : (backTo pos (starEach rest env)).any (·.1) = false := by rfl) :
    wpC M A (eval (.Call func (e :: rest) [] pos) env) Q E s := by
  rw [he]
  refine wpC_bindA (wpAny_mono h (fun fv s₁ h₁ => ?_) fun _ _ x => x)
  unfold callWith
  have hp : (backTo pos (starEach (e :: rest) env)).any (·.1) = false := by
    rw [hs]; show (false || (backTo pos (starEach rest env)).any (·.1)) = false; rw [hplain]; rfl
  have h₁' : wpAny M A (evalArgs fv true (backTo pos (starEach (e :: rest) env)) []) (fun a s₂ => a.kw = [] ∧ P fv a.pos s₂ ∧ wpC M A (call fv a.pos) Q E s₂) E s₁ := by
    rw [hs] at h₁ ⊢
    exact evalArgs_plain (wpAny_mono h₁ (fun vs s₂ h₂ => ⟨rfl, h₂⟩) fun _ _ x => x)
  refine wpC_bindA (wpAny_holding (wpAny_mono h₁' (fun a s₂ h₂ => ?_) fun _ _ x => x))
  obtain ⟨hkw, hp2, h₂⟩ := h₂
  obtain ⟨apos, akw⟩ := a
  dsimp only at hkw hp2 h₂
  subst hkw
  refine wpC_bindA (wpAny_standAt ?_)
  obtain ⟨k, hk, hL⟩ := hP _ _ _ hp2
  simp only [hp, List.any_nil, Bool.or_false, List.nil_append]
  refine wpC_bindA (hL ?_)
  have tail : ∀ {t : Sem Value}, wpC M A t Q E s₂ → wpC M A (t >>= fun r => holding [r] point >>= fun _ => pure r) Q E s₂ :=
    fun ht => wpC_bind (wpC_mono ht (fun r s₂ hr => wpC_bindA (wpAny_holding (wpAny_point (wpC_pure hr)))) fun _ _ x => x)
  rcases hk with rfl | rfl
  · dsimp only
    split
    all_goals first
      | exact tail h₂
      | exact tail (by unfold callMarked; exact wpC_keep h₂)
  · dsimp only
    exact tail h₂
/-- a def of the text's -/
theorem CallC_K {func e : Expr} {rest : List Expr} {pos : Pos} {Q : Value → Shared → Prop}
    (h : wpAny M A (eval func env) (fun fv s₁ => wpAny M A (spliced (backTo pos (starEach (e :: rest) env))) (fun vs s₂ => K.In s₂.heap ∧ keepIn K fv = true ∧ wpC M A (call fv vs) Q E s₂) E s₁) E s)
    (he : eval (.Call func (e :: rest) [] pos) env = (do callWith pos (← eval func env) [] (backTo pos (starEach (e :: rest) env)) []) := by rfl)
    (hs : starEach (e :: rest) env = (false, eval e env) :: starEach rest env := by rfl) (hplain : (backTo pos (starEach rest env)).any (·.1) = false := by rfl) :
    wpC M A (eval (.Call func (e :: rest) [] pos) env) Q E s :=
  CallC_core (P := fun fv _ s₂ => K.In s₂.heap ∧ keepIn K fv = true) (fun fv vs s₂ hp => by
    obtain ⟨k, a, b⟩ := looks_keep (M := M) hp.2 hp.1
    exact ⟨k, a, fun hr => b.here hr⟩) (wpAny_mono h (fun fv s₁ h₁ => wpAny_mono h₁ (fun vs s₂ h₂ => ⟨⟨h₂.1, h₂.2.1⟩, h₂.2.2⟩) fun _ _ x => x) fun _ _ x => x) he hs hplain
/-- a type of the builtins' -/
theorem CallC_T {func e : Expr} {rest : List Expr} {pos : Pos} {Q : Value → Shared → Prop}
    (h : wpAny M A (eval func env) (fun fv s₁ => wpAny M A (spliced (backTo pos (starEach (e :: rest) env))) (fun vs s₂ => (∃ T, fv = .type T) ∧ wpC M A (call fv vs) Q E s₂) E s₁) E s)
    (he : eval (.Call func (e :: rest) [] pos) env = (do callWith pos (← eval func env) [] (backTo pos (starEach (e :: rest) env)) []) := by rfl)
    (hs : starEach (e :: rest) env = (false, eval e env) :: starEach rest env := by rfl) (hplain : (backTo pos (starEach rest env)).any (·.1) = false := by rfl) :
    wpC M A (eval (.Call func (e :: rest) [] pos) env) Q E s :=
  CallC_core (P := fun fv _ s₂ => ∃ T, fv = .type T) (fun fv vs s₂ ⟨T, e⟩ => ⟨.machine, .inr rfl, fun hr => by subst e; exact wpAny_pure hr⟩) h he hs hplain
end
end Mine

namespace Mine
open Sem (wp)
section
variable {M : Model} {A : Around} {E : Value → Shared → Prop} {s : Shared}
theorem codeC_loop {c : Code} {R : Result → Shared → Prop} (ok : okCode c = true) (hq : c.quiet = true) (I : Nat → Shared → Prop)
    (turn : ∀ n s, I n s → wpC M (A.under c) (M.den c)
      (fun fin s' => match fin with
        | .done f => R (.ok f) s'
        | .again c' => (c' = c ∧ ∃ m, m < n ∧ I m s') ∨ (c'.quiet = true ∧ codeC M A c' R s')) (fun e s' => R (.error e) s') s)
    (n : Nat) (h : I n s) : codeC M A c R s := by
  induction n using Nat.strongRecOn generalizing s with
  | ind n ih =>
    refine codeC_tree ok (wpC_mono (turn n s h) (fun fin s' hf => ?_) fun _ _ h' => h')
    cases fin with
    | done f => exact hf
    | again c' =>
      rcases hf with ⟨rfl, m, hm, hI⟩ | hf
      · exact ⟨hq, ih m hm hI⟩
      · exact hf
end
section
variable {prog : Program} {w : World} {A : Around} {s : Shared} {env : Env}
/-- where a turn ends -/
def TurnC (h₀ : Heap) (L : Addr) (I : Addr) (oI : Obj) (Jn : (Str → Option Value) → List (Addr × Obj) → Prop) (s : Shared) (Qr : Value → Shared → Prop) (f : Flow) (s₂ : Shared) : Prop :=
  match f with
  | .ret v => Qr v s₂
  | .brk => False
  | _ => ∃ h' tk m' nx, s₂ = { s with heap := h', toks := tk } ∧ Fr h₀ L h' m' ∧ News h₀ L h' ((I, oI) :: nx) ∧ (∀ p ∈ nx, p.1 ≠ I) ∧ Jn m' nx

theorem turn_next {h₀ h' : Heap} {L I : Addr} {oI : Obj} {Jn : (Str → Option Value) → List (Addr × Obj) → Prop} {s : Shared} {Qr : Value → Shared → Prop} {tk : Nat} {m' : Str → Option Value} {nx : List (Addr × Obj)}
    (F : Fr h₀ L h' m') (N : News h₀ L h' ((I, oI) :: nx)) (hn : ∀ p ∈ nx, p.1 ≠ I) (hJ : Jn m' nx) : TurnC h₀ L I oI Jn s Qr .next { s with heap := h', toks := tk } := ⟨_, _, _, _, rfl, F, N, hn, hJ⟩

theorem codeC_forLoop_nil {R : Result → Shared → Prop} {x : Str} {px : Pos} {body : List Stmt} {it : Value} (I : Nat → Shared → Prop)
    (turn : ∀ n s, I n s → wpAny (model prog w) A (pyNext it) (fun r s₁ => match r with
      | none => R (.ok .next) s₁
      | some v => wpAny (model prog w) A (storeName env x v) (fun _ s₂ => wpC (model prog w) A (execs body env) (fun f s₃ => match f with
          | .next | .cont => ∃ m, m < n ∧ I m s₃
          | .brk => R (.ok .next) s₃
          | .ret v => R (.ok (.ret v)) s₃) (fun _ _ => False) s₂) (fun _ _ => False) s₁) (fun _ _ => False) s)
    (n : Nat) (h : I n s) : codeC (model prog w) A (.forLoop (.Name x px) it body [] env) R s := by
  refine codeC_loop rfl rfl I (fun n s hI => ?_) n h
  rw [Around.under_of_weight rfl rfl]
  show wpC _ _ ((forTurn (.Name x px) it body [] env).onRaise (fun x => do noteFrame x env; theTreesLotGoes x)) _ _ s
  refine wpC_onRaise (wpC_mono (E := fun _ _ => False) ?_ (fun _ _ h => h) fun _ _ h => h.elim)
  simp only [forTurn]
  refine wpC_bindA (wpAny_standAt (wpC_bindA (wpAny_onRaise (wpAny_mono (turn n s hI) (fun r s₁ h₁ => ?_) fun _ _ h' => h'.elim))))
  cases r with
  | none =>
    refine wpC_pure (.inr ⟨rfl, codeC_tree rfl ?_⟩)
    rw [Around.under_of_weight rfl rfl]
    show wpC _ _ (do return Fin.done (← (execs [] env).onRaise (fun x => do noteFrame x env; theTreesLotGoes x))) _ _ s₁
    exact wpC_bind (wpC_onRaise (execs_nilC (wpC_pure h₁)))
  | some v =>
    refine wpC_eq (a := ()) rfl ?_
    refine wpC_bindA (wpAny_assign_Name (wpAny_mono h₁ (fun _ s₂ h₂ => ?_) fun _ _ h' => h'))
    refine wpC_bind (wpC_mono h₂ (fun f s₃ h₃ => ?_) fun _ _ h' => h')
    cases f with
    | next => exact wpC_pure (.inl ⟨rfl, h₃⟩)
    | cont => exact wpC_pure (.inl ⟨rfl, h₃⟩)
    | brk => exact wpC_pure h₃
    | ret v => exact wpC_pure h₃

theorem forC_core {h₀ : Heap} {R : Result → Shared → Prop} {x : Str} {px : Pos} {body : List Stmt} {I : Addr} {fp : List Addr} {n : Nat} {P : Nat → Value → Prop} {St : Nat → Heap → Prop} {m : Str → Option Value} {news : List (Addr × Obj)}
    (W : Walks prog w A I fp [I] n P St) (hx : env.kindOf x = some .local)
    (hp : (env.scope.kind == .class || (env.scope.kind == .module && env.locals != env.globals)) = false)
    (hLf : env.locals ∉ fp) (hI0 : h₀.get? I = none) (hob : ∀ i h, St i h → ∃ o, h.get? I = some o) (hst : St 0 s.heap)
    (J : Nat → (Str → Option Value) → List (Addr × Obj) → Prop)
    (kept : ∀ i j m m' nx nx' (h h' : Heap), J i m nx → News h₀ env.locals h nx → J j m' nx' → News h₀ env.locals h' nx' → ∀ b ∈ fp, b ≠ I → ∀ o, h.get? b = some o → h'.get? b = some o)
    (F : Fr h₀ env.locals s.heap m) (N : News h₀ env.locals s.heap news) (hn : ∀ p ∈ news, p.1 ≠ I) (h0 : J 0 m news)
    (turn : ∀ i v m₁ nx h tk oI, i < n → P i v → J i m₁ nx → (∀ p ∈ nx, p.1 ≠ I) → Fr h₀ env.locals h (fun y => if y = x then some v else m₁ y) → News h₀ env.locals h ((I, oI) :: nx) →
      wpC (model prog w) A (execs body env) (TurnC h₀ env.locals I oI (J (i + 1)) { s with heap := h, toks := tk } (fun v s' => R (.ok (.ret v)) s')) (fun _ _ => False) { s with heap := h, toks := tk })
    (done : ∀ h tk m' nx, Fr h₀ env.locals h m' → News h₀ env.locals h nx → J n m' nx → R (.ok .next) { s with heap := h, toks := tk }) :
    codeC (model prog w) A (.forLoop (.Name x px) (.ref I) body [] env) R s := by
  have hIf : I ∈ fp := W.sub I (by simp)
  have hLI : env.locals ≠ I := fun e => hLf (e ▸ hIf)
  refine codeC_forLoop_nil (fun k s' => ∃ h' tk m' nx i, s' = { s with heap := h', toks := tk } ∧ St i h' ∧ Fr h₀ env.locals h' m' ∧ News h₀ env.locals h' nx ∧ (∀ p ∈ nx, p.1 ≠ I) ∧ J i m' nx ∧ i ≤ n ∧ k = n + 1 - i) ?_ (n + 1)
    ⟨s.heap, s.toks, m, news, 0, rfl, hst, F, N, hn, h0, Nat.zero_le _, rfl⟩
  rintro k s' ⟨h', tk, m', nx, i, rfl, hst', F', N', hn', hJ, hi, rfl⟩
  have next : ∀ h₁ : Heap, (∀ b o, b ∉ [I] → h'.get? b = some o → h₁.get? b = some o) → Fr h₀ env.locals h₁ m' ∧ News h₀ env.locals h₁ nx := fun h₁ hk₁ =>
    ⟨⟨F'.ns.at' fun o e => hk₁ _ o (by simpa using hLI) e, fun b o e => hk₁ b o (by simp only [List.mem_singleton]; rintro rfl; rw [hI0] at e; cases e) (F'.keep b o e), F'.above⟩,
     fun p hp => ⟨hk₁ _ _ (by simpa using hn' p hp) (N' p hp).1, (N' p hp).2⟩⟩
  by_cases hlt : i < n
  · refine W.item i _ _ _ hlt hst' fun v h₁ tk₁ hP hst₁ hk₁ => ?_
    obtain ⟨F₁, N₁⟩ := next h₁ hk₁
    refine wpAny_storeName_local hx F₁.ns (fun h₂ hn₂ hs₂ => ?_) hp
    have F₂ := F₁.set hn₂ hs₂
    have N₂ := N₁.set hs₂
    have hst₂ : St (i + 1) h₂ := W.frame _ _ _ hst₁ fun b hb o e => (hs₂.2 b fun q => hLf (q ▸ hb)).trans e
    obtain ⟨oI, hoI⟩ := hob _ _ hst₂
    have NI : News h₀ env.locals h₂ ((I, oI) :: nx) := fun p hp => by
      rcases List.mem_cons.mp hp with rfl | hp
      · exact ⟨hoI, fun e => hLI e.symm, hI0⟩
      · exact N₂ p hp
    refine wpC_mono (turn i v m' nx h₂ _ oI hlt hP hJ hn' F₂ NI) (fun f s₃ h₃ => ?_) fun _ _ e => e
    have go : (∃ h' tk' m'' nx', s₃ = { s with heap := h', toks := tk' } ∧ Fr h₀ env.locals h' m'' ∧ News h₀ env.locals h' ((I, oI) :: nx') ∧ (∀ p ∈ nx', p.1 ≠ I) ∧ J (i + 1) m'' nx') →
        ∃ m, m < n + 1 - i ∧ ∃ h' tk m' nx i, s₃ = { s with heap := h', toks := tk } ∧ St i h' ∧ Fr h₀ env.locals h' m' ∧ News h₀ env.locals h' nx ∧ (∀ p ∈ nx, p.1 ≠ I) ∧ J i m' nx ∧ i ≤ n ∧ m = n + 1 - i := by
      rintro ⟨h₃', tk₃, m₃, nx₃, rfl, F₃, N₃, hn₃, hJ₃⟩
      refine ⟨n + 1 - (i + 1), by omega, h₃', tk₃, m₃, nx₃, i + 1, rfl, ?_, F₃, fun p hp => N₃ p (.tail _ hp), hn₃, hJ₃, hlt, rfl⟩
      refine W.frame _ _ _ hst₂ fun b hb o e => ?_
      by_cases hbI : b = I
      · subst hbI
        rw [hoI] at e
        obtain rfl := Option.some.inj e
        exact (N₃ _ (.head _)).1
      · exact kept _ _ _ _ _ _ _ _ hJ N₂ hJ₃ (fun p hp => N₃ p (.tail _ hp)) b hb hbI o e
    cases f with
    | ret v => exact h₃
    | brk => exact h₃.elim
    | cont => exact go h₃
    | next => exact go h₃
  · have hin : i = n := by omega
    subst hin
    refine W.done _ _ _ hst' fun h₁ tk₁ hk₁ => ?_
    obtain ⟨F₁, N₁⟩ := next h₁ hk₁
    exact done h₁ tk₁ m' nx F₁ N₁ hJ

/-- a loop over a range object -/
theorem forC_range {h₀ : Heap} {Q : Flow → Shared → Prop} {E : Value → Shared → Prop} {x : Str} {px : Pos} {body : List Stmt} {r : Addr} {a b c : Int} {t₀ u₀ v₀ : Tok} {n : Nat} {m : Str → Option Value} {news : List (Addr × Obj)}
    (hh : A.handled = none) (hx : env.kindOf x = some .local) (hp : (env.scope.kind == .class || (env.scope.kind == .module && env.locals != env.globals)) = false)
    (hr : IsRange s.heap r a b c t₀ u₀ v₀) (hsmall : Builtin.Range.small a b c = true) (hsz : Builtin.Range.rangeSize a b c = (n : Int))
    (J : Nat → (Str → Option Value) → List (Addr × Obj) → Prop)
    (F : Fr h₀ env.locals s.heap m) (N : News h₀ env.locals s.heap news) (h0 : J 0 m news)
    (turn : ∀ (i : Nat) t m₁ nx h tk I oI, i < n → J i m₁ nx → (∀ p ∈ nx, p.1 ≠ I) → Fr h₀ env.locals h (fun y => if y = x then some (.int (a + i * c) t) else m₁ y) → News h₀ env.locals h ((I, oI) :: nx) →
      wpC (model prog w) A (execs body env) (TurnC h₀ env.locals I oI (J (i + 1)) { s with heap := h, toks := tk } (fun v s' => Q (.ret v) s')) (fun _ _ => False) { s with heap := h, toks := tk })
    (done : ∀ h tk m' nx, Fr h₀ env.locals h m' → News h₀ env.locals h nx → J n m' nx → Q .next { s with heap := h, toks := tk }) :
    wpAny (model prog w) A (pyIter (.ref r)) (fun it s₂ => codeC (model prog w) A (.forLoop (.Name x px) it body [] env) (fun r s' => match r with | .ok f => Q f s' | .error _ => False) s₂) E s := by
  refine wpAny_pyIter_range hr hsmall ?_
  have W := Walks.range (prog := prog) (w := w) hh s.heap.objs.size a c n
  have hW : Walks prog w A s.heap.objs.size [s.heap.objs.size] [s.heap.objs.size] n (fun i v => ∃ t, v = .int (a + i * c) t) (fun i h => IsRangeIter h s.heap.objs.size (a + (i : Nat) * c) ((n : Int) - (i : Nat)) c) := W
  refine forC_core hW hx hp ?_ (next_is_new F) (fun i h hs => ⟨_, hs⟩) ?_ J ?_ (F.push _) (fun p hp => ⟨Heap.get?_push_of_some _ (N p hp).1, (N p hp).2⟩) (fun p hp => Nat.ne_of_lt (Heap.lt_size (N p hp).1)) h0 ?_ ?_
  · intro hm
    exact absurd F.ns.lt ((List.mem_singleton.mp hm) ▸ Nat.lt_irrefl _)
  · show IsRangeIter _ _ _ _ _
    rw [hsz]
    simpa using Heap.get?_push_size _ rfl
  · intro i j m m' nx nx' h h' _ _ _ _ b hb hne
    exact absurd (List.mem_singleton.mp hb) hne
  · rintro i v m₁ nx h tk oI hi ⟨t, rfl⟩ hJ hne F₁ N₁
    exact turn i t m₁ nx h tk _ oI hi hJ hne F₁ N₁
  · intro h tk m' nx F' N' hJ
    exact done h tk m' nx F' N' hJ

/-- a loop over a list of the ledger's -/
theorem forC_list {h₀ : Heap} {Q : Flow → Shared → Prop} {E : Value → Shared → Prop} {x : Str} {px : Pos} {body : List Stmt} {l : Addr} {vs : List Value} {nn : Nat} {m : Str → Option Value} {news : List (Addr × Obj)}
    (hh : A.handled = none) (hx : env.kindOf x = some .local) (hp : (env.scope.kind == .class || (env.scope.kind == .module && env.locals != env.globals)) = false)
    (J : Nat → (Str → Option Value) → List (Addr × Obj) → Prop) (hl : ∀ i m nx, J i m nx → (l, listOf vs.toArray nn) ∈ nx)
    (F : Fr h₀ env.locals s.heap m) (N : News h₀ env.locals s.heap news) (h0 : J 0 m news)
    (turn : ∀ (i : Nat) v m₁ nx h tk I oI, vs[i]? = some v → J i m₁ nx → (∀ p ∈ nx, p.1 ≠ I) → Fr h₀ env.locals h (fun y => if y = x then some v else m₁ y) → News h₀ env.locals h ((I, oI) :: nx) →
      wpC (model prog w) A (execs body env) (TurnC h₀ env.locals I oI (J (i + 1)) { s with heap := h, toks := tk } (fun v s' => Q (.ret v) s')) (fun _ _ => False) { s with heap := h, toks := tk })
    (done : ∀ h tk m' nx, Fr h₀ env.locals h m' → News h₀ env.locals h nx → J vs.length m' nx → Q .next { s with heap := h, toks := tk }) :
    wpAny (model prog w) A (pyIter (.ref l)) (fun it s₂ => codeC (model prog w) A (.forLoop (.Name x px) it body [] env) (fun r s' => match r with | .ok f => Q f s' | .error _ => False) s₂) E s := by
  have hol : s.heap.get? l = some (listOf vs.toArray nn) := (N _ (hl _ _ _ h0)).1
  have hls : s.heap.IsList l vs.toArray := ⟨_, hol, rfl, nn, rfl⟩
  have hne : l ≠ s.heap.objs.size := Nat.ne_of_lt (Heap.lt_size hol)
  refine wpAny_pyIter_list hls ?_
  have W := Walks.list (prog := prog) (w := w) hh s.heap.objs.size l hne vs.toArray
  have hlen : vs.toArray.size = vs.length := by simp
  rw [hlen] at W
  refine forC_core W hx hp ?_ (next_is_new F) ?_ ⟨⟨_, Heap.get?_push_size _ rfl, rfl, rfl⟩, hls.at fun o e => Heap.get?_push_of_some _ e⟩ J ?_ (F.push _) (fun p hp => ⟨Heap.get?_push_of_some _ (N p hp).1, (N p hp).2⟩) (fun p hp => Nat.ne_of_lt (Heap.lt_size (N p hp).1)) h0 ?_ ?_
  · intro hm
    rcases List.mem_cons.mp hm with e | hm
    · exact absurd F.ns.lt (e ▸ Nat.lt_irrefl _)
    · exact (N _ (hl _ _ _ h0)).2.1 ((List.mem_singleton.mp hm).symm)
  · rintro i h ⟨⟨o, ho, _⟩, _⟩
    exact ⟨o, ho⟩
  · intro i j m m' nx nx' h h' hJ N₁ hJ' N₂ b hb hbI o e
    have hbl : b = l := by
      rcases List.mem_cons.mp hb with h | h
      · exact absurd h hbI
      · exact List.mem_singleton.mp h
    subst hbl
    rw [(N₁ _ (hl _ _ _ hJ)).1] at e
    obtain rfl := Option.some.inj e
    exact (N₂ _ (hl _ _ _ hJ')).1
  · intro i v m₁ nx h tk oI hi hP hJ hne F₁ N₁
    exact turn i v m₁ nx h tk _ oI (by simpa using hP) hJ hne F₁ N₁
  · intro h tk m' nx F' N' hJ
    exact done h tk m' nx F' N' hJ
end
end Mine

namespace Mine
section
variable {w : World} {E : Value → Shared → Prop} {s : Shared} {h₀ : Heap} {L : Addr} {m mg mb : Str → Option Value} {news : List (Addr × Obj)} {mean : ExcName → Option Value} {Q : Value → Shared → Prop}
abbrev Tp (mean : ExcName → Option Value) (mg mb : Str → Option Value) (h : Heap) : Prop := Top Mine.hd.view_39 (looseW Mine.hd.view_39 []) mean mg mb h
theorem named (m : Str → Option Value) (ps : List (Str × Value)) (h : ∀ p ∈ ps, m p.1 = some p.2) : m = kstB m ps := by
  funext y
  exact (kstB_eq h fun _ => rfl).symm
theorem ba_news {g h h' : Heap} {L : Addr} {m : Str → Option Value} {news : List (Addr × Obj)} {o o' : Obj} (F : Fr g L h m) (N : News g L h news) (hs : Heap.SameBut h.objs.size (h.push o) h') (hg : h'.get? h.objs.size = some o') :
    Fr g L h' m ∧ News g L h' ((h.objs.size, o') :: news) ∧ ∀ p ∈ news, p.1 < h.objs.size := by
  have hL : L < h.objs.size := F.ns.lt
  have hn : g.get? h.objs.size = none := next_is_new F
  refine ⟨(F.push o).change hs (Nat.ne_of_gt hL) hn, fun p hp => ?_, fun p hp => Heap.lt_size (N p hp).1⟩
  rcases List.mem_cons.mp hp with rfl | hp
  · exact ⟨hg, Nat.ne_of_gt hL, hn⟩
  · exact ⟨hs.extBut _ _ (Nat.ne_of_lt (Heap.lt_size (N p hp).1)) (Heap.get?_push_of_some _ (N p hp).1), (N p hp).2⟩
theorem range_self {n : Nat} (h : n ≤ 8) (h0 : 0 < n) : Builtin.Range.small 0 (n : Int) (n : Int) = true ∧ Builtin.Range.rangeSize 0 (n : Int) (n : Int) = ((1 : Nat) : Int) := by
  have hc : n = 1 ∨ n = 2 ∨ n = 3 ∨ n = 4 ∨ n = 5 ∨ n = 6 ∨ n = 7 ∨ n = 8 := by omega
  rcases hc with rfl | rfl | rfl | rfl | rfl | rfl | rfl | rfl <;> decide
theorem range_one {n : Nat} (h : n ≤ 64) : Builtin.Range.small 0 (n : Int) 1 = true ∧ Builtin.Range.rangeSize 0 (n : Int) 1 = (n : Int) := by
  refine ⟨?_, rangeSize_nat _ _⟩
  exact small_one (by omega) (by omega) (by omega) (by omega)
/-- the last j octets turned -/
def rv (ks : List Int) (j : Nat) : List Int := List.replicate (ks.length - j) 0 ++ (ks.take j).reverse
theorem rv_length (ks : List Int) {j : Nat} (h : j ≤ ks.length) : (rv ks j).length = ks.length := by simp [rv]; omega
theorem rv_step (ks : List Int) {j : Nat} (h : j < ks.length) : (rv ks j).set (ks.length - 1 - j) (ks.getD j 0) = rv ks (j + 1) := by
  have e1 : ks.length - j = (ks.length - (j + 1)) + 1 := by omega
  have e2 : ks.take (j + 1) = ks.take j ++ [ks.getD j 0] := by
    rw [List.take_add_one, List.getD_eq_getElem?_getD, List.getElem?_eq_getElem h]; rfl
  unfold rv
  rw [e2, e1, List.replicate_succ', List.append_assoc, List.reverse_append]
  rw [List.set_append_right _ _ (by simp; omega)]
  have e3 : ks.length - 1 - j - (List.replicate (ks.length - (j + 1)) (0 : Int)).length = 0 := by simp; omega
  rw [e3]
  rfl
theorem rv_in {ks : List Int} (hk : KBa.In ks) (j : Nat) : KBa.In (rv ks j) := by
  intro n hn
  rcases List.mem_append.mp hn with hn | hn
  · obtain ⟨_, rfl⟩ := List.mem_replicate.mp hn; decide
  · exact hk n (List.mem_of_mem_take (List.mem_reverse.mp hn))
theorem byteArr_zero (n : Nat) : byteArr (List.replicate n 0) = Array.replicate n 0 := by
  unfold byteArr
  simp
theorem byteArr_set (xs : List Int) (k : Nat) (x : Int) : (byteArr xs).setIfInBounds k x.toNat.toUInt8 = byteArr (xs.set k x) := by
  unfold byteArr
  simp [List.map_set]
section
variable {prog : Program} {A : Around} {D : Addr} {news' : List (Addr × Obj)}
theorem ba_set_K {xs : List Int} {k x : Int} {t u : Tok} {Q : Unit → Shared → Prop} (F : Fr h₀ L s.heap m) (N : News h₀ L s.heap news) (U : Upd D (baObj (byteArr xs)) (baObj (byteArr (xs.set k.toNat x))) news news') (h0 : 0 ≤ k) (h1 : k < xs.length)
    (hx0 : 0 ≤ x) (hx1 : x < 256) (hz : xs.length ≤ 16777216) (h : ∀ h', Fr h₀ L h' m → News h₀ L h' news' → Q () { s with heap := h' }) :
    wpAny (model prog w) A (setItem (.ref D) (.int k t) (.int x u)) Q E s := by
  obtain ⟨pre, post, rfl, rfl, a, b⟩ := U.split
  have z := N (D, baObj (byteArr xs)) (List.mem_append.mpr (.inr (.head _)))
  refine ba_setItem z.1 (by rw [byteArr_size, PySem.sizeLine_eq]; exact hz) h0 (by rw [byteArr_size]; exact h1) hx0 hx1 fun h' hs hg => ?_
  rw [byteArr_set] at hg
  exact h h' (F.change hs z.2.1 z.2.2) (news_set N a b hs hg)
end
local macro_rules | `(tactic| k_steps) => `(tactic| repeat' ((fail_if_success (with_reducible show wpC _ _ _ _ _ _)); (fail_if_success (with_reducible show wpAny _ _ (pyIter _) (fun it s₂ => codeC _ _ _ _ s₂) _ _)); first | (k_unfold; (try dsimp only)) | (k_end; wrow_close) | walk1 | (dsimp only; walk1) | (leave1; walk_say "STEP leave1"; try dsimp only) | fail "no step"))
local macro_rules | `(tactic| walk_at "setItem ref int") => `(tactic| (k_here; (with_reducible show wpAny _ _ (setItem (Value.ref _) (Value.int _ _) (Value.int _ _)) _ _ _); k_dflt (refine' ba_set_K ?k1 ?k2 ?k3 ?k4 ?k5 ?k6 ?k7 ?k8 ?_; (case k1 => k_asm); (case k2 => k_asm); (case k3 => k_upd); (case k4 => omega); (case k5 => (rw [rv_length _ (by omega)]; omega)); (case k6 => assumption); (case k7 => assumption); (case k8 => (rw [rv_length _ (by omega)]; omega)); k_whole); intro h' F' N'))
theorem byteswap_c {b : Array UInt8} {ks : List Int} {t u : Tok} {e1 e2 : Env} (F : Fr h₀ L s.heap m) (X : (Mine.hd.heap_39 w.params).In h₀) (N : News h₀ L s.heap news) (T : Tp mean mg mb h₀) (hk : KBw.bInts b = ks) (hb : ks.length ≤ 8) (h0 : 0 < ks.length)
   (h : ∀ b' t h' tk, KBw.bInts b' = ks.reverse → Fr h₀ L h' m → News h₀ L h' news → Q (.bytes b' t) { s with heap := h', toks := tk }) : wpC (model PySem.Challenge.rw_gc0001_01.row.prog w) ((callerA.deeper e1).deeper e2) (call (.ref 21) [.bytes b t, .int (ks.length : Int) u]) Q E s := by
  w_top off
  revert X; k_fill; intro X
  refine' enter_pureC (hid := []) (binds := [(Str.ofString "data", Value.bytes b t), (Str.ofString "width", Value.int (ks.length : Int) u)]) F X N T (fun _ hq => nomatch hq) ?k6 ?k7 ?k8 ?k9 ?kB ?c5 ?c2 ?c3 ?c4 ?_
  case k6 => k_is
  case k7 => k_is
  case k8 => k_room
  case k9 => exact BindsTo.of_eq rfl
  case kB => exact locs rfl
  case c5 => decide
  case c2 => exact rfl
  case c3 => exact rfl
  case c4 => exact rfl
  intro g L' h₁ hg hL F1 N1 X1 T1
  have back : ∀ v s', (∀ b o, s.heap.get? b = some o → s'.heap.get? b = some o) → (∃ b' t h' tk, KBw.bInts b' = ks.reverse ∧ v = Value.bytes b' t ∧ s' = { s with heap := h', toks := tk }) → Q v s' := by
    rintro v s' hk ⟨b', t, h', tk, e, rfl, rfl⟩
    exact h b' t h' tk e (F.grownK hk) (N.grown hk)
  clear h
  clear F N T X
  refine execs_consC (AssignC (CallC_T ?_))
  k_steps
  refine call_bytearray_C (by rw [PySem.sizeLine_eq]; omega) fun h' hs' hg' => ?_
  rename Fr _ _ _ _ => kF
  rename News _ _ _ _ => N1
  obtain ⟨F2, N2, l2⟩ := ba_news kF N1 hs' hg'
  clear kF N1 hs' hg' l2
  (try dsimp only at F2 N2 ⊢)
  generalize h₁.objs.size = S at F2 N2 ⊢
  k_steps
  refine execs_consC (ForC ?_)
  k_steps
  rename IsRange _ _ _ _ _ _ _ _ => hR
  rename Fr _ _ _ _ => kF
  rename News _ _ _ _ => kN
  obtain ⟨r1, r2⟩ := range_self hb h0
  refine forC_range rfl rfl rfl hR r1 r2 (fun i m nx => m (Str.ofString "data") = some (Value.bytes b t) ∧ m (Str.ofString "width") = some (Value.int (ks.length : Int) u) ∧ m (Str.ofString "swapped_data") = some (Value.ref S) ∧ nx = [(S, baObj (byteArr (rv ks (i * ks.length))))]) kF kN ?_ ?_ ?_
  · refine ⟨rfl, rfl, rfl, ?_⟩
    rw [Nat.zero_mul, ← byteArr_zero]; simp [rv]
  · (repeat (with_reducible rename Fr _ _ _ _ => z; clear z)); (repeat (with_reducible rename News _ _ _ _ => z; clear z)); (repeat (with_reducible rename IsRange _ _ _ _ _ _ _ _ => z; clear z))
    rintro i ti m₁ nx h2 tk2 I oI hi ⟨hd1, hd2, hd3, rfl⟩ hI F3 N3
    have hi0 : i = 0 := by omega
    subst hi0
    dsimp only [envOf] at F3 N3 ⊢
    have e := named m₁ [(Str.ofString "data", Value.bytes b t), (Str.ofString "width", Value.int (ks.length : Int) u), (Str.ofString "swapped_data", Value.ref S)] (by simp [hd1, hd2, hd3])
    rw [e] at F3
    simp only [kstB] at F3
    clear e
    rw [show (0 : Int) + ((0 : Nat) : Int) * (ks.length : Int) = 0 from by simp] at F3
    rw [show 0 * ks.length = 0 from by simp] at N3 hI
    have hIS : @Ne Nat S I := hI _ (.head _)
    refine execs_consC (ForC ?_)
    k_steps
    rename IsRange _ _ _ _ _ _ _ _ => hR
    rename Fr _ _ _ _ => kF
    rename News _ _ _ _ => kN
    obtain ⟨q1, q2⟩ := range_one (n := ks.length) (by omega)
    refine forC_range rfl rfl rfl hR q1 q2 (fun j m nx => m (Str.ofString "data") = some (Value.bytes b t) ∧ m (Str.ofString "width") = some (Value.int (ks.length : Int) u) ∧ m (Str.ofString "swapped_data") = some (Value.ref S) ∧ m (Str.ofString "i") = some (Value.int 0 ti) ∧ nx = [(I, oI), (S, baObj (byteArr (rv ks j)))]) kF kN ?_ ?_ ?_
    · exact ⟨rfl, rfl, rfl, rfl, rfl⟩
    · (repeat (with_reducible rename Fr _ _ _ _ => z; clear z)); (repeat (with_reducible rename News _ _ _ _ => z; clear z)); (repeat (with_reducible rename IsRange _ _ _ _ _ _ _ _ => z; clear z))
      rintro j tj m₂ nx h3 tk3 I2 oI2 hj ⟨hd1, hd2, hd3, hd4, rfl⟩ hI2 F4 N4
      dsimp only [envOf] at F4 N4 ⊢
      have e := named m₂ [(Str.ofString "i", Value.int 0 ti), (Str.ofString "data", Value.bytes b t), (Str.ofString "width", Value.int (ks.length : Int) u), (Str.ofString "swapped_data", Value.ref S)] (by simp [hd1, hd2, hd3, hd4])
      rw [e] at F4
      simp only [kstB] at F4
      clear e
      rw [show (0 : Int) + (j : Int) * 1 = (j : Int) from by simp] at F4
      have hII : @Ne Nat I I2 := hI2 _ (.head _)
      have hSI2 : @Ne Nat S I2 := hI2 _ (.tail _ (.head _))
      refine execs_consA ?_
      k_steps
      dsimp only
      refine execs_nilC ?_
      rename Fr _ _ _ _ => kF
      rename News _ _ _ _ => kN
      have e9 : (rv ks j).set ((0 : Int) + (ks.length : Int) - 1 - (j : Int)).toNat (ks.getD ((0 : Int) + (j : Int)).toNat 0) = rv ks (j + 1) := by
        have e1 : ((0 : Int) + (ks.length : Int) - 1 - (j : Int)).toNat = ks.length - 1 - j := by omega
        have e2 : ((0 : Int) + (j : Int)).toNat = j := by omega
        rw [e1, e2]
        exact rv_step ks hj
      rw [e9] at kN
      refine turn_next kF kN ?_ ⟨rfl, rfl, rfl, rfl, rfl⟩
      intro p hp
      rcases List.mem_cons.mp hp with rfl | hp
      · exact hII
      · rw [List.mem_singleton.mp hp]; exact hSI2
    · (repeat (with_reducible rename Fr _ _ _ _ => z; clear z)); (repeat (with_reducible rename News _ _ _ _ => z; clear z)); (repeat (with_reducible rename IsRange _ _ _ _ _ _ _ _ => z; clear z))
      rintro h3 tk3 m₂ nx F4 N4 ⟨hd1, hd2, hd3, hd4, rfl⟩
      dsimp only [envOf] at F4 N4 ⊢
      refine execs_nilC ?_
      refine turn_next F4 N4 ?_ ⟨hd1, hd2, hd3, ?_⟩
      · intro p hp
        rw [List.mem_singleton.mp hp]; exact hIS
      · rw [show (0 + 1) * ks.length = ks.length from by simp]
  · (repeat (with_reducible rename Fr _ _ _ _ => z; clear z)); (repeat (with_reducible rename News _ _ _ _ => z; clear z)); (repeat (with_reducible rename IsRange _ _ _ _ _ _ _ _ => z; clear z))
    rintro h2 tk2 m₁ nx F3 N3 ⟨hd1, hd2, hd3, rfl⟩
    dsimp only [envOf] at F3 N3 ⊢
    rw [show 1 * ks.length = ks.length from by simp] at N3
    have e := named m₁ [(Str.ofString "swapped_data", Value.ref S)] (by simp [hd3])
    rw [e] at F3
    simp only [kstB] at F3
    clear e
    refine execs_consA ?_
    k_steps
    have hin : KBa.In ks := fun n hn => KBw.ints_in (b := b) (by rw [hk]; exact hn)
    refine call_bytes_ba (b := byteArr (rv ks ks.length)) (N3 _ (.head _)).1 (by rw [byteArr_size, rv_length _ (Nat.le_refl _), PySem.sizeLine_eq]; omega) fun t9 tk9 => ?_
    refine ⟨_, _, F3, N3, (fun _ hp => nomatch hp), fun hkeep => back _ _ hkeep ⟨_, _, _, _, ?_, rfl, rfl⟩⟩
    rw [KBa.ints_make (rv_in hin _)]
    simp [rv]
end
end Mine

namespace Mine
section
variable {w : World} {E : Value → Shared → Prop} {s : Shared} {h₀ : Heap} {L : Addr} {m mg mb : Str → Option Value} {news : List (Addr × Obj)} {mean : ExcName → Option Value} {Q : Value → Shared → Prop}
local macro_rules | `(tactic| k_steps) => `(tactic| repeat' ((fail_if_success (with_reducible show wpC _ _ _ _ _ _)); (fail_if_success (with_reducible show wpAny _ _ (pyIter _) (fun it s₂ => codeC _ _ _ _ s₂) _ _)); (fail_if_success (with_reducible show wpAny _ _ (binaryOp Operator.Add (Value.bytes _ _) (Value.bytes _ _)) _ _ _)); first | (k_unfold; (try dsimp only)) | (k_end; wrow_close) | walk1 | (dsimp only; walk1) | (leave1; walk_say "STEP leave1"; try dsimp only) | fail "no step"))
theorem byteswap_n {b : Array UInt8} {ks : List Int} {n : Int} {t u : Tok} {e1 e2 : Env} (F : Fr h₀ L s.heap m) (X : (Mine.hd.heap_39 w.params).In h₀) (N : News h₀ L s.heap news) (T : Tp mean mg mb h₀) (hk : KBw.bInts b = ks) (hn : n = (ks.length : Int)) (hb : ks.length ≤ 8) (h0 : 0 < ks.length)
   (h : ∀ b' t h' tk, KBw.bInts b' = ks.reverse → Fr h₀ L h' m → News h₀ L h' news → Q (.bytes b' t) { s with heap := h', toks := tk }) : wpC (model PySem.Challenge.rw_gc0001_01.row.prog w) ((callerA.deeper e1).deeper e2) (call (.ref 21) [.bytes b t, .int n u]) Q E s := by
  subst hn
  exact byteswap_c F X N T hk hb h0 h

def flip (ks : List Int) (k : Nat) : List Int := (ks.take k).reverse ++ ks.drop k

theorem turned_c {b : Array UInt8} {ks : List Int} {k : Int} {t u : Tok} {e1 : Env} (F : Fr h₀ L s.heap m) (X : (Mine.hd.heap_39 w.params).In h₀) (N : News h₀ L s.heap news) (T : Tp mean mg mb h₀) (hk : KBw.bInts b = ks) (hb : ks.length ≤ 8) (h0 : 0 < k) (h1 : k ≤ ks.length)
   (h : ∀ b' t h' tk, KBw.bInts b' = flip ks k.toNat → Fr h₀ L h' m → News h₀ L h' news → Q (.bytes b' t) { s with heap := h', toks := tk }) : wpC (model PySem.Challenge.rw_gc0001_01.row.prog w) (callerA.deeper e1) (call (.ref 63) [.bytes b t, .int k u]) Q E s := by
  obtain ⟨j, rfl⟩ := Int.eq_ofNat_of_zero_le (Int.le_of_lt h0)
  have hj : min j ks.length = j := by omega
  w_top off
  revert X; k_fill; intro X
  refine' enter_pureC (hid := []) (binds := [(Str.ofString "order", Value.bytes b t), (Str.ofString "many", Value.int (j : Int) u)]) F X N T (fun _ hq => nomatch hq) ?k6 ?k7 ?k8 ?k9 ?kB ?c5 ?c2 ?c3 ?c4 ?_
  case k6 => k_is
  case k7 => k_is
  case k8 => k_room
  case k9 => exact BindsTo.of_eq rfl
  case kB => exact locs rfl
  case c5 => decide
  case c2 => exact rfl
  case c3 => exact rfl
  case c4 => exact rfl
  intro g L' h₁ hg hL F1 N1 X1 T1
  have back : ∀ v s', (∀ b o, s.heap.get? b = some o → s'.heap.get? b = some o) → (∃ b' t h' tk, KBw.bInts b' = flip ks j ∧ v = Value.bytes b' t ∧ s' = { s with heap := h', toks := tk }) → Q v s' := by
    rintro v s' hk ⟨b', t, h', tk, e, rfl, rfl⟩
    exact h b' t h' tk e (F.grownK hk) (N.grown hk)
  clear h
  clear F N T X
  refine execs_consC (ReturnC (IfExpC ?_))
  k_steps
  refine BinOpC (CallC_K (K := Mine.hd.heap_39 w.params) ?_)
  k_steps
  rename KBw.bInts _ = _ => hp
  rw [hj] at hp
  rename Fr _ _ _ _ => kF
  rename News _ _ _ _ => kN
  refine byteswap_n kF X1 kN T1 hp (by rw [List.length_take]; omega) (by rw [List.length_take]; omega) (by rw [List.length_take]; omega) fun b2 t2 h2 tk2 hb2 F2 N2 => ?_
  clear kF kN
  k_steps
  rename KBw.bInts (KBy.picked _ _ none) = _ => hq
  rename Fr _ _ _ _ => kF
  rename News _ _ _ _ => kN
  have hq2 : KBw.bInts (KBy.picked b (some (j : Int)) none) = ks.drop j := by
    rw [hq, hj]
    exact List.take_of_length_le (by rw [List.length_drop]; exact Nat.le_refl _)
  refine KBa.add_K hb2 hq2 (by rw [List.length_reverse, List.length_take, List.length_drop]; omega) fun t9 tk9 hadd => ?_
  exact ⟨_, _, kF, kN, (fun _ hp => nomatch hp), fun hkeep => back _ _ hkeep ⟨_, _, _, _, hadd, rfl, rfl⟩⟩
end
end Mine

namespace Mine
section
variable {w : World} {E : Value → Shared → Prop} {s : Shared} {h₀ : Heap} {L : Addr} {m mg mb : Str → Option Value} {news : List (Addr × Obj)} {mean : ExcName → Option Value} {Q : Value → Shared → Prop}
local macro_rules | `(tactic| walk_at "never met Cm 0") => `(tactic| skip)
local macro_rules | `(tactic| walk_at "exec For Tuple Attribute cons nil") => `(tactic| (k_here; (rename Fr _ _ _ _ => lF'); (with_unfolding_all refine' For_turns lF' ?_); k_whole))
/-- the comparer's objects -/
abbrev toldL (w : World) (x dx l D : Addr) (kt t0 t1 : Tok) : List (Addr × Obj) :=
  [(x, instObj 45 dx), (dx, dictOf [{ hash := PyData.keyHash w.params (Str.ofString "comp_select_list"), key := Value.str (Str.ofString "comp_select_list") kt, val := Value.ref l }] 1),
   (l, W.listOf #[Value.ref D] 0), (D, { cls := Value.type "tuple", data := Data.seq #[Value.int 0 t0, Value.int 1 t1] })]
def cmpI (a c : Int) : Int := if a < c then -1 else if a > c then 1 else 0

theorem compare_c {x dx l D : Addr} {kt t0 t1 : Tok} {bl br : Array UInt8} {la lc : List Int} {t u : Tok} {e1 : Env} (F : Fr h₀ L s.heap m) (X : (Mine.hd.heap_39 w.params).In h₀) (N : News h₀ L s.heap news) (T : Tp mean mg mb h₀)
   (hh : ∀ q ∈ toldL w x dx l D kt t0 t1, q ∈ news) (hl : KBw.bInts bl = la) (hl1 : la.length = 1) (hr : KBw.bInts br = lc) (hr1 : lc.length = 1) 
   (h : ∀ t h' tk, Fr h₀ L h' m → News h₀ L h' news → Q (.int (cmpI (la.getD 0 0) (lc.getD 0 0)) t) { s with heap := h', toks := tk }) : wpAny (model PySem.Challenge.rw_gc0001_01.row.prog w) (callerA.deeper e1) (call (.ref 42) [.ref x, .bytes bl t, .bytes br u]) Q E s := by
  w_top off
  revert X; k_fill; intro X
  refine' enter_pure (hid := toldL w x dx l D kt t0 t1) (binds := [(Str.ofString "self", Value.ref x), (Str.ofString "left", Value.bytes bl t), (Str.ofString "right", Value.bytes br u)]) F X N T hh ?k6 ?k7 ?k8 ?k9 ?kB ?c5 ?c2 ?c3 ?c4 ?_
  case k6 => k_is
  case k7 => k_is
  case k8 => k_room
  case k9 => exact BindsTo.of_eq rfl
  case kB => exact locs rfl
  case c5 => decide
  case c2 => exact rfl
  case c3 => exact rfl
  case c4 => exact rfl
  intro g L' h₁ hg hL F1 N1 X1 T1
  have back : ∀ v s', (∀ b o, s.heap.get? b = some o → s'.heap.get? b = some o) → (∃ t h' tk, v = Value.int (cmpI (la.getD 0 0) (lc.getD 0 0)) t ∧ s' = { s with heap := h', toks := tk }) → Q v s' := by
    rintro v s' hk ⟨t, h', tk, rfl, rfl⟩
    exact h t h' tk (F.grownK hk) (N.grown hk)
  clear h hg
  dsimp only [toldL] at N1
  clear F N T X
  k_steps
  all_goals
    rename Fr _ _ _ _ => kF
    rename News _ _ _ _ => kN
    refine ⟨_, _, kF, kN, ?_, fun hk => back _ _ hk ⟨_, _, _, congrArg (Value.int · _) (?_ : (_ : Int) = cmpI _ _), rfl⟩⟩
    · intro p hp
      simp only [toldL, List.mem_cons, List.not_mem_nil, or_false] at hp ⊢
      rcases hp with rfl | rfl | rfl | rfl <;> simp
    · clear kF kN
      simp only [Int.toNat_zero] at *
      unfold cmpI
      (repeat' split) <;> omega
end
end Mine

namespace Mine
section
variable {prog : Program} {w : World} {A : Around} {E : Value → Shared → Prop} {s : Shared} {b : Array UInt8} {t : Tok}

theorem hint_bytes {Q : Bool → Shared → Prop} (h : Q false s) : wpAny (model prog w) A (Builtin.List.listLengthHint (.bytes b t)) Q E s := by
  unfold Builtin.List.listLengthHint
  refine wpAny_bind (wpAny_specialOf (typeIs_bytes s b t) FB.slot_bytes_len.lookup ?_)
  generalize hid : ("bytes.__len__" : String) = id0
  wp_delta
  rw [show splitId id0 = some ("bytes", "__len__") from by subst hid; decide +kernel]
  subst hid
  refine wpAny_bind (wpAny_isInstance (T := "bytes") (b := true) (typeIs_bytes s b t) (by rw [isSubtype_type]; kernel_rfl) ?_)
  refine wpAny_ite_split (fun hab => absurd hab (by decide)) (fun _ => ?_)
  refine wpAny_ite_split (fun _ => ?_) (fun hab => absurd (by decide +kernel) hab)
  refine wpAny_bind (wpAny_typeOf (typeIs_bytes s b t) ?_)
  exact wpAny_pure h

/-- what stands in the list -/
abbrev Octs (b : Array UInt8) (acc : Array Value) : Prop := ItemsOf (fun i v => ∃ c u, b[i]? = some c ∧ v = .int (c.toNat : Int) u) acc b.size

theorem octs_ints {acc : Array Value} (h : Octs b acc) : IntsAre acc.toList (KBw.bInts b) := by
  have key : ∀ (l : List Value) (k : List UInt8), l.length = k.length → (∀ (j : Nat) (v : Value), l[j]? = some v → ∃ (c : UInt8) (u : Tok), k[j]? = some c ∧ v = Value.int (c.toNat : Int) u) → IntsAre l (k.map fun c : UInt8 => (c.toNat : Int)) := by
    intro l
    induction l with
    | nil =>
      intro k hk _
      cases k with
      | nil => exact .nil
      | cons _ _ => cases hk
    | cons v l ih =>
      intro k hk hi
      cases k with
      | nil => cases hk
      | cons c k =>
        obtain ⟨c', u, e, rfl⟩ := hi 0 v rfl
        simp only [List.getElem?_cons_zero, Option.some.injEq] at e
        subst e
        exact .cons _ u (ih k (by simpa using hk) fun j v e => by simpa using hi (j + 1) v (by simpa using e))
  refine key _ _ (by simpa using h.1) fun j v e => ?_
  obtain ⟨c, u, hc, rfl⟩ := h.2 j v (by simpa using e)
  exact ⟨c, u, by simpa using hc, rfl⟩

theorem extend_bytes {R : Result → Shared → Prop} (hh : A.handled = none) (S : Addr) (res : Value) (c₀ : Nat) (hS : s.heap.get? S = some { cls := .type "list", data := .seq #[] c₀ })
    (hR : ∀ h' tk acc' c', (∀ b o, b ≠ S → s.heap.get? b = some o → h'.get? b = some o) → h'.get? S = some { cls := .type "list", dict := none, data := .seq acc' c', slots := #[] } → Octs b acc' → R (.ok (.ret res)) { s with heap := h', toks := tk }) (hn : b.size ≤ sizeLine) :
    wpAny (model prog w) A.in1 (Builtin.List.listExtendWith (.ref S) (.bytes b t) res)
      (fun fin s' => match fin with | .done f => R (.ok f) s' | .again c' => c'.quiet = true ∧ codeAny (model prog w) A c' R s') (fun e s' => R (.error e) s') s := by
  have hSI : S ≠ s.heap.objs.size := Nat.ne_of_lt (Heap.lt_size hS)
  have hSf : S ∉ [s.heap.objs.size] := fun hm => hSI (List.mem_singleton.mp hm)
  unfold Builtin.List.listExtendWith
  refine wpAny_bind (wpAny_typeOf (typeIs_bytes s b t) ?_)
  have h1 : Builtin.List.listSameRef (.ref S) (.bytes b t) = false := rfl
  have h2 : (Value.type "bytes" == Value.type "list") = false := by decide
  have h3 : (Value.type "bytes" == Value.type "tuple") = false := by decide
  simp only [h1, h2, h3, Bool.or_false, Bool.false_eq_true, if_false]
  refine wpAny_bind (KBw.pyIter_bytes ?_)
  have W := KBw.walks (prog := prog) (w := w) (A := A.in1) hh s.heap.objs.size b t
  refine wpAny_bind (wpAny_holding (hint_bytes ?_))
  rw [if_neg (by decide)]
  refine wpAny_pure ⟨plainId_quiet PySem.F.plain_extend_loop _, codeAny_extend_loopS W.toS hn _ hSf _ b.size 0 _ _ _ rfl (Nat.zero_le _) ⟨_, Heap.get?_push_size _ rfl, rfl, rfl⟩ (Heap.get?_push_of_some _ hS) (ItemsOf.nil _) fun s' acc' c' hm hS' hacc => ?_⟩
  rw [Moved.eq_with hm]
  refine hR s'.heap s'.toks acc' c' (fun b ob hb e => hm.heap b ob (fun hmem => ?_) (Heap.get?_push_of_some _ e)) hS' hacc
  rcases List.mem_cons.mp hmem with e' | hmem
  · exact hb e'
  · exact absurd (Heap.lt_size e) (by rw [List.mem_singleton.mp hmem]; exact Nat.lt_irrefl _)

theorem list_init_bytes {R : Result → Shared → Prop} (hh : A.handled = none) (S : Addr) (hS : s.heap.get? S = some { cls := .type "list", data := .seq #[] })
    (hR : ∀ h' tk acc' c', (∀ b o, b ≠ S → s.heap.get? b = some o → h'.get? b = some o) → h'.get? S = some { cls := .type "list", dict := none, data := .seq acc' c', slots := #[] } → Octs b acc' → R (.ok (.ret .none)) { s with heap := h', toks := tk }) (hn : b.size ≤ sizeLine) :
    wpAny (model prog w) A.in1 (Builtin.«list.__init__» ⟨[.ref S, .bytes b t], []⟩)
      (fun fin s' => match fin with | .done f => R (.ok f) s' | .again c' => c'.quiet = true ∧ codeAny (model prog w) A c' R s') (fun e s' => R (.error e) s') s := by
  show wpAny _ _ (do let old ← Builtin.List.listItems (.ref S); Builtin.List.listUpdate (.ref S) (fun _ => #[]); letGo old.toList.reverse; Builtin.List.listExtendWith (.ref S) (.bytes b t) .none) _ _ s
  refine wpAny_bind ?_
  unfold Builtin.List.listItems
  refine wpAny_bind (wpAny_seqItems hS rfl (wpAny_pure ?_))
  show wpAny _ _ (updateSeq S (fun _ => #[]) >>= fun _ => letGo (#[] : Array Value).toList.reverse >>= fun _ => Builtin.List.listExtendWith (.ref S) (.bytes b t) .none) _ _ s
  refine wpAny_bind (wpAny_updateSeq hS rfl ?_)
  have hS₂ := Heap.get?_update_self (Obj.mapSeq (fun _ => (#[] : Array Value))) hS rfl
  have oth : ∀ b o, b ≠ S → s.heap.get? b = some o → (s.heap.update S (Obj.mapSeq (fun _ => (#[] : Array Value)))).get? b = some o :=
    fun b o hb e => (Heap.get?_update_other _ _ (Ne.symm hb)).trans e
  refine wpAny_bind (wpAny_letGo ?_)
  refine extend_bytes hh S .none _ hS₂ (fun h' tk acc' c' hk hS' hacc => ?_) hn
  exact hR h' tk acc' c' (fun b o hb e => hk b o hb (oth b o hb e)) hS' hacc

theorem call_list_bytes {Q : Value → Shared → Prop} (hh : A.handled = none)
    (hQ : ∀ h' tk acc' c', (∀ b o, s.heap.get? b = some o → h'.get? b = some o) →
      h'.get? s.heap.objs.size = some { cls := .type "list", dict := none, data := .seq acc' c', slots := #[] } → Octs b acc' → Q (.ref s.heap.objs.size) { s with heap := h', toks := tk }) (hn : b.size ≤ sizeLine) :
    wpAny (model prog w) A (call (.type "list") [.bytes b t]) Q E s := by
  refine callType_codes (Q₁ := fun obj s₁ => obj = .ref s.heap.objs.size ∧ s₁ = { s with heap := s.heap.push { cls := .type "list", data := .seq #[] } }) PySem.F.called_list (PySem.F.typeCall_list_1 _) PySem.F.entry_list_init
    (code_list_new _ ⟨rfl, rfl⟩) fun obj s₁ h₁ => ?_
  obtain ⟨rfl, rfl⟩ := h₁
  have hS : (s.heap.push { cls := .type "list", data := .seq #[] }).get? s.heap.objs.size = some { cls := .type "list", data := .seq #[] } := Heap.get?_push_size _ rfl
  refine ⟨⟨_, hS, rfl⟩, PySem.F.args_list_init_2 _ _, list_init_bytes (A := A.in1) hh _ hS (fun h' tk acc' c' hk hS' hacc => ?_) hn⟩
  exact ⟨rfl, hQ h' tk acc' c' (fun b o e => hk b o (Nat.ne_of_lt (Heap.lt_size e)) (Heap.get?_push_of_some _ e)) hS' hacc⟩

theorem list_K {Q : Value → Shared → Prop} {h₀ : Heap} {L : Addr} {m : Str → Option Value} {news : List (Addr × Obj)} {ks : List Int} (hh : A.handled = none) (F : Fr h₀ L s.heap m) (N : News h₀ L s.heap news) (hk : KBw.bInts b = ks) (hn : ks.length ≤ 8)
    (h : ∀ (D : Addr) c h' tk (vs : List Value), Fr h₀ L h' m → News h₀ L h' ((D, W.listOf vs.toArray c) :: news) → (∀ q ∈ news, q.1 < D) → IntsAre vs ks → Q (.ref D) { s with heap := h', toks := tk }) :
    wpAny (model prog w) A (call (.type "list") [.bytes b t]) Q E s := by
  subst hk
  have hb : b.size ≤ sizeLine := by rw [← KBw.ints_length b, sizeLine_eq]; omega
  exact call_list_bytes hh (fun h' tk acc' c' hk hD hacc => h _ c' h' tk acc'.toList (F.keeps hk) (news_pushed F N hk (by first | (rw [Array.toArray_toList]; exact hD) | simpa using hD) rfl) (fun q hq => Heap.lt_size (N q hq).1) (octs_ints hacc)) hb

theorem collect_bytes {R : List Value → Shared → Prop} (hh : A.handled = none) (hn : b.size ≤ sizeLine)
    (h : ∀ (h' : Heap) (tk : Nat) (acc : Array Value), (∀ b o, s.heap.get? b = some o → h'.get? b = some o) → Octs b acc → R acc.toList { s with heap := h', toks := tk }) :
    wpAny (model prog w) A (collect (.bytes b t)) R E s := by
  unfold collect
  refine wpAny_bind (wpAny_runValue (codeAny_builtin entry_proto_collect' ?_))
  rw [Around.under_plainId PySem.F.plain_proto_collect _]
  show wpAny _ A.in1 (newList [] >>= fun l => again (.builtin "list.__iadd__" ⟨[l, .bytes b t], []⟩)) _ _ s
  refine wpAny_bind (wpAny_newObj_type ?_)
  refine wpAny_pure ⟨plainId_quiet PySem.F.plain_list_iadd _, codeAny_builtin entry_list_iadd' ?_⟩
  rw [Around.under_plainId PySem.F.plain_list_iadd _]
  have hS₁ : (s.heap.push { cls := .type "list", data := .seq ([] : List Value).toArray }).get? s.heap.objs.size = some { cls := .type "list", data := .seq #[] } := Heap.get?_push_size _ rfl
  show wpAny _ A.in1 (Builtin.List.listExtendWith (.ref s.heap.objs.size) (.bytes b t) (.ref s.heap.objs.size)) _ _ _
  have key := extend_bytes (prog := prog) (w := w) (b := b) (t := t) (A := A) (s := { s with heap := s.heap.push { cls := .type "list", data := .seq ([] : List Value).toArray } })
    (R := fun (q : Result) (s' : Shared) => ∃ (h' : Heap) (tk : Nat) (acc' : Array Value) (c' : Nat), q = .ok (.ret (.ref s.heap.objs.size)) ∧ s' = { s with heap := h', toks := tk } ∧
      (∀ b o, s.heap.get? b = some o → h'.get? b = some o) ∧ h'.get? s.heap.objs.size = some { cls := .type "list", dict := none, data := .seq acc' c', slots := #[] } ∧ Octs b acc')
    hh s.heap.objs.size (.ref s.heap.objs.size) 0 hS₁
    (fun h' tk acc' c' hk hS' hacc => ⟨h', tk, acc', c', rfl, rfl, fun b o e => hk b o (Nat.ne_of_lt (Heap.lt_size e)) (Heap.get?_push_of_some _ e), hS', hacc⟩) hn
  refine wpAny_mono key (fun fin s' x => ?_) fun e s' x => ?_
  · cases fin with
    | done f =>
      obtain ⟨h', tk, acc', c', e, rfl, hk, hS', hacc⟩ := x
      cases e
      show wpAny _ A (load s.heap.objs.size >>= _) _ _ _
      refine wpAny_bind (wpAny_load hS' ?_)
      exact wpAny_pure (h h' tk acc' hk hacc)
    | again c₁ =>
      refine ⟨x.1, codeAny_mono x.2 fun q s₂ y => ?_⟩
      obtain ⟨h', tk, acc', c', rfl, rfl, hk, hS', hacc⟩ := y
      show wpAny _ A (load s.heap.objs.size >>= _) _ _ _
      refine wpAny_bind (wpAny_load hS' ?_)
      exact wpAny_pure (h h' tk acc' hk hacc)
  · obtain ⟨_, _, _, _, e', _⟩ := x
    cases e'

theorem sorted_K {Q : Value → Shared → Prop} {h₀ : Heap} {L : Addr} {m : Str → Option Value} {news : List (Addr × Obj)} {ks : List Int} (hh : A.handled = none) (F : Fr h₀ L s.heap m) (N : News h₀ L s.heap news) (hk : KBw.bInts b = ks) (hn : ks.length ≤ 8)
    (h : ∀ (D : Addr) c h' tk (vs : List Value) (ns : List Int), Fr h₀ L h' m → News h₀ L h' ((D, W.listOf vs.toArray c) :: news) → (∀ q ∈ news, q.1 < D) → IntsAre vs ns → ns.Perm ks → ns.Pairwise (· ≤ ·) → Q (.ref D) { s with heap := h', toks := tk }) :
    wpAny (model prog w) A (call (.builtin "sorted") [.bytes b t]) Q E s := by
  subst hk
  have hl8 : b.size ≤ 8 := by rw [← KBw.ints_length b]; exact hn
  have hb : b.size ≤ sizeLine := by rw [sizeLine_eq]; omega
  refine call_function_entry kind_sorted plain_sorted entry_sorted (args_sorted1 _) ?_
  unfold Builtin.«sorted»
  refine wpAny_bind (m := checkCount "sorted" 1 1 _) (wpAny_pure ?_)
  refine wpAny_bind (collect_bytes (A := A.in1) hh hb fun h' tk acc hk hacc => ?_)
  have hI := octs_ints hacc
  have hl : acc.toList.length = b.size := by rw [Array.length_toList]; exact hacc.1
  refine wpAny_bind (wpAny_newList ?_ (by rw [hl]; exact hb))
  have hoL : (h'.push (seqObj "list" acc.toList.toArray 0)).get? h'.objs.size = some (seqObj "list" acc.toList.toArray 0) := Heap.get?_push_size _ rfl
  refine wpAny_bind (wpAny_holding (wpAny_call_entry (s := { s with heap := h'.push (seqObj "list" acc.toList.toArray 0), toks := tk }) slot_list_sort ⟨_, hoL, rfl⟩ entry_list_sort (list_sort_tree hoL hI (by omega) fun out ns' a1 a2 a3 => ⟨_, rfl, ?_⟩) (args_list_sort _)))
  refine wpAny_pure ⟨_, rfl, ?_⟩
  obtain ⟨e, he⟩ := sortedHeap_at (out := out) hoL
  have keep : ∀ b o, s.heap.get? b = some o → (sortedHeap (h'.push (seqObj "list" acc.toList.toArray 0)) h'.objs.size acc.toList out).get? b = some o := fun b o eb => by
    have h1 := hk b o eb
    have h2 := Heap.lt_size h1
    rw [sortedHeap_old (Nat.ne_of_lt h2) (by rw [size_push']; exact Nat.lt_succ_of_lt h2), Heap.get?_push_ne _ _ _ (Nat.ne_of_lt h2)]
    exact h1
  have N1 := News.push (F.keeps hk) (news := news) (fun p hp => ⟨hk _ _ (N p hp).1, (N p hp).2⟩) (seqObj "list" acc.toList.toArray 0) rfl
  have N2 : News h₀ L (sortedHeap (h'.push (seqObj "list" acc.toList.toArray 0)) h'.objs.size acc.toList out) ((h'.objs.size, W.listOf out.toList.toArray e) :: news) := by
    intro p hp
    rcases List.mem_cons.mp hp with rfl | hp
    · exact ⟨by simpa using he, (N1 _ (List.mem_cons_self ..)).2⟩
    · exact ⟨keep _ _ (N p hp).1, (N p hp).2⟩
  exact h _ e _ tk out.toList ns' (F.keeps keep) N2 (fun q hq => Heap.lt_size (hk _ _ (N q hq).1)) a1 a2 a3
end
end Mine

namespace Mine
section
variable {w : World} {E : Value → Shared → Prop} {s : Shared} {h₀ : Heap} {L : Addr} {m mg mb : Str → Option Value} {news : List (Addr × Obj)} {mean : ExcName → Option Value} {Q : Value → Shared → Prop}
local macro_rules | `(tactic| walk_at "never met Ga 0") => `(tactic| skip)
local macro_rules | `(tactic| walk_at "never met Ga 1") => `(tactic| skip)
local macro_rules | `(tactic| walk_at "call type:list") => `(tactic| (k_here; (with_reducible show wpAny _ _ (call (Value.type "list") [Value.bytes _ _]) _ _ _); (k_dflt (refine' Mine.list_K ?h ?F ?N ?k ?n ?_; (case h => with_unfolding_all rfl); (case F => k_asm); (case N => k_asm); (case k => assumption); (case n => assumption)); (intro D' c' h' tk' vs' F' N' l1 i'); (try k_lt l1))))
def gapT (row : List Int) (k : Int) : Int := if row.getD k.toNat 0 - row.getD (k - 1).toNat 0 < 0 then -(row.getD k.toNat 0 - row.getD (k - 1).toNat 0) else row.getD k.toNat 0 - row.getD (k - 1).toNat 0
def gapsI (ks : List Int) : Int := (((rangeKs 1 (((ks.length + 1 : Nat) : Int) - 1).toNat).foldl (fun l k => if ¬ gapT (ks ++ [(ks.length : Int)]) k = 1 then l ++ [k] else l) []).length : Int)
theorem gaps_c {b : Array UInt8} {ks : List Int} {t : Tok} {e1 : Env} (F : Fr h₀ L s.heap m) (X : (Mine.hd.heap_39 w.params).In h₀) (N : News h₀ L s.heap news) (T : Tp mean mg mb h₀)
   (hk : KBw.bInts b = ks) (hb : ks.length ≤ 8)
   (h : ∀ t h' tk, Fr h₀ L h' m → News h₀ L h' news → Q (.int (gapsI ks) t) { s with heap := h', toks := tk }) : wpAny (model PySem.Challenge.rw_gc0001_01.row.prog w) (callerA.deeper e1) (call (.ref 68) [.bytes b t]) Q E s := by
  w_top off
  revert X; k_fill; intro X
  refine' enter_cells (binds := [(Str.ofString "order", Value.bytes b t)]) F X T ?k6 ?k7 ?k8 ?k9 ?kB ?c5 ?c2 ?c3 ?c4 ?_
  case k6 => k_is
  case k7 => k_is
  case k8 => k_room
  case k9 => exact BindsTo.of_eq rfl
  case kB => exact rfl
  case c5 => decide
  case c2 => exact rfl
  case c3 => exact rfl
  case c4 => exact rfl
  intro g L' h₁ tk cells hg F1 N1 Y1 X1 T1
  have back : ∀ v s', (∀ b o, s.heap.get? b = some o → s'.heap.get? b = some o) → (∃ t h' tk, v = Value.int (gapsI ks) t ∧ s' = { s with heap := h', toks := tk }) → Q v s' := by
    rintro v s' hk ⟨t, h', tk, rfl, rfl⟩
    exact h t h' tk (F.grownK hk) (N.grown hk)
  clear h hg
  clear F N T X
  k_cells Y1
  k_steps
  rename Fr _ _ _ _ => kF
  rename News _ _ _ _ => kN
  exact ⟨_, _, kF, kN, (fun _ hq => nomatch hq), fun hkeep => back _ _ hkeep ⟨_, _, _, rfl, rfl⟩⟩
end
end Mine

namespace Mine
section
variable {prog : Program} {w : World} {A : Around} {E : Value → Shared → Prop} {s : Shared} {h₀ : Heap} {L D : Addr} {m : Str → Option Value} {news news' : List (Addr × Obj)} {n : Nat}
theorem cut_at : ∀ (us : List Value) (k : Nat) (y : Value), us[k]? = some y → kl_cut us k = some (us.take k, y, us.drop (k + 1))
  | [], _, _, h => by simp at h
  | x :: r, 0, y, h => by simp at h; subst h; rfl
  | x :: r, k + 1, y, h => by
    show (match kl_cut r k with | some (p, y, q) => some (x :: p, y, q) | none => none) = _
    rw [cut_at r k y (by simpa using h)]
    rfl
theorem erase_ints {us : List Value} {l : List Int} (hi : IntsAre us l) : ∀ k, IntsAre (us.eraseIdx k) (l.eraseIdx k) := by
  induction hi with
  | nil => intro k; exact .nil
  | cons i t r ih => intro k; cases k with
    | zero => exact r
    | succ k => exact .cons i t (ih k)
theorem ints_at {us : List Value} {l : List Int} (hi : IntsAre us l) : ∀ k, k < l.length → ∃ t, us[k]? = some (.int (l.getD k 0) t) := by
  induction hi with
  | nil => intro k h; cases h
  | cons i t r ih => intro k h; cases k with
    | zero => exact ⟨t, rfl⟩
    | succ k => exact ih k (by simpa using h)
theorem erase_perm : ∀ (l : List Int) (k : Nat), k < l.length → (l.getD k 0 :: l.eraseIdx k).Perm l
  | [], _, h => by cases h
  | x :: r, 0, _ => List.Perm.refl _
  | x :: r, k + 1, h => (List.Perm.swap _ _ _).trans ((erase_perm r k (by simpa using h)).cons x)
theorem perm_pop {fd lf R : List Int} {k : Nat} (hk : k < lf.length) (h : (fd ++ lf).Perm R) : ((fd ++ [lf.getD k 0]) ++ lf.eraseIdx k).Perm R := by
  rw [List.append_assoc]
  exact ((erase_perm lf k hk).append_left fd).trans h
theorem ints_push {us : List Value} {l : List Int} (hi : IntsAre us l) (x : Int) (t : Tok) : IntsAre (us ++ [.int x t]) (l ++ [x]) := by
  induction hi with
  | nil => exact .cons x t .nil
  | cons i u r ih => exact .cons i u ih
theorem pop_K {us : List Value} {l : List Int} {i : Int} {u : Tok} {Q : Value → Shared → Prop} (F : Fr h₀ L s.heap m) (N : News h₀ L s.heap news) (U : Upd D (W.listOf us.toArray n) (W.listOf (us.eraseIdx i.toNat).toArray (n + 1)) news news') (hi : IntsAre us l) (h0 : 0 ≤ i) (h1 : i < l.length)
    (hb : l.length ≤ 8) (h : ∀ h' t, Fr h₀ L h' m → News h₀ L h' news' → IntsAre (us.eraseIdx i.toNat) (l.eraseIdx i.toNat) → Q (.int (l.getD i.toNat 0) t) { s with heap := h' }) : wpAny (model prog w) A (call (.builtin "list.pop") [.ref D, .int i u]) Q E s := by
  have hl := hi.length
  obtain ⟨t, ht⟩ := ints_at hi i.toNat (by omega)
  refine kl_popAt (k := i.toNat) (p := us.take i.toNat) (q := us.drop (i.toNat + 1)) F N ?_ ?_ ?_ (by rw [← List.eraseIdx_eq_take_drop_succ]; exact U) ?_ fun h' F' N' => h h' t F' N' (erase_ints hi _)
  · simp only [Builtin.List.listFitsIndex, Bool.and_eq_true, decide_eq_true_eq]
    constructor <;> omega
  · unfold seqIndex?
    have e1 : ¬ i < 0 := by omega
    have e2 : i < (us.length : Int) := by omega
    simp [e1, h0, e2]
  · simpa using cut_at us _ _ ht
  · rw [sizeLine_eq]
    simp
    omega
end
section
variable {w : World} {E : Value → Shared → Prop} {s : Shared} {h₀ : Heap} {L : Addr} {m mg mb : Str → Option Value} {news : List (Addr × Obj)} {mean : ExcName → Option Value} {Q : Value → Shared → Prop}
local macro_rules | `(tactic| walk_at "never met Or 0") => `(tactic| skip)
local macro_rules | `(tactic| walk_at "never met Or 1") => `(tactic| skip)
local macro_rules | `(tactic| walk_at "never met Or 2") => `(tactic| skip)
local macro_rules | `(tactic| k_steps) => `(tactic| repeat' ((fail_if_success (with_reducible show wpC _ _ _ _ _ _)); (fail_if_success (with_reducible show wpAny _ _ (pyIter _) (fun it s₂ => codeC _ _ _ _ s₂) _ _)); first | (k_unfold; (try dsimp only)) | (k_end; wrow_close) | walk1 | (dsimp only; walk1) | (leave1; walk_say "STEP leave1"; try dsimp only) | fail "no step"))
local macro_rules | `(tactic| walk_at "call builtin:list.pop") => `(tactic| (k_here; (with_reducible show wpAny _ _ (call (Value.builtin "list.pop") [Value.ref _, Value.int (Int.fmod _ _) _]) _ _ _); k_dflt (refine' Mine.pop_K ?F ?N ?U ?i ?l ?z ?b ?_; (case F => k_asm); (case N => k_asm); (case U => k_upd); (case i => assumption); (case l => exact Int.fmod_nonneg_of_pos _ (by omega)); (case z => exact Int.fmod_lt_of_pos _ (by omega)); (case b => assumption)); (intro h' t' F' N' i')))
theorem order_c {l : Addr} {vs : List Value} {ns : List Int} {e1 : Env} (F : Fr h₀ L s.heap m) (X : (Mine.hd.heap_39 w.params).In h₀) (N : News h₀ L s.heap news) (T : Tp mean mg mb h₀)
   (hl : s.heap.IsList l vs.toArray) (hi : IntsAre vs ns) (h63 : ns.length ≤ 63)
   (h : ∀ (b : Array UInt8) ks t h' tk, KBw.bInts b = ks → ks.Perm (rangeKs 0 ks.length) → ks.length ≤ 8 → Fr h₀ L h' m → News h₀ L h' news → Q (.bytes b t) { s with heap := h', toks := tk }) : wpC (model PySem.Challenge.rw_gc0001_01.row.prog w) (callerA.deeper e1) (call (.ref 56) [.ref l]) Q E s := by
  w_top off
  revert X; k_fill; intro X
  refine' enter_pureC (hid := []) (binds := [(Str.ofString "script", Value.ref l)]) F X N T (fun _ hq => nomatch hq) ?k6 ?k7 ?k8 ?k9 ?kB ?c5 ?c2 ?c3 ?c4 ?_
  case k6 => k_is
  case k7 => k_is
  case k8 => k_room
  case k9 => exact BindsTo.of_eq rfl
  case kB => exact locs rfl
  case c5 => decide
  case c2 => exact rfl
  case c3 => exact rfl
  case c4 => exact rfl
  intro g L' h₁ hg hL F1 N1 X1 T1
  subst hg
  have hl' : (hideAll s.heap (([] : List (Addr × Obj)).map (·.1))).IsList l vs.toArray := hl
  have back : ∀ v s', (∀ b o, s.heap.get? b = some o → s'.heap.get? b = some o) → (∃ b' ks t h' tk, KBw.bInts b' = ks ∧ ks.Perm (rangeKs 0 ks.length) ∧ ks.length ≤ 8 ∧ v = Value.bytes b' t ∧ s' = { s with heap := h', toks := tk }) → Q v s' := by
    rintro v s' hk ⟨b', ks, t, h', tk, e, p, q, rfl, rfl⟩
    exact h b' ks t h' tk e p q (F.grownK hk) (N.grown hk)
  clear h
  clear F N T X hl
  refine execs_consA ?_
  k_steps
  rename IntsAre _ (rangeKs _ _) => hI
  rename Fr _ _ _ _ => kF
  rename News _ _ _ _ => kN
  rename (_ < _ ∧ _ < _) => l1
  (repeat (with_reducible rename IsRange _ _ _ _ _ _ _ _ => z; clear z))
  obtain ⟨n8, hn8⟩ : ∃ n8 : Nat, n8 = min 8 ns.length := ⟨_, rfl⟩
  have en : ((if (ns.length : Int) < 8 then (ns.length : Int) else 8) - 0).toNat = n8 := by split <;> omega
  rw [en] at hI
  clear en
  refine execs_consC (ForC ?_)
  k_steps
  rename IntsAre _ (List.take _ _) => hS
  rename Fr _ _ _ _ => kF
  rename News _ _ _ _ => kN
  have hSl := hS.length
  rename_i D2 vs2 c2 hx6 tkx l1a fd0 hx5 l1b D1 hx4 hx3 hx2 hx1 SL ws2 hx0 hC0 hL0 l1c
  clear hC0 hL0
  have hnS : @Ne Nat D2 fd0 := by omega
  have hnT : @Ne Nat D2 SL := by omega
  have hnU : @Ne Nat fd0 SL := by omega
  dsimp only at kF kN ⊢
  refine forC_list (vs := ws2) (nn := 0) rfl rfl rfl (fun i m nx => m (Str.ofString "left") = some (Value.ref D2) ∧ m (Str.ofString "found") = some (Value.ref fd0) ∧
    ∃ us c ws c' lf fd, nx = [(SL, W.listOf ws2.toArray 0), (fd0, W.listOf (List.toArray ws) c'), (D2, W.listOf (List.toArray us) c)] ∧ IntsAre us lf ∧ IntsAre ws fd ∧ lf.length + i = n8 ∧ fd.length = i ∧ (fd ++ lf).Perm (rangeKs 0 n8)) (fun i m nx hJ => ?_) kF (fun p hp => kN p ?_) ⟨rfl, rfl, vs2, c2, [], 0, _, [], rfl, hI, .nil, ?_, rfl, ?_⟩ ?_ ?_
  · obtain ⟨_, _, us, c, ws, c', lf, fd, rfl, _⟩ := hJ
    exact .head _
  · simp only [List.mem_cons, List.not_mem_nil, or_false] at hp ⊢
    rcases hp with rfl | rfl | rfl <;> simp
  · rw [rangeKs_length]; omega
  · exact List.Perm.refl _
  · (repeat (with_reducible rename Fr _ _ _ _ => z; clear z)); (repeat (with_reducible rename News _ _ _ _ => z; clear z)); (repeat (with_reducible rename IsRange _ _ _ _ _ _ _ _ => z; clear z))
    rintro i v m₁ nx h2 tk2 I oI hv ⟨hd1, hd2, us, c, ws, c', lf, fd, rfl, hI2, hw2, hlen, hfd, hperm⟩ hne F3 N3
    dsimp only [envOf] at F3 N3 ⊢
    have e := named m₁ [(Str.ofString "left", Value.ref D2), (Str.ofString "found", Value.ref fd0)] (by simp [hd1, hd2])
    rw [e] at F3
    simp only [kstB] at F3
    clear e
    have hi8 : i < (List.take 8 ns).length := by
      rw [← hSl]
      exact (List.getElem?_eq_some_iff.mp hv).1
    obtain ⟨ti, hti⟩ := ints_at hS i hi8
    rw [hti] at hv
    obtain rfl := (Option.some.inj hv).symm
    clear hv
    have hi9 : i < n8 := by rw [List.length_take] at hi8; omega
    have hlp : 0 < lf.length := by omega
    have hl8 : lf.length ≤ 8 := by omega
    have hq1 : @Ne Nat SL I := hne _ (.head _)
    have hq2 : @Ne Nat fd0 I := hne _ (.tail _ (.head _))
    have hq3 : @Ne Nat D2 I := hne _ (.tail _ (.tail _ (.head _)))
    have hwl := hw2.length
    have hul := hI2.length
    refine execs_consA ?_
    k_steps
    rename Fr _ _ _ _ => kF
    rename News _ _ _ _ => kN
    rename IntsAre (us.eraseIdx _) _ => hE
    dsimp only
    refine execs_nilC ?_
    have hz0 := Int.fmod_nonneg_of_pos ((List.take 8 ns).getD i 0) (b := (lf.length : Int)) (by omega)
    have hz1 := Int.fmod_lt_of_pos ((List.take 8 ns).getD i 0) (b := (lf.length : Int)) (by omega)
    generalize ((List.take 8 ns).getD i 0).fmod (lf.length : Int) = z at hz0 hz1 hE kN
    rw [List.push_toArray] at kN
    refine turn_next kF kN ?_ ⟨rfl, rfl, _, _, _, _, _, _, rfl, hE, ints_push hw2 _ _, ?_, ?_, perm_pop (by omega) hperm⟩
    · intro p hp
      simp only [List.mem_cons, List.not_mem_nil, or_false] at hp
      rcases hp with rfl | rfl | rfl
      · exact hq1
      · exact hq2
      · exact hq3
    · rw [List.length_eraseIdx_of_lt (by omega)]; omega
    · rw [List.length_append, hfd]; rfl
  · (repeat (with_reducible rename Fr _ _ _ _ => z; clear z)); (repeat (with_reducible rename News _ _ _ _ => z; clear z)); (repeat (with_reducible rename IsRange _ _ _ _ _ _ _ _ => z; clear z))
    rintro h2 tk2 m₁ nx F3 N3 ⟨hd1, hd2, us, c, ws, c', lf, fd, rfl, hI2, hw2, hlen, hfd, hperm⟩
    dsimp only [envOf] at F3 N3 ⊢
    have e := named m₁ [(Str.ofString "found", Value.ref fd0)] (by simp [hd2])
    rw [e] at F3
    simp only [kstB] at F3
    clear e
    have hw8 : ws2.length = n8 := by rw [hSl, List.length_take]; omega
    have hl0 : lf = [] := List.eq_nil_of_length_eq_zero (by omega)
    subst hl0
    rw [List.append_nil] at hperm
    have hfl : fd.length ≤ 8 := by omega
    have hin : KBa.In fd := fun x hx => by
      have := mem_rangeKs (hperm.mem_iff.mp hx)
      omega
    have hwl := hw2.length
    refine execs_consA ?_
    k_steps
    rename Fr _ _ _ _ => kF
    rename News _ _ _ _ => kN
    refine ⟨_, _, kF, kN, (fun _ hp => nomatch hp), fun hkeep => back _ _ hkeep ⟨_, fd, _, _, _, KBa.ints_make hin, ?_, hfl, rfl, rfl⟩⟩
    rw [hfd, hw8]
    exact hperm
end
end Mine

namespace Mine
abbrev flips (ms H : List Int) : List Int := ms.foldl (fun h k => flip h k.toNat) H
structure Inv (O : List Int) (n i : Nat) (H ts : List Int) : Prop where
  len : O.length = n
  n8 : n ≤ 8
  operm : O.Perm (rangeKs 0 n)
  perm : H.Perm (rangeKs 0 n)
  done : ∀ j, n - i ≤ j → j < n → H.getD j 0 = (j : Int)
  count : ts.length ≤ 2 * i ∧ ts.length ≤ 2 * n - 3
  back : flips ts.reverse H = O
  gaps : gapsI O ≤ gapsI H + ts.length
  tin : ∀ t ∈ ts, 0 < t ∧ t ≤ (n : Int)
structure Best (H : List Int) (p : Nat) (β : Int) : Prop where
  lo : 0 ≤ β
  hi : β < p
  top : ∀ j, j < p → H.getD j 0 ≤ H.getD β.toNat 0
def manyOf (n i : Nat) (β : Int) : List Int := (if 0 < β then [β + 1] else []) ++ [(n : Int) - i]

/-! the turning -/
theorem flip_length (H : List Int) (k : Nat) : (flip H k).length = H.length := by
  unfold flip
  rw [List.length_append, List.length_reverse, List.length_take, List.length_drop]
  omega
theorem flip_perm (H : List Int) (k : Nat) : (flip H k).Perm H :=
  ((List.reverse_perm _).append_right _).trans (by rw [List.take_append_drop])
theorem flip_flip (H : List Int) {k : Nat} (h : k ≤ H.length) : flip (flip H k) k = H := by
  have hl : ((H.take k).reverse).length = k := by rw [List.length_reverse, List.length_take]; omega
  unfold flip
  rw [List.take_left' hl, List.drop_left' hl, List.reverse_reverse, List.take_append_drop]
theorem flip_ge (H : List Int) {k j : Nat} (h : k ≤ H.length) (hj : k ≤ j) : (flip H k).getD j 0 = H.getD j 0 := by
  have hl : ((H.take k).reverse).length = k := by rw [List.length_reverse, List.length_take]; omega
  unfold flip
  rw [List.getD_eq_getElem?_getD, List.getElem?_append_right (by omega), hl, List.getElem?_drop, List.getD_eq_getElem?_getD]
  rw [show k + (j - k) = j from by omega]
theorem flip_lt (H : List Int) {k j : Nat} (h : k ≤ H.length) (hj : j < k) : (flip H k).getD j 0 = H.getD (k - 1 - j) 0 := by
  have hl : ((H.take k).reverse).length = k := by rw [List.length_reverse, List.length_take]; omega
  have hl2 : (H.take k).length = k := by rw [List.length_take]; omega
  unfold flip
  rw [List.getD_eq_getElem?_getD, List.getElem?_append_left (by omega), List.getElem?_reverse (by omega), hl2, List.getElem?_take, if_pos (by omega), List.getD_eq_getElem?_getD]
theorem flips_length : ∀ (ms H : List Int), (flips ms H).length = H.length
  | [], _ => rfl
  | t :: ms, H => (flips_length ms (flip H t.toNat)).trans (flip_length _ _)
theorem flips_perm : ∀ (ms H : List Int), (flips ms H).Perm H
  | [], _ => List.Perm.refl _
  | t :: ms, H => (flips_perm ms (flip H t.toNat)).trans (flip_perm _ _)
theorem flips_append (xs ys H : List Int) : flips (xs ++ ys) H = flips ys (flips xs H) := List.foldl_append
theorem flips_back : ∀ (ms H : List Int), (∀ t ∈ ms, 0 < t ∧ t ≤ (H.length : Int)) → flips ms.reverse (flips ms H) = H
  | [], _, _ => rfl
  | t :: ms, H, h => by
    have ht := h t (.head _)
    have ih := flips_back ms (flip H t.toNat) (fun u hu => by rw [flip_length]; exact h u (.tail _ hu))
    rw [List.reverse_cons, flips_append]
    show flip (flips ms.reverse (flips ms (flip H t.toNat))) t.toNat = H
    rw [ih]
    exact flip_flip H (by omega)

/-! the gaps -/
def bad (a b : Int) : Nat := if ¬ (if b - a < 0 then -(b - a) else b - a) = 1 then 1 else 0
def gl : List Int → Nat
  | a :: b :: r => bad a b + gl (b :: r)
  | _ => 0
theorem bad_le (a b : Int) : bad a b ≤ 1 := by unfold bad; (repeat' split) <;> omega
theorem bad_comm (a b : Int) : bad a b = bad b a := by
  unfold bad
  (repeat' split) <;> omega
theorem gl_split : ∀ (xs ys : List Int), xs ≠ [] → ys ≠ [] → ∃ e, e ≤ 1 ∧ gl (xs ++ ys) = gl xs + e + gl ys
  | [], _, h, _ => absurd rfl h
  | [a], [], _, h => absurd rfl h
  | [a], b :: r, _, _ => ⟨bad a b, bad_le _ _, by show bad a b + gl (b :: r) = 0 + bad a b + gl (b :: r); omega⟩
  | a :: b :: r, ys, _, hy => by
    obtain ⟨e, he, h⟩ := gl_split (b :: r) ys (by simp) hy
    refine ⟨e, he, ?_⟩
    show bad a b + gl ((b :: r) ++ ys) = bad a b + gl (b :: r) + e + gl ys
    rw [h]
    omega
theorem gl_snoc : ∀ (xs : List Int) (b a : Int), gl ((xs ++ [b]) ++ [a]) = gl (xs ++ [b]) + bad b a
  | [], b, a => by show bad b a + 0 = 0 + bad b a; omega
  | [x], b, a => by show bad x b + (bad b a + 0) = bad x b + 0 + bad b a; omega
  | x :: y :: r, b, a => by
    have h := gl_snoc (y :: r) b a
    show bad x y + gl (((y :: r) ++ [b]) ++ [a]) = bad x y + gl ((y :: r) ++ [b]) + bad b a
    rw [h]
    omega
theorem gl_reverse : ∀ xs : List Int, gl xs.reverse = gl xs
  | [] => rfl
  | [a] => rfl
  | a :: b :: r => by
    have h := gl_reverse (b :: r)
    rw [List.reverse_cons] at h
    rw [List.reverse_cons, List.reverse_cons, gl_snoc, h, bad_comm]
    show gl (b :: r) + bad a b = bad a b + gl (b :: r)
    omega
theorem foldl_filter (P : Int → Prop) [DecidablePred P] : ∀ (ks acc : List Int), ks.foldl (fun l k => if P k then l ++ [k] else l) acc = acc ++ ks.filter (fun k => decide (P k))
  | [], acc => by simp
  | k :: ks, acc => by
    rw [List.foldl_cons, foldl_filter P ks]
    by_cases h : P k <;> simp [h]
def cnt (R : List Int) (N : Nat) : Nat := ((List.range N).filter fun i => decide (bad (R.getD i 0) (R.getD (i + 1) 0) = 1)).length
theorem cnt_gl : ∀ (R : List Int) (N : Nat), R.length = N + 1 → cnt R N = gl R
  | [], _, h => by cases h
  | [a], N, h => by
    have : N = 0 := by simp at h; omega
    subst this
    rfl
  | a :: b :: r, N, h => by
    obtain ⟨M, rfl⟩ : ∃ M, N = M + 1 := ⟨r.length, by simp at h; omega⟩
    have ih := cnt_gl (b :: r) M (by simp at h ⊢; omega)
    unfold cnt at ih ⊢
    rw [List.range_succ_eq_map, List.filter_cons, List.filter_map]
    have e : ((fun i => decide (bad ((a :: b :: r).getD i 0) ((a :: b :: r).getD (i + 1) 0) = 1)) ∘ Nat.succ) = fun i => decide (bad ((b :: r).getD i 0) ((b :: r).getD (i + 1) 0) = 1) := by
      funext i
      rfl
    rw [e]
    show _ = bad a b + gl (b :: r)
    rw [← ih]
    have hb := bad_le a b
    show (if decide (bad a b = 1) = true then _ else _ : List Nat).length = _
    by_cases h1 : bad a b = 1
    · rw [if_pos (by simpa using h1), List.length_cons, List.length_map, h1]
      omega
    · rw [if_neg (by simpa using h1), List.length_map, show bad a b = 0 from by omega]
      omega
theorem gaps_gl (ks : List Int) : gapsI ks = (gl (ks ++ [(ks.length : Int)]) : Int) := by
  unfold gapsI
  rw [foldl_filter (fun k => ¬ gapT (ks ++ [(ks.length : Int)]) k = 1)]
  rw [← cnt_gl (ks ++ [(ks.length : Int)]) ks.length (by simp)]
  have e0 : (((ks.length + 1 : Nat) : Int) - 1).toNat = ks.length := by omega
  rw [e0, List.nil_append]
  unfold cnt rangeKs
  rw [List.filter_map, List.length_map]
  congr 3
  funext i
  have e1 : ((1 : Int) + (i : Int)).toNat = i + 1 := by omega
  have e2 : ((1 : Int) + (i : Int) - 1).toNat = i := by omega
  simp only [Function.comp, gapT, e1, e2, bad]
  congr 1
  apply propext
  constructor
  · intro h; rw [if_pos h]
  · intro h hz; rw [if_neg (fun hh => hh hz)] at h; cases h
theorem gaps_flip (H : List Int) {k : Nat} (h0 : 0 < k) (h1 : k ≤ H.length) : -1 ≤ gapsI (flip H k) - gapsI H ∧ gapsI (flip H k) - gapsI H ≤ 1 := by
  rw [gaps_gl, gaps_gl, flip_length]
  have hP : H.take k ≠ [] := fun e => by
    have := congrArg List.length e
    rw [List.length_take, List.length_nil] at this
    omega
  have hS : H.drop k ++ [(H.length : Int)] ≠ [] := by simp
  obtain ⟨e, he, h⟩ := gl_split (H.take k) _ hP hS
  obtain ⟨e', he', h'⟩ := gl_split (H.take k).reverse _ (by simpa using hP) hS
  rw [← List.append_assoc, List.take_append_drop] at h
  rw [← List.append_assoc, gl_reverse] at h'
  have h'' : gl (flip H k ++ [(H.length : Int)]) = gl (H.take k) + e' + gl (H.drop k ++ [(H.length : Int)]) := h'
  rw [h, h'']
  omega
theorem flips_gaps : ∀ (ms H : List Int), (∀ t ∈ ms, 0 < t ∧ t ≤ (H.length : Int)) → gapsI H ≤ gapsI (flips ms H) + ms.length
  | [], H, _ => by show gapsI H ≤ gapsI H + ((0 : Nat) : Int); omega
  | t :: ms, H, h => by
    have ht := h t (.head _)
    have ih := flips_gaps ms (flip H t.toNat) (fun u hu => by rw [flip_length]; exact h u (.tail _ hu))
    have := gaps_flip H (k := t.toNat) (by omega) (by omega)
    show gapsI H ≤ gapsI (flips ms (flip H t.toNat)) + ((ms.length + 1 : Nat) : Int)
    omega

/-! the sorting -/
theorem rangeKs_nodup (n : Nat) : (rangeKs 0 n).Nodup := by
  unfold rangeKs
  exact List.pairwise_map.mpr (List.pairwise_lt_range.imp fun h => by omega)
theorem rangeKs_le (n : Nat) : (rangeKs 0 n).Pairwise (· ≤ ·) := by
  unfold rangeKs
  exact List.pairwise_map.mpr (List.pairwise_lt_range.imp fun h => by omega)
theorem mem_range_of {n : Nat} {x : Int} (h0 : 0 ≤ x) (h1 : x < n) : x ∈ rangeKs 0 n := by
  unfold rangeKs
  exact List.mem_map.mpr ⟨x.toNat, List.mem_range.mpr (by omega), by omega⟩
theorem sorted_range {l : List Int} {n : Nat} (h : l.Perm (rangeKs 0 n)) (s : l.Pairwise (· ≤ ·)) : l = rangeKs 0 n :=
  List.Perm.eq_of_pairwise (fun _ _ _ _ a b => Int.le_antisymm a b) s (rangeKs_le n) h
section
variable {O H ts : List Int} {n i : Nat} {β : Int}
theorem Inv.start (h : O.Perm (rangeKs 0 O.length)) (h8 : O.length ≤ 8) : Inv O O.length 0 O [] where
  len := rfl
  n8 := h8
  operm := h
  perm := h
  done := fun j h1 h2 => by omega
  count := ⟨Nat.zero_le _, Nat.zero_le _⟩
  back := rfl
  gaps := by show gapsI O ≤ gapsI O + ((0 : Nat) : Int); omega
  tin := fun _ hq => nomatch hq
theorem Inv.hlen (I : Inv O n i H ts) : H.length = n := I.perm.length_eq.trans (rangeKs_length _ _)
theorem Inv.nodup (I : Inv O n i H ts) : H.Nodup := I.perm.nodup_iff.mpr (rangeKs_nodup n)
theorem Inv.ne (I : Inv O n i H ts) {a b : Nat} (h : a < b) (hb : b < n) : H.getD a 0 ≠ H.getD b 0 := by
  have hl := I.hlen
  have := (List.pairwise_iff_getElem.mp I.nodup) a b (by omega) (by omega) h
  rw [List.getD_eq_getElem?_getD, List.getD_eq_getElem?_getD, List.getElem?_eq_getElem (by omega), List.getElem?_eq_getElem (by omega)]
  exact this
theorem Inv.val (I : Inv O n i H ts) {a : Nat} (h : a < n) : 0 ≤ H.getD a 0 ∧ H.getD a 0 < n := by
  have hl := I.hlen
  rw [List.getD_eq_getElem?_getD, List.getElem?_eq_getElem (by omega)]
  have := mem_rangeKs (I.perm.mem_iff.mp (List.getElem_mem (l := H) (n := a) (by omega)))
  show 0 ≤ H[a] ∧ H[a] < (n : Int)
  omega
theorem Inv.at (I : Inv O n i H ts) {x : Int} (h0 : 0 ≤ x) (h1 : x < n) : ∃ q, q < n ∧ H.getD q 0 = x := by
  obtain ⟨q, hq, e⟩ := List.getElem_of_mem (I.perm.mem_iff.mpr (mem_range_of h0 h1))
  refine ⟨q, by have := I.hlen; omega, ?_⟩
  rw [List.getD_eq_getElem?_getD, List.getElem?_eq_getElem hq]
  exact e
theorem Inv.best (I : Inv O n i H ts) (hi : i + 1 < n) (B : Best H (n - i) β) : H.getD β.toNat 0 = (n : Int) - i - 1 := by
  have h0 := B.lo
  have h1 := B.hi
  obtain ⟨q, hq, e⟩ := I.at (x := (n : Int) - i - 1) (by omega) (by omega)
  have hqm : q < n - i := by
    refine Nat.lt_of_not_le fun hz => ?_
    have := I.done q hz hq
    omega
  have h2 := B.top q hqm
  have h3 := I.val (a := β.toNat) (by omega)
  by_cases h4 : H.getD β.toNat 0 < (n : Int) - i
  · omega
  · exfalso
    obtain ⟨v, hv⟩ := Int.eq_ofNat_of_zero_le h3.1
    have h5 := I.done v (by omega) (by omega)
    exact I.ne (a := β.toNat) (b := v) (by omega) (by omega) (by omega)
theorem Inv.keep (I : Inv O n i H ts) (hi : i + 1 < n) (B : Best H (n - i) β) (e : β = (n : Int) - i - 1) : Inv O n (i + 1) H ts where
  len := I.len
  n8 := I.n8
  operm := I.operm
  perm := I.perm
  done := fun j h1 h2 => by
    by_cases h3 : n - i ≤ j
    · exact I.done j h3 h2
    · have hb := I.best hi B
      have : β.toNat = j := by omega
      rw [this] at hb
      omega
  count := ⟨by have := I.count.1; omega, I.count.2⟩
  back := I.back
  gaps := I.gaps
  tin := I.tin
theorem many_in (hi : i + 1 < n) (B : Best H (n - i) β) : ∀ t ∈ manyOf n i β, 0 < t ∧ t ≤ (n : Int) := by
  have h0 := B.lo
  have h1 := B.hi
  intro t ht
  unfold manyOf at ht
  split at ht <;> simp at ht <;> omega
theorem Inv.turn (I : Inv O n i H ts) (hi : i + 1 < n) (B : Best H (n - i) β) (e : β ≠ (n : Int) - i - 1) : Inv O n (i + 1) (flips (manyOf n i β) H) (ts ++ manyOf n i β) where
  len := I.len
  n8 := I.n8
  operm := I.operm
  perm := (flips_perm _ _).trans I.perm
  done := fun j h1 h2 => by
    have h0 := B.lo
    have hh := B.hi
    have hl := I.hlen
    have hb := I.best hi B
    have hN : ((n : Int) - (i : Int)).toNat = n - i := by omega
    unfold manyOf
    by_cases hβ : 0 < β
    · rw [if_pos hβ]
      show (flip (flip H (β + 1).toNat) ((n : Int) - (i : Int)).toNat).getD j 0 = (j : Int)
      have hB1 : (β + 1).toNat = β.toNat + 1 := by omega
      rw [hN, hB1]
      by_cases h3 : n - i ≤ j
      · rw [flip_ge _ (by rw [flip_length]; omega) h3, flip_ge _ (by omega) (by omega)]
        exact I.done j h3 h2
      · rw [flip_lt _ (by rw [flip_length]; omega) (by omega), flip_lt _ (by omega) (by omega)]
        rw [show β.toNat + 1 - 1 - (n - i - 1 - j) = β.toNat from by omega, hb]
        omega
    · rw [if_neg hβ]
      show (flip H ((n : Int) - (i : Int)).toNat).getD j 0 = (j : Int)
      rw [hN]
      by_cases h3 : n - i ≤ j
      · rw [flip_ge _ (by omega) h3]
        exact I.done j h3 h2
      · rw [flip_lt _ (by omega) (by omega)]
        rw [show n - i - 1 - j = β.toNat from by omega, hb]
        omega
  count := by
    have h0 := B.lo
    have hh := B.hi
    have h1 := I.count.1
    rw [List.length_append]
    unfold manyOf
    split
    · simp only [List.length_append, List.length_cons, List.length_nil]
      omega
    · simp only [List.length_append, List.length_cons, List.length_nil]
      omega
  back := by
    rw [List.reverse_append, flips_append, flips_back _ _ (by rw [I.hlen]; exact many_in hi B)]
    exact I.back
  gaps := by
    have h1 := I.gaps
    have h2 := flips_gaps (manyOf n i β) H (by rw [I.hlen]; exact many_in hi B)
    rw [List.length_append]
    omega
  tin := fun t ht => (List.mem_append.mp ht).elim (I.tin t) (many_in hi B t)
theorem Best.start : Best H 1 0 := ⟨by omega, by omega, fun j hj => by rw [show j = 0 from by omega]; exact Int.le_refl _⟩
theorem Best.up {p : Nat} (B : Best H p β) (h : H.getD β.toNat 0 < H.getD p 0) : Best H (p + 1) p where
  lo := by omega
  hi := by omega
  top := fun j hj => by
    rw [Int.toNat_natCast]
    by_cases h1 : j < p
    · exact Int.le_of_lt (Int.lt_of_le_of_lt (B.top j h1) h)
    · rw [show j = p from by omega]; exact Int.le_refl _
theorem Best.stay {p : Nat} (B : Best H p β) (h : H.getD p 0 ≤ H.getD β.toNat 0) : Best H (p + 1) β where
  lo := B.lo
  hi := by have := B.hi; omega
  top := fun j hj => by
    by_cases h1 : j < p
    · exact B.top j h1
    · rw [show j = p from by omega]; exact h
theorem Inv.distinct (I : Inv O n i H ts) {a b : Int} (h0 : 0 ≤ a) (h1 : a < b) (h2 : b < n) : cmpI (H.getD a.toNat 0) (H.getD b.toNat 0) = 0 - cmpI (H.getD b.toNat 0) (H.getD a.toNat 0) ∧ cmpI (H.getD b.toNat 0) (H.getD a.toNat 0) ≠ 0 := by
  have h := I.ne (a := a.toNat) (b := b.toNat) (by omega) (by omega)
  unfold cmpI
  (repeat' split) <;> omega
theorem cmpI_pos {a b : Int} : 0 < cmpI a b ↔ b < a := by
  unfold cmpI
  (repeat' split) <;> omega
theorem Inv.finish (I : Inv O n (n - 1) H ts) : H = rangeKs 0 n ∧ gapsI H = 0 := by
  have hl := I.hlen
  have key : ∀ j, j < n → H.getD j 0 = (j : Int) := fun j hj => by
    by_cases h1 : n - (n - 1) ≤ j
    · exact I.done j h1 hj
    · have hj0 : j = 0 := by omega
      subst hj0
      obtain ⟨q, hq, e⟩ := I.at (x := 0) (by omega) (by omega)
      by_cases hq0 : q = 0
      · subst hq0; exact e
      · have := I.done q (by omega) hq
        omega
  have e : H = rangeKs 0 n := by
    apply List.ext_getElem (by rw [hl, rangeKs_length])
    intro j h1 h2
    have := key j (by omega)
    rw [List.getD_eq_getElem?_getD, List.getElem?_eq_getElem h1] at this
    simp only [Option.getD_some] at this
    rw [this]
    simp [rangeKs]
  refine ⟨e, ?_⟩
  rw [e]
  have h8 := I.n8
  have hc : n = 0 ∨ n = 1 ∨ n = 2 ∨ n = 3 ∨ n = 4 ∨ n = 5 ∨ n = 6 ∨ n = 7 ∨ n = 8 := by omega
  rcases hc with rfl | rfl | rfl | rfl | rfl | rfl | rfl | rfl | rfl <;> decide
end
end Mine

namespace Mine
section
variable {prog : Program} {w : World} {A : Around} {E : Value → Shared → Prop} {s : Shared} {K : Frag} {mg mb : Str → Option Value} {p : Program} {loose : List Str} {mean : ExcName → Option Value}
  {name qual : Str} {params : Arguments} {body : List Stmt} {scope : Scope} {dV kV doc pm cdv ct oc : Value} {an od : Option Addr} {osl : Array (Option Value)} {f : Addr} {args : List Value} {binds : List (Str × Value)} {Q : Value → Shared → Prop}
theorem enter_topC (X : K.In s.heap) (T : Top p loose mean mg mb s.heap)
    (ho : K.lookup f = some ⟨oc, od, .func (fnOf name qual params body scope dV kV doc pm an cdv ct), osl⟩) (hcd : codeIn K cdv qual = true) (hroom : A.depth < recursionLimit)
    (hbind : BindsTo s (fnOf name qual params body scope dV kV doc pm an cdv ct) ⟨args, []⟩ binds) (hloc : ∀ y ∈ binds, scope.names.lookup y.1 = some .local)
    (hcell : ∀ x ∈ scope.names, x.2 ≠ .cell) (hco : scope.isCoroutine = false) (hgen : scope.isGenerator = false) (hk : scope.kind = .function)
    (h : ∀ g L' h₁, g = s.heap → L' = s.heap.objs.size → Fr g L' h₁ (fun y => binds.reverse.lookup y) → News g L' h₁ [] → K.In g → Top p loose mean mg mb g →
      wpC (model prog w) (A.deeper (envOf qual scope L' f cdv)) (execs body (envOf qual scope L' f cdv)) (PureEnd g L' [] s Q) (fun _ _ => False) { s with heap := h₁, toks := s.toks + binds.length }) :
    wpC (model prog w) A (call (.ref f) args) Q E s := by
  refine wpC_call (codeC_call_def (fd := fnOf name qual params body scope dV kV doc pm an cdv ct) (body := body) (binds := binds) hroom (X _ _ ho) rfl T.nolimit (codeRec_of X hcd) rfl hbind hcell hloc (fun h₁ hns hk₁ => ?_) hco hgen hk)
  exact wpC_mono (h s.heap s.heap.objs.size h₁ rfl rfl ⟨hns, hk₁, Nat.le_refl _⟩ (fun _ hq => nomatch hq) X T) (fun fl s' hl => by cases fl <;> exact hl.out (hid := []) (fun _ hq => nomatch hq)) fun _ _ x => x.elim
end
section
variable {w : World} {E : Value → Shared → Prop} {s : Shared} {mg mb : Str → Option Value} {mean : ExcName → Option Value} {Q : Value → Shared → Prop}
theorem range_down {n : Nat} (h : n ≤ 8) : Builtin.Range.small (n : Int) 1 (0 - 1) = true ∧ Builtin.Range.rangeSize (n : Int) 1 (0 - 1) = ((n - 1 : Nat) : Int) := by
  have hc : n = 0 ∨ n = 1 ∨ n = 2 ∨ n = 3 ∨ n = 4 ∨ n = 5 ∨ n = 6 ∨ n = 7 ∨ n = 8 := by omega
  rcases hc with rfl | rfl | rfl | rfl | rfl | rfl | rfl | rfl | rfl <;> decide
local macro_rules | `(tactic| walk_at "never met La 0") => `(tactic| skip)
local macro_rules | `(tactic| walk_at "never met La 1") => `(tactic| skip)
local macro_rules | `(tactic| walk_at "never met La 2") => `(tactic| skip)
local macro_rules | `(tactic| walk_at "never met La 3") => `(tactic| skip)
local macro_rules | `(tactic| k_steps) => `(tactic| repeat' ((fail_if_success (with_reducible show wpC _ _ _ _ _ _)); (fail_if_success (with_reducible show wpAny _ _ (pyIter _) (fun it s₂ => codeC _ _ _ _ s₂) _ _)); first | (k_unfold; (try dsimp only)) | (k_end; wrow_close) | walk1 | (dsimp only; walk1) | (leave1; walk_say "STEP leave1"; try dsimp only) | fail "no step"))
theorem range_up {n : Nat} (h : n ≤ 8) : Builtin.Range.small 1 (n : Int) 1 = true ∧ Builtin.Range.rangeSize 1 (n : Int) 1 = ((n - 1 : Nat) : Int) := by
  have hc : n = 0 ∨ n = 1 ∨ n = 2 ∨ n = 3 ∨ n = 4 ∨ n = 5 ∨ n = 6 ∨ n = 7 ∨ n = 8 := by omega
  rcases hc with rfl | rfl | rfl | rfl | rfl | rfl | rfl | rfl | rfl <;> decide
/-- what every loop of the law's keeps -/
def Jo (w : World) (b : Array UInt8) (t : Tok) (O : List Int) (x dx lx Dx : Addr) (kt ta tb : Tok) (H ts : List Int) (m : Str → Option Value) (nx : List (Addr × Obj)) : Prop :=
  m (Str.ofString "order") = some (Value.bytes b t) ∧ m (Str.ofString "told") = some (Value.ref x) ∧ ∃ bh th tl us c, m (Str.ofString "here") = some (Value.bytes bh th) ∧ m (Str.ofString "turnings") = some (Value.ref tl) ∧
    nx = (tl, W.listOf (List.toArray us) c) :: toldL w x dx lx Dx kt ta tb ∧ KBw.bInts bh = H ∧ IntsAre us ts ∧ H.length = O.length
/-- the list of the turnings of one size -/
def ManyMade (w : World) (b : Array UInt8) (t : Tok) (x dx lx Dx : Addr) (kt ta tb : Tok) (g : Heap) (L' I : Addr) (oI : Obj) (bh : Array UInt8) (th : Tok) (tl : Addr) (us : List Value) (c : Nat) (ms : List Int) (s : Shared) (v : Value) (s' : Shared) : Prop :=
  ∃ D vsm h' tk' m', v = Value.ref D ∧ s' = { s with heap := h', toks := tk' } ∧ Fr g L' h' m' ∧ News g L' h' ((D, W.listOf (List.toArray vsm) 0) :: (I, oI) :: (tl, W.listOf us.toArray c) :: toldL w x dx lx Dx kt ta tb) ∧
    (∀ q ∈ (I, oI) :: (tl, W.listOf us.toArray c) :: toldL w x dx lx Dx kt ta tb, @LT.lt Nat _ q.1 D) ∧ IntsAre vsm ms ∧ m' (Str.ofString "order") = some (Value.bytes b t) ∧ m' (Str.ofString "told") = some (Value.ref x) ∧ m' (Str.ofString "here") = some (Value.bytes bh th) ∧ m' (Str.ofString "turnings") = some (Value.ref tl)
theorem ManyMade.mk {b : Array UInt8} {t : Tok} {x dx lx Dx : Addr} {kt ta tb : Tok} {g : Heap} {L' I : Addr} {oI : Obj} {bh : Array UInt8} {th : Tok} {tl : Addr} {us : List Value} {c : Nat} {ms : List Int} {D : Addr} {vsm : List Value} {h' : Heap} {tk' : Nat} {m' : Str → Option Value} {rest : List (Addr × Obj)}
    (kF : Fr g L' h' m') (kN : News g L' h' ((D, W.listOf (List.toArray vsm) 0) :: rest)) (hsub : ∀ q ∈ (I, oI) :: (tl, W.listOf us.toArray c) :: toldL w x dx lx Dx kt ta tb, q ∈ rest)
    (hlt : ∀ q ∈ (I, oI) :: (tl, W.listOf us.toArray c) :: toldL w x dx lx Dx kt ta tb, @LT.lt Nat _ q.1 D) (hms : IntsAre vsm ms)
    (h1 : m' (Str.ofString "order") = some (Value.bytes b t)) (h2 : m' (Str.ofString "told") = some (Value.ref x)) (h3 : m' (Str.ofString "here") = some (Value.bytes bh th)) (h4 : m' (Str.ofString "turnings") = some (Value.ref tl)) :
    ManyMade w b t x dx lx Dx kt ta tb g L' I oI bh th tl us c ms s (.ref D) { s with heap := h', toks := tk' } :=
  ⟨_, _, _, _, _, rfl, rfl, kF, fun q hq => (List.mem_cons.mp hq).elim (fun e => e ▸ kN _ (.head _)) fun e => kN q (.tail _ (hsub q e)), hlt, hms, h1, h2, h3, h4⟩
theorem bInts_inj {b c : Array UInt8} (h : KBw.bInts b = KBw.bInts c) : b = c := by
  apply Array.toList_inj.mp
  have key : ∀ l k : List UInt8, (l.map fun u : UInt8 => (u.toNat : Int)) = (k.map fun u : UInt8 => (u.toNat : Int)) → l = k := by
    intro l
    induction l with
    | nil => intro k hk; cases k with
      | nil => rfl
      | cons _ _ => cases hk
    | cons a l ih => intro k hk; cases k with
      | nil => cases hk
      | cons d k =>
        simp only [List.map_cons, List.cons.injEq] at hk
        have e1 : a = d := UInt8.toNat_inj.mp (by omega)
        rw [e1, ih k hk.2]
  exact key _ _ h
theorem turn_pack {g h : Heap} {L : Addr} {a b e1 e2 e3 e4 e : Addr × Obj} {rest : List (Addr × Obj)} (N : News g L h (a :: e :: b :: e1 :: e2 :: e3 :: e4 :: rest)) : News g L h (e1 :: e2 :: e3 :: e :: rest) := fun p hp => N p (by
  simp only [List.mem_cons] at hp ⊢
  rcases hp with rfl | rfl | rfl | rfl | hp <;> simp [*])
theorem slice_one {ks : List Int} {i : Int} (h0 : 0 ≤ i) (h1 : i < ks.length) : (ks.drop (clipAt ks.length i)).take (clipAt ks.length (i + 1) - clipAt ks.length i) = [ks.getD i.toNat 0] := by
  obtain ⟨k, rfl⟩ := Int.eq_ofNat_of_zero_le h0
  have e1 : clipAt ks.length (k : Int) = k := by rw [clipAt_nat]; omega
  have e2 : clipAt ks.length ((k : Int) + 1) = k + 1 := by
    have : (k : Int) + 1 = ((k + 1 : Nat) : Int) := by omega
    rw [this, clipAt_nat]; omega
  have hk : k < ks.length := by omega
  rw [e1, e2, show k + 1 - k = 1 from by omega, Int.toNat_natCast, List.getD_eq_getElem?_getD, List.getElem?_eq_getElem hk]
  rw [List.drop_eq_getElem_cons hk]
  rfl
theorem compare_one {h₀ : Heap} {L : Addr} {m : Str → Option Value} {news : List (Addr × Obj)} {x dx l D : Addr} {kt t0 t1 : Tok} {bl br : Array UInt8} {a c : Int} {t u : Tok} {e1 : Env} (F : Fr h₀ L s.heap m) (X : (Mine.hd.heap_39 w.params).In h₀) (N : News h₀ L s.heap news) (T : Tp mean mg mb h₀)
   (hh : ∀ q ∈ toldL w x dx l D kt t0 t1, q ∈ news) (hl : KBw.bInts bl = [a]) (hr : KBw.bInts br = [c])
   (h : ∀ t h' tk, Fr h₀ L h' m → News h₀ L h' news → Q (.int (cmpI a c) t) { s with heap := h', toks := tk }) : wpAny (model PySem.Challenge.rw_gc0001_01.row.prog w) (callerA.deeper e1) (call (.ref 42) [.ref x, .bytes bl t, .bytes br u]) Q E s :=
  compare_c F X N T hh hl rfl hr rfl h
local macro_rules | `(tactic| walk_at "call ref") => `(tactic| (k_here; (with_reducible show wpAny _ _ (call (Value.ref 42) [Value.ref _, Value.bytes _ _, Value.bytes _ _]) _ _ _); (k_dflt (refine' compare_one ?k1 ?k2 ?k3 ?k4 ?k5 ?k6 ?k8 ?_; (case k1 => k_asm); (case k2 => k_asm); (case k3 => k_asm); (case k4 => k_asm); (case k5 => with_reducible assumption); (case k6 => exact Eq.trans (by with_reducible assumption) (slice_one (by omega) (by omega))); (case k8 => exact Eq.trans (by with_reducible assumption) (slice_one (by omega) (by omega))); k_whole)); intro t9 h9 tk9 F9 N9))
local macro_rules | `(tactic| walk_at "call type:list") => `(tactic| (k_here; (with_reducible show wpAny _ _ (call (Value.type "list") [Value.bytes _ _]) _ _ _); (k_dflt (refine' Mine.list_K ?h ?F ?N ?k ?n ?_; (case h => with_unfolding_all rfl); (case F => k_asm); (case N => k_asm); (case k => with_reducible assumption); (case n => ((try simp only [List.length_take, List.length_drop]); omega)); k_whole); (intro D' c' h' tk' vs' F' N' l1 i'); (try k_lt l1))))
local macro_rules | `(tactic| walk_at "call ref") => `(tactic| (k_here; (with_reducible show wpAny _ _ (call (Value.ref 68) [Value.bytes _ _]) _ _ _); (k_dflt (refine' gaps_c ?k1 ?k2 ?k3 ?k4 ?k5 ?k6 ?_; (case k1 => k_asm); (case k2 => k_asm); (case k3 => k_asm); (case k4 => k_asm); (case k5 => with_reducible assumption); (case k6 => omega); k_whole)); intro t9 h9 tk9 F9 N9))
local macro_rules | `(tactic| walk_at "call builtin:sorted") => `(tactic| (k_here; (with_reducible show wpAny _ _ (call (Value.builtin "sorted") [Value.bytes _ _]) _ _ _); (k_dflt (refine' Mine.sorted_K ?h ?F ?N ?k ?n ?_; (case h => with_unfolding_all rfl); (case F => k_asm); (case N => k_asm); (case k => with_reducible assumption); (case n => omega); k_whole); (intro D' c' h' tk' vs' ns' F' N' l1 i' p' o'); (try k_lt l1))))
theorem law_c {l : Addr} {vs : List Value} {ns : List Int} (X : (Mine.hd.heap_39 w.params).In s.heap) (T : Tp mean mg mb s.heap)
   (hl : s.heap.IsList l vs.toArray) (hi : IntsAre vs ns) (h63 : ns.length ≤ 63)
   (h : ∀ h' tk, (∀ b o, s.heap.get? b = some o → h'.get? b = some o) → Q (.bool true) { s with heap := h', toks := tk }) : wpC (model PySem.Challenge.rw_gc0001_01.row.prog w) callerA (call (.ref 75) [.ref l]) Q E s := by
  w_top off
  revert X; k_fill; intro X
  refine' enter_topC (binds := [(Str.ofString "script", Value.ref l)]) X T ?k6 ?k7 ?k8 ?k9 ?kB ?c5 ?c2 ?c3 ?c4 ?_
  case k6 => k_is
  case k7 => k_is
  case k8 => k_room
  case k9 => exact BindsTo.of_eq rfl
  case kB => exact locs rfl
  case c5 => decide
  case c2 => exact rfl
  case c3 => exact rfl
  case c4 => exact rfl
  intro g L' h₁ hg hL F1 N1 X1 T1
  have hl' : g.IsList l vs.toArray := by rw [hg]; exact hl
  have back : ∀ v s', (∀ b o, s.heap.get? b = some o → s'.heap.get? b = some o) → (∃ h' tk, v = Value.bool true ∧ s' = { s with heap := h', toks := tk }) → Q v s' := by
    rintro v s' hk ⟨h', tk, rfl, rfl⟩
    exact h h' tk hk
  clear h X T hl
  have B0 := below_caller g
  clear hg hL
  refine execs_consC (AssignC (CallC_K (K := Mine.hd.heap_39 w.params) ?_))
  k_steps
  refine order_c F1 X1 N1 T1 (hl'.at fun o e => F1.keep _ _ e) hi h63 fun b O t h2 tk2 hb hperm h8 F2 N2 => ?_
  clear F1 N1 hl' hi h63
  k_steps
  refine execs_consA ?_
  k_steps
  refine execs_consC (ForC ?_)
  k_steps
  rename IsRange _ _ _ _ _ _ _ _ => hR
  rename Fr _ _ _ _ => kF
  rename News _ _ _ _ => kN
  obtain ⟨r1, r2⟩ := range_down h8
  rename_i Dx _ _ lx _ _ x dx _ _ _ _ _ _ jB jX jT _ jF jN jC jK tl _ _ D9 _ _ _ _ _ _ jF2 jN2 _ _ _ _ _ ja
  clear jB jX jT jF jN jC jK jF2 jN2 ja
  clear ek
  clear qk
  dsimp only at kF kN hR ⊢
  generalize hkt : (_ : Nat) + 1 = kt0 at kN
  obtain ⟨ta, tb, kN2⟩ : ∃ ta tb, News g L' _ ((tl, W.listOf #[] 0) :: toldL w x dx lx Dx kt0 ta tb) := ⟨_, _, fun p hp => kN p (.tail _ hp)⟩
  clear kN hkt
  refine forC_range rfl rfl rfl hR r1 r2 (fun i m nx => ∃ H ts, Jo w b t O x dx lx Dx kt0 ta tb H ts m nx ∧ Inv O O.length i H ts) kF kN2 ?_ ?_ ?_
  · exact ⟨O, [], ⟨rfl, rfl, b, t, tl, [], 0, rfl, rfl, rfl, hb, .nil, rfl⟩, Inv.start hperm h8⟩
  · clear hR kF kN2
    rintro i tsz m₁ nx h2 tk2 I oI hin ⟨H, ts, ⟨hd1, hd2, bh, th, tl, us, c, hd3, hd4, rfl, hbh, hus, hHO⟩, hInv⟩ hne F3 N3
    dsimp only [envOf] at F3 N3 ⊢
    have e := named m₁ [(Str.ofString "order", Value.bytes b t), (Str.ofString "told", Value.ref x), (Str.ofString "here", Value.bytes bh th), (Str.ofString "turnings", Value.ref tl)] (by simp [hd1, hd2, hd3, hd4])
    rw [e] at F3
    simp only [kstB] at F3
    clear e
    have hH8 : H.length ≤ 8 := by omega
    obtain ⟨sz, hsz⟩ : ∃ sz : Nat, (O.length : Int) + (i : Int) * (0 - 1) = (sz : Int) := ⟨O.length - i, by omega⟩
    rw [hsz] at F3
    have hsz2 : sz = O.length - i := by omega
    have hq0 : @Ne Nat tl I := hne _ (.head _)
    have hq1 : @Ne Nat x I := hne _ (.tail _ (.head _))
    have hq2 : @Ne Nat dx I := hne _ (.tail _ (.tail _ (.head _)))
    have hq3 : @Ne Nat lx I := hne _ (.tail _ (.tail _ (.tail _ (.head _))))
    have hq4 : @Ne Nat Dx I := hne _ (.tail _ (.tail _ (.tail _ (.tail _ (.head _)))))
    refine execs_consA ?_
    k_steps
    refine execs_consC (ForC ?_)
    k_steps
    rename IsRange _ _ _ _ _ _ _ _ => hR
    rename Fr _ _ _ _ => kF
    rename News _ _ _ _ => kN
    rename_i jF jN _ _ _ _ _ ja
    clear jF jN ja
    dsimp only at kF kN hR ⊢
    obtain ⟨q1, q2⟩ := range_up (n := sz) (by omega)
    refine forC_range rfl rfl rfl hR q1 q2 (fun p m nx => m (Str.ofString "order") = some (Value.bytes b t) ∧ m (Str.ofString "told") = some (Value.ref x) ∧ m (Str.ofString "here") = some (Value.bytes bh th) ∧ m (Str.ofString "turnings") = some (Value.ref tl) ∧
      m (Str.ofString "size") = some (Value.int (sz : Int) tsz) ∧ (∃ β tβ, m (Str.ofString "best") = some (Value.int β tβ) ∧ Best H (p + 1) β) ∧ nx = (I, oI) :: (tl, W.listOf us.toArray c) :: toldL w x dx lx Dx kt0 ta tb) kF kN ?_ ?_ ?_
    · exact ⟨rfl, rfl, rfl, rfl, rfl, ⟨0, _, rfl, Best.start⟩, rfl⟩
    · clear hR kF kN
      rintro p tp m₂ nx h3 tk3 I2 oI2 hp ⟨hd1, hd2, hd3, hd4, hd5, ⟨β, tβ, hd6, hB⟩, rfl⟩ hne2 F4 N4
      dsimp only [envOf] at F4 N4 ⊢
      have e := named m₂ [(Str.ofString "order", Value.bytes b t), (Str.ofString "told", Value.ref x), (Str.ofString "here", Value.bytes bh th), (Str.ofString "turnings", Value.ref tl), (Str.ofString "size", Value.int (sz : Int) tsz), (Str.ofString "best", Value.int β tβ)] (by simp [hd1, hd2, hd3, hd4, hd5, hd6])
      rw [e] at F4
      simp only [kstB] at F4
      clear e
      obtain ⟨pl, hpl⟩ : ∃ pl : Int, (1 : Int) + (p : Int) * 1 = pl := ⟨_, rfl⟩
      rw [hpl] at F4
      have hb0 := hB.lo
      have hb1 := hB.hi
      have hp2 : pl < H.length := by omega
      have hD := hInv.distinct (a := β) (b := pl) (by omega) (by omega) (by omega)
      obtain ⟨hD1, hD2⟩ := hD
      have hT : ∀ q ∈ toldL w x dx lx Dx kt0 ta tb, q ∈ (I2, oI2) :: (I, oI) :: (tl, W.listOf us.toArray c) :: toldL w x dx lx Dx kt0 ta tb := fun q hq => .tail _ (.tail _ (.tail _ hq))
      refine execs_consA ?_
      k_steps
      refine execs_consA ?_
      k_steps
      any_goals (exfalso; omega)
      dsimp only
      refine execs_consA ?_
      k_steps
      · rename (0 < cmpI _ _) => hg
        rename Fr _ _ _ _ => kF
        rename News _ _ _ _ => kN
        dsimp only
        refine execs_nilC (turn_next kF kN hne2 ⟨rfl, rfl, rfl, rfl, rfl, ⟨_, _, rfl, ?_⟩, rfl⟩)
        have ep : pl = ((p + 1 : Nat) : Int) := by omega
        subst ep
        exact hB.up (cmpI_pos.mp hg)
      · rename (¬ 0 < cmpI _ _) => hg
        rename Fr _ _ _ _ => kF
        rename News _ _ _ _ => kN
        dsimp only
        refine execs_nilC (turn_next kF kN hne2 ⟨rfl, rfl, rfl, rfl, rfl, ⟨_, _, rfl, ?_⟩, rfl⟩)
        have ep : pl = ((p + 1 : Nat) : Int) := by omega
        subst ep
        exact hB.stay (Int.not_lt.mp fun hz => hg (cmpI_pos.mpr hz))
    · clear hR kF kN
      rintro h3 tk3 m₂ nx F4 N4 ⟨hd1, hd2, hd3, hd4, hd5, ⟨β, tβ, hd6, hB⟩, rfl⟩
      dsimp only [envOf] at F4 N4 ⊢
      have e := named m₂ [(Str.ofString "order", Value.bytes b t), (Str.ofString "told", Value.ref x), (Str.ofString "here", Value.bytes bh th), (Str.ofString "turnings", Value.ref tl), (Str.ofString "size", Value.int (sz : Int) tsz), (Str.ofString "best", Value.int β tβ)] (by simp [hd1, hd2, hd3, hd4, hd5, hd6])
      rw [e] at F4
      simp only [kstB] at F4
      clear e
      have hBB : Best H (O.length - i) β := by rw [show O.length - i = sz - 1 + 1 from by omega]; exact hB
      have hb0 := hB.lo
      have hb1 := hB.hi
      refine execs_consC (IfC ?_)
      k_steps
      · refine execs_consC (ForC (wpAny_mono (Q := ManyMade w b t x dx lx Dx kt0 ta tb g L' I oI bh th tl us c (manyOf O.length i β) s) ?_ ?_ fun _ _ hx => hx))
        · k_steps
          · rename (0 < β) => hg
            rename Fr _ _ _ _ => kF
            rename News _ _ _ _ => kN
            rename (_ ∧ _ ∧ _ ∧ _ ∧ _) => l9
            refine ManyMade.mk kF kN (fun q hq => ?_) ?_ ?_ rfl rfl rfl rfl
            · exact .tail _ (.tail _ hq)
            · intro q hq
              simp only [toldL, List.mem_cons, List.not_mem_nil, or_false] at hq
              rcases hq with rfl | rfl | rfl | rfl | rfl | rfl <;> dsimp only <;> omega
            · unfold manyOf
              rw [if_pos hg, show (O.length : Int) - (i : Int) = (sz : Int) from by omega]
              exact .cons _ _ (.cons _ _ .nil)
          · rename (¬ 0 < β) => hg
            rename Fr _ _ _ _ => kF
            rename News _ _ _ _ => kN
            rename (_ ∧ _ ∧ _ ∧ _ ∧ _) => l9
            refine ManyMade.mk kF kN (fun q hq => ?_) ?_ ?_ rfl rfl rfl rfl
            · exact .tail _ (.tail _ hq)
            · intro q hq
              simp only [toldL, List.mem_cons, List.not_mem_nil, or_false] at hq
              rcases hq with rfl | rfl | rfl | rfl | rfl | rfl <;> dsimp only <;> omega
            · unfold manyOf
              rw [if_neg hg, show (O.length : Int) - (i : Int) = (sz : Int) from by omega]
              exact .cons _ _ .nil
        · rintro v s' ⟨D, vsm, h5, tk5, m5, rfl, rfl, F5, N5, l5, hms, hd1, hd2, hd3, hd4⟩
          clear F4 N4
          refine forC_list (vs := vsm) (nn := 0) rfl rfl rfl (fun q m nx => ∃ nx', nx = (D, W.listOf vsm.toArray 0) :: (I, oI) :: nx' ∧ (∀ p ∈ nx', @Ne Nat p.1 I) ∧ Jo w b t O x dx lx Dx kt0 ta tb (flips ((manyOf O.length i β).take q) H) (ts ++ (manyOf O.length i β).take q) m nx') (fun q m nx ⟨nx', e, _⟩ => by rw [e]; exact .head _) F5 N5 ?_ ?_ ?_
          · refine ⟨_, rfl, hne, hd1, hd2, bh, th, tl, us, c, hd3, hd4, rfl, ?_, ?_, ?_⟩
            · exact hbh
            · simpa using hus
            · exact hHO
          · clear F5 N5 l5
            rintro q v m₃ nx h6 tk6 I3 oI3 hv ⟨nx', rfl, hneI, hd1, hd2, bh, th, tl, us, c, hd3, hd4, rfl, hbh, hus, hHO⟩ hne3 F6 N6
            dsimp only [envOf] at F6 N6 ⊢
            have e := named m₃ [(Str.ofString "order", Value.bytes b t), (Str.ofString "told", Value.ref x), (Str.ofString "here", Value.bytes bh th), (Str.ofString "turnings", Value.ref tl)] (by simp [hd1, hd2, hd3, hd4])
            rw [e] at F6
            simp only [kstB] at F6
            clear e
            have hq9 : q < (manyOf O.length i β).length := by
              rw [← hms.length]
              exact (List.getElem?_eq_some_iff.mp hv).1
            obtain ⟨ti, hti⟩ := ints_at hms q hq9
            rw [hti] at hv
            obtain rfl := (Option.some.inj hv).symm
            clear hv
            obtain ⟨mi, hmi⟩ : ∃ mi : Int, (manyOf O.length i β).getD q 0 = mi := ⟨_, rfl⟩
            obtain ⟨hm0, hm1⟩ : 0 < mi ∧ mi ≤ (O.length : Int) := by
              have hmem : mi ∈ manyOf O.length i β := by
                rw [← hmi, List.getD_eq_getElem?_getD, List.getElem?_eq_getElem hq9]
                exact List.getElem_mem hq9
              unfold manyOf at hmem
              split at hmem <;> simp at hmem <;> omega
            have eF : flips ((manyOf O.length i β).take (q + 1)) H = flip (flips ((manyOf O.length i β).take q) H) mi.toNat := by
              rw [List.take_add_one, List.getElem?_eq_getElem hq9, Option.toList_some, flips, List.foldl_append]
              rw [← hmi, List.getD_eq_getElem?_getD, List.getElem?_eq_getElem hq9]
              rfl
            have eT : ts ++ (manyOf O.length i β).take (q + 1) = (ts ++ (manyOf O.length i β).take q) ++ [mi] := by
              rw [List.take_add_one, List.getElem?_eq_getElem hq9, Option.toList_some, List.append_assoc]
              rw [← hmi, List.getD_eq_getElem?_getD, List.getElem?_eq_getElem hq9]
              rfl
            obtain ⟨mk, rfl⟩ := Int.eq_ofNat_of_zero_le (Int.le_of_lt hm0)
            rw [Int.toNat_natCast] at eF
            rw [hmi] at F6
            generalize hHq : flips ((manyOf O.length i β).take q) H = Hq at hbh hHO eF
            generalize hTq : ts ++ (manyOf O.length i β).take q = tq at hus eT
            have hHq8 : Hq.length ≤ 8 := by omega
            refine execs_consC (AssignC (CallC_K (K := Mine.hd.heap_39 w.params) ?_))
            k_steps
            · k_is
            refine turned_c F6 X1 N6 T1 hbh hHq8 hm0 (by omega) fun b7 t7 h7 tk7 hb7 F7 N7 => ?_
            clear F6 N6
            rw [Int.toNat_natCast] at hb7
            have hF9 : (flip Hq mk).length = Hq.length := flip_length _ _
            have hj : min mk Hq.length = mk := by omega
            have hX : (Hq.take (min mk Hq.length)).reverse ++ (Hq.drop (min mk Hq.length)).take (Hq.length - min mk Hq.length) = flip Hq mk := by
              rw [hj, List.take_of_length_le (l := Hq.drop mk) (by rw [List.length_drop]; exact Nat.le_refl _)]
              rfl
            have hRl : ((Hq.take (min mk Hq.length)).reverse).length = mk := by rw [List.length_reverse, List.length_take]; omega
            have hIn : KBa.In ((Hq.take (min mk Hq.length)).reverse ++ (Hq.drop (min mk Hq.length)).take (Hq.length - min mk Hq.length)) := by
              rw [hX, ← hb7]
              exact fun n hn => KBw.ints_in hn
            have hbX : b7 = byteArr ((Hq.take (min mk Hq.length)).reverse ++ (Hq.drop (min mk Hq.length)).take (Hq.length - min mk Hq.length)) := bInts_inj (by rw [KBa.ints_make hIn, hX, hb7])
            obtain ⟨hG1, hG2⟩ := gaps_flip Hq (k := mk) (by omega) (by omega)
            k_steps
            refine execs_consC (IfC ?_)
            k_steps
            · exfalso
              rename (_ != _) = true => hz
              rw [← hbX] at hz
              simp at hz
            dsimp only
            refine execs_nilC ?_
            dsimp only
            rename Fr _ _ _ _ => kF
            rename News _ _ _ _ => kN
            have kN2 : News g L' _ ((I3, oI3) :: (D, W.listOf vsm.toArray 0) :: (I, oI) :: (tl, W.listOf us.toArray c) :: toldL w x dx lx Dx kt0 ta tb) := fun p hp => kN p (.tail _ (.tail _ (.tail _ (.tail _ hp))))
            clear kN
            have htq : tq.length ≤ 24 := by
              have h1 := hInv.count.1
              have h2 : (manyOf O.length i β).length ≤ 2 := by unfold manyOf; split <;> simp
              rw [← hTq, List.length_append, List.length_take]
              omega
            have hul := hus.length
            refine execs_consA ?_
            k_steps
            rename Fr _ _ _ _ => kF
            rename News _ _ _ _ => kN
            rename IntsAre _ (tq ++ _) => hW
            have kN3 := turn_pack kN
            clear kN
            dsimp only
            refine execs_nilC ?_
            refine turn_next kF kN3 ?_ ⟨_, rfl, ?_, rfl, rfl, b7, t7, _, _, _, rfl, rfl, rfl, ?_, ?_, ?_⟩
            · intro p hp
              simp only [List.mem_cons] at hp
              rcases hp with rfl | rfl | rfl | hp
              · exact hne3 _ (.head _)
              · exact hne3 _ (.tail _ (.head _))
              · show @Ne Nat _ _
                dsimp only
                omega
              · exact hne3 _ (.tail _ (.tail _ (.tail _ (List.mem_cons.mpr (by simpa using hp)))))
            · intro p hp
              rcases List.mem_cons.mp hp with rfl | hp
              · show @Ne Nat _ _
                dsimp only
                omega
              · exact hneI _ (.tail _ hp)
            · rw [eF]; exact hb7
            · rw [eT]; exact hW
            · rw [eF, hF9]; exact hHO
          · clear F5 N5 l5
            rintro h6 tk6 m₃ nx F6 N6 ⟨nx', rfl, hneI, hd1, hd2, bh, th, tl, us, c, hd3, hd4, rfl, hbh, hus, hHO⟩
            have hnl : vsm.length = (manyOf O.length i β).length := hms.length
            rw [hnl, List.take_length] at hbh hus hHO
            dsimp only [envOf] at F6 N6 ⊢
            refine execs_nilC ?_
            dsimp only
            refine execs_nilC ?_
            refine turn_next F6 (fun p hp => N6 p (.tail _ hp)) hneI ⟨_, _, ⟨hd1, hd2, bh, th, tl, us, c, hd3, hd4, rfl, hbh, hus, hHO⟩, hInv.turn (by omega) hBB (by omega)⟩
      · dsimp only
        refine execs_nilC ?_
        dsimp only
        refine execs_nilC ?_
        refine turn_next F4 N4 hne ⟨H, ts, ⟨rfl, rfl, bh, th, tl, us, c, rfl, rfl, rfl, hbh, hus, hHO⟩, hInv.keep (by omega) hBB (by omega)⟩
  · clear hR kF kN2
    rintro h2 tk2 m₁ nx F3 N3 ⟨H, ts, ⟨hd1, hd2, bh, th, tl, us, c, hd3, hd4, rfl, hbh, hus, hHO⟩, hInv⟩
    dsimp only [envOf] at F3 N3 ⊢
    have e := named m₁ [(Str.ofString "order", Value.bytes b t), (Str.ofString "here", Value.bytes bh th), (Str.ofString "turnings", Value.ref tl)] (by simp [hd1, hd3, hd4])
    rw [e] at F3
    simp only [kstB] at F3
    clear e
    obtain ⟨hHr, hG0⟩ := hInv.finish
    obtain ⟨hc1, hc2⟩ := hInv.count
    have hg9 := hInv.gaps
    have hH8 : H.length ≤ 8 := by omega
    have hul := hus.length
    have hts : ts.length ≤ 16 := by omega
    have hB := hInv.back
    have htin := hInv.tin
    have N4 : News g L' h2 [(tl, W.listOf us.toArray c)] := fun p hp => N3 p (by rw [List.mem_singleton.mp hp]; exact .head _)
    clear N3
    refine execs_consC (IfC ?_)
    k_steps
    · rename Fr _ _ _ _ => kF
      rename News _ _ _ _ => kN
      have kN2 : News g L' _ [(tl, W.listOf us.toArray c)] := fun p hp => kN p (.tail _ (.tail _ hp))
      clear kN
      dsimp only
      refine execs_nilC ?_
      dsimp only
      refine execs_consA ?_
      k_steps
      refine execs_consC (ForC ?_)
      k_steps
      rename IntsAre _ ts.reverse => hR
      rename Fr _ _ _ _ => kF
      rename News _ _ _ _ => kN
      rename_i D5 ws5 _ _ _
      have hRl := hR.length
      rw [List.length_reverse] at hRl
      dsimp only at kF kN ⊢
      refine forC_list (vs := ws5) (nn := 0) rfl rfl rfl (fun q m nx => m (Str.ofString "order") = some (Value.bytes b t) ∧ (∃ bq tq, m (Str.ofString "back") = some (Value.bytes bq tq) ∧ KBw.bInts bq = flips (ts.reverse.take q) H ∧ (flips (ts.reverse.take q) H).length = O.length) ∧ nx = [(D5, W.listOf ws5.toArray 0)]) (fun q m nx hJ => by rw [hJ.2.2]; exact .head _) kF (fun p hp => kN p (by rw [List.mem_singleton.mp hp]; exact .head _)) ?_ ?_ ?_
      · exact ⟨rfl, ⟨bh, th, rfl, hbh, hHO⟩, rfl⟩
      · clear kF kN
        rintro q v m₃ nx h6 tk6 I3 oI3 hv ⟨hd1, ⟨bq, tq, hd2, hbq, hql⟩, rfl⟩ hne3 F6 N6
        dsimp only [envOf] at F6 N6 ⊢
        have e := named m₃ [(Str.ofString "order", Value.bytes b t), (Str.ofString "back", Value.bytes bq tq)] (by simp [hd1, hd2])
        rw [e] at F6
        simp only [kstB] at F6
        clear e
        have hq9 : q < ts.reverse.length := by
          rw [← hR.length]
          exact (List.getElem?_eq_some_iff.mp hv).1
        obtain ⟨ti, hti⟩ := ints_at hR q hq9
        rw [hti] at hv
        obtain rfl := (Option.some.inj hv).symm
        clear hv
        obtain ⟨mi, hmi⟩ : ∃ mi : Int, ts.reverse.getD q 0 = mi := ⟨_, rfl⟩
        obtain ⟨hm0, hm1⟩ : 0 < mi ∧ mi ≤ (O.length : Int) := by
          refine htin mi (List.mem_reverse.mp ?_)
          rw [← hmi, List.getD_eq_getElem?_getD, List.getElem?_eq_getElem hq9]
          exact List.getElem_mem hq9
        have eF : flips (ts.reverse.take (q + 1)) H = flip (flips (ts.reverse.take q) H) mi.toNat := by
          rw [List.take_add_one, List.getElem?_eq_getElem hq9, Option.toList_some, flips, List.foldl_append]
          rw [← hmi, List.getD_eq_getElem?_getD, List.getElem?_eq_getElem hq9]
          rfl
        rw [hmi] at F6
        generalize hHq : flips (ts.reverse.take q) H = Hq at hbq hql eF
        have hHq8 : Hq.length ≤ 8 := by omega
        refine execs_consC (AssignC (CallC_K (K := Mine.hd.heap_39 w.params) ?_))
        k_steps
        · k_is
        refine turned_c F6 X1 N6 T1 hbq hHq8 hm0 (by omega) fun b7 t7 h7 tk7 hb7 F7 N7 => ?_
        clear F6 N6
        have hF9 : (flip Hq mi.toNat).length = Hq.length := flip_length _ _
        k_steps
        rename Fr _ _ _ _ => kF
        rename News _ _ _ _ => kN
        dsimp only
        refine execs_nilC (turn_next kF kN hne3 ⟨rfl, ⟨b7, t7, rfl, ?_, ?_⟩, rfl⟩)
        · rw [eF]; exact hb7
        · rw [eF, hF9]; exact hql
      · clear kF kN
        rintro h6 tk6 m₃ nx F6 N6 ⟨hd1, ⟨bq, tq, hd2, hbq, hql⟩, rfl⟩
        dsimp only [envOf] at F6 N6 ⊢
        have e := named m₃ [(Str.ofString "order", Value.bytes b t), (Str.ofString "back", Value.bytes bq tq)] (by simp [hd1, hd2])
        rw [e] at F6
        simp only [kstB] at F6
        clear e
        have hw : ws5.length = ts.reverse.length := hR.length
        rw [hw, List.take_length, hB] at hbq
        have hbb : bq = b := bInts_inj (by rw [hbq, hb])
        subst hbb
        refine execs_consA ?_
        k_steps
        dsimp only
        refine ⟨_, _, F6, N6, (fun _ hp => nomatch hp), fun hkeep => back _ _ hkeep ⟨_, _, congrArg Value.bool (beq_self_eq_true _), rfl⟩⟩
    · exfalso
      rename (¬ H = _) => hz
      rename List.Perm _ O => hp
      rename List.Pairwise _ _ => ho
      exact hz (hHr.trans (sorted_range (hp.trans hperm) ho).symm)
end
end Mine

theorem PySem.Challenge.cw_gc0001_01_holds : PySem.Challenge.rw_gc0001_01.Holds := by
  refine Mine.hd ?_
  k_fill
  intro w s₀ s₁ mg mb G Y fa o pm cd doc dV kV ho hd hcd hD hmg hg args vals as hpre hlay hrd hwl hlo
  have KX := kIn_of Y
  refine Ground.open G ?_
  intro T B D TE TW
  have hfa : (some (Value.ref fa)) = some (Value.ref 75) := hmg.symm.trans (mg_of KX T.g (by k_is))
  obtain rfl : fa = 75 := by simpa using hfa
  clear hfa hmg ho hd hcd hD Y G B D TE TW
  wrow_args hpre hlay hrd hwl hlo
  refine Mine.law_c KX T (by assumption) (by assumption) (by omega) fun h' tk hk => ?_
  refine ⟨.inl ⟨_, .bool true, [], rfl, raisesW_false ?_, .bool true, ?_, unshared_nil⟩, .of_keep hk, rfl, .of_eq hg⟩
  · wrow_none_raised
  · wrow_post
