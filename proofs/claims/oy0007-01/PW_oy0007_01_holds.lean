import PyProof.Rows.All
import Wide.All
import OpenK.AllK
import Wide.FinOn
import PySem.Challenge.RW_oy0007_01
set_option Elab.async false
set_option compiler.extract_closed false

/-! part Ctxc -/
section
/-! contexts with no holder of a bytearray on the stack; the bridge from such a context -/
namespace Mine
open PySem PySem.W PySem.Calls PyProof.Rows

def holdIds : List String := ["bytearray.__contains__", "bytearray.__mod__", "bytearray.__rmod__", "_struct.pack_into.held", "bytearray.find.held"] ++ PySem.Builtin.Bytes.decodersThatHold
def holdless : Code → Bool
  | .builtin id _ => !holdIds.contains id
  | _ => true

def Clean (l : List (Code × Pos)) : Prop := ∀ x ∈ l, holdless x.1 = true
def InC (A : Around) (Γ : Ctx) : Prop := Γ.In A ∧ holdless Γ.code = true ∧ Clean Γ.below
def BelowC (A : Around) (Γ : Ctx) : Prop := Γ.Below A ∧ Clean Γ.below

def wpC {α : Type} (M : Model) (A : Around) (t : Sem α) (Q : α → Shared → Prop) (E : Value → Shared → Prop) (s : Shared) : Prop :=
  ∀ Γ p, InC A Γ → Sem.wp M Γ t (fun a _ s' => Q a s') (fun e _ s' => E e s') p s
def codeC (M : Model) (A : Around) (c : Code) (R : Result → Shared → Prop) (s : Shared) : Prop :=
  ∀ Γ p, Γ.code = c → BelowC A Γ → wpCode M Γ R p s

section
variable {α β : Type} {M : Model} {A : Around} {E : Value → Shared → Prop} {s : Shared}
theorem wpC.any {t : Sem α} {Q : α → Shared → Prop} (h : wpAny M A t Q E s) : wpC M A t Q E s := fun Γ p g => h Γ p g.1
theorem codeC.any {c : Code} {R : Result → Shared → Prop} (h : codeAny M A c R s) : codeC M A c R s := fun Γ p e g => h Γ p e g.1
theorem wpC_mono {t : Sem α} {Q Q' : α → Shared → Prop} {E' : Value → Shared → Prop} (h : wpC M A t Q E s) (hQ : ∀ a s, Q a s → Q' a s) (hE : ∀ e s, E e s → E' e s) : wpC M A t Q' E' s :=
  fun Γ p g => Sem.wp_mono M Γ t (fun a _ s => hQ a s) (fun e _ s => hE e s) p s (h Γ p g)
theorem codeC_mono {c : Code} {R R' : Result → Shared → Prop} (h : codeC M A c R s) (hR : ∀ r s, R r s → R' r s) : codeC M A c R' s :=
  fun Γ p e g => wpCode_mono hR (h Γ p e g)
theorem wpC_bind {m : Sem α} {f : α → Sem β} {Q : β → Shared → Prop} (h : wpC M A m (fun a s' => wpC M A (f a) Q E s') E s) : wpC M A (m >>= f) Q E s := fun Γ p g => by
  rw [Sem.wp_bind']
  exact Sem.wp_mono M Γ m (fun a p' s' h' => h' Γ p' g) (fun _ _ _ h' => h') p s (h Γ p g)
/-- a plain step ahead -/
theorem wpC_step {m : Sem α} {f : α → Sem β} {Q : β → Shared → Prop} (h : wpAny M A m (fun a s' => wpC M A (f a) Q E s') E s) : wpC M A (m >>= f) Q E s := wpC_bind (.any h)
theorem wpC_pure {a : α} {Q : α → Shared → Prop} (h : Q a s) : wpC M A (pure a) Q E s := fun _ _ _ => h
theorem wpC_holding {vs : List Value} {m : Sem α} {Q : α → Shared → Prop} (h : wpC M A m Q E s) : wpC M A (holding vs m) Q E s :=
  fun Γ p g => by rw [Sem.wp_holding]; exact h Γ p g
theorem wpC_onRaise {m : Sem α} {k : Value → Sem Unit} {Q : α → Shared → Prop}
    (h : wpC M A m Q (fun e s' => wpC M A (k e) (fun _ s'' => E e s'') E s') s) : wpC M A (m.onRaise k) Q E s := fun Γ p g => by
  rw [Sem.wp_onRaise]
  exact Sem.wp_mono M Γ m (fun _ _ _ h' => h') (fun e p' s' h' => h' Γ p' g) p s (h Γ p g)

theorem Clean.cons {c : Code} {p : Pos} {l : List (Code × Pos)} (h : holdless c = true) (hl : Clean l) : Clean ((c, p) :: l) := fun x hx => by
  rcases List.mem_cons.mp hx with rfl | hx
  · exact h
  · exact hl x hx
theorem InC.enter {Γ : Ctx} (g : InC A Γ) (c : Code) (h : Option Value) (p : Pos) (hnb : h ≠ some byPass) : BelowC (A.mark h) (Γ.enter c h p) := ⟨g.1.enter c h p hnb, .cons g.2.1 g.2.2⟩
theorem BelowC.in {Γ : Ctx} (g : BelowC A Γ) (h : holdless Γ.code = true) : InC (A.under Γ.code) Γ := ⟨g.1.in, h, g.2⟩

theorem wpC_run {c : Code} {h : Option Value} {Q : Flow → Shared → Prop}
    (hc : codeC M (A.mark h) c (fun r s' => match r with | .ok f => Q f s' | .error e => E e s') s) (hnb : h ≠ some byPass) : wpC M A (run c h) Q E s :=
  fun Γ p g => by rw [Sem.wp_run]; exact hc _ p rfl (g.enter c h p hnb)
theorem wpC_runValue {c : Code} {Q : Value → Shared → Prop}
    (hc : codeC M A c (fun r s' => match r with | .ok (.ret v) => Q v s' | .ok _ => False | .error e => E e s') s) : wpC M A (runValue c) Q E s :=
  fun Γ p g => by rw [Sem.wp_runValue]; exact hc _ p rfl (g.enter c none p (by intro x; cases x))
theorem wpC_call {f : Value} {pos : List Value} {kw : List (Str × Value)} {Q : Value → Shared → Prop}
    (hc : codeC M A (.call f ⟨pos, kw⟩) (fun r s' => match r with | .ok (.ret v) => Q v s' | .ok _ => False | .error e => E e s') s) : wpC M A (call f pos kw) Q E s := wpC_runValue hc
theorem codeC_of_tree {c : Code} {R : Result → Shared → Prop} (hl : holdless c = true)
    (h : wpC M (A.under c) (M.den c) (fun fin s' => match fin with | .done f => R (.ok f) s' | .again c' => c'.quiet = true ∧ codeC M A c' R s') (fun e s' => R (.error e) s') s) : codeC M A c R s := fun Γ p hc g => by
  subst hc
  rw [wpCode_iff_wp]
  refine Sem.wp_mono M Γ _ (fun fin p' s' h' => ?_) (fun _ _ _ h' => h') p s (h Γ p (g.in hl))
  cases fin with
  | done f => exact h'
  | again c' => exact ⟨h'.1, h'.2 (Γ.goto c') p' rfl ⟨g.1.goto c', g.2⟩⟩
end

/-- no holder on a clean stack -/
theorem exported_false {M : Model} {A : Around} {s : Shared} {self : Value} {Q : Bool → Shared → Prop} {E : Value → Shared → Prop} (h : Q false s) : wpC M A (PySem.Builtin.Bytes.exported self) Q E s := by
  intro Γ p g
  unfold PySem.Builtin.Bytes.exported
  show Q (List.any ((Γ.code, p) :: Γ.below) _) s
  have : ∀ x ∈ ((Γ.code, p) :: Γ.below), holdless x.1 = true := Clean.cons g.2.1 g.2.2
  rw [List.any_eq_false.mpr]
  · exact h
  · intro x hx
    have hl := this x hx
    obtain ⟨c, q⟩ := x
    cases c with
    | builtin id args =>
      obtain ⟨pos, kw⟩ := args
      have hn : id ∉ holdIds := fun hm => by
        have e : (!holdIds.contains id) = true := hl
        rw [List.contains_iff_mem.mpr hm] at e; cases e
      have n1 : id ≠ "bytearray.__contains__" := fun e => hn (by rw [e]; exact .head _)
      have n2 : id ≠ "bytearray.__mod__" := fun e => hn (by rw [e]; exact .tail _ (.head _))
      have n3 : id ≠ "bytearray.__rmod__" := fun e => hn (by rw [e]; exact .tail _ (.tail _ (.head _)))
      have n4 : id ≠ "_struct.pack_into.held" := fun e => hn (by rw [e]; exact .tail _ (.tail _ (.tail _ (.head _))))
      have n5 : id ≠ "bytearray.find.held" := fun e => hn (by rw [e]; exact .tail _ (.tail _ (.tail _ (.tail _ (.head _)))))
      have n6 : PySem.Builtin.Bytes.decodersThatHold.contains id = false := by
        cases e : PySem.Builtin.Bytes.decodersThatHold.contains id with
        | false => rfl
        | true => exact absurd (List.mem_append_right _ (List.contains_iff_mem.mp e)) hn
      unfold PySem.Builtin.Bytes.exported.match_1
      show ¬ ((dite (id = _) _ _) = true)
      rw [dif_neg n1, dif_neg n2, dif_neg n3, dif_neg n4, dif_neg n5]
      cases pos with
      | nil => exact Bool.false_ne_true
      | cons v t =>
        show ¬ ((_ && PySem.Builtin.Bytes.decodersThatHold.contains id) = true)
        rw [n6, Bool.and_false]
        exact Bool.false_ne_true
    | _ => exact Bool.false_ne_true

end Mine

end

/-! part Bridge -/
section
/-! from a clean context to the statement: the head's chain with a weaker walk premise -/
namespace Mine
open PySem PySem.W PySem.Calls PyProof.Rows

theorem callerC : InC callerA (⟨.builtin "claim.caller" {}, none, none, [], none⟩ : Ctx) := ⟨caller_in, by decide, fun _ h => by cases h⟩

theorem thread_endsC {prog : Program} {w : World} {t : Sem Fin} {s : Shared} {R : Result → Shared → Prop} (hreg : s.asleep)
    (h : wpC (model prog w) callerA t (fun fin s' => ∃ f, fin = .done f ∧ (R (.ok f) s' ∧ leftWithCleanup s'.gens = false)) (fun e s' => R (.error e) s' ∧ leftWithCleanup s'.gens = false) s) :
    ∃ n r s' s'', runN (denote table) prog w n s ⟨t, .builtin "claim.caller" {}, default, []⟩ = .halted (outcomeOf r) s' ∧
      schedN (denote table) prog w n (.single s ⟨t, .builtin "claim.caller" {}, default, []⟩) = .halted (outcomeOf r) s' ∧ s'.forget = s''.forget ∧ R r s'' := by
  have h0 := h _ default callerC
  obtain ⟨n, r, s₁, s₂, hs, hn, hfo, hR⟩ := wp_halts_full (M := model prog w) (R := R) hreg (Sem.wp_mono _ _ _ (fun fin p' s' h' => by obtain ⟨f, rfl, hf⟩ := h'; exact hf) (fun _ _ _ h' => h') _ _ h0)
  exact ⟨n, r, s₂, s₁, hn, hs, hfo, hR⟩

theorem callFromC {c : ClaimW} {tree : List Value → Sem Fin} {w : World} {s : Shared} {free : Addr → Prop} {gens : Prop} {kept : Heap → Prop} (hz : s.asleep) (hgens : s.gens = #[])
    (hspec : ∀ args, c.pre args = true → WData.layableAll args = true → ∀ ord : List DictEntry → List DictEntry, (∀ l, (ord l).Perm l) →
      ∃ vs s₁, layAllW c.records (classAt s.heap) w.params ord args s = some (vs, s₁) ∧
        wpC (model c.prog w) callerA (tree vs) (fun fin s' => ∃ f, fin = .done f ∧ (c.Ends s args vs s₁ (.ok f) s' ∧ s'.os = s.os ∧ AllBare s'.gens ∧ kept s'.heap))
          (fun e s' => c.Ends s args vs s₁ (.error e) s' ∧ s'.os = s.os ∧ AllBare s'.gens ∧ kept s'.heap) s₁) :
    c.CallFrom (fun vs => ⟨tree vs, .builtin "claim.caller" {}, default, []⟩) w free gens kept s := by
  intro args hpre hlay ord hord
  obtain ⟨vs, s₁, hlaid, hcode⟩ := hspec args hpre hlay ord hord
  have hal := layAllW_rest _ _ _ hlaid
  obtain ⟨k, r, s', s'', hrun, hsched, hfo, hcase, hos, hkp⟩ := thread_endsC (prog := c.prog) (w := w) (t := tree vs) (s := s₁) (R := fun r s' => c.Ends s args vs s₁ r s' ∧ s'.os = s.os ∧ kept s'.heap)
    (Shared.asleep_of_life hal.2.2.2 hz)
    (wpC_mono hcode (fun _ _ ⟨f, e, h1, h2, h3, h4⟩ => ⟨f, e, ⟨h1, h2, h4⟩, leftWithCleanup_false_of_bare h3⟩) fun _ _ ⟨h1, h2, h3, h4⟩ => ⟨⟨h1, h2, h4⟩, leftWithCleanup_false_of_bare h3⟩)
  obtain ⟨eh, _, _, eo, _⟩ := Shared.forget_eq hfo
  have hcase := hcase.congr eh
  have hkp : kept s'.heap := by rw [eh]; exact hkp
  rw [← eo] at hos
  have hlife : s'.heap.life = s.heap.life := (runN_life _ _ _ hrun).trans hal.2.2.2
  refine ⟨vs, s₁, hlaid, k, _, s', hsched, ?_, (fun _ i x hx => by rw [hgens] at hx; simp at hx), hkp, by rw [hlife], Shared.rest_eq hos⟩
  rcases hcase with ⟨v, rfl, d1, d2, d3, d4, d5⟩ | ⟨e, ob, cls, rfl, d1, d2, d3, d4, d5⟩
  · exact .inl ⟨v, rfl, d1, d2, d3, fun b o y _ => d4 b o y, d5⟩
  · exact .inr ⟨e, ob, cls, rfl, d1, d2, d3, d4, fun b o y _ => d5 b o y⟩

/-- the walk that is asked: from clean contexts alone -/
abbrev WalkC (q : Program) (loose : List Str) (XP : (Str → Option Value) → Heap → Prop) (YP : World → Heap → Prop) (r : RowW) (d : DefRec) : Prop :=
  ∀ (w : World) (s₀ s₁ : Shared) (mg mb : Str → Option Value), Ground q loose r.records XP w s₀ mg mb s₁.heap → YP w s₁.heap → ∀ (a : Addr), mg d.name = some (.ref a) → s₁.gens = #[] →
    ∀ (args : List WData) (vals : List Value) (as : List Addr), r.claim.pre args = true → WData.layableAll args = true → ReadsAllW r.records (classAt s₀.heap) s₁.heap vals args as → WellAll w.params s₁.heap vals args →
      wpC (model r.prog w) callerA (PySem.call (.ref a) vals) (fun v s' => GoodWG r.claim (classAt s₀.heap) (ExcName.means s₀.heap) args s₁ (.ok (.ret v)) s')
        (fun e s' => GoodWG r.claim (classAt s₀.heap) (ExcName.means s₀.heap) args s₁ (.error e) s') s₁

end Mine

/-! the head of the walk that is asked here: the library's chain, with the premise WalkC (this name is the one that open_top takes inside namespace Mine) -/
namespace Mine.PySem.W
open _root_.PySem _root_.PySem.W _root_.PySem.Calls _root_.PyProof.Rows Mine
theorem holds_open {r : OpenRow} {q : Program} {loose : List Str} {Xt : Shared → Bool} {XP : (Str → Option Value) → Heap → Prop} {α : Type} {Yf : Shared → α} {Ya : World → α} {YP : World → Heap → Prop} {d : DefRec} {kwd : List (Str × Expr)} {N : Nat}
    (left : LeftO r.prog q loose Xt Yf Ya N) (hY : ∀ w s, Yf s = Ya w → YP w s.heap) (hYk : ∀ w h h', YP w h → (∀ b o, h.get? b = some o → h'.get? b = some o) → YP w h')
    (hX : ∀ s, Xt s = true → XP (s.heap.nsMap mainGlobals) s.heap) (hXk : ∀ mg h h', XP mg h → (∀ b o, h.get? b = some o → h'.get? b = some o) → XP mg h')
    (hdef : defOf q r.name = some (d, kwd)) (hp : r.prog.theDef r.name = some (d.params, d.body, d.scope)) (hk : kwWritten? d.params.kwonlyargs d.params.kw_defaults = some kwd) (hRf : ∀ s, Xt s = true → RecFacts r.records s.heap) (hwr : (!r.writes || r.records.isEmpty) = true)
    (k1 : r.wellSaid = true) (ok : (chainsOk q && opensWell r.prog && (frees r.toRowW && r.within.isEmpty)) = true) (hb : r.prog.bare) (hw : r.toRowW.promised)
    (call : WalkC q loose XP YP r.toRowW d) : r.Holds := by
  obtain ⟨ok, k5⟩ := Bool.and_eq_true_iff.mp ok
  obtain ⟨hch, o1⟩ := Bool.and_eq_true_iff.mp ok
  obtain ⟨k5, k6⟩ := Bool.and_eq_true_iff.mp k5
  obtain ⟨hsame, hu, ha, hap, hm⟩ := frees_parts k5
  refine ⟨k1, hw, ⟨hb, o1, by show r.makers.map _ = []; rw [hm]; rfl⟩, hw.witness, fun w => ⟨(left.behind hX hch w).1, fun s' hs' => ?_⟩⟩
  obtain ⟨s₀, hf, hg0, s, hT, hz, hgens, hg, G00, y⟩ := (left.behind (XP := fun mg h => XP mg h ∧ RecFacts r.records h) (fun s hs => ⟨hX s hs, hRf s hs⟩) hch w).2 s' hs'
  have G0 : Ground q loose [] XP w s (s.heap.nsMap mainGlobals) (s.heap.nsMap builtinsNs) s.heap := ⟨G00.T, G00.B, G00.D, G00.TE, G00.TD, G00.W, G00.X.1, G00.cls, G00.has, G00.apart, G00.once, G00.K⟩
  have RF := G00.X.2
  refine ⟨s₀, hf, hg0, s, hT, (fun n hn => ?_), RF.1, RF.2.1, ?_⟩
  · obtain rfl : n = r.name := by split at hn <;> simp_all
    exact pinned_of_view hg G0 hdef hp hk
  have hgens : s.gens = #[] := Array.eq_empty_of_size_eq_zero (beq_iff_eq.mp hgens)
  have G : Ground q loose r.records XP w s _ _ s.heap := RF.ground G0
  refine callFromC (c := r.toRowW.claim) hz hgens fun args hpre hlay ord hord => ?_
  obtain ⟨⟨vs, s₁⟩, hlaid⟩ := Option.isSome_iff_exists.mp (layAllW_isSome (P := w.params) (ord := ord) G.has args r.args s (pre_splitW hpre).1)
  have keeps := layAllW_keeps _ _ _ hlaid
  have hal := layAllW_rest _ _ _ hlaid
  obtain ⟨as, hrd, hin, hold⟩ := reads_layAllW hord _ _ _ hlaid hlay s₁.heap (fun _ _ e => e)
  have L : Laid r.records w s s₁ args vs as := ⟨⟨ord, hord, hlaid⟩, hrd, hin, hold, keeps, hal.1.trans hgens, hal.2.2.1⟩
  have G₁ := G.keeps hXk keeps
  obtain ⟨a, o, pm, cd, doc, dV, kV, h1, h2, h3, h4, h5⟩ := G₁.fn hdef
  have hi := ident_freeW hu ha hap
  have hwi : r.toRowW.claim.within = [] := List.isEmpty_iff.mp k6
  refine ⟨vs, s₁, hlaid, wpC_step (wpAny_nsGet G₁.T.g ?_)⟩
  show wpC _ _ (match Heap.nsMap _ _ r.name with | some f => _ | none => _) _ _ _
  rw [h1]
  refine wpC_bind (wpC_mono (call w s s₁ _ _ G₁ (hYk _ _ _ (hY w s y) keeps) a (defOf_name hdef ▸ h1) L.gens args vs as hpre hlay L.reads L.well) (fun v s' g => wpC_pure ⟨_, rfl, ?_⟩) fun e s' g => ?_)
  · have z := g.laid (c := r.toRowW.claim) hsame hwi hi L
    exact ⟨z.1, z.2.1, z.2.2, fun q => ⟨namesKept_of hT hg _ keeps g.2.1.old, noTable hwr q⟩⟩
  · have z := g.laid (c := r.toRowW.claim) hsame hwi hi L
    exact ⟨z.1, z.2.1, z.2.2, fun q => ⟨namesKept_of hT hg _ keeps g.2.1.old, noTable hwr q⟩⟩

end Mine.PySem.W

end

/-! part Head0 -/
section
open PySem PySem.W PyProof.Rows
set_option maxRecDepth 100000
set_option maxHeartbeats 8000000
namespace Mine
open_top hd for PySem.Challenge.rw_oy0007_01
end Mine

end

/-! part Base -/
section
open PySem PySem.W PySem.Calls PyProof.Rows
set_option linter.unusedVariables false
set_option maxRecDepth 100000
namespace Mine

abbrev Ext (h h' : Heap) : Prop := ∀ b o, h.get? b = some o → h'.get? b = some o
theorem Ext.refl (h : Heap) : Ext h h := fun _ _ e => e
theorem Ext.trans {a b c : Heap} (x : Ext a b) (y : Ext b c) : Ext a c := fun p o e => y p o (x p o e)

/-- pure values -/
inductive PV where
  | none
  | bool (b : Bool)
  | int (i : Int)
  | str (x : Str)
  | bytes (b : Array UInt8)
  | type (n : String)
  | ref (a : Addr)
  | list (xs : List PV)
  | tup (xs : List PV)

abbrev lobj (vs : List Value) (n : Nat) : Obj := { cls := .type "list", data := .seq vs.toArray n }
abbrev tobj (vs : List Value) (n : Nat) : Obj := { cls := .type "tuple", data := .seq vs.toArray n }

mutual
def Rep (h : Heap) : PV → Value → Prop
  | .none, v => v = .none
  | .bool b, v => v = .bool b
  | .int i, v => ∃ t, v = .int i t
  | .str x, v => ∃ t, v = .str x t
  | .bytes b, v => ∃ t, v = .bytes b t
  | .type n, v => v = .type n
  | .ref a, v => v = .ref a
  | .list xs, v => ∃ a vs n, v = .ref a ∧ h.get? a = some (lobj vs n) ∧ Reps h xs vs
  | .tup xs, v => ∃ a vs n, v = .ref a ∧ h.get? a = some (tobj vs n) ∧ Reps h xs vs
def Reps (h : Heap) : List PV → List Value → Prop
  | [], vs => vs = []
  | x :: xs, vs => ∃ v r, vs = v :: r ∧ Rep h x v ∧ Reps h xs r
end

/-- list and tuple objects are kept -/
def ExtQ (h h' : Heap) : Prop := ∀ a o, h.get? a = some o → (∃ xs n, o.data = .seq xs n) → h'.get? a = some o
theorem Ext.q {h h' : Heap} (x : Ext h h') : ExtQ h h' := fun a o e _ => x a o e
theorem ExtQ.trans {a b c : Heap} (x : ExtQ a b) (y : ExtQ b c) : ExtQ a c := fun p o e d => y p o (x p o e d) d

mutual
theorem Rep.mono {h h' : Heap} (q : ExtQ h h') : ∀ (p : PV) (v : Value), Rep h p v → Rep h' p v
  | .none, _, r => by simpa [Rep] using r
  | .bool _, _, r => by simpa [Rep] using r
  | .int _, _, r => by simpa [Rep] using r
  | .str _, _, r => by simpa [Rep] using r
  | .bytes _, _, r => by simpa [Rep] using r
  | .type _, _, r => by simpa [Rep] using r
  | .ref _, _, r => by simpa [Rep] using r
  | .list xs, v, r => by
    simp only [Rep] at r ⊢
    obtain ⟨a, vs, n, e, g, rs⟩ := r
    exact ⟨a, vs, n, e, q _ _ g ⟨_, _, rfl⟩, Reps.mono q xs vs rs⟩
  | .tup xs, v, r => by
    simp only [Rep] at r ⊢
    obtain ⟨a, vs, n, e, g, rs⟩ := r
    exact ⟨a, vs, n, e, q _ _ g ⟨_, _, rfl⟩, Reps.mono q xs vs rs⟩
theorem Reps.mono {h h' : Heap} (q : ExtQ h h') : ∀ (xs : List PV) (vs : List Value), Reps h xs vs → Reps h' xs vs
  | [], _, r => by simpa [Reps] using r
  | x :: xs, vs, r => by
    simp only [Reps] at r ⊢
    obtain ⟨v, t, e, r1, r2⟩ := r
    exact ⟨v, t, e, Rep.mono q x v r1, Reps.mono q xs t r2⟩
end

theorem Reps.nil {h : Heap} : Reps h [] [] := by simp [Reps]
theorem Reps.cons {h : Heap} {x : PV} {v : Value} {xs : List PV} {vs : List Value} (a : Rep h x v) (b : Reps h xs vs) : Reps h (x :: xs) (v :: vs) := by
  simp only [Reps]; exact ⟨v, vs, rfl, a, b⟩
theorem Reps.length {h : Heap} : ∀ {xs : List PV} {vs : List Value}, Reps h xs vs → vs.length = xs.length
  | [], _, r => by simp only [Reps] at r; subst r; rfl
  | _ :: _, _, r => by
    simp only [Reps] at r
    obtain ⟨v, t, e, _, r2⟩ := r
    subst e
    simp [r2.length]
theorem Reps.get {h : Heap} : ∀ {xs : List PV} {vs : List Value} {i : Nat} {x : PV}, Reps h xs vs → xs[i]? = some x → ∃ v, vs[i]? = some v ∧ Rep h x v
  | [], _, _, _, _, e => by simp at e
  | x :: xs, vs, i, y, r, e => by
    simp only [Reps] at r
    obtain ⟨v, t, rfl, r1, r2⟩ := r
    cases i with
    | zero => simp at e; subst e; exact ⟨v, rfl, r1⟩
    | succ i =>
      simp at e
      obtain ⟨u, e2, r3⟩ := r2.get e
      exact ⟨u, by simpa using e2, r3⟩
theorem Reps.get' {h : Heap} : ∀ {xs : List PV} {vs : List Value} {i : Nat} {v : Value}, Reps h xs vs → vs[i]? = some v → ∃ x, xs[i]? = some x ∧ Rep h x v
  | [], vs, _, _, r, e => by simp only [Reps] at r; subst r; simp at e
  | x :: xs, vs, i, y, r, e => by
    simp only [Reps] at r
    obtain ⟨v, t, rfl, r1, r2⟩ := r
    cases i with
    | zero => simp at e; subst e; exact ⟨x, rfl, r1⟩
    | succ i =>
      simp at e
      obtain ⟨u, e2, r3⟩ := r2.get' e
      exact ⟨u, by simpa using e2, r3⟩
theorem Reps.append {h : Heap} : ∀ {xs ys : List PV} {vs ws : List Value}, Reps h xs vs → Reps h ys ws → Reps h (xs ++ ys) (vs ++ ws)
  | [], _, _, _, r, q => by simp only [Reps] at r; subst r; exact q
  | x :: xs, ys, vs, ws, r, q => by
    simp only [Reps] at r
    obtain ⟨v, t, rfl, r1, r2⟩ := r
    exact Reps.cons r1 (r2.append q)
theorem Reps.snoc {h : Heap} {xs : List PV} {vs : List Value} {x : PV} {v : Value} (r : Reps h xs vs) (a : Rep h x v) : Reps h (xs ++ [x]) (vs ++ [v]) := r.append (Reps.cons a Reps.nil)

/-- the frames on the stack -/
def frs (A : Around) : List Addr := (A.frames.getD []).filterMap (·.frame)

structure Kp (A : Around) (s s' : Shared) : Prop where
  same : ∃ h tk, s' = { s with heap := h, toks := tk }
  up : ∀ b o, s.heap.get? b = some o → b ∉ frs A → s'.heap.get? b = some o
  fr : ∀ b o, s.heap.get? b = some o → ∃ sl, s'.heap.get? b = some { o with slots := sl }

theorem Kp.refl (A : Around) (s : Shared) : Kp A s s := ⟨⟨_, _, rfl⟩, fun _ _ e _ => e, fun _ o e => ⟨o.slots, e⟩⟩
theorem Kp.trans {A : Around} {a b c : Shared} (x : Kp A a b) (y : Kp A b c) : Kp A a c := by
  refine ⟨?_, fun p o e n => y.up p o (x.up p o e n) n, fun p o e => ?_⟩
  · obtain ⟨h1, t1, rfl⟩ := x.same
    obtain ⟨h2, t2, rfl⟩ := y.same
    exact ⟨h2, t2, rfl⟩
  · obtain ⟨s1, e1⟩ := x.fr p o e
    obtain ⟨s2, e2⟩ := y.fr p _ e1
    exact ⟨s2, e2⟩
theorem Kp.of_ext {A : Around} {s : Shared} {h : Heap} {tk : Nat} (x : Ext s.heap h) : Kp A s { s with heap := h, toks := tk } :=
  ⟨⟨_, _, rfl⟩, fun p o e _ => x p o e, fun p o e => ⟨o.slots, x p o e⟩⟩
theorem Kp.of_keeps {A : Around} {s s' : Shared} (x : Keeps s s') : Kp A s s' := by
  obtain ⟨h, tk, rfl, k⟩ := x
  exact .of_ext k
theorem Kp.of_toks {A : Around} {s : Shared} {tk : Nat} : Kp A s { s with toks := tk } := ⟨⟨_, _, rfl⟩, fun _ _ e _ => e, fun _ o e => ⟨o.slots, e⟩⟩

/-- room: handled none, frames, units -/
structure Ok (k : Nat) (A : Around) : Prop where
  hand : A.handled = none
  deep : A.depth + k < recursionLimit
  unit : A.units + 100 * k + 200 < cLine
theorem Ok.le {k j : Nat} {A : Around} (x : Ok k A) (h : j ≤ k) : Ok j A := ⟨x.hand, by have := x.deep; omega, by have := x.unit; omega⟩
theorem Ok.deeper {k : Nat} {A : Around} {env : Env} (x : Ok (k + 1) A) : Ok k (A.deeper env) :=
  ⟨x.hand, by have := x.deep; show A.depth + 1 + k < _; omega, by have := x.unit; show A.units + 3 + 100 * k + 200 < _; omega⟩

noncomputable abbrev K (w : World) : Frag := Mine.hd.heap_39 w.params
abbrev Md (w : World) : Model := model PySem.Challenge.pw_oy0007_01 w

structure Gl (w : World) (h : Heap) : Prop where
  k : (K w).In h
  b : ∃ mb, h.Ns builtinsNs mb ∧ ∀ x : Str, x ≠ "__name__" → mb x = bootBuiltins x
  g : ∃ mg, h.Ns mainGlobals mg
  nolimit : h.NoLimit
theorem Gl.keeps {w : World} {h h' : Heap} (x : Gl w h) (k : Ext h h') : Gl w h' :=
  ⟨x.k.keeps k, let ⟨mb, a, b⟩ := x.b; ⟨mb, a.keeps k, b⟩, let ⟨mg, a⟩ := x.g; ⟨mg, a.keeps k⟩, x.nolimit.keeps k⟩

def FrameOk (h₀ h : Heap) (e : Env) : Prop := e.scope.kind ≠ .module ∧ ∃ L o es ep, e.frame = some L ∧ h₀.get? L = none ∧ h.get? L = some o ∧ o.data = .dict es ep

/-- how a name reads -/
def Sees (env : Env) (h : Heap) (mv : Str → Option Value) (x : Str) (v : Value) : Prop :=
  (env.kindOf x = some .local ∧ mv x = some v) ∨ ((env.kindOf x = some .cell ∨ (env.kindOf x = some .free ∧ (x == ("__classdict__" : Str)) = false)) ∧ ∃ c, env.cells.lookup x = some c ∧ h.IsCell c (some v))

structure Base (w : World) (A : Around) (env : Env) (h₀ h : Heap) : Prop where
  gl : Gl w h₀
  keep : Ext h₀ h
  frames : ∃ outer, A.frames = some outer ∧ ∀ e ∈ outer, FrameOk h₀ h e
  noL : h₀.get? env.locals = none
  noC : ∀ x c, (x, c) ∈ env.cells → h₀.get? c = none ∧ c ≠ env.locals ∧ ∃ v, h.IsCell c v

abbrev Mp := List (Str × PV)

structure Gd (w : World) (k : Nat) (A : Around) (env : Env) (h₀ h : Heap) (m : Mp) : Prop where
  ok : Ok k A
  kind : env.scope.kind = .function
  glob : env.globals = mainGlobals
  bins : env.builtins = builtinsNs
  base : Base w A env h₀ h
  apart : ∀ x y c, env.cells.lookup x = some c → env.cells.lookup y = some c → x = y
  mem : ∃ mv, h.Ns env.locals mv ∧ ∀ x p, m.lookup x = some p → ∃ v, Rep h p v ∧ Sees env h mv x v

theorem mem_frs {A : Around} {outer : List Env} {b : Addr} (h : A.frames = some outer) (hb : b ∈ frs A) : ∃ e ∈ outer, e.frame = some b := by
  unfold frs at hb
  rw [h] at hb
  obtain ⟨e, he, hf⟩ := List.mem_filterMap.mp hb
  exact ⟨e, he, hf⟩

/-- frames hold dicts -/
theorem frame_dict {h₀ h : Heap} {A : Around} {outer : List Env} (hA : A.frames = some outer) (hf : ∀ e ∈ outer, FrameOk h₀ h e) {b : Addr} (hb : b ∈ frs A) : h₀.get? b = none ∧ ∃ o es ep, h.get? b = some o ∧ o.data = .dict es ep := by
  obtain ⟨e, he, hfe⟩ := mem_frs hA hb
  obtain ⟨_, L, o, es, ep, h1, h2, h3, h4⟩ := hf e he
  rw [hfe] at h1; cases h1
  exact ⟨h2, o, es, ep, h3, h4⟩

theorem Kp.q {w : World} {A : Around} {env : Env} {h₀ : Heap} {s s' : Shared} (k : Kp A s s') (B : Base w A env h₀ s.heap) : ExtQ s.heap s'.heap := fun a o e d => by
  refine k.up a o e fun hb => ?_
  obtain ⟨outer, hA, hf⟩ := B.frames
  obtain ⟨_, o', es, ep, h1, h2⟩ := frame_dict hA hf hb
  rw [e] at h1; cases h1
  obtain ⟨xs, n, d⟩ := d
  rw [h2] at d; cases d

theorem Ns.slots {h h' : Heap} {L : Addr} {m : Str → Option Value} (n : h.Ns L m) (k : ∀ b o, h.get? b = some o → ∃ sl, h'.get? b = some { o with slots := sl }) : h'.Ns L m := by
  obtain ⟨o, es, ep, e, d, r⟩ := n
  obtain ⟨sl, e'⟩ := k L o e
  exact ⟨_, es, ep, e', d, r⟩
theorem IsCell.slots {h h' : Heap} {c : Addr} {v : Option Value} (n : h.IsCell c v) (k : ∀ b o, h.get? b = some o → ∃ sl, h'.get? b = some { o with slots := sl }) : h'.IsCell c v := by
  obtain ⟨o, e, d⟩ := n
  obtain ⟨sl, e'⟩ := k c o e
  exact ⟨_, e', d⟩
theorem FrameOk.slots {h₀ h h' : Heap} {e : Env} (n : FrameOk h₀ h e) (k : ∀ b o, h.get? b = some o → ∃ sl, h'.get? b = some { o with slots := sl }) : FrameOk h₀ h' e := by
  obtain ⟨a, L, o, es, ep, h1, h2, h3, h4⟩ := n
  obtain ⟨sl, e'⟩ := k L o h3
  exact ⟨a, L, _, es, ep, h1, h2, e', h4⟩
theorem Base.kp {w : World} {A : Around} {env : Env} {h₀ : Heap} {s s' : Shared} (B : Base w A env h₀ s.heap) (k : Kp A s s') : Base w A env h₀ s'.heap := by
  obtain ⟨outer, hA, hf⟩ := B.frames
  refine ⟨B.gl, fun b o e => k.up b o (B.keep b o e) fun hb => ?_, ⟨outer, hA, fun e he => (hf e he).slots k.fr⟩, B.noL, fun x c hm => ?_⟩
  · rw [(frame_dict hA hf hb).1] at e; cases e
  · obtain ⟨h1, h2, v, h3⟩ := B.noC x c hm
    exact ⟨h1, h2, v, IsCell.slots h3 k.fr⟩
theorem Sees.slots {env : Env} {h h' : Heap} {mv : Str → Option Value} {x : Str} {v : Value} (n : Sees env h mv x v) (k : ∀ b o, h.get? b = some o → ∃ sl, h'.get? b = some { o with slots := sl }) : Sees env h' mv x v := by
  rcases n with n | ⟨a, c, b, d⟩
  · exact .inl n
  · exact .inr ⟨a, c, b, IsCell.slots d k⟩
theorem Gd.kp {w : World} {k : Nat} {A : Around} {env : Env} {h₀ : Heap} {s s' : Shared} {m : Mp} (g : Gd w k A env h₀ s.heap m) (q : Kp A s s') : Gd w k A env h₀ s'.heap m := by
  have B := g.base
  obtain ⟨mv, n, r⟩ := g.mem
  refine ⟨g.ok, g.kind, g.glob, g.bins, B.kp q, g.apart, mv, Ns.slots n q.fr, fun x p e => ?_⟩
  obtain ⟨v, r1, r2⟩ := r x p e
  exact ⟨v, Rep.mono (q.q B) _ _ r1, r2.slots q.fr⟩
theorem Gd.le {w : World} {k j : Nat} {A : Around} {env : Env} {h₀ h : Heap} {m : Mp} (g : Gd w k A env h₀ h m) (q : j ≤ k) : Gd w j A env h₀ h m := { g with ok := g.ok.le q }
theorem Gd.rep {w : World} {k : Nat} {A : Around} {env : Env} {h₀ : Heap} {s s' : Shared} {m : Mp} (g : Gd w k A env h₀ s.heap m) (q : Kp A s s') {p : PV} {v : Value} (r : Rep s.heap p v) : Rep s'.heap p v := by
  have B := g.base
  exact Rep.mono (q.q B) _ _ r
theorem Gd.reps {w : World} {k : Nat} {A : Around} {env : Env} {h₀ : Heap} {s s' : Shared} {m : Mp} (g : Gd w k A env h₀ s.heap m) (q : Kp A s s') {p : List PV} {v : List Value} (r : Reps s.heap p v) : Reps s'.heap p v := by
  have B := g.base
  exact Reps.mono (q.q B) _ _ r

/-- a tree that only extends, to a pure value -/
def Tr (w : World) (A : Around) (t : Sem Value) (p : PV) (s : Shared) : Prop :=
  ∀ (Q : Value → Shared → Prop) (E : Value → Shared → Prop), (∀ v s', Kp A s s' → Rep s'.heap p v → Q v s') → wpAny (Md w) A t Q E s

def Ev (w : World) (k : Nat) (env : Env) (m : Mp) (e : Expr) (p : PV) : Prop :=
  ∀ A h₀ s, Gd w k A env h₀ s.heap m → Tr w A (eval e env) p s
def Evs (w : World) (k : Nat) (env : Env) (m : Mp) (es : List Expr) (ps : List PV) : Prop :=
  ∀ A h₀ s (Q : List Value → Shared → Prop) (E : Value → Shared → Prop) (pos : Pos), Gd w k A env h₀ s.heap m → (∀ vs s', Kp A s s' → Reps s'.heap ps vs → Q vs s') → wpAny (Md w) A (spliced (backTo pos (starEach es env))) Q E s
/-- a test -/
def Ts (w : World) (k : Nat) (env : Env) (m : Mp) (e : Expr) (b : Bool) : Prop :=
  ∀ A h₀ s (Q : Bool → Shared → Prop) (E : Value → Shared → Prop), Gd w k A env h₀ s.heap m → (∀ s', Kp A s s' → Q b s') → wpAny (Md w) A (isTrue e env (eval e env)) Q E s

end Mine

end

/-! part Rules1 -/
section
open PySem PySem.W PySem.Calls PyProof.Rows
set_option linter.unusedVariables false
set_option maxRecDepth 100000
namespace Mine

/-- a call's surroundings -/
structure Cx (w : World) (k : Nat) (A : Around) (h : Heap) : Prop where
  ok : Ok k A
  base : ∃ h₀, Gl w h₀ ∧ Ext h₀ h ∧ ∃ outer, A.frames = some outer ∧ ∀ e ∈ outer, FrameOk h₀ h e
theorem Gd.cx {w : World} {k : Nat} {A : Around} {env : Env} {h₀ h : Heap} {m : Mp} (g : Gd w k A env h₀ h m) : Cx w k A h :=
  ⟨g.ok, h₀, g.base.gl, g.base.keep, g.base.frames⟩
theorem Cx.le {w : World} {k j : Nat} {A : Around} {h : Heap} (g : Cx w k A h) (q : j ≤ k) : Cx w j A h := { g with ok := g.ok.le q }
theorem Cx.gl {w : World} {k : Nat} {A : Around} {h : Heap} (g : Cx w k A h) : Gl w h := let ⟨_, a, b, _⟩ := g.base; a.keeps b
theorem Cx.kp {w : World} {k : Nat} {A : Around} {s s' : Shared} (g : Cx w k A s.heap) (q : Kp A s s') : Cx w k A s'.heap := by
  obtain ⟨h₀, a, b, outer, hA, hf⟩ := g.base
  refine ⟨g.ok, h₀, a, fun p o e => q.up p o (b p o e) fun hb => ?_, outer, hA, fun e he => (hf e he).slots q.fr⟩
  rw [(frame_dict hA hf hb).1] at e; cases e
theorem Cx.q {w : World} {k : Nat} {A : Around} {s s' : Shared} (g : Cx w k A s.heap) (q : Kp A s s') : ExtQ s.heap s'.heap := fun a o e d => by
  refine q.up a o e fun hb => ?_
  obtain ⟨h₀, _, _, outer, hA, hf⟩ := g.base
  obtain ⟨_, o', es, ep, h1, h2⟩ := frame_dict hA hf hb
  rw [e] at h1; cases h1
  obtain ⟨xs, n, d⟩ := d
  rw [h2] at d; cases d

def Fn (w : World) (k : Nat) (f : Addr) (ps : List PV) (r : PV) : Prop :=
  ∀ A s vs, Cx w k A s.heap → Reps s.heap ps vs → Tr w A (call (.ref f) vs) r s
/-- a built-in called -/
def Bi (w : World) (k : Nat) (f : Value) (ps : List PV) (r : PV) : Prop :=
  ∀ A s vs, Cx w k A s.heap → Reps s.heap ps vs → Tr w A (call f vs) r s

def Bop (w : World) (k : Nat) (op : Operator) (a b c : PV) : Prop :=
  ∀ A s va vb, Cx w k A s.heap → Rep s.heap a va → Rep s.heap b vb → Tr w A (binaryOp op va vb) c s
def Cop (w : World) (k : Nat) (op : CmpOp) (a b c : PV) : Prop :=
  ∀ A s va vb, Cx w k A s.heap → Rep s.heap a va → Rep s.heap b vb → Tr w A (compareOp op va vb) c s

section
variable {w : World} {k : Nat} {env : Env} {m : Mp}

theorem Tr.of {A : Around} {t : Sem Value} {p : PV} {s : Shared} (h : ∀ E, wpAny (Md w) A t (fun v s' => Kp A s s' ∧ Rep s'.heap p v) E s) : Tr w A t p s :=
  fun _ E hQ => wpAny_mono (h E) (fun v s' x => hQ v s' x.1 x.2) fun _ _ e => e

theorem Ev.le {j : Nat} {e : Expr} {p : PV} (x : Ev w j env m e p) (h : j ≤ k) : Ev w k env m e p := fun A h₀ s g => x A h₀ s (g.le h)

theorem Ev_int {i : Int} {n : Nat} {pos : Pos} : Ev w k env m (.Constant (.int i) n pos) (.int i) :=
  fun A h₀ s _ Q E h => wpAny_Constant_int (h _ _ .of_toks ⟨_, rfl⟩)
theorem Ev_str {i : Str} {n : Nat} {pos : Pos} : Ev w k env m (.Constant (.str i) n pos) (.str i) :=
  fun A h₀ s _ Q E h => Constant_str (h _ _ .of_toks ⟨_, rfl⟩)
theorem Ev_none {n : Nat} {pos : Pos} : Ev w k env m (.Constant .none n pos) .none :=
  fun A h₀ s _ Q E h => wpAny_pure (h _ _ (.refl ..) rfl)
theorem Ev_bool {b : Bool} {n : Nat} {pos : Pos} : Ev w k env m (.Constant (.bool b) n pos) (.bool b) :=
  fun A h₀ s _ Q E h => wpAny_pure (h _ _ (.refl ..) rfl)

theorem Gd.load {A : Around} {h₀ : Heap} {s : Shared} {x : Str} {p : PV} {Q : Value → Shared → Prop} {E : Value → Shared → Prop} (g : Gd w k A env h₀ s.heap m) (hx : m.lookup x = some p)
    (h : ∀ v, Rep s.heap p v → Q v s) : wpAny (Md w) A (loadName env x) Q E s := by
  obtain ⟨mv, n, r⟩ := g.mem
  obtain ⟨v, r1, r2⟩ := r x p hx
  rcases r2 with ⟨a, b⟩ | ⟨a, c, b, d⟩
  · exact wpAny_loadName_local g.kind a n b (h v r1)
  · rcases a with a | ⟨a, a'⟩
    · exact wpAny_loadName_cell g.kind a b d (h v r1)
    · exact wpAny_loadName_free g.kind a b d (h v r1) a'

theorem Ev_name {x : Str} {pos : Pos} {p : PV} (hx : m.lookup x = some p) (hd : (x == ("__debug__" : Str)) = false := by decide) : Ev w k env m (.Name x pos) p :=
  fun A h₀ s g Q E h => wpAny_Name (g.load hx fun v r => h v s (.refl ..) r) hd

theorem Gd.global {A : Around} {h₀ : Heap} {s : Shared} {x : Str} {v : Value} {Q : Value → Shared → Prop} {E : Value → Shared → Prop} {pos : Pos} (g : Gd w k A env h₀ s.heap m) (hx : nsIn (K w) mainGlobals x = some (some v))
    (hk : env.kindOf x = some .globalImplicit) (h : Q v s) (hd : (x == ("__debug__" : Str)) = false := by decide) : wpAny (Md w) A (eval (.Name x pos) env) Q E s := by
  refine Name_function_global g.kind hk ?_ hd
  have G := g.cx.gl
  obtain ⟨mg, n⟩ := G.g
  exact loadGlobal_global (env := env) (by rw [g.glob]; exact n) (mg_of G.k n hx) h
theorem Gd.built {A : Around} {h₀ : Heap} {s : Shared} {x : Str} {v : Value} {Q : Value → Shared → Prop} {E : Value → Shared → Prop} {pos : Pos} (g : Gd w k A env h₀ s.heap m) (hx : nsIn (K w) mainGlobals x = some none) (hb : bootBuiltins x = some v)
    (hk : env.kindOf x = some .globalImplicit) (hn : x ≠ "__name__") (h : Q v s) (hd : (x == ("__debug__" : Str)) = false := by decide) : wpAny (Md w) A (eval (.Name x pos) env) Q E s := by
  refine Name_function_global g.kind hk ?_ hd
  have G := g.cx.gl
  obtain ⟨mg, n⟩ := G.g
  obtain ⟨mb, n', b⟩ := G.b
  exact loadGlobal_builtin (env := env) (by rw [g.glob]; exact n) (mg_none_of G.k n hx) (by rw [g.bins]; exact n') ((b x hn).trans hb) h

theorem Ev_bin {l r : Expr} {op : Operator} {pos : Pos} {a b c : PV} (hl : Ev w k env m l a) (hr : Ev w k env m r b) (hop : Bop w k op a b c) : Ev w k env m (.BinOp l op r pos) c :=
  fun A h₀ s g Q E h => wpAny_BinOp (hl A h₀ s g _ _ fun va s₁ k₁ ra => hr A h₀ s₁ (g.kp k₁) _ _ fun vb s₂ k₂ rb =>
    hop A s₂ va vb ((g.kp k₁).kp k₂).cx ((g.kp k₁).rep k₂ ra) rb _ _ fun v s₃ k₃ rv => h v s₃ ((k₁.trans k₂).trans k₃) rv)
theorem Ev_cmp {l r : Expr} {op : CmpOp} {pos : Pos} {a b c : PV} (hl : Ev w k env m l a) (hr : Ev w k env m r b) (hop : Cop w k op a b c) (hm : behindInMarks op r = false := by rfl) : Ev w k env m (.Compare l [op] [r] pos) c :=
  fun A h₀ s g Q E h => wpAny_Compare1 (hl A h₀ s g _ _ fun va s₁ k₁ ra => hr A h₀ s₁ (g.kp k₁) _ _ fun vb s₂ k₂ rb =>
    hop A s₂ va vb ((g.kp k₁).kp k₂).cx ((g.kp k₁).rep k₂ ra) rb _ _ fun v s₃ k₃ rv => h v s₃ ((k₁.trans k₂).trans k₃) rv) hm
theorem Ts_cmp {l r : Expr} {op : CmpOp} {pos : Pos} {a b : PV} {c : Bool} (hl : Ev w k env m l a) (hr : Ev w k env m r b) (hop : Cop w k op a b (.bool c)) (hm : behindInMarks op r = false := by rfl) : Ts w k env m (.Compare l [op] [r] pos) c :=
  fun A h₀ s Q E g h => wpAny_isTrue_Compare1 (hl A h₀ s g _ _ fun va s₁ k₁ ra => hr A h₀ s₁ (g.kp k₁) _ _ fun vb s₂ k₂ rb =>
    hop A s₂ va vb ((g.kp k₁).kp k₂).cx ((g.kp k₁).rep k₂ ra) rb _ _ fun v s₃ k₃ rv => by
      simp only [Rep] at rv; subst rv
      exact wpAny_truthy_bool (h s₃ ((k₁.trans k₂).trans k₃))) hm

theorem Evs_nil : Evs w k env m [] [] := fun A h₀ s Q E pos g h => spliced_nil (h _ _ (.refl ..) Reps.nil)
theorem Evs_cons {e : Expr} {es : List Expr} {p : PV} {ps : List PV} (he : Ev w k env m e p) (hs : Evs w k env m es ps) (hn : ∀ env, starEach (e :: es) env = (false, eval e env) :: starEach es env := by intro _; rfl) : Evs w k env m (e :: es) (p :: ps) :=
  fun A h₀ s Q E pos g h => by
    rw [hn]
    exact spliced_cons (he A h₀ s g _ _ fun v s₁ k₁ r => hs A h₀ s₁ _ _ pos (g.kp k₁) fun vs s₂ k₂ rs => h _ _ (k₁.trans k₂) (Reps.cons ((g.kp k₁).rep k₂ r) rs))

theorem Evs.args {es : List Expr} {ps : List PV} (h : Evs w k env m es ps) {A : Around} {h₀ : Heap} {s : Shared} {f : Value} {pos : Pos} {Q : Args → Shared → Prop} {E : Value → Shared → Prop} (g : Gd w k A env h₀ s.heap m)
    (hQ : ∀ vs s', Kp A s s' → Reps s'.heap ps vs → Q ⟨vs, []⟩ s') (hst : (starEach es env).all (fun x => !x.1) = true) : wpAny (Md w) A (evalArgs f true (backTo pos (starEach es env)) []) Q E s := by
  have h' := h A h₀ s (fun vs s' => Q ⟨vs, []⟩ s') E pos g hQ
  generalize hb : backTo pos (starEach es env) = b at h' ⊢
  have hall : b.all (fun x => !x.1) = true := by
    rw [← hb]; unfold backTo; rw [List.all_map]; exact hst
  cases b with
  | nil =>
    unfold evalArgs
    show wpAny _ A (spliced [] >>= _) Q E s
    refine wpAny_bind (wpAny_mono h' (fun vs s' q => ?_) fun _ _ x => x)
    exact wpAny_holding (wpAny_bind (wpAny_pure (wpAny_bind (wpAny_pure (wpAny_pure q)))))
  | cons x rest =>
    obtain ⟨x1, x2⟩ := x
    simp at hall
    obtain ⟨rfl, _⟩ := hall
    exact evalArgs_plain h'

theorem callWith_type {pos : Pos} {n : String} {args : List (Bool × Sem Value)} {A : Around} {s : Shared} {Q : Value → Shared → Prop} {E : Value → Shared → Prop} (hplain : args.any (·.1) = false)
    (h : wpAny (Md w) A (evalArgs (.type n) true args []) (fun a s₁ => wpAny (Md w) A (call (.type n) a.pos a.kw) Q E s₁) E s) :
    wpAny (Md w) A (callWith pos (.type n) [] args []) Q E s := by
  unfold callWith
  refine wpAny_bind (wpAny_holding (wpAny_mono h (fun a s₁ h₁ => wpAny_bind (wpAny_standAt ?_)) fun _ _ x => x))
  simp only [hplain, List.any_nil, Bool.or_false]
  refine wpAny_bind (wpAny_pure ?_)
  exact wpAny_bind (wpAny_mono h₁ (fun r s₂ hr => wpAny_bind (wpAny_holding (wpAny_point (wpAny_pure hr)))) fun _ _ x => x)

theorem Ev_fn {x : Str} {p pos : Pos} {es : List Expr} {ps : List PV} {f : Addr} {r : PV} {fd : FuncData} {oc : Value} {od : Option Addr} {osl : Array (Option Value)} (hx : nsIn (K w) mainGlobals x = some (some (.ref f))) (hk : env.kindOf x = some .globalImplicit)
    (ho : (K w).lookup f = some ⟨oc, od, .func fd, osl⟩)
    (he : Evs w k env m es ps) (hf : Fn w k f ps r) (hst : (starEach es env).all (fun x => !x.1) = true := by rfl) (hd : (x == ("__debug__" : Str)) = false := by decide) : Ev w k env m (.Call (.Name x p) es [] pos) r :=
  fun A h₀ s g Q E h => wpAny_Call_Name_kw (g.global hx hk (callWith_function (he.args g (fun vs s₁ k₁ rs => by
    have g₁ := g.kp k₁
    exact ⟨⟨g₁.cx.gl.k _ _ ho, rfl⟩, hf A s₁ vs g₁.cx rs _ _ fun v s₂ k₂ r => h v s₂ (k₁.trans k₂) r⟩) hst)) hd)

theorem any_backTo {es : List Expr} {pos : Pos} (hst : (starEach es env).all (fun x => !x.1) = true) : (backTo pos (starEach es env)).any (·.1) = false := by
  unfold backTo
  rw [List.any_map]
  simp only [List.any_eq_false, List.all_eq_true] at hst ⊢
  intro x hx
  have := hst x hx
  simpa using this

theorem Ev_bi {x : Str} {p pos : Pos} {es : List Expr} {ps : List PV} {id : String} {r : PV} (hx : nsIn (K w) mainGlobals x = some none) (hb : bootBuiltins x = some (.builtin id)) (hk : env.kindOf x = some .globalImplicit)
    (he : Evs w k env m es ps) (hf : Bi w k (.builtin id) ps r) (hn : x ≠ "__name__" := by decide) (hst : (starEach es env).all (fun x => !x.1) = true := by rfl) (hd : (x == ("__debug__" : Str)) = false := by decide) : Ev w k env m (.Call (.Name x p) es [] pos) r :=
  fun A h₀ s g Q E h => wpAny_Call_Name_kw (g.built hx hb hk hn (callWith_builtin (any_backTo hst) (he.args g (fun vs s₁ k₁ rs => by
    exact hf A s₁ vs (g.kp k₁).cx rs _ _ fun v s₂ k₂ r => h v s₂ (k₁.trans k₂) r) hst)) hd)
theorem Ev_ty {x : Str} {p pos : Pos} {es : List Expr} {ps : List PV} {id : String} {r : PV} (hx : nsIn (K w) mainGlobals x = some none) (hb : bootBuiltins x = some (.type id)) (hk : env.kindOf x = some .globalImplicit)
    (he : Evs w k env m es ps) (hf : Bi w k (.type id) ps r) (hn : x ≠ "__name__" := by decide) (hst : (starEach es env).all (fun x => !x.1) = true := by rfl) (hd : (x == ("__debug__" : Str)) = false := by decide) : Ev w k env m (.Call (.Name x p) es [] pos) r :=
  fun A h₀ s g Q E h => wpAny_Call_Name_kw (g.built hx hb hk hn (callWith_type (any_backTo hst) (he.args g (fun vs s₁ k₁ rs => by
    exact hf A s₁ vs (g.kp k₁).cx rs _ _ fun v s₂ k₂ r => h v s₂ (k₁.trans k₂) r) hst)) hd)
theorem Ev_tyname {x : Str} {pos : Pos} {id : String} (hx : nsIn (K w) mainGlobals x = some none) (hb : bootBuiltins x = some (.type id)) (hk : env.kindOf x = some .globalImplicit) (hn : x ≠ "__name__" := by decide) (hd : (x == ("__debug__" : Str)) = false := by decide) : Ev w k env m (.Name x pos) (.type id) :=
  fun A h₀ s g Q E h => g.built hx hb hk hn (h _ _ (.refl ..) rfl) hd

/-- a new list, a new tuple -/
theorem newList_tr {A : Around} {s : Shared} {ps : List PV} {vs : List Value} (rs : Reps s.heap ps vs) (hl : ps.length ≤ sizeLine) : Tr w A (newList vs) (.list ps) s := fun Q E h => by
  refine wpAny_newObj_type (h _ _ (.of_ext fun b o e => Heap.get?_push_of_some _ e) ?_) (by show vs.toArray.size ≤ sizeLine; rw [List.size_toArray, rs.length]; exact hl)
  simp only [Rep]
  exact ⟨_, vs, _, rfl, Heap.get?_push_size _ rfl, Reps.mono (Ext.q fun b o e => Heap.get?_push_of_some _ e) _ _ rs⟩
theorem newTuple_tr {A : Around} {s : Shared} {ps : List PV} {vs : List Value} (rs : Reps s.heap ps vs) (hl : ps.length ≤ sizeLine) : Tr w A (newTuple vs) (.tup ps) s := fun Q E h => by
  refine wpAny_newObj_type (h _ _ (.of_ext fun b o e => Heap.get?_push_of_some _ e) ?_) (by show vs.toArray.size ≤ sizeLine; rw [List.size_toArray, rs.length]; exact hl)
  simp only [Rep]
  exact ⟨_, vs, _, rfl, Heap.get?_push_size _ rfl, Reps.mono (Ext.q fun b o e => Heap.get?_push_of_some _ e) _ _ rs⟩
theorem Ev_list {es : List Expr} {pos : Pos} {ps : List PV} (he : Evs w k env m es ps) (hl : ps.length ≤ sizeLine := by first | decide | (simp only [List.length_cons, List.length_nil]; decide)) : Ev w k env m (.List es pos) (.list ps) :=
  fun A h₀ s g Q E h => List_ (he A h₀ s _ _ pos g fun vs s₁ k₁ rs => newList_tr rs hl _ _ fun v s₂ k₂ r => h v s₂ (k₁.trans k₂) r)
theorem Ev_tuple {es : List Expr} {pos : Pos} {n : Nat} {ps : List PV} (he : Evs w k env m es ps) (hl : ps.length ≤ sizeLine := by first | decide | (simp only [List.length_cons, List.length_nil]; decide)) : Ev w k env m (.Tuple es n pos) (.tup ps) :=
  fun A h₀ s g Q E h => Tuple_ (he A h₀ s _ _ pos g fun vs s₁ k₁ rs => newTuple_tr rs hl _ _ fun v s₂ k₂ r => h v s₂ (k₁.trans k₂) r)
end

end Mine

end

/-! part Rules2 -/
section
open PySem PySem.W PySem.Calls PyProof.Rows
set_option linter.unusedVariables false
set_option maxRecDepth 100000
namespace Mine

structure Ks (A : Around) (env : Env) (s s' : Shared) : Prop where
  same : ∃ h tk, s' = { s with heap := h, toks := tk }
  up : ∀ b o, s.heap.get? b = some o → b ∉ frs A → b ≠ env.locals → (∀ x, (x, b) ∉ env.cells) → s'.heap.get? b = some o
  fr : ∀ b o, s.heap.get? b = some o → b ≠ env.locals → (∀ x, (x, b) ∉ env.cells) → ∃ sl, s'.heap.get? b = some { o with slots := sl }
theorem Kp.ks {A : Around} {env : Env} {s s' : Shared} (x : Kp A s s') : Ks A env s s' := ⟨x.same, fun b o e n _ _ => x.up b o e n, fun b o e _ _ => x.fr b o e⟩
theorem Ks.refl (A : Around) (env : Env) (s : Shared) : Ks A env s s := (Kp.refl A s).ks
theorem Ks.trans {A : Around} {env : Env} {a b c : Shared} (x : Ks A env a b) (y : Ks A env b c) : Ks A env a c := by
  refine ⟨?_, fun p o e n l q => y.up p o (x.up p o e n l q) n l q, fun p o e l q => ?_⟩
  · obtain ⟨h1, t1, rfl⟩ := x.same
    obtain ⟨h2, t2, rfl⟩ := y.same
    exact ⟨h2, t2, rfl⟩
  · obtain ⟨s1, e1⟩ := x.fr p o e l q
    obtain ⟨s2, e2⟩ := y.fr p _ e1 l q
    exact ⟨s2, e2⟩

theorem SameBut.q {h h' : Heap} {a : Addr} {o : Obj} (x : Heap.SameBut a h h') (e : h.get? a = some o) (n : ∀ xs n, o.data ≠ .seq xs n) : ExtQ h h' := fun b o' e' d => by
  refine (x.2 b fun q => ?_).trans e'
  subst q
  rw [e] at e'; cases e'
  obtain ⟨xs, k, d⟩ := d
  exact n xs k d

theorem ns_fun {h : Heap} {a : Addr} {m m' : Str → Option Value} (x : h.Ns a m) (y : h.Ns a m') : m = m' := by
  obtain ⟨o, es, ep, e, d, _, f⟩ := x
  obtain ⟨o', es', ep', e', d', _, f'⟩ := y
  rw [e] at e'; cases e'
  rw [d] at d'; cases d'
  funext z
  rw [← f z, ← f' z]

section
variable {w : World} {k : Nat} {env : Env} {m : Mp} {A : Around} {h₀ h h' : Heap} {x : Str} {p : PV} {v : Value} {mv : Str → Option Value} {c : Addr}
theorem Gd.afterL (g : Gd w k A env h₀ h m) (r : Rep h p v) (hx : env.kindOf x = some .local) (n : h.Ns env.locals mv) (n' : h'.Ns env.locals (fun y => if y = x then some v else mv y)) (sb : ∀ b, b ≠ env.locals → h'.get? b = h.get? b) :
    Gd w k A env h₀ h' ((x, p) :: m) := by
  obtain ⟨mv', n₁, rd⟩ := g.mem
  have := ns_fun n₁ n
  subst this
  obtain ⟨oL, es, ep, eL, dL, _⟩ := id n
  have q : ExtQ h h' := fun a o e d => (sb a fun ha => by
    subst ha
    rw [eL] at e; cases e
    obtain ⟨_, _, d⟩ := d
    rw [dL] at d; cases d).trans e
  have B := g.base
  obtain ⟨outer, hA, hf⟩ := B.frames
  refine ⟨g.ok, g.kind, g.glob, g.bins, ⟨B.gl, fun b o e => ?_, ⟨outer, hA, fun e he => ?_⟩, B.noL, fun y c hm => ?_⟩, g.apart, _, n', fun y py e => ?_⟩
  · exact (sb b fun q => by rw [q, B.noL] at e; cases e).trans (B.keep b o e)
  · obtain ⟨a, L, o, es, ep, h1, h2, h3, h4⟩ := hf e he
    by_cases hL : L = env.locals
    · subst hL
      obtain ⟨o', es', ep', e', d', _⟩ := n'
      exact ⟨a, _, o', es', ep', h1, h2, e', d'⟩
    · exact ⟨a, L, o, es, ep, h1, h2, (sb L hL).trans h3, h4⟩
  · obtain ⟨c1, c2, u, o, c3, c4⟩ := B.noC y c hm
    exact ⟨c1, c2, u, o, (sb c c2).trans c3, c4⟩
  · rw [List.lookup_cons] at e
    cases hyx : y == x with
    | true =>
      rw [hyx] at e; cases e
      have := beq_iff_eq.mp hyx
      subst this
      exact ⟨v, Rep.mono q _ _ r, .inl ⟨hx, by simp⟩⟩
    | false =>
      rw [hyx] at e
      obtain ⟨u, r1, r2⟩ := rd y py e
      refine ⟨u, Rep.mono q _ _ r1, ?_⟩
      rcases r2 with ⟨a, b⟩ | ⟨a, c, b, o, d, d'⟩
      · refine .inl ⟨a, ?_⟩
        have : y ≠ x := by intro q; subst q; simp at hyx
        simpa [this] using b
      · exact .inr ⟨a, c, b, o, (sb c (B.noC y c (mem_of_lookup b)).2.1).trans d, d'⟩
theorem Gd.afterC (g : Gd w k A env h₀ h m) (r : Rep h p v) (hx : env.kindOf x = some .cell) (hc : env.cells.lookup x = some c) (hv : h'.IsCell c (some v)) (sb : ∀ b, b ≠ c → h'.get? b = h.get? b) :
    Gd w k A env h₀ h' ((x, p) :: m) := by
  obtain ⟨mv, n, rd⟩ := g.mem
  have B := g.base
  obtain ⟨c1, c2, u, c3⟩ := B.noC x c (mem_of_lookup hc)
  obtain ⟨oc, ec, dc⟩ := id c3
  have q : ExtQ h h' := fun a ob e d => (sb a fun ha => by
    subst ha
    rw [ec] at e; cases e
    obtain ⟨_, _, d⟩ := d
    rw [dc] at d; cases d).trans e
  obtain ⟨outer, hA, hf⟩ := B.frames
  have kc : ∀ {c' : Addr} {u' : Option Value}, c' ≠ c → h.IsCell c' u' → h'.IsCell c' u' := fun hne ⟨ob, e, d⟩ => ⟨ob, (sb _ hne).trans e, d⟩
  refine ⟨g.ok, g.kind, g.glob, g.bins, ⟨B.gl, fun b ob e => ?_, ⟨outer, hA, fun e he => ?_⟩, B.noL, fun y c' hm => ?_⟩, g.apart, mv, ?_, fun y py e => ?_⟩
  · exact (sb b fun q => by rw [q, c1] at e; cases e).trans (B.keep b ob e)
  · obtain ⟨a, L, ob, es, ep, h1, h2, h3, h4⟩ := hf e he
    refine ⟨a, L, ob, es, ep, h1, h2, (sb L fun q => ?_).trans h3, h4⟩
    rw [q, ec] at h3; cases h3
    rw [dc] at h4; cases h4
  · obtain ⟨e1, e2, u', e3⟩ := B.noC y c' hm
    refine ⟨e1, e2, ?_⟩
    by_cases hcc : c' = c
    · subst hcc; exact ⟨_, hv⟩
    · exact ⟨u', kc hcc e3⟩
  · obtain ⟨ob, es, ep, e, d⟩ := n
    exact ⟨ob, es, ep, (sb _ (Ne.symm c2)).trans e, d⟩
  · rw [List.lookup_cons] at e
    cases hyx : y == x with
    | true =>
      rw [hyx] at e; cases e
      have := beq_iff_eq.mp hyx
      subst this
      exact ⟨v, Rep.mono q _ _ r, .inr ⟨.inl hx, c, hc, hv⟩⟩
    | false =>
      rw [hyx] at e
      obtain ⟨u, r1, r2⟩ := rd y py e
      refine ⟨u, Rep.mono q _ _ r1, ?_⟩
      rcases r2 with a | ⟨a, c', b, d⟩
      · exact .inl a
      · refine .inr ⟨a, c', b, kc (fun q => ?_) d⟩
        subst q
        have := g.apart _ _ _ b hc
        subst this
        simp at hyx
end

section
variable {w : World} {k : Nat} {env : Env} {m : Mp} {A : Around} {h₀ : Heap} {s : Shared} {x : Str} {p : PV} {v : Value} {Q : Unit → Shared → Prop} {E : Value → Shared → Prop}

theorem Gd.storeL (g : Gd w k A env h₀ s.heap m) (r : Rep s.heap p v) (hx : env.kindOf x = some .local)
    (h : ∀ s', Ks A env s s' → Gd w k A env h₀ s'.heap ((x, p) :: m) → Rep s'.heap p v → Q () s') : wpAny (Md w) A (storeName env x v) Q E s := by
  obtain ⟨mv, n, _⟩ := g.mem
  refine wpAny_storeName_local hx n (fun h' n' sb => ?_) (by rw [g.kind]; rfl)
  have g' := g.afterL r hx n n' sb.2
  obtain ⟨oL, es, ep, eL, dL, _⟩ := n
  exact h _ ⟨⟨_, _, rfl⟩, fun b o e _ l _ => (sb.2 b l).trans e, fun b o e l _ => ⟨o.slots, (sb.2 b l).trans e⟩⟩ g' (Rep.mono (SameBut.q sb eL (fun xs k e => by rw [dL] at e; cases e)) _ _ r)
theorem Gd.storeC {c : Addr} (g : Gd w k A env h₀ s.heap m) (r : Rep s.heap p v) (hx : env.kindOf x = some .cell) (hc : env.cells.lookup x = some c)
    (h : ∀ s', Ks A env s s' → Gd w k A env h₀ s'.heap ((x, p) :: m) → Rep s'.heap p v → Q () s') : wpAny (Md w) A (storeName env x v) Q E s := by
  obtain ⟨c1, c2, u, c3⟩ := g.base.noC x c (mem_of_lookup hc)
  refine wpAny_storeName_cell g.kind hx hc c3 fun h' hv sb => ?_
  have g' := g.afterC r hx hc hv sb.2
  obtain ⟨oc, ec, dc⟩ := c3
  exact h _ ⟨⟨_, _, rfl⟩, fun b o e _ l nc => (sb.2 b fun q => nc x (q ▸ mem_of_lookup hc)).trans e, fun b o e l nc => ⟨o.slots, (sb.2 b fun q => nc x (q ▸ mem_of_lookup hc)).trans e⟩⟩ g' (Rep.mono (SameBut.q sb ec (fun xs k e => by rw [dc] at e; cases e)) _ _ r)
end

/-- a block that returns -/
def Ret (w : World) (k : Nat) (env : Env) (m : Mp) (st : List Stmt) (r : PV) : Prop :=
  ∀ A h₀ s, Gd w k A env h₀ s.heap m → ∀ (Q : Flow → Shared → Prop) (E : Value → Shared → Prop), (∀ v s', Ks A env s s' → Rep s'.heap r v → Q (.ret v) s') → wpAny (Md w) A (execs st env) Q E s
/-- a block that goes on -/
def Nx (w : World) (k : Nat) (env : Env) (m : Mp) (st : List Stmt) (m' : Mp) : Prop :=
  ∀ A h₀ s, Gd w k A env h₀ s.heap m → ∀ (Q : Flow → Shared → Prop) (E : Value → Shared → Prop), (∀ s', Ks A env s s' → Gd w k A env h₀ s'.heap m' → Q .next s') → wpAny (Md w) A (execs st env) Q E s
/-- a statement that goes on -/
def Nx1 (w : World) (k : Nat) (env : Env) (m : Mp) (st : Stmt) (m' : Mp) : Prop :=
  ∀ A h₀ s, Gd w k A env h₀ s.heap m → ∀ (Q : Flow → Shared → Prop) (E : Value → Shared → Prop), (∀ s', Ks A env s s' → Gd w k A env h₀ s'.heap m' → Q .next s') → wpAny (Md w) A (exec st env) Q E s

section
variable {w : World} {k : Nat} {env : Env} {m m' m'' : Mp}

theorem Ret_return {e : Expr} {pos : Pos} {rest : List Stmt} {r : PV} (h : Ev w k env m e r) : Ret w k env m (.Return (some e) pos :: rest) r :=
  fun A h₀ s g Q E hQ => wpAny_execs_cons (wpAny_Return_some (h A h₀ s g _ _ fun v s' q rv => hQ v s' q.ks rv))
theorem Ret_cons {st : Stmt} {rest : List Stmt} {r : PV} (h : Nx1 w k env m st m') (hr : Ret w k env m' rest r) : Ret w k env m (st :: rest) r :=
  fun A h₀ s g Q E hQ => wpAny_execs_cons (h A h₀ s g _ _ fun s' q g' => hr A h₀ s' g' _ _ fun v s'' q' rv => hQ v s'' (q.trans q') rv)
theorem Nx_nil : Nx w k env m [] m := fun A h₀ s g Q E hQ => wpAny_execs_nil (hQ s (.refl ..) g)
theorem Nx_cons {st : Stmt} {rest : List Stmt} (h : Nx1 w k env m st m') (hr : Nx w k env m' rest m'') : Nx w k env m (st :: rest) m'' :=
  fun A h₀ s g Q E hQ => wpAny_execs_cons (h A h₀ s g _ _ fun s' q g' => hr A h₀ s' g' _ _ fun s'' q' g'' => hQ s'' (q.trans q') g'')
theorem Nx1_assign {x : Str} {e : Expr} {p : PV} {px pos : Pos} (h : Ev w k env m e p) (hx : env.kindOf x = some .local) (hs : swapsWith e (some (.Name x px)) pos.line env = pure false := by rfl) :
    Nx1 w k env m (.Assign [.Name x px] e pos) ((x, p) :: m) :=
  fun A h₀ s g Q E hQ => wpAny_Assign_Name (h A h₀ s g _ _ fun v s₁ k₁ r => (g.kp k₁).storeL r hx fun s₂ q g₂ _ => hQ s₂ (k₁.ks.trans q) g₂) hs
theorem Nx1_assignC {x : Str} {e : Expr} {p : PV} {px pos : Pos} {c : Addr} (h : Ev w k env m e p) (hx : env.kindOf x = some .cell) (hc : env.cells.lookup x = some c) (hs : swapsWith e (some (.Name x px)) pos.line env = pure false) :
    Nx1 w k env m (.Assign [.Name x px] e pos) ((x, p) :: m) :=
  fun A h₀ s g Q E hQ => wpAny_Assign_Name (h A h₀ s g _ _ fun v s₁ k₁ r => (g.kp k₁).storeC r hx hc fun s₂ q g₂ _ => hQ s₂ (k₁.ks.trans q) g₂) hs
theorem Nx1_if_false {t : Expr} {b o : List Stmt} {pos : Pos} (h : Ts w k env m t false) (ho : Nx w k env m o m') : Nx1 w k env m (.If t b o pos) m' :=
  fun A h₀ s g Q E hQ => wpAny_If (h A h₀ s _ _ g fun s₁ q => by
    simp only [Bool.false_eq_true, if_false]
    exact ho A h₀ s₁ (g.kp q) _ _ fun s₂ q₂ g₂ => hQ s₂ (q.ks.trans q₂) g₂)
theorem Ret_if_true {t : Expr} {b o : List Stmt} {pos : Pos} {rest : List Stmt} {r : PV} (h : Ts w k env m t true) (ho : Ret w k env m b r) : Ret w k env m (.If t b o pos :: rest) r :=
  fun A h₀ s g Q E hQ => wpAny_execs_cons (wpAny_If (h A h₀ s _ _ g fun s₁ q => by
    simp only [if_true]
    exact ho A h₀ s₁ (g.kp q) _ _ fun v s₂ q₂ g₂ => hQ v s₂ (q.ks.trans q₂) g₂))
end

/-- binding the arguments -/
theorem bind_reads {h : Heap} (kindOf : Str → Option NameKind) : ∀ (names : List Str) (ps : List PV) (vs : List Value), names.Nodup → Reps h ps vs → names.length = ps.length → ∀ (ml mc : Str → Option Value) (y : Str),
    (∀ p, (names.zip ps).lookup y = some p → ∃ v, Rep h p v ∧ (kindOf y = some .local → bindL kindOf (names.zip vs) ml y = some v) ∧ (kindOf y ≠ some .local → bindC kindOf (names.zip vs) mc y = some v)) ∧
    (y ∉ names → bindL kindOf (names.zip vs) ml y = ml y ∧ bindC kindOf (names.zip vs) mc y = mc y)
  | [], ps, vs, _, _, _, ml, mc, y => ⟨fun p e => by simp at e, fun _ => by simp [bindL, bindC]⟩
  | n :: ns, [], vs, _, _, hl, _, _, _ => by simp at hl
  | n :: ns, q :: ps, vs, nd, rs, hl, ml, mc, y => by
    simp only [Reps] at rs
    obtain ⟨v, t, rfl, r1, r2⟩ := rs
    have nd' := List.nodup_cons.mp nd
    have ih := bind_reads kindOf ns ps t nd'.2 r2 (by simpa using hl) (if kindOf n = some .local then fun y => if y = n then some v else ml y else ml) (if kindOf n = some .local then mc else fun y => if y = n then some v else mc y) y
    refine ⟨fun p e => ?_, fun hy => ?_⟩
    · simp only [List.zip_cons_cons, List.lookup_cons] at e
      cases hyn : y == n with
      | true =>
        rw [hyn] at e; cases e
        have := beq_iff_eq.mp hyn
        subst this
        refine ⟨v, r1, fun hk => ?_, fun hk => ?_⟩
        · simp only [List.zip_cons_cons, bindL]
          rw [(ih.2 nd'.1).1]; simp [hk]
        · simp only [List.zip_cons_cons, bindC]
          rw [(ih.2 nd'.1).2]; simp [hk]
      | false =>
        rw [hyn] at e
        obtain ⟨u, a, b, c⟩ := ih.1 p e
        exact ⟨u, a, by simpa only [List.zip_cons_cons, bindL] using b, by simpa only [List.zip_cons_cons, bindC] using c⟩
    · simp only [List.mem_cons, not_or] at hy
      simp only [List.zip_cons_cons, bindL, bindC]
      rw [(ih.2 hy.2).1, (ih.2 hy.2).2]
      constructor
      · split <;> simp [hy.1]
      · split <;> simp [hy.1]

theorem cellsFrom_of {x : Str} {c : Addr} : ∀ (names : List (Str × NameKind)) (n : Nat) (acc : List (Str × Addr)), (x, c) ∈ cellsFrom n names acc → (x, c) ∈ acc ∨ n ≤ c
  | [], _, _, h => .inl h
  | (y, kd) :: r, n, acc, h => by
    unfold cellsFrom at h
    split at h
    · rcases cellsFrom_of r (n + 1) _ h with h | h
      · rcases List.mem_cons.mp h with h | h
        · cases h; exact .inr (Nat.le_refl _)
        · exact .inl h
      · exact .inr (by omega)
    · exact cellsFrom_of r n acc h

abbrev enter (fd : FuncData) (L f : Addr) : Env := newEnv fd.scope L mainGlobals (cellsFrom (L + 1) fd.scope.names []) (fd.qualname ++ ".<locals>.") (some f) fd.code none builtinsNs

/-- the frame of a call: a good one, and what it leaves is kept -/
theorem enter_core {w : World} {k : Nat} {A A' : Around} {s : Shared} {f : Addr} {fd : FuncData} {names : List Str} {ps : List PV} {vs : List Value} {Q : Env → Shared → Prop} {E : Value → Shared → Prop}
    (hkind : fd.scope.kind = .function) (hlen : names.length = ps.length) (hnd : names.Nodup)
    (hks : (names.all fun y => fd.scope.names.lookup y == some .local || fd.scope.names.lookup y == some .cell) = true)
    (hcn : ((cellsFrom 0 fd.scope.names []).map (·.1)).Nodup) (cx : Cx w (k + 1) A s.heap) (rs : Reps s.heap ps vs)
    (h : ∀ s₁ h₀, Gd w k (A.deeper (enter fd s.heap.objs.size f)) (enter fd s.heap.objs.size f) h₀ s₁.heap (names.zip ps) → (∀ b o, s.heap.get? b = some o → s₁.heap.get? b = some o) →
      (∀ s', Ks (A.deeper (enter fd s.heap.objs.size f)) (enter fd s.heap.objs.size f) s₁ s' → Kp A s s') → Q (enter fd s.heap.objs.size f) s₁) :
    wpAny (Md w) A' (newFunctionEnv fd.scope mainGlobals [] (names.zip vs) (fd.qualname ++ ".<locals>.") (some f) fd.code none builtinsNs) Q E s := by
  have hz : ((names.zip vs).all fun y => fd.scope.names.lookup y.1 == some .local || fd.scope.names.lookup y.1 == some .cell) = true := by
    rw [List.all_eq_true] at hks ⊢
    intro y hy
    exact hks _ (List.of_mem_zip hy).1
  refine wpAny_newFunctionEnv_cells hkind (fun y hy => kindsX hz _ y hy) fun env he s₁ x => ?_
  subst he
  obtain ⟨h₀, gl, kp, outer, hA, hf⟩ := cx.base
  have keep := x.toInCall.keep
  have hL : ∀ b o, s.heap.get? b = some o → b ≠ s.heap.objs.size := fun b o e => Nat.ne_of_lt (Heap.lt_size e)
  have hc : ∀ y c, (y, c) ∈ cellsFrom (s.heap.objs.size + 1) fd.scope.names [] → s.heap.objs.size < c := fun y c hm => by
    rcases cellsFrom_of _ _ _ hm with q | q
    · cases q
    · exact q
  have fresh : ∀ a, s.heap.objs.size ≤ a → h₀.get? a = none := fun a ha => by
    cases e : h₀.get? a with
    | none => rfl
    | some o => exact absurd (Heap.lt_size (kp a o e)) (Nat.not_lt.mpr ha)
  have hcl : ∀ y c, (y, c) ∈ cellsFrom (s.heap.objs.size + 1) fd.scope.names [] → (cellsFrom (s.heap.objs.size + 1) fd.scope.names []).lookup y = some c := fun y c hm =>
    lookup_of_mem_nodup (cellsFrom_names fd.scope.names 0 (s.heap.objs.size + 1) [] [] rfl ▸ hcn) hm
  obtain ⟨h₁, tk, rfl, _⟩ := x.done
  have hA' : (A.deeper (enter fd s.heap.objs.size f)).frames = some (enter fd s.heap.objs.size f :: outer) := Around.frames_deeper hA
  have g : Gd w k (A.deeper (enter fd s.heap.objs.size f)) (enter fd s.heap.objs.size f) h₀ h₁ (names.zip ps) := by
    refine ⟨cx.ok.deeper, hkind, rfl, rfl, ⟨gl, kp.trans keep, ⟨_, hA', fun e he => ?_⟩, fresh _ (Nat.le_refl _), fun y c hm => ⟨fresh _ (Nat.le_of_lt (hc y c hm)), Nat.ne_of_gt (hc y c hm), _, x.cell y c (hcl y c hm)⟩⟩, fun y z c e1 e2 => name_of_addr x.apart (mem_of_lookup e1) (mem_of_lookup e2), _, x.toInCall.ns, fun y p e => ?_⟩
    · rcases List.mem_cons.mp he with rfl | he
      · obtain ⟨o, es, ep, e1, e2, _⟩ := x.toInCall.ns
        exact ⟨by rw [show (enter fd s.heap.objs.size f).scope.kind = _ from hkind]; decide, _, o, es, ep, rfl, fresh _ (Nat.le_refl _), e1, e2⟩
      · obtain ⟨a, L, o, es, ep, e1, e2, e3, e4⟩ := hf e he
        exact ⟨a, L, o, es, ep, e1, e2, keep _ _ e3, e4⟩
    · obtain ⟨v, a, b, c⟩ := (bind_reads (enter fd s.heap.objs.size f).kindOf names ps vs hnd rs hlen (fun _ => none) (fun _ => none) y).1 p e
      refine ⟨v, Rep.mono (Ext.q keep) _ _ a, ?_⟩
      have hy : y ∈ names := by
        have := mem_of_lookup e
        exact (List.of_mem_zip this).1
      have hyk := List.all_eq_true.mp hks y hy
      rcases Bool.or_eq_true_iff.mp hyk with q | q
      · have q' : (enter fd s.heap.objs.size f).kindOf y = some .local := beq_iff_eq.mp q
        exact .inl ⟨q', b q'⟩
      · have q' : (enter fd s.heap.objs.size f).kindOf y = some .cell := beq_iff_eq.mp q
        have hs := cellsFrom_some fd.scope.names (s.heap.objs.size + 1) [] (.inl q')
        obtain ⟨c', hc'⟩ := Option.isSome_iff_exists.mp hs
        refine .inr ⟨.inl q', c', hc', ?_⟩
        have := x.cell y c' hc'
        rwa [c (by rw [q']; decide)] at this
  refine h _ h₀ g keep fun s' q => ⟨?_, fun b o e n => ?_, fun b o e => ?_⟩
  · obtain ⟨h', t', rfl⟩ := q.same
    exact ⟨h', t', rfl⟩
  · refine q.up b o (keep b o e) (fun hb => ?_) (hL b o e) fun y hm => absurd (Heap.lt_size e) (Nat.not_lt.mpr (Nat.le_of_lt (hc y b hm)))
    obtain ⟨e', he', hfe⟩ := mem_frs hA' hb
    rcases List.mem_cons.mp he' with rfl | he'
    · cases hfe; exact hL _ _ e rfl
    · exact n (by unfold frs; rw [hA]; exact List.mem_filterMap.mpr ⟨e', he', hfe⟩)
  · exact q.fr b o (keep b o e) (hL b o e) fun y hm => absurd (Heap.lt_size e) (Nat.not_lt.mpr (Nat.le_of_lt (hc y b hm)))

theorem Fn_enter {w : World} {k : Nat} {f : Addr} {fd : FuncData} {body : List Stmt} {oc : Value} {od : Option Addr} {osl : Array (Option Value)} {names : List Str} {ps : List PV} {r : PV}
    (ho : (K w).lookup f = some ⟨oc, od, .func fd, osl⟩) (hbody : fd.body = .stmts body) (hcode : codeIn (K w) fd.code fd.qualname = true) (hclo : fd.closure = []) (hgl : fd.globals = mainGlobals) (hbt : fd.builtins = builtinsNs)
    (hkind : fd.scope.kind = .function) (hco : fd.scope.isCoroutine = false) (hgen : fd.scope.isGenerator = false)
    (hbind : ∀ vs, vs.length = names.length → bindArgs fd ⟨vs, []⟩ = pure (names.zip vs)) (hlen : names.length = ps.length) (hnd : names.Nodup)
    (hks : (names.all fun y => fd.scope.names.lookup y == some .local || fd.scope.names.lookup y == some .cell) = true)
    (hcn : ((cellsFrom 0 fd.scope.names []).map (·.1)).Nodup)
    (h : ∀ L, Ret w k (enter fd L f) (names.zip ps) body r) : Fn w (k + 1) f ps r := by
  intro A s vs cx rs Q E hQ
  have G := cx.gl
  have hvl : vs.length = names.length := by rw [rs.length, hlen]
  refine wpAny_call (codeAny_call_function (by have := cx.ok.deep; omega) (G.k _ _ ho) rfl hco hgen hbody (codeRec_of G.k hcode) ?_)
  rw [hbind vs hvl]
  refine wpAny_pure ?_
  rw [hclo, hgl, hbt]
  refine enter_core hkind hlen hnd hks hcn cx rs fun s₁ h₀ g keep back => ⟨G.nolimit.keeps keep, codeAny_func ?_⟩
  exact h s.heap.objs.size _ h₀ s₁ g _ _ fun v s' q rv => hQ v s' (back s' q) rv

end Mine

end

/-! part Rules3 -/
section
open PySem PySem.W PySem.Calls PyProof.Rows
set_option linter.unusedVariables false
set_option maxRecDepth 100000
namespace Mine

def PV.flat : PV → Bool
  | .list _ => false
  | .tup _ => false
  | _ => true
theorem Rep.flat {h h' : Heap} {p : PV} {v : Value} (hp : p.flat = true) (r : Rep h p v) : Rep h' p v := by
  cases p <;> first | (simp only [Rep] at r ⊢; exact r) | (simp [PV.flat] at hp)
theorem Reps.flat {h h' : Heap} : ∀ {ps : List PV} {vs : List Value}, (∀ p ∈ ps, p.flat = true) → Reps h ps vs → Reps h' ps vs
  | [], _, _, r => by simpa [Reps] using r
  | p :: ps, vs, hp, r => by
    simp only [Reps] at r
    obtain ⟨v, t, rfl, r1, r2⟩ := r
    exact Reps.cons (r1.flat (hp p (by simp))) (r2.flat fun q hq => hp q (by simp [hq]))

theorem ext_hide (h : Heap) (D : Addr) : Ext (h.hide D) h := fun _ _ e => Heap.of_hide e
theorem hide_some {h : Heap} {D b : Addr} {o : Obj} (e : h.get? b = some o) (n : b ≠ D) : (h.hide D).get? b = some o := (Heap.hide_ne h n).trans e
theorem hide_ne_of {h : Heap} {D b : Addr} {o : Obj} (e : (h.hide D).get? b = some o) : b ≠ D := fun q => by rw [q, Heap.hide_self] at e; cases e

theorem ext_hideAll (h : Heap) (X : List Addr) : Ext (hideAll h X) h := fun _ _ e => of_hideAll X e
theorem hideAll_nm {h : Heap} {X : List Addr} {b : Addr} {o : Obj} (e : (hideAll h X).get? b = some o) : b ∉ X := fun q => by rw [hideAll_none X q] at e; cases e

/-- kept but X; the stack's frames up to slots -/
structure Kc (A : Around) (X : List Addr) (s s' : Shared) : Prop where
  same : ∃ h tk, s' = { s with heap := h, toks := tk }
  up : ∀ b o, s.heap.get? b = some o → b ∉ frs A → b ∉ X → s'.heap.get? b = some o
  fr : ∀ b o, s.heap.get? b = some o → b ∉ X → ∃ sl, s'.heap.get? b = some { o with slots := sl }
theorem Kp.kc {A : Around} {X : List Addr} {s s' : Shared} (x : Kp A s s') : Kc A X s s' := ⟨x.same, fun b o e n _ => x.up b o e n, fun b o e _ => x.fr b o e⟩
theorem Kc.refl (A : Around) (X : List Addr) (s : Shared) : Kc A X s s := (Kp.refl A s).kc
theorem Kc.trans {A : Around} {X : List Addr} {a b c : Shared} (x : Kc A X a b) (y : Kc A X b c) : Kc A X a c := by
  refine ⟨?_, fun p o e n l => y.up p o (x.up p o e n l) n l, fun p o e l => ?_⟩
  · obtain ⟨h1, t1, rfl⟩ := x.same
    obtain ⟨h2, t2, rfl⟩ := y.same
    exact ⟨h2, t2, rfl⟩
  · obtain ⟨s1, e1⟩ := x.fr p o e l
    obtain ⟨s2, e2⟩ := y.fr p _ e1 l
    exact ⟨s2, e2⟩
theorem Kc.mono {A : Around} {X Y : List Addr} {a b : Shared} (x : Kc A X a b) (h : ∀ q ∈ X, q ∈ Y) : Kc A Y a b :=
  ⟨x.same, fun p o e n l => x.up p o e n fun q => l (h _ q), fun p o e l => x.fr p o e fun q => l (h _ q)⟩
/-- what is excepted stood not yet -/
theorem Kc.kp {A : Around} {X : List Addr} {s₀ s s' : Shared} (k : Kp A s₀ s) (x : Kc A X s s') (n : ∀ q ∈ X, s₀.heap.get? q = none) : Kp A s₀ s' := by
  refine ⟨?_, fun p o e f => x.up p o (k.up p o e f) f (fun q => by rw [n p q] at e; cases e), fun p o e => ?_⟩
  · obtain ⟨h1, t1, rfl⟩ := k.same
    obtain ⟨h2, t2, rfl⟩ := x.same
    exact ⟨h2, t2, rfl⟩
  · obtain ⟨s1, e1⟩ := k.fr p o e
    obtain ⟨s2, e2⟩ := x.fr p _ e1 fun q => by rw [n p q] at e; cases e
    exact ⟨s2, e2⟩
theorem Kc.of_sameBut {A : Around} {X : List Addr} {s : Shared} {h : Heap} {tk : Nat} {a : Addr} (x : Heap.SameBut a s.heap h) (ha : a ∈ X) : Kc A X s { s with heap := h, toks := tk } :=
  ⟨⟨_, _, rfl⟩, fun b o e _ l => (x.2 b fun q => l (q ▸ ha)).trans e, fun b o e l => ⟨o.slots, (x.2 b fun q => l (q ▸ ha)).trans e⟩⟩

section
variable {w : World} {k : Nat} {env : Env} {m : Mp} {A : Around} {h₀ h h' : Heap} {x : Str} {p : PV} {v : Value} {mv : Str → Option Value}

theorem Gd.drop (g : Gd w k A env h₀ h ((x, p) :: m)) (hx : m.lookup x = none) : Gd w k A env h₀ h m := by
  obtain ⟨mv, n, rd⟩ := g.mem
  refine { g with mem := ⟨mv, n, fun y py e => rd y py ?_⟩ }
  rw [List.lookup_cons]
  cases hyx : y == x with
  | true =>
    have := beq_iff_eq.mp hyx
    subst this
    rw [hx] at e; cases e
  | false => exact e

theorem Gd.ext (g : Gd w k A env h₀ h m) (e : Ext h h') : Gd w k A env h₀ h' m :=
  Gd.kp (s := { heap := h, gens := #[], drawn := {}, toks := 0, os := {} }) (s' := { heap := h', gens := #[], drawn := {}, toks := 0, os := {} }) g
    ⟨⟨h', 0, rfl⟩, fun b o q _ => e b o q, fun b o q => ⟨o.slots, e b o q⟩⟩

/-- what a step changes is none of the frame's -/
theorem Gd.but {X : List Addr} (g : Gd w k A env h₀ h m) (hk : ∀ b o, b ∉ X → h.get? b = some o → h'.get? b = some o) (hX : ∀ b ∈ X, h₀.get? b = none ∧ (∀ o, h.get? b = some o → ∃ vs, o.data = .fields vs)) : Gd w k A env h₀ h' m := by
  obtain ⟨mv, ⟨oL, es, ep, eL, dL, rL⟩, rd⟩ := g.mem
  have B := g.base
  obtain ⟨outer, hA, hf⟩ := B.frames
  have q : ExtQ h h' := fun a o e d => hk a o (fun ha => by
    obtain ⟨vs, d'⟩ := (hX a ha).2 o e
    obtain ⟨_, _, d⟩ := d
    rw [d] at d'; cases d') e
  refine ⟨g.ok, g.kind, g.glob, g.bins, ⟨B.gl, fun b o e => hk b o (fun hb => by rw [(hX b hb).1] at e; cases e) (B.keep b o e), ⟨outer, hA, fun e he => ?_⟩, B.noL, fun y c hm => ?_⟩, g.apart, mv, ⟨oL, es, ep, hk _ _ (fun hb => ?_) eL, dL, rL⟩, fun y py e => ?_⟩
  · obtain ⟨a, L, o, es, ep, h1, h2, h3, h4⟩ := hf e he
    refine ⟨a, L, o, es, ep, h1, h2, hk _ _ (fun hb => ?_) h3, h4⟩
    obtain ⟨vs, d'⟩ := (hX L hb).2 o h3
    rw [h4] at d'; cases d'
  · obtain ⟨c1, c2, u, o, c3, c4⟩ := B.noC y c hm
    refine ⟨c1, c2, u, o, hk _ _ (fun hb => ?_) c3, c4⟩
    obtain ⟨vs, d'⟩ := (hX c hb).2 o c3
    rw [c4] at d'; cases d'
  · obtain ⟨vs, d'⟩ := (hX _ hb).2 oL eL
    rw [dL] at d'; cases d'
  · obtain ⟨u, r1, r2⟩ := rd y py e
    refine ⟨u, Rep.mono q _ _ r1, ?_⟩
    rcases r2 with a | ⟨a, c, b, o, d, d'⟩
    · exact .inl a
    · refine .inr ⟨a, c, b, o, hk _ _ (fun hb => ?_) d, d'⟩
      obtain ⟨vs, d''⟩ := (hX _ hb).2 o d
      rw [d'] at d''; cases d''
end

/-- the state inside a comprehension: the list grown stands at D, all else stands without it -/
structure CS (w : World) (k : Nat) (A : Around) (cenv : Env) (h₀ : Heap) (D : Addr) (s : Shared) (m : Mp) (ys : List PV) : Prop where
  gd : Gd w k A cenv h₀ (s.heap.hide D) m
  flat : ∀ y ∈ ys, y.flat = true
  acc : ∃ vs n, s.heap.get? D = some (lobj vs n) ∧ Reps s.heap ys vs

section
variable {w : World} {k : Nat} {cenv : Env} {m : Mp} {A : Around} {h₀ : Heap} {D : Addr} {s s' : Shared} {ys : List PV} {x : Str} {p : PV} {v : Value}
theorem CS.gdx (c : CS w k A cenv h₀ D s m ys) : Gd w k A cenv h₀ s.heap m := c.gd.ext (ext_hide _ _)
theorem hide_kp (q : Kp A s s') (h : Shared → Prop) : Kp A { s with heap := s.heap.hide D } { s' with heap := s'.heap.hide D } := by
  refine ⟨?_, fun b o e n => ?_, fun b o e => ?_⟩
  · obtain ⟨h1, t1, rfl⟩ := q.same
    exact ⟨_, _, rfl⟩
  · exact hide_some (q.up b o (Heap.of_hide e) n) (hide_ne_of e)
  · obtain ⟨sl, e'⟩ := q.fr b o (Heap.of_hide e)
    exact ⟨sl, hide_some e' (hide_ne_of e)⟩
theorem CS.noD (c : CS w k A cenv h₀ D s m ys) : D ∉ frs A := fun hb => by
  obtain ⟨outer, hA, hf⟩ := c.gd.base.frames
  obtain ⟨_, o, es, ep, e, _⟩ := frame_dict hA hf hb
  exact hide_ne_of e rfl
theorem CS.kp (c : CS w k A cenv h₀ D s m ys) (q : Kp A s s') : CS w k A cenv h₀ D s' m ys := by
  refine ⟨Gd.kp (s := { s with heap := s.heap.hide D }) (s' := { s' with heap := s'.heap.hide D }) c.gd (hide_kp q fun _ => True), c.flat, ?_⟩
  obtain ⟨vs, n, e, r⟩ := c.acc
  exact ⟨vs, n, q.up _ _ e c.noD, r.flat c.flat⟩
theorem CS.drop (c : CS w k A cenv h₀ D s ((x, p) :: m) ys) (hx : m.lookup x = none) : CS w k A cenv h₀ D s m ys := { c with gd := c.gd.drop hx }

theorem CS.store {Q : Unit → Shared → Prop} {E : Value → Shared → Prop} (c : CS w k A cenv h₀ D s m ys) (r : Rep (s.heap.hide D) p v) (hx : cenv.kindOf x = some .local)
    (h : ∀ s', Kc A [cenv.locals, D] s s' → CS w k A cenv h₀ D s' ((x, p) :: m) ys → Q () s') : wpAny (Md w) A (storeName cenv x v) Q E s := by
  obtain ⟨mv, n, rd⟩ := c.gd.mem
  have hCD : cenv.locals ≠ D := by obtain ⟨o, es, ep, e, _⟩ := n; exact hide_ne_of e
  have n1 : s.heap.Ns cenv.locals mv := n.keeps (ext_hide _ _)
  refine wpAny_storeName_local hx n1 (fun h' n' sb => ?_) (by rw [c.gd.kind]; rfl)
  obtain ⟨vs, nn, e, rs⟩ := c.acc
  refine h _ (Kc.of_sameBut sb (by simp)) ⟨?_, c.flat, vs, nn, (sb.2 D (Ne.symm hCD)).trans e, rs.flat c.flat⟩
  refine c.gd.afterL r hx n ?_ fun b hb => ?_
  · obtain ⟨o, es, ep, e1, r1⟩ := n'
    exact ⟨o, es, ep, hide_some e1 hCD, r1⟩
  · by_cases hbD : b = D
    · subst hbD; rw [Heap.hide_self, Heap.hide_self]
    · rw [Heap.hide_ne _ hbD, Heap.hide_ne _ hbD]; exact sb.2 b hb

theorem CS.push {Q : Value → Shared → Prop} {E : Value → Shared → Prop} (c : CS w k A cenv h₀ D s m ys) (hp : p.flat = true) (r : Rep s.heap p v) (hsz : ys.length ≤ sizeLine)
    (h : ∀ s', Kc A [cenv.locals, D] s s' → CS w k A cenv h₀ D s' m (ys ++ [p]) → Q .none s') : wpAny (Md w) A (call (.builtin "list.append") [.ref D, v]) Q E s := by
  obtain ⟨vs, n, e, rs⟩ := c.acc
  refine append_at e (fun h' sb e' => ?_) (by show vs.toArray.size ≤ sizeLine; rw [List.size_toArray, rs.length]; exact hsz)
  refine h _ (Kc.of_sameBut sb (by simp)) ⟨?_, fun y hy => ?_, vs ++ [v], n + 1, by rw [e']; simp [lobj], (rs.snoc r).flat fun y hy => ?_⟩
  · refine c.gd.ext fun b o q => ?_
    have := hide_ne_of q
    exact hide_some ((sb.2 b this).trans (Heap.of_hide q)) this
  · rcases List.mem_append.mp hy with hy | hy
    · exact c.flat y hy
    · simp at hy; subst hy; exact hp
  · rcases List.mem_append.mp hy with hy | hy
    · exact c.flat y hy
    · simp at hy; subst hy; exact hp
end

end Mine

end

/-! part Rules4 -/
section
open PySem PySem.W PySem.Calls PyProof.Rows
set_option linter.unusedVariables false
set_option maxRecDepth 100000
namespace Mine

abbrev Pw : Program := PySem.Challenge.pw_oy0007_01

structure Itr (w : World) (A : Around) (h₀ : Heap) (s : Shared) (I : Addr) (xs : List PV) (fp wr : List Addr) (P : Nat → Value → Prop) (St : Nat → Heap → Prop) : Prop where
  W : Walks Pw w A I fp wr xs.length P St
  st : St 0 s.heap
  low : ∀ b ∈ fp, b < s.heap.objs.size
  new : ∀ b ∈ wr, h₀.get? b = none
  fld : ∀ i h, St i h → ∀ b ∈ wr, ∀ o, h.get? b = some o → ∃ vs, o.data = .fields vs
  nod : ∀ i h, St i h → ∀ b ∈ fp, ∀ o, h.get? b = some o → ∀ es ep, o.data ≠ .dict es ep
  nocell : ∀ i h, St i h → ∀ b ∈ fp, ∀ o, h.get? b = some o → ∀ v, o.data ≠ .cell v
  val : ∀ i v, P i v → ∃ x, xs[i]? = some x ∧ Rep s.heap x v

def It (w : World) (k : Nat) (env : Env) (m : Mp) (iter : Expr) (xs : List PV) : Prop :=
  ∀ A h₀ s, Gd w k A env h₀ s.heap m → ∀ (Q : Value → Shared → Prop) (E : Value → Shared → Prop),
    (∀ I s' fp wr P St, Kp A s s' → (∀ b ∈ wr, s.heap.get? b = none) → Itr w A h₀ s' I xs fp wr P St → Q (.ref I) s') →
    wpAny (Md w) A (eval iter env) (fun x s₁ => wpAny (Md w) A (pyIter x) Q E s₁) E s

section
variable {w : World} {k : Nat} {A : Around} {cenv : Env} {h₀ : Heap} {D I : Addr} {m : Mp} {α : Type} {ts : List α} {g : α → PV} {out : α → List PV} {e : Expr} {d : Nat} {pp : Pos} {tree : Value → Sem Fin}
  {s₀ s : Shared} {fp wr : List Addr} {P : Nat → Value → Prop} {St : Nat → Heap → Prop} {ys : List PV} {R : Result → Shared → Prop}

theorem CS.item {s : Shared} {h' : Heap} {tk : Nat} (c : CS w k A cenv h₀ D s m ys) (new : ∀ b ∈ wr, h₀.get? b = none) (fld : ∀ b ∈ wr, ∀ o, s.heap.get? b = some o → ∃ vs, o.data = .fields vs)
    (hk : ∀ b o, b ∉ wr → s.heap.get? b = some o → h'.get? b = some o) : CS w k A cenv h₀ D { s with heap := h', toks := tk } m ys := by
  obtain ⟨vs, n, e, rs⟩ := c.acc
  refine ⟨c.gd.but (X := wr) (fun b o hb q => hide_some (hk b o hb (Heap.of_hide q)) (hide_ne_of q)) fun b hb => ⟨new b hb, fun o q => fld b hb o (Heap.of_hide q)⟩, c.flat, vs, n, hk _ _ (fun hb => ?_) e, rs.flat c.flat⟩
  obtain ⟨vs, q⟩ := fld _ hb _ e
  cases q

theorem comp_loop
    (hT : compTurn e d (.ref I) (.ref D) cenv = (standAt pp >>= fun _ => pyNext (.ref I) >>= fun r => match r with | none => pure (.done .next) | some v => tree v))
    (hden : (Md w).den (.compLoop e d (.ref I) (.ref D) cenv) = (compTurn e d (.ref I) (.ref D) cenv).onRaise (fun x => do noteFrame x cenv; theTreesLotGoes x))
    (hq : (Code.compLoop e d (.ref I) (.ref D) cenv).quiet = true) (hu : A.under (.compLoop e d (.ref I) (.ref D) cenv) = A)
    (it : Itr w A h₀ s₀ I (ts.map g) fp wr P St) (hD : D ∉ fp) {hq₀ : Heap} (hval : ∀ i v, P i v → ∃ x, (ts.map g)[i]? = some x ∧ Rep hq₀ x v)
    (turn : ∀ t ∈ ts, ∀ v s ys, CS w k A cenv h₀ D s m ys → ys.length + (out t).length ≤ sizeLine → Rep (s.heap.hide D) (g t) v → ∀ (Q : Fin → Shared → Prop) (E : Value → Shared → Prop),
      (∀ s', Kc A [cenv.locals, D] s s' → CS w k A cenv h₀ D s' m (ys ++ out t) → Q (.again (.compLoop e d (.ref I) (.ref D) cenv)) s') → wpAny (Md w) A (tree v) Q E s)
    (hst : St 0 s.heap) (c₀ : CS w k A cenv h₀ D s m ys) (q₀ : ExtQ hq₀ (s.heap.hide D)) (hsz : ys.length + (ts.flatMap out).length ≤ sizeLine)
    (hR : ∀ s', CS w k A cenv h₀ D s' m (ys ++ ts.flatMap out) → Kc A (cenv.locals :: D :: wr) s s' → R (.ok .next) s') :
    codeAny (Md w) A (.compLoop e d (.ref I) (.ref D) cenv) R s := by
  have hlen : (ts.map g).length = ts.length := by simp
  obtain ⟨Iv, mk, un⟩ : ∃ Iv : Nat → Shared → Prop, (∀ n s', (∃ i, i ≤ ts.length ∧ n = ts.length + 1 - i ∧ CS w k A cenv h₀ D s' m (ys ++ (ts.take i).flatMap out) ∧ St i s'.heap ∧ ExtQ hq₀ (s'.heap.hide D) ∧ Kc A (cenv.locals :: D :: wr) s s') → Iv n s') ∧ ∀ n s', Iv n s' → ∃ i, i ≤ ts.length ∧ n = ts.length + 1 - i ∧ CS w k A cenv h₀ D s' m (ys ++ (ts.take i).flatMap out) ∧ St i s'.heap ∧ ExtQ hq₀ (s'.heap.hide D) ∧ Kc A (cenv.locals :: D :: wr) s s' := ⟨fun n s' => ∃ i, i ≤ ts.length ∧ n = ts.length + 1 - i ∧ CS w k A cenv h₀ D s' m (ys ++ (ts.take i).flatMap out) ∧ St i s'.heap ∧ ExtQ hq₀ (s'.heap.hide D) ∧ Kc A (cenv.locals :: D :: wr) s s', fun _ _ h => h, fun _ _ h => h⟩
  refine codeAny_loop hq Iv (fun n s' h => ?_) (ts.length + 1) (mk _ _ ⟨0, Nat.zero_le _, rfl, by simpa using c₀, hst, q₀, .refl ..⟩)
  obtain ⟨i, hi, rfl, c, st, q, kc⟩ := un _ _ h
  rw [hu, hden]
  refine wpAny_noted ?_
  rw [hT]
  refine wpAny_bind (wpAny_standAt (wpAny_bind ?_))
  by_cases hlt : i < ts.length
  · refine it.W.item i _ _ _ (by rw [hlen]; exact hlt) st fun v h' tk hP st' hk => ?_
    obtain ⟨x, hx, rx⟩ := hval i v hP
    have hti : ts[i]? = some ts[i] := List.getElem?_eq_getElem hlt
    rw [List.getElem?_map, hti] at hx
    have hx' : g ts[i] = x := Option.some.inj hx
    subst hx'
    have c1 : CS w k A cenv h₀ D { s' with heap := h', toks := tk } m (ys ++ (ts.take i).flatMap out) := c.item it.new (it.fld i _ st) hk
    have q1 : ExtQ hq₀ (h'.hide D) := fun a o ea da => by
      have e1 := q a o ea da
      refine hide_some (hk a o (fun ha => ?_) (Heap.of_hide e1)) (hide_ne_of e1)
      obtain ⟨vs, f⟩ := it.fld i _ st a ha o (Heap.of_hide e1)
      obtain ⟨_, _, da⟩ := da
      rw [da] at f; cases f
    have k1 : Kc A (cenv.locals :: D :: wr) s' { s' with heap := h', toks := tk } :=
      ⟨⟨_, _, rfl⟩, fun b o e _ l => hk b o (fun hb => l (by simp [hb])) e, fun b o e l => ⟨o.slots, hk b o (fun hb => l (by simp [hb])) e⟩⟩
    have htk : ts.take (i + 1) = ts.take i ++ [ts[i]] := by rw [List.take_add_one, hti]; rfl
    have hsum : ((ts.take (i + 1)).flatMap out).length ≤ (ts.flatMap out).length := by
      conv => rhs; rw [← List.take_append_drop (i + 1) ts, List.flatMap_append, List.length_append]
      omega
    refine turn ts[i] (List.getElem_mem hlt) v _ _ c1 ?_ (Rep.mono q1 _ _ rx) _ _ fun s2 k2 c2 => ?_
    · rw [htk, List.flatMap_append, List.length_append] at hsum
      simp only [List.flatMap_cons, List.flatMap_nil, List.append_nil] at hsum
      rw [List.length_append]; omega
    · have c2' := c2
      rw [List.append_assoc] at c2'
      have hout : (ts.take i).flatMap out ++ out ts[i] = (ts.take (i + 1)).flatMap out := by rw [htk, List.flatMap_append]; simp
      rw [hout] at c2'
      obtain ⟨outer, hA, hf⟩ := c1.gd.base.frames
      obtain ⟨mv, ⟨oC, es, ep, eC, dC, _⟩, _⟩ := c1.gd.mem
      refine ⟨rfl, ts.length + 1 - (i + 1), by omega, mk _ _ ⟨i + 1, hlt, rfl, c2', it.W.frame _ _ _ st' fun b hb o eb => ?_, fun a o ea da => ?_, kc.trans (k1.trans (k2.mono fun z hz => by simp at hz; rcases hz with rfl | rfl <;> simp))⟩⟩
      · have nd := it.nod (i + 1) _ st' b hb o eb
        refine k2.up b o eb (fun hb' => ?_) fun hb' => ?_
        · obtain ⟨_, o', es', ep', e', d'⟩ := frame_dict hA hf hb'
          have := Heap.of_hide e'
          rw [show ({ s' with heap := h', toks := tk } : Shared).heap.get? b = _ from eb] at this; cases this
          exact nd _ _ d'
        · simp at hb'
          rcases hb' with rfl | rfl
          · have := Heap.of_hide eC
            rw [show ({ s' with heap := h', toks := tk } : Shared).heap.get? _ = _ from eb] at this; cases this
            exact nd _ _ dC
          · exact hD hb
      · have e1 := q1 a o ea da
        have hne := hide_ne_of e1
        refine hide_some (k2.up a o (Heap.of_hide e1) (fun hb' => ?_) fun hb' => ?_) hne
        · obtain ⟨_, o', es', ep', e', d'⟩ := frame_dict hA hf hb'
          rw [show (h'.hide D).get? a = _ from e1] at e'; cases e'
          obtain ⟨_, _, da⟩ := da
          rw [da] at d'; cases d'
        · simp at hb'
          rcases hb' with rfl | rfl
          · rw [show (h'.hide D).get? _ = _ from e1] at eC; cases eC
            obtain ⟨_, _, da⟩ := da
            rw [da] at dC; cases dC
          · exact hne rfl
  · have hin : i = ts.length := by omega
    subst hin
    refine it.W.done _ _ _ (by rw [hlen]; exact st) fun h' tk hk => ?_
    have c1 : CS w k A cenv h₀ D { s' with heap := h', toks := tk } m (ys ++ (ts.take ts.length).flatMap out) := c.item it.new (it.fld _ _ st) hk
    rw [List.take_length] at c1
    exact wpAny_pure (hR _ c1 (kc.trans ⟨⟨_, _, rfl⟩, fun b o e _ l => hk b o (fun hb => l (by simp [hb])) e, fun b o e l => ⟨o.slots, hk b o (fun hb => l (by simp [hb])) e⟩⟩))
end

/-- an iterable met while the objects X are being changed -/
def ItX (w : World) (k : Nat) (env : Env) (m : Mp) (iter : Expr) (xs : List PV) : Prop :=
  ∀ A h₀ s X, Gd w k A env h₀ (hideAll s.heap X) m → ∀ (Q : Value → Shared → Prop) (E : Value → Shared → Prop),
    (∀ I s' fp wr P St, Kp A s s' → (∀ b ∈ wr, s.heap.get? b = none) → (∀ b ∈ X, ∀ o, s.heap.get? b = some o → b ∉ fp) → (∀ i v, P i v → ∃ x, xs[i]? = some x ∧ Rep (hideAll s'.heap X) x v) → Itr w A h₀ s' I xs fp wr P St → Q (.ref I) s') →
    wpAny (Md w) A (eval iter env) (fun x s₁ => wpAny (Md w) A (pyIter x) Q E s₁) E s
/-- an iterable met inside a comprehension that grows D -/
def ItD (w : World) (k : Nat) (env : Env) (m : Mp) (iter : Expr) (xs : List PV) : Prop :=
  ∀ A h₀ s D, Gd w k A env h₀ (s.heap.hide D) m → ∀ (Q : Value → Shared → Prop) (E : Value → Shared → Prop),
    (∀ I s' fp wr P St, Kp A s s' → (∀ b ∈ wr, s.heap.get? b = none) → (∀ o, s.heap.get? D = some o → D ∉ fp) → (∀ i v, P i v → ∃ x, xs[i]? = some x ∧ Rep (s'.heap.hide D) x v) → Itr w A h₀ s' I xs fp wr P St → Q (.ref I) s') →
    wpAny (Md w) A (eval iter env) (fun x s₁ => wpAny (Md w) A (pyIter x) Q E s₁) E s
theorem ItX.d {w : World} {k : Nat} {env : Env} {m : Mp} {iter : Expr} {xs : List PV} (x : ItX w k env m iter xs) : ItD w k env m iter xs := fun A h₀ s D g Q E h =>
  x A h₀ s [D] g Q E fun I s' fp wr P St k n d v it => h I s' fp wr P St k n (d D (by simp)) v it
theorem ItX.it {w : World} {k : Nat} {env : Env} {m : Mp} {iter : Expr} {xs : List PV} (x : ItX w k env m iter xs) : It w k env m iter xs := fun A h₀ s g Q E h =>
  x A h₀ s [] g Q E fun I s' fp wr P St k n _ _ it => h I s' fp wr P St k n it

/-- the block's start, at any depth -/
theorem comp_begin {w : World} {A : Around} {R : Result → Shared → Prop} {s : Shared} {elt : Expr} {gens : List Comprehension} {scope : Scope} {pos : Pos} {d : Nat} {it acc : Value} {env : Env} {gg : Comprehension}
    (hg : gens[d]? = some gg) (ha : gg.is_async = 0)
    (h0 : codeAny (Md w) A (.compLoop (.ListComp elt gens scope pos) d it acc env) R s)
    (h : ∀ E, wpAny (Md w) A (pyIter it) (fun it' s' => codeAny (Md w) A (.compLoop (.ListComp elt gens scope pos) d it' acc env) R s') E s) :
    codeAny (Md w) A (.compStart (.ListComp elt gens scope pos) d it acc env) R s := by
  refine codeAny_of_tree ?_
  show wpAny _ _ ((compStart (.ListComp elt gens scope pos) d it acc env).onRaise (fun x => do noteFrame x env; standAt theWindowsPlace)) _ _ s
  refine wpAny_notedAt ?_
  unfold compStart
  have hc : (clausesOf (.ListComp elt gens scope pos))[d]? = some gg := hg
  rw [hc]
  simp only [Option.elim, ha, bne_self_eq_false, Bool.false_eq_true, if_false]
  refine wpAny_bind (wpAny_askSetting (wpAny_ite ?_))
  split
  · first
      | exact wpAny_bind (wpAny_pure (wpAny_pure (And.intro rfl h0)))
      | exact wpAny_pure (And.intro rfl h0)
  · first
      | exact wpAny_bind (wpAny_rule (wpAny_bind (wpAny_standAt (wpAny_bind (wpAny_mono (h _) (fun it' s' h' => wpAny_pure (And.intro rfl h')) fun _ _ x => x)))))
      | (refine wpAny_bind (wpAny_rule ?_); show wpAny _ _ (standAt _ >>= _) _ _ s; exact wpAny_bind (wpAny_standAt (wpAny_bind (wpAny_mono (h _) (fun it' s' h' => wpAny_pure (And.intro rfl h')) fun _ _ x => x))))

end Mine

end

/-! part Rules5 -/
section
open PySem PySem.W PySem.Calls PyProof.Rows
set_option linter.unusedVariables false
set_option maxRecDepth 100000
namespace Mine

def tests (ifs : List Expr) (env : Env) : Sem Bool :=
  forIn ifs true fun c r => if r = true then do let ok ← isTrue c env (eval c env); pure (ForInStep.yield ok) else pure (ForInStep.yield r)

theorem turn1_eq (elt target iter : Expr) (ifs : List Expr) (scope : Scope) (pos : Pos) (it acc : Value) (env : Env) :
    compTurn (.ListComp elt [⟨target, iter, ifs, 0⟩] scope pos) 0 it acc env = (standAt iter.pos >>= fun _ => pyNext it >>= fun r => match r with
      | none => pure (.done .next)
      | some v => letOwnedTupleGo target it v >>= fun _ => assign target env v >>= fun _ => tests ifs env >>= fun ok =>
        if ok = true then ((eval elt env >>= fun x => call (.builtin "list.append") [acc, x] >>= fun _ => pure ()) >>= fun _ => again (.compLoop (.ListComp elt [⟨target, iter, ifs, 0⟩] scope pos) 0 it acc env))
        else again (.compLoop (.ListComp elt [⟨target, iter, ifs, 0⟩] scope pos) 0 it acc env)) := by rfl
theorem turn2_eq (g0 : Comprehension) (elt target iter : Expr) (ifs : List Expr) (scope : Scope) (pos : Pos) (it acc : Value) (env : Env) :
    compTurn (.ListComp elt [g0, ⟨target, iter, ifs, 0⟩] scope pos) 1 it acc env = (standAt iter.pos >>= fun _ => pyNext it >>= fun r => match r with
      | none => pure (.done .next)
      | some v => letOwnedTupleGo target it v >>= fun _ => assign target env v >>= fun _ => tests ifs env >>= fun ok =>
        if ok = true then ((eval elt env >>= fun x => call (.builtin "list.append") [acc, x] >>= fun _ => pure ()) >>= fun _ => again (.compLoop (.ListComp elt [g0, ⟨target, iter, ifs, 0⟩] scope pos) 1 it acc env))
        else again (.compLoop (.ListComp elt [g0, ⟨target, iter, ifs, 0⟩] scope pos) 1 it acc env)) := by rfl
theorem turn0_eq (elt target iter t1 i1 : Expr) (f1 ifs : List Expr) (scope : Scope) (pos : Pos) (it acc : Value) (env : Env) :
    compTurn (.ListComp elt [⟨target, iter, ifs, 0⟩, ⟨t1, i1, f1, 0⟩] scope pos) 0 it acc env = (standAt iter.pos >>= fun _ => pyNext it >>= fun r => match r with
      | none => pure (.done .next)
      | some v => letOwnedTupleGo target it v >>= fun _ => assign target env v >>= fun _ => tests ifs env >>= fun ok =>
        if ok = true then (eval i1 env >>= fun x => standAt i1.pos >>= fun _ => foldedSetIterable i1 env x >>= fun x => holding [x] (pyIter x) >>= fun it1 => runOwn (.compStart (.ListComp elt [⟨target, iter, ifs, 0⟩, ⟨t1, i1, f1, 0⟩] scope pos) 1 it1 acc env) env >>= fun _ => again (.compLoop (.ListComp elt [⟨target, iter, ifs, 0⟩, ⟨t1, i1, f1, 0⟩] scope pos) 0 it acc env))
        else again (.compLoop (.ListComp elt [⟨target, iter, ifs, 0⟩, ⟨t1, i1, f1, 0⟩] scope pos) 0 it acc env)) := by rfl

def Tss (w : World) (k : Nat) (env : Env) (m : Mp) (es : List Expr) (b : Bool) : Prop :=
  ∀ A h₀ s (Q : Bool → Shared → Prop) (E : Value → Shared → Prop), Gd w k A env h₀ s.heap m → (∀ s', Kp A s s' → Q b s') → wpAny (Md w) A (tests es env) Q E s
theorem Tss_nil {w : World} {k : Nat} {env : Env} {m : Mp} : Tss w k env m [] true := fun A h₀ s Q E g h => wpAny_pure (h s (.refl ..))
theorem Tss_one {w : World} {k : Nat} {env : Env} {m : Mp} {c : Expr} {b : Bool} (t : Ts w k env m c b) : Tss w k env m [c] b := fun A h₀ s Q E g h => by
  unfold tests
  simp only [List.forIn_cons, List.forIn_nil, if_true]
  exact wpAny_bind (wpAny_bind (t A h₀ s _ _ g fun s' q => wpAny_pure (wpAny_pure (h s' q))))

/-- one turn of the innermost clause -/
theorem turn_last {w : World} {k : Nat} {A : Around} {cenv : Env} {h₀ : Heap} {D : Addr} {m : Mp} {x : Str} {px : Pos} {ifs : List Expr} {elt : Expr} {it : Value} {c : Code} {p : PV} {b : Bool} {f : PV} {v : Value} {s : Shared} {ys : List PV}
    {Q : Fin → Shared → Prop} {E : Value → Shared → Prop}
    (hx : cenv.kindOf x = some .local) (hm : m.lookup x = none) (ht : Tss w k cenv ((x, p) :: m) ifs b) (he : b = true → Ev w k cenv ((x, p) :: m) elt f) (hf : f.flat = true)
    (cs : CS w k A cenv h₀ D s m ys) (hsz : ys.length + (if b then [f] else []).length ≤ sizeLine) (r : Rep (s.heap.hide D) p v)
    (h : ∀ s', Kc A [cenv.locals, D] s s' → CS w k A cenv h₀ D s' m (ys ++ (if b then [f] else [])) → Q (.again c) s') :
    wpAny (Md w) A (letOwnedTupleGo (.Name x px) it v >>= fun _ => assign (.Name x px) cenv v >>= fun _ => tests ifs cenv >>= fun ok =>
      if ok = true then ((eval elt cenv >>= fun y => call (.builtin "list.append") [.ref D, y] >>= fun _ => pure ()) >>= fun _ => again c) else again c) Q E s := by
  refine wpAny_bind (wpAny_pure (wpAny_bind (wpAny_assign_Name (cs.store r hx fun s1 k1 c1 => wpAny_bind (ht A h₀ s1 _ _ c1.gdx fun s2 k2 => ?_)))))
  have c2 := c1.kp k2
  cases b with
  | false =>
    simp only [Bool.false_eq_true, if_false, List.append_nil] at h ⊢
    exact wpAny_pure (h s2 (k1.trans k2.kc) (c2.drop hm))
  | true =>
    simp only [if_true] at h hsz ⊢
    refine wpAny_bind (wpAny_bind (he rfl A h₀ s2 c2.gdx _ _ fun y s3 k3 ry => wpAny_bind ((c2.kp k3).push hf ry (by simp at hsz; omega) fun s4 k4 c4 => wpAny_pure (wpAny_pure ?_))))
    exact h s4 (k1.trans (k2.kc.trans (k3.kc.trans k4))) (c4.drop hm)

/-- the closure's cells -/
def clOf (env : Env) : List (Str × NameKind) → List (Str × Addr) → Option (List (Str × Addr))
  | [], acc => some acc
  | (n, kd) :: r, acc => if kd == .free then (match env.cells.lookup n with | some a => clOf env r ((n, a) :: acc) | none => none) else clOf env r acc
theorem clOf_go {env : Env} (f : Str × NameKind → List (Str × Addr) → Sem (ForInStep (List (Str × Addr))))
    (hf : ∀ n kd acc, f (n, kd) acc = if kd == .free then (do let a ← cellOf env n; pure (.yield ((n, a) :: acc))) else pure (.yield acc)) : ∀ (names : List (Str × NameKind)) (acc cl : List (Str × Addr)), clOf env names acc = some cl → forIn names acc f = (pure cl : Sem _)
  | [], acc, cl, h => by simp [clOf] at h; subst h; rfl
  | (n, kd) :: r, acc, cl, h => by
    unfold clOf at h
    rw [List.forIn_cons, hf]
    split at h
    · rename_i hk
      rw [if_pos hk]
      split at h
      · rename_i a ha
        have : cellOf env n = pure a := by unfold cellOf; rw [ha]
        rw [this]
        exact clOf_go f hf r _ cl h
      · cases h
    · rename_i hk
      rw [if_neg hk]
      exact clOf_go f hf r _ cl h
theorem closureFor_of {scope : Scope} {env : Env} {cl : List (Str × Addr)} (h : clOf env scope.names [] = some cl) : closureFor scope env = pure cl := by
  simp only [closureFor]
  rw [clOf_go (env := env) _ (fun n kd acc => by by_cases hk : (kd == .free) = true <;> simp [hk]) scope.names [] cl h]
  rfl
theorem clOf_sub {env : Env} : ∀ {names : List (Str × NameKind)} {acc cl : List (Str × Addr)}, clOf env names acc = some cl → (∀ y c, (y, c) ∈ acc → env.cells.lookup y = some c) → ∀ y c, (y, c) ∈ cl → env.cells.lookup y = some c
  | [], acc, cl, h, ha => by simp [clOf] at h; subst h; exact ha
  | (n, kd) :: r, acc, cl, h, ha => by
    unfold clOf at h
    split at h
    · split at h
      · rename_i a hb
        exact clOf_sub h fun y c hm => by
          rcases List.mem_cons.mp hm with q | q
          · cases q; exact hb
          · exact ha y c q
      · cases h
    · exact clOf_sub h ha
theorem clOf_has {env : Env} {y : Str} : ∀ {names : List (Str × NameKind)} {acc cl : List (Str × Addr)}, clOf env names acc = some cl → (names.lookup y = some .free ∨ (acc.lookup y).isSome = true) → (cl.lookup y).isSome = true
  | [], acc, cl, h, ha => by simp [clOf] at h; subst h; rcases ha with q | q; · cases q
                             · exact q
  | (n, kd) :: r, acc, cl, h, ha => by
    unfold clOf at h
    rw [List.lookup_cons] at ha
    split at h
    · split at h
      · refine clOf_has h ?_
        rw [List.lookup_cons]
        cases hy : y == n with
        | true => exact .inr rfl
        | false => rw [hy] at ha; exact ha
      · cases h
    · rename_i hk
      refine clOf_has h ?_
      cases hy : y == n with
      | true =>
        rw [hy] at ha
        rcases ha with q | q
        · cases q; exact absurd rfl hk
        · exact .inr q
      | false => rw [hy] at ha; exact ha
theorem relabel_free {env : Env} {y : Str} : ∀ {names : List (Str × NameKind)}, names.lookup y = some .free →
    (names.map fun (n, k) => if (k == NameKind.free && env.scope.kind == .function && env.kindOf n == some .cell) then (n, NameKind.cell) else (n, k)).lookup y = some .cell ∨
    (names.map fun (n, k) => if (k == NameKind.free && env.scope.kind == .function && env.kindOf n == some .cell) then (n, NameKind.cell) else (n, k)).lookup y = some .free
  | [], h => by cases h
  | (n, kd) :: r, h => by
    have ih := @relabel_free env y r
    rw [List.lookup_cons] at h
    rw [List.map_cons]
    by_cases hc : (kd == NameKind.free && env.scope.kind == .function && env.kindOf n == some .cell) = true
    · simp only [hc, if_true, List.lookup_cons]
      cases hy : y == n with
      | true => exact .inl rfl
      | false => rw [hy] at h; exact ih h
    · simp only [hc]
      simp only [Bool.false_eq_true, if_false, List.lookup_cons]
      cases hy : y == n with
      | true => rw [hy] at h; cases h; exact .inr rfl
      | false => rw [hy] at h; exact ih h

def cap (scope : Scope) (m : Mp) : Mp := m.filter fun y => scope.names.lookup y.1 == some .free
theorem cap_lookup {scope : Scope} {y : Str} {p : PV} : ∀ {m : Mp}, (cap scope m).lookup y = some p → m.lookup y = some p ∧ scope.names.lookup y = some .free
  | [], h => by simp [cap] at h
  | (n, q) :: r, h => by
    unfold cap at h
    rw [List.filter_cons] at h
    rw [List.lookup_cons]
    split at h
    · rename_i hk
      rw [List.lookup_cons] at h
      cases hy : y == n with
      | true =>
        rw [hy] at h
        have := beq_iff_eq.mp hy
        subst this
        exact ⟨h, beq_iff_eq.mp hk⟩
      | false => rw [hy] at h; exact cap_lookup h
    · rename_i hk
      have ih := cap_lookup (m := r) h
      cases hy : y == n with
      | true =>
        have := beq_iff_eq.mp hy
        subst this
        exact absurd (beq_iff_eq.mpr ih.2) hk
      | false => exact ih
theorem cap_none {scope : Scope} {y : Str} {m : Mp} (h : scope.names.lookup y = some .local) : (cap scope m).lookup y = none := by
  cases e : (cap scope m).lookup y with
  | none => rfl
  | some p => have := (cap_lookup e).2; rw [h] at this; cases this

section
variable {w : World} {k : Nat} {env : Env} {m : Mp} {α : Type} {ts : List α} {g : α → PV} {out : α → List PV} {elt target iter : Expr} {ifs : List Expr} {rest : List Comprehension} {scope : Scope} {pos pp : Pos} {cl : List (Str × Addr)}
  {tree : Addr → Addr → Addr → Value → Sem Fin}

/-- scope facts of a comprehension -/
structure Sc (env : Env) (scope : Scope) (cl : List (Str × Addr)) : Prop where
  cl : clOf env scope.names [] = some cl
  kind : scope.kind = .function
  cell : ∀ y ∈ scope.names, y.2 ≠ .cell
  names : ∀ y ∈ scope.names, y.2 = .local → scope.names.lookup y.1 = some .local
  free : (scope.names.all fun y => y.2 != .free || ((env.kindOf y.1 == some .cell || env.kindOf y.1 == some .free) && y.1 != ("__classdict__" : Str))) = true

theorem Sc.free' {y : Str} (x : Sc env scope cl) (h : scope.names.lookup y = some .free) : env.kindOf y ≠ some .local ∧ (y == ("__classdict__" : Str)) = false := by
  have := List.all_eq_true.mp x.free _ (mem_of_lookup h)
  simp only [bne_self_eq_false, Bool.false_or, Bool.and_eq_true, Bool.or_eq_true, beq_iff_eq, bne_iff_ne, ne_eq] at this
  refine ⟨fun q => ?_, by simpa using this.2⟩
  rw [q] at this
  rcases this.1 with c | c <;> cases c

theorem comp_start (sc : Sc env scope cl) (hit : It w k env m iter (ts.map g))
    (hT : ∀ I D C, compTurn (.ListComp elt (⟨target, iter, ifs, 0⟩ :: rest) scope pos) 0 (.ref I) (.ref D) (compEnvC scope cl C env) =
      (standAt pp >>= fun _ => pyNext (.ref I) >>= fun r => match r with | none => pure (.done .next) | some v => tree I D C v))
    (turn : ∀ A h₀ I D C, ∀ t ∈ ts, ∀ v s ys, CS w k A (compEnvC scope cl C env) h₀ D s (cap scope m) ys → ys.length + (out t).length ≤ sizeLine → Rep (s.heap.hide D) (g t) v → ∀ (Q : Fin → Shared → Prop) (E : Value → Shared → Prop),
      (∀ s', Kc A [C, D] s s' → CS w k A (compEnvC scope cl C env) h₀ D s' (cap scope m) (ys ++ out t) → Q (.again (.compLoop (.ListComp elt (⟨target, iter, ifs, 0⟩ :: rest) scope pos) 0 (.ref I) (.ref D) (compEnvC scope cl C env))) s') → wpAny (Md w) A (tree I D C v) Q E s)
    (hsz : (ts.flatMap out).length ≤ sizeLine)
    {A : Around} {h₀ : Heap} {s : Shared} (gd : Gd w k A env h₀ s.heap m) {RR : Value → Addr → Result → Shared → Prop} {E : Value → Shared → Prop}
    (hR : ∀ D C s' vs n mC, Kp A s s' → s.heap.get? D = none → s.heap.get? C = none → C ≠ D → s'.heap.get? D = some (lobj vs n) → (∀ y ∈ ts.flatMap out, y.flat = true) → Reps s'.heap (ts.flatMap out) vs → s'.heap.Ns C mC → RR (.ref D) C (.ok .next) s') :
    wpAny (Md w) A (firstIter (⟨target, iter, ifs, 0⟩ :: rest) env) (fun x s₁ => wpAny (Md w) A (pyIter x) (fun it s₂ => wpAny (Md w) A (newList []) (fun acc s₃ =>
      wpAny (Md w) A (newFunctionEnv scope env.globals cl [] env.qual none .none (some env)) (fun cenv s₄ =>
        codeAny (Md w) A (.compStart (.ListComp elt (⟨target, iter, ifs, 0⟩ :: rest) scope pos) 0 it acc { cenv with scope := relabel scope env }) (RR acc cenv.locals) s₄) E s₃) E s₂) E s₁) E s := by
  refine hit A h₀ s gd _ _ fun I s₂ fp wr P St kp new it => ?_
  have g₂ := gd.kp kp
  refine wpAny_newObj_type (wpAny_newFunctionEnv sc.cell (by intro y hy; simp at hy) (fun h₁ hns₁ hsb₁ => ?_) sc.kind)
  dsimp only at hns₁ hsb₁ ⊢
  generalize hH2 : s₂.heap.push { cls := .type "list", dict := none, data := .seq ([] : List Value).toArray } = H2 at hns₁ hsb₁ ⊢
  have hC : H2.objs.size = s₂.heap.objs.size + 1 := by rw [← hH2, Heap.size_push]
  have hCD : H2.objs.size ≠ s₂.heap.objs.size := by rw [hC]; exact Nat.succ_ne_self _
  have below : ∀ b, b < s₂.heap.objs.size → b ≠ H2.objs.size ∧ b ≠ s₂.heap.objs.size := fun b hb => ⟨by rw [hC]; exact Nat.ne_of_lt (Nat.lt_succ_of_lt hb), Nat.ne_of_lt hb⟩
  have old : Ext s₂.heap h₁ := fun b o e => hsb₁.extBut b o (below b (Heap.lt_size e)).1 (Heap.get?_push_of_some _ (hH2 ▸ Heap.get?_push_of_some _ e))
  have oldh : Ext s₂.heap (h₁.hide s₂.heap.objs.size) := fun b o e => hide_some (old b o e) (below b (Heap.lt_size e)).2
  have hacc : h₁.get? s₂.heap.objs.size = some (lobj [] 0) := hsb₁.extBut _ _ (Ne.symm hCD) (Heap.get?_push_of_some _ (hH2 ▸ Heap.get?_push_size _ rfl))
  have fresh : ∀ a, s₂.heap.objs.size ≤ a → s₂.heap.get? a = none := fun a ha => by
    cases e : s₂.heap.get? a with
    | none => rfl
    | some o' => exact absurd (Heap.lt_size e) (Nat.not_lt.mpr ha)
  have freshS : ∀ a, s₂.heap.objs.size ≤ a → s.heap.get? a = none := fun a ha => by
    cases e : s.heap.get? a with
    | none => rfl
    | some o' => obtain ⟨sl, e'⟩ := kp.fr a o' e; rw [fresh a ha] at e'; cases e'
  have fresh₀ : ∀ a, s₂.heap.objs.size ≤ a → h₀.get? a = none := fun a ha => by
    cases e : h₀.get? a with
    | none => rfl
    | some o' => have := g₂.base.keep a o' e; rw [fresh a ha] at this; cases this
  have hCf : s₂.heap.objs.size ≤ H2.objs.size := by rw [hC]; exact Nat.le_succ _
  have sub := clOf_sub sc.cl (fun _ _ h => nomatch h)
  have gC : Gd w k A (compEnvC scope cl H2.objs.size env) h₀ (h₁.hide s₂.heap.objs.size) (cap scope m) := by
    obtain ⟨outer, hA, hf⟩ := g₂.base.frames
    obtain ⟨mv, nmv, rd⟩ := g₂.mem
    refine ⟨gd.ok, sc.kind, gd.glob, gd.bins, ⟨g₂.base.gl, g₂.base.keep.trans oldh, ⟨outer, hA, fun e he => ?_⟩, fresh₀ _ hCf, fun y c hm => ?_⟩, fun x y c e1 e2 => gd.apart x y c (sub _ _ (mem_of_lookup e1)) (sub _ _ (mem_of_lookup e2)), (fun x => List.lookup x ([] : List (Str × Value)).reverse), ?_, fun y p e => ?_⟩
    · obtain ⟨a, L, o, es, ep, e1, e2, e3, e4⟩ := hf e he
      exact ⟨a, L, o, es, ep, e1, e2, oldh _ _ e3, e4⟩
    · obtain ⟨c1, c2, u, c3⟩ := g₂.base.noC y c (mem_of_lookup (sub y c hm))
      exact ⟨c1, (below c c3.lt).1, u, c3.keeps oldh⟩
    · obtain ⟨o, es, ep, e1, r1⟩ := hns₁
      exact ⟨o, es, ep, hide_some e1 hCD, r1⟩
    · obtain ⟨e1, e2⟩ := cap_lookup e
      obtain ⟨v, r1, r2⟩ := rd y p e1
      refine ⟨v, Rep.mono oldh.q _ _ r1, .inr ?_⟩
      obtain ⟨f1, f2⟩ := sc.free' e2
      rcases r2 with ⟨a, b⟩ | ⟨a, c, b, d⟩
      · exact absurd a f1
      · obtain ⟨c', hc'⟩ := Option.isSome_iff_exists.mp (clOf_has (y := y) sc.cl (.inl e2))
        have hcc := sub y c' (mem_of_lookup hc')
        rw [b] at hcc; cases hcc
        refine ⟨?_, c, hc', d.keeps oldh⟩
        rcases relabel_free (env := env) e2 with q | q
        · exact .inl q
        · exact .inr ⟨q, f2⟩
  have loop : ∀ s₄ : Shared, s₄ = { s₂ with heap := h₁, toks := s₂.toks + ([] : List (Str × Value)).length } →
      codeAny (Md w) A (.compLoop (.ListComp elt (⟨target, iter, ifs, 0⟩ :: rest) scope pos) 0 (.ref I) (.ref s₂.heap.objs.size) (compEnvC scope cl H2.objs.size env)) (RR (.ref s₂.heap.objs.size) H2.objs.size) s₄ := by
    rintro s₄ rfl
    refine comp_loop (hT I s₂.heap.objs.size H2.objs.size) rfl rfl (Around.under_of_weight rfl) it (fun hb => Nat.lt_irrefl _ (it.low _ hb)) it.val (turn A h₀ I s₂.heap.objs.size H2.objs.size) (it.W.frame _ _ _ it.st fun b hb o e => old b o e)
      (ys := []) ⟨gC, by simp, [], 0, hacc, Reps.nil⟩ oldh.q (by simpa using hsz) fun s' c kc => ?_
    obtain ⟨vs, n, e, rs⟩ := c.acc
    obtain ⟨mv, nn, _⟩ := c.gd.mem
    rw [List.nil_append] at rs
    refine hR _ _ s' vs n mv ?_ (freshS _ (Nat.le_refl _)) (freshS _ hCf) hCD e (by simpa using c.flat) rs (nn.keeps (ext_hide _ _))
    refine Kc.kp (kp.trans (.of_ext old)) kc fun q hq => ?_
    simp only [List.mem_cons] at hq
    rcases hq with rfl | rfl | hq
    · exact freshS _ hCf
    · exact freshS _ (Nat.le_refl _)
    · exact new q hq
  exact comp_begin (gg := ⟨target, iter, ifs, 0⟩) rfl rfl (loop _ rfl) fun E' => it.W.self 0 _ _ _ (it.W.frame _ _ _ it.st fun b hb o e => old b o e) (loop _ rfl)

/-- a comprehension: what it makes -/
structure Cm (w : World) (k : Nat) (env : Env) (m : Mp) (elt : Expr) (gens : List Comprehension) (scope : Scope) (pos : Pos) (cl : List (Str × Addr)) (ys : List PV) : Prop where
  sc : Sc env scope cl
  run : ∀ (A : Around) (h₀ : Heap) (s : Shared), Gd w k A env h₀ s.heap m → ∀ (RR : Value → Addr → Result → Shared → Prop) (E : Value → Shared → Prop),
    (∀ D C s' vs n mC, Kp A s s' → s.heap.get? D = none → s.heap.get? C = none → C ≠ D → s'.heap.get? D = some (lobj vs n) → (∀ y ∈ ys, y.flat = true) → Reps s'.heap ys vs → s'.heap.Ns C mC → RR (.ref D) C (.ok .next) s') →
    wpAny (Md w) A (firstIter gens env) (fun x s₁ => wpAny (Md w) A (pyIter x) (fun it s₂ => wpAny (Md w) A (newList []) (fun acc s₃ =>
      wpAny (Md w) A (newFunctionEnv scope env.globals cl [] env.qual none .none (some env)) (fun cenv s₄ =>
        codeAny (Md w) A (.compStart (.ListComp elt gens scope pos) 0 it acc { cenv with scope := relabel scope env }) (RR acc cenv.locals) s₄) E s₃) E s₂) E s₁) E s

theorem Cm_compG (sc : Sc env scope cl) (hit : It w k env m iter (ts.map g))
    (hT : ∀ I D C, compTurn (.ListComp elt (⟨target, iter, ifs, 0⟩ :: rest) scope pos) 0 (.ref I) (.ref D) (compEnvC scope cl C env) =
      (standAt pp >>= fun _ => pyNext (.ref I) >>= fun r => match r with | none => pure (.done .next) | some v => tree I D C v))
    (turn : ∀ A h₀ I D C, ∀ t ∈ ts, ∀ v s ys, CS w k A (compEnvC scope cl C env) h₀ D s (cap scope m) ys → ys.length + (out t).length ≤ sizeLine → Rep (s.heap.hide D) (g t) v → ∀ (Q : Fin → Shared → Prop) (E : Value → Shared → Prop),
      (∀ s', Kc A [C, D] s s' → CS w k A (compEnvC scope cl C env) h₀ D s' (cap scope m) (ys ++ out t) → Q (.again (.compLoop (.ListComp elt (⟨target, iter, ifs, 0⟩ :: rest) scope pos) 0 (.ref I) (.ref D) (compEnvC scope cl C env))) s') → wpAny (Md w) A (tree I D C v) Q E s)
    (hsz : (ts.flatMap out).length ≤ sizeLine) :
    Cm w k env m elt (⟨target, iter, ifs, 0⟩ :: rest) scope pos cl (ts.flatMap out) := by
  exact ⟨sc, fun A h₀ s gd RR E hR => comp_start sc hit hT turn hsz gd hR⟩

theorem Cm.ev {gg : Comprehension} {ys : List PV} (c : Cm w k env m elt (gg :: rest) scope pos cl ys) (ha : gg.is_async = 0 := by rfl) (hs : ∀ x, foldedSetIterable gg.iter env x = pure x := by intro _; rfl) :
    Ev w k env m (.ListComp elt (gg :: rest) scope pos) (.list ys) := by
  intro A h₀ s gd Q E hQ
  rw [eval_ListComp]
  have hf : firstAsync (gg :: rest) = false := by obtain ⟨a, b, c, d⟩ := gg; simp only at ha; subst ha; rfl
  rw [hf]
  refine wpAny_comprehension_free (use := none) rfl hs (closureFor_of c.sc.cl) c.sc.kind c.sc.names (c.run A h₀ s gd _ _ fun D C s' vs n mC kp hD hC hCD e fl rs nC => ?_)
  refine ⟨mC, nC, fun h' sb => hQ _ _ ?_ ?_⟩
  · refine Kc.kp (X := [C]) kp ⟨⟨_, _, rfl⟩, fun b o e _ l => (sb.2 b fun q => l (by simp [q])).trans e, fun b o e l => ⟨o.slots, (sb.2 b fun q => l (by simp [q])).trans e⟩⟩ fun q hq => ?_
    simp at hq; subst hq; exact hC
  · simp only [Rep]
    exact ⟨D, vs, n, rfl, (sb.2 D (Ne.symm hCD)).trans e, rs.flat fl⟩

/-- a change at an address that is none of the frame's -/
theorem Gd.other {A : Around} {h₀ h h' : Heap} {C : Addr} (g : Gd w k A env h₀ h m) (hk : ∀ b o, b ≠ C → h.get? b = some o → h'.get? b = some o) (h0 : h₀.get? C = none) (hL : C ≠ env.locals) (hc : ∀ x, (x, C) ∉ env.cells) (hf : C ∉ frs A) (hd : ∀ o, h.get? C = some o → ∀ xs n, o.data ≠ .seq xs n) : Gd w k A env h₀ h' m := by
  obtain ⟨mv, ⟨oL, es, ep, eL, dL, rL⟩, rd⟩ := g.mem
  have B := g.base
  obtain ⟨outer, hA, hfr⟩ := B.frames
  have q : ExtQ h h' := fun a o e d => hk a o (fun ha => by
    subst ha
    obtain ⟨xs, n, d⟩ := d
    exact hd o e xs n d) e
  refine ⟨g.ok, g.kind, g.glob, g.bins, ⟨B.gl, fun b o e => hk b o (fun hb => by rw [hb, h0] at e; cases e) (B.keep b o e), ⟨outer, hA, fun e he => ?_⟩, B.noL, fun y c hm => ?_⟩, g.apart, mv, ⟨oL, es, ep, hk _ _ (Ne.symm hL) eL, dL, rL⟩, fun y py e => ?_⟩
  · obtain ⟨a, L, o, es, ep, h1, h2, h3, h4⟩ := hfr e he
    refine ⟨a, L, o, es, ep, h1, h2, hk _ _ (fun hb => hf ?_) h3, h4⟩
    subst hb
    unfold frs; rw [hA]; exact List.mem_filterMap.mpr ⟨e, he, h1⟩
  · obtain ⟨c1, c2, u, o, c3, c4⟩ := B.noC y c hm
    exact ⟨c1, c2, u, o, hk _ _ (fun hb => hc y (hb ▸ hm)) c3, c4⟩
  · obtain ⟨u, r1, r2⟩ := rd y py e
    refine ⟨u, Rep.mono q _ _ r1, ?_⟩
    rcases r2 with a | ⟨a, c, b, o, d, d'⟩
    · exact .inl a
    · exact .inr ⟨a, c, b, o, hk _ _ (fun hb => hc y (hb ▸ mem_of_lookup b)) d, d'⟩

theorem Cm.assign {gg : Comprehension} {ys : List PV} {y : Str} {py spos : Pos} (c : Cm w k env m elt (gg :: rest) scope pos cl ys) (hy : env.kindOf y = some .local)
    (hsw : swapsWith (.ListComp elt (gg :: rest) scope pos) (some (.Name y py)) spos.line env = pure true := by rfl) (ha : gg.is_async = 0 := by rfl) (hs : ∀ x, foldedSetIterable gg.iter env x = pure x := by intro _; rfl) :
    Nx1 w k env m (.Assign [.Name y py] (.ListComp elt (gg :: rest) scope pos) spos) ((y, .list ys) :: m) := by
  intro A h₀ s gd Q E hQ
  rw [exec_Assign_Name_used _ _ _ _ hsw]
  refine wpAny_bind (wpAny_standAt (wpAny_bind ?_))
  have hf : firstAsync (gg :: rest) = false := by obtain ⟨a, b, c, d⟩ := gg; simp only at ha; subst ha; rfl
  show wpAny _ A (do let _ ← comprehension (.ListComp elt (gg :: rest) scope pos) scope env _ (newList []) (firstAsync (gg :: rest)) (firstIter (gg :: rest) env) (some (PySem.assign (.Name y py) env))) _ _ s
  rw [hf]
  refine wpAny_bind (wpAny_mono (wpAny_comprehension_free (use := some (PySem.assign (.Name y py) env)) (Q := fun _ s' => Q .next s') rfl hs (closureFor_of c.sc.cl) c.sc.kind c.sc.names
    (c.run A h₀ s gd _ _ fun D C s' vs n mC kp hD hC hCD e fl rs nC => ?_)) (fun _ s' hq => wpAny_pure (wpAny_pure hq)) fun _ _ e => e)
  show wpAny _ A (PySem.assign (.Name y py) env (.ref D)) _ _ _
  have g' := gd.kp kp
  have hCL : C ≠ env.locals := fun q => by obtain ⟨mv, ⟨o, _, _, e, _⟩, _⟩ := gd.mem; rw [← q, hC] at e; cases e
  have hCc : ∀ x, (x, C) ∉ env.cells := fun x hm => by obtain ⟨_, _, v, o, e, _⟩ := gd.base.noC x C hm; rw [hC] at e; cases e
  have hCf : C ∉ frs A := fun hb => by
    obtain ⟨outer, hA, hf⟩ := gd.base.frames
    obtain ⟨_, o, _, _, e, _⟩ := frame_dict hA hf hb
    rw [hC] at e; cases e
  refine wpAny_assign_Name (g'.storeL (p := .list ys) (by simp only [Rep]; exact ⟨D, vs, n, rfl, e, rs⟩) hy fun s'' q g'' r'' => ?_)
  have nC'' : s''.heap.Ns C mC := by
    obtain ⟨o, es, ep, e1, e2, e3⟩ := nC
    obtain ⟨sl, e1'⟩ := q.fr C o e1 hCL hCc
    exact ⟨_, es, ep, e1', e2, e3⟩
  refine ⟨mC, nC'', fun h' sb => hQ _ ⟨?_, fun b o eb n1 n2 n3 => ?_, fun b o eb n2 n3 => ?_⟩ (g''.other (fun b o hb e => (sb.2 b hb).trans e) ?_ hCL hCc hCf ?_)⟩
  · obtain ⟨h1, t1, rfl⟩ := kp.same
    obtain ⟨h2, t2, rfl⟩ := q.same
    exact ⟨_, _, rfl⟩
  · have hbC : b ≠ C := fun z => by rw [z, hC] at eb; cases eb
    exact (sb.2 b hbC).trans (q.up b o (kp.up b o eb n1) n1 n2 n3)
  · have hbC : b ≠ C := fun z => by rw [z, hC] at eb; cases eb
    obtain ⟨sl, e1⟩ := kp.fr b o eb
    obtain ⟨sl2, e2⟩ := q.fr b _ e1 n2 n3
    exact ⟨sl2, (sb.2 b hbC).trans e2⟩
  · cases e0 : h₀.get? C with
    | none => rfl
    | some o => have := gd.base.keep C o e0; rw [hC] at this; cases this
  · intro o eo xs n' d
    obtain ⟨o', es, ep, e1, e2, e3⟩ := nC''
    rw [eo] at e1; cases e1
    rw [e2] at d; cases d
end

theorem flatMap_one {α β : Type} (f : α → β) : ∀ l : List α, (l.flatMap fun t => [f t]) = l.map f
  | [] => rfl
  | a :: l => by rw [List.flatMap_cons, flatMap_one f l]; rfl
theorem flatMap_if_len {α β : Type} (b : α → Bool) (f : α → β) : ∀ l : List α, (l.flatMap fun t => if b t then [f t] else []).length ≤ l.length
  | [] => by simp
  | a :: l => by
    have ih := flatMap_if_len b f l
    rw [List.flatMap_cons, List.length_append, List.length_cons]
    cases b a <;> simp only [Bool.false_eq_true, if_false, if_true, List.length_nil, List.length_singleton] <;> omega

section
variable {w : World} {k : Nat} {env : Env} {m : Mp} {α β : Type} {ts : List α} {g : α → PV} {elt iter : Expr} {ifs : List Expr} {scope : Scope} {pos px : Pos} {cl : List (Str × Addr)} {x : Str}

theorem Cm_compT {b : α → Bool} {f : α → PV} (sc : Sc env scope cl) (hx : scope.names.lookup x = some .local) (hit : It w k env m iter (ts.map g))
    (ht : ∀ t ∈ ts, ∀ C, Tss w k (compEnvC scope cl C env) ((x, g t) :: cap scope m) ifs (b t)) (he : ∀ t ∈ ts, b t = true → ∀ C, Ev w k (compEnvC scope cl C env) ((x, g t) :: cap scope m) elt (f t)) (hf : ∀ t, (f t).flat = true)
    (hsz : ts.length ≤ sizeLine) :
    Cm w k env m elt [⟨.Name x px, iter, ifs, 0⟩] scope pos cl (ts.flatMap fun t => if b t then [f t] else []) := by
  refine Cm_compG (out := fun t => if b t then [f t] else []) sc hit (fun I D C => turn1_eq ..) (fun A h₀ I D C t htm v s ys cs hl r Q E h => ?_) ?_
  · exact turn_last (lookup_relabel_local hx) (cap_none hx) (ht t htm C) (fun q => he t htm q C) (hf t) cs hl r h
  · exact Nat.le_trans (flatMap_if_len b f ts) hsz
theorem Cm_comp {f : α → PV} (sc : Sc env scope cl) (hx : scope.names.lookup x = some .local) (hit : It w k env m iter (ts.map g))
    (he : ∀ t ∈ ts, ∀ C, Ev w k (compEnvC scope cl C env) ((x, g t) :: cap scope m) elt (f t)) (hf : ∀ t, (f t).flat = true)
    (hsz : ts.length ≤ sizeLine) :
    Cm w k env m elt [⟨.Name x px, iter, [], 0⟩] scope pos cl (ts.map f) := by
  have := Cm_compT (px := px) (pos := pos) (b := fun _ => true) sc hx hit (ifs := []) (fun t ht C => Tss_nil) (fun t ht _ C => he t ht C) hf hsz
  have e : (ts.flatMap fun t => if (fun _ : α => true) t then [f t] else []) = ts.map f := by
    simp only [if_true]
    exact flatMap_one f ts
  rw [← e]; exact this
theorem Cm_compIf {b : α → Bool} {f : α → PV} {c : Expr} (sc : Sc env scope cl) (hx : scope.names.lookup x = some .local) (hit : It w k env m iter (ts.map g))
    (ht : ∀ t ∈ ts, ∀ C, Ts w k (compEnvC scope cl C env) ((x, g t) :: cap scope m) c (b t)) (he : ∀ t ∈ ts, b t = true → ∀ C, Ev w k (compEnvC scope cl C env) ((x, g t) :: cap scope m) elt (f t)) (hf : ∀ t, (f t).flat = true)
    (hsz : ts.length ≤ sizeLine) :
    Cm w k env m elt [⟨.Name x px, iter, [c], 0⟩] scope pos cl ((ts.filter b).map f) := by
  have := Cm_compT (px := px) (pos := pos) sc hx hit (ifs := [c]) (fun t h C => Tss_one (ht t h C)) he hf hsz
  have e : (ts.flatMap fun t => if b t then [f t] else []) = (ts.filter b).map f := by
    clear this ht he hit hsz
    induction ts with
    | nil => rfl
    | cons a l ih => rw [List.flatMap_cons, ih, List.filter_cons]; cases b a <;> simp
  rw [← e]; exact this

theorem Cm_comp2 {us : α → List β} {g1 : α → β → PV} {f : α → β → PV} {y : Str} {py : Pos} {iter1 : Expr} (sc : Sc env scope cl) (hx : scope.names.lookup x = some .local) (hy : scope.names.lookup y = some .local) (hxy : (y == x) = false) (hit : It w k env m iter (ts.map g))
    (hit1 : ∀ t ∈ ts, ∀ C, ItD w k (compEnvC scope cl C env) ((x, g t) :: cap scope m) iter1 ((us t).map (g1 t)))
    (he : ∀ t ∈ ts, ∀ u ∈ us t, ∀ C, Ev w k (compEnvC scope cl C env) ((y, g1 t u) :: (x, g t) :: cap scope m) elt (f t u)) (hf : ∀ t u, (f t u).flat = true)
    (hsz : (ts.flatMap fun t => (us t).map (f t)).length ≤ sizeLine) (hs1 : ∀ C x, foldedSetIterable iter1 (compEnvC scope cl C env) x = pure x := by intro _ _; rfl) :
    Cm w k env m elt [⟨.Name x px, iter, [], 0⟩, ⟨.Name y py, iter1, [], 0⟩] scope pos cl (ts.flatMap fun t => (us t).map (f t)) := by
  refine Cm_compG (out := fun t => (us t).map (f t)) sc hit (fun I D C => turn0_eq ..) (fun A h₀ I D C t htm v s ys cs hl r Q E h => ?_) hsz
  refine wpAny_bind (wpAny_pure (wpAny_bind (wpAny_assign_Name (cs.store r (lookup_relabel_local hx) fun s1 k1 c1 => wpAny_bind (wpAny_pure ?_)))))
  simp only [if_true]
  refine wpAny_bind (wpAny_mono (hit1 t htm C A h₀ s1 D c1.gd _ E fun I1 s2 fp wr P St kp new hDf hval it => ?_) (fun x s₁ hx => wpAny_bind (wpAny_standAt (wpAny_bind (wpAny_of_eq (hs1 C x) (wpAny_bind (wpAny_holding hx)))))) fun _ _ e => e)
  have c2 := c1.kp kp
  have hym : ((x, g t) :: cap scope m).lookup y = none := by rw [List.lookup_cons, hxy]; exact cap_none hy
  have loop : codeAny (Md w) A (.compLoop (.ListComp elt [⟨.Name x px, iter, [], 0⟩, ⟨.Name y py, iter1, [], 0⟩] scope pos) 1 (.ref I1) (.ref D) (compEnvC scope cl C env))
      (fun r s' => match r with | .ok f => wpAny (Md w) A (again (.compLoop (.ListComp elt [⟨.Name x px, iter, [], 0⟩, ⟨.Name y py, iter1, [], 0⟩] scope pos) 0 (.ref I) (.ref D) (compEnvC scope cl C env))) Q E s' | .error e => cameBackBy (Md w) A (compEnvC scope cl C env) E e s') s2 := by
    refine comp_loop (out := fun u => [f t u]) (ts := us t) (g := g1 t) (turn2_eq ..) rfl rfl (Around.under_of_weight rfl) it (by obtain ⟨_, _, e, _⟩ := c1.acc; exact hDf _ e) hval (fun u hu v s ys cs hl r Q E h => ?_) it.st c2 (fun a o e d => ?_) ?_ fun s' c' kc => ?_
    · exact turn_last (b := true) (lookup_relabel_local hy) hym Tss_nil (fun _ => he t htm u hu C) (hf t u) cs hl r h
    · exact e
    · rw [show (us t).flatMap (fun u => [f t u]) = (us t).map (f t) from flatMap_one _ _]
      exact hl
    · rw [show (us t).flatMap (fun u => [f t u]) = (us t).map (f t) from flatMap_one _ _] at c'
      refine wpAny_pure (h s' (k1.trans ?_) (c'.drop (cap_none hx)))
      refine ⟨?_, fun b o e n l => kc.up b o (kp.up b o e n) n fun hb => ?_, fun b o e l => ?_⟩
      · obtain ⟨h1, t1, rfl⟩ := kp.same
        obtain ⟨h2, t2, rfl⟩ := kc.same
        exact ⟨h2, t2, rfl⟩
      · simp only [List.mem_cons] at hb
        rcases hb with rfl | rfl | hb
        · exact l (by simp [compEnvC])
        · exact l (by simp)
        · rw [new b hb] at e; cases e
      · obtain ⟨sl, e1⟩ := kp.fr b o e
        obtain ⟨sl2, e2⟩ := kc.fr b _ e1 fun hb => by
          simp only [List.mem_cons] at hb
          rcases hb with rfl | rfl | hb
          · exact l (by simp [compEnvC])
          · exact l (by simp)
          · rw [new b hb] at e; cases e
        exact ⟨sl2, e2⟩
  refine wpAny_bind (wpAny_runOwn (h := none) ?_)
  exact comp_begin (d := 1) (gg := ⟨.Name y py, iter1, [], 0⟩) rfl rfl loop fun E' => it.W.self 0 _ _ _ it.st loop
end

end Mine

end

/-! part Rules6 -/
section
open PySem PySem.W PySem.Calls PyProof.Rows
set_option linter.unusedVariables false
set_option maxRecDepth 100000
namespace Mine

section
variable {w : World} {k : Nat} {A : Around} {env : Env} {h₀ : Heap} {m : Mp} {s : Shared}

/-- a range object, iterated -/
theorem range_go {r : Addr} {a b c : Int} {t u v : Tok} {N : Nat} {h₀ : Heap} {X : List Addr} {Q : Value → Shared → Prop} {E : Value → Shared → Prop} (hh : A.handled = none) (hr : IsRange s.heap r a b c t u v) (hsm : Builtin.Range.small a b c = true)
    (hN : Builtin.Range.rangeSize a b c = (N : Int)) (hk : Ext h₀ s.heap)
    (h : ∀ I s' fp wr P St, Kp A s s' → (∀ b ∈ wr, s.heap.get? b = none) → (∀ b ∈ X, ∀ o, s.heap.get? b = some o → b ∉ fp) → (∀ i v, P i v → ∃ x, ((List.range N).map fun (i : Nat) => PV.int (a + (i : Int) * c))[i]? = some x ∧ Rep (hideAll s'.heap X) x v) →
      Itr w A h₀ s' I ((List.range N).map fun (i : Nat) => PV.int (a + (i : Int) * c)) fp wr P St → Q (.ref I) s') : wpAny (Md w) A (pyIter (.ref r)) Q E s := by
  refine wpAny_pyIter_range hr hsm ?_
  rw [hN]
  have W := Walks.range (prog := Pw) (w := w) hh s.heap.objs.size a c N
  have fresh : s.heap.get? s.heap.objs.size = none := by
    cases e : s.heap.get? s.heap.objs.size with
    | none => rfl
    | some o => exact absurd (Heap.lt_size e) (Nat.lt_irrefl _)
  have fresh₀ : h₀.get? s.heap.objs.size = none := by
    cases e : h₀.get? s.heap.objs.size with
    | none => rfl
    | some o => rw [hk _ _ e] at fresh; cases fresh
  have hlen : ((List.range N).map fun (i : Nat) => PV.int (a + (i : Int) * c)).length = N := by simp
  have hst : IsRangeIter (s.heap.push { cls := .type "range_iterator", data := .fields #[rawInt a, rawInt (N : Int), rawInt c] }) s.heap.objs.size (a + (0 : Nat) * c) ((N : Int) - (0 : Nat)) c := by
    show (s.heap.push _).get? s.heap.objs.size = some _
    rw [Heap.get?_push_size _ rfl]
    simp
  have hv : ∀ (hx : Heap) (i : Nat) (v : Value), (i < N ∧ ∃ t, v = .int (a + i * c) t) → ∃ x, ((List.range N).map fun (i : Nat) => PV.int (a + (i : Int) * c))[i]? = some x ∧ Rep hx x v := fun hx i v ⟨hi, t, e⟩ => by
    refine ⟨.int (a + (i : Int) * c), ?_, ?_⟩
    · simp [hi]
    · simp only [Rep]; exact ⟨t, e⟩
  refine h s.heap.objs.size _ [s.heap.objs.size] [s.heap.objs.size] (fun i v => i < N ∧ ∃ t, v = .int (a + i * c) t) (fun i h => IsRangeIter h s.heap.objs.size (a + (i : Nat) * c) ((N : Int) - (i : Nat)) c) (.of_ext fun b o e => Heap.get?_push_of_some _ e) (fun b hb => by simp at hb; subst hb; exact fresh) (fun b0 hb0 o hD hb => ?_) (hv _) ⟨?_, hst, ?_, fun b hb => by simp at hb; subst hb; exact fresh₀, ?_, ?_, ?_, hv _⟩
  · simp at hb; subst hb; rw [fresh] at hD; cases hD
  · rw [hlen]; exact W.bound
  · intro b hb
    simp at hb; subst hb
    rw [Heap.size_push]; exact Nat.lt_succ_self _
  · intro i h st b hb o e
    simp at hb; subst hb
    rw [st] at e; cases e
    exact ⟨_, rfl⟩
  · intro i h st b hb o e es ep q
    simp at hb; subst hb
    rw [st] at e; cases e
    cases q
  · intro i h st b hb o e v q
    simp at hb; subst hb
    rw [st] at e; cases e
    cases q

theorem ItX_range1 {e : Expr} {p pos : Pos} {n : Int} (he : Ev w k env m e (.int n)) (hn : n < 2 ^ 40) (hn0 : -(2 ^ 40) ≤ n) (hk : env.kindOf (Str.ofString "range") = some .globalImplicit) (hst : (starEach [e] env).all (fun x => !x.1) = true := by rfl)
    (hna : ∀ env, starEach [e] env = [(false, eval e env)] := by intro _; rfl) :
    ItX w k env m (.Call (.Name (Str.ofString "range") p) [e] [] pos) ((List.range n.toNat).map fun (i : Nat) => PV.int i) := by
  intro A h₀ s X g Q E h
  have gx := g.ext (ext_hideAll _ _)
  refine wpAny_Call_Name_kw (gx.built (v := .type "range") rfl rfl hk (by decide) (callWith_type (any_backTo hst) ((Evs_cons he Evs_nil hna).args gx (fun vs s₁ k₁ rs => ?_) hst)) (by decide))
  simp only [Reps, Rep] at rs
  obtain ⟨v, r, rfl, ⟨t, rfl⟩, rfl⟩ := rs
  refine call_range_1 ?_
  have k₂ : Kp A s₁ { s₁ with heap := s₁.heap.push { cls := .type "range", data := .fields #[.int 0 s₁.toks, .int n t, .int 1 (s₁.toks + 1)] }, toks := s₁.toks + 1 + 1 } := .of_ext fun b o e => Heap.get?_push_of_some _ e
  have hN : Builtin.Range.rangeSize 0 n 1 = (n.toNat : Int) := by rw [rangeSize_one]; split <;> omega
  have e2 : ((List.range n.toNat).map fun (i : Nat) => PV.int (0 + (i : Int) * 1)) = ((List.range n.toNat).map fun (i : Nat) => PV.int i) := by simp
  have g₂ := (gx.kp k₁).kp k₂
  refine range_go (X := X) (h₀ := h₀) gx.ok.hand (IsRange.new ..) (small_one (by decide) (by decide) (by omega) (by omega)) hN g₂.base.keep fun I s' fp wr P St k₃ new hD hv it => ?_
  rw [e2] at it hv
  refine h I s' fp wr P St ((k₁.trans k₂).trans k₃) (fun b hb => ?_) (fun b0 hb0 o hd => ?_) hv it
  · cases eb : s.heap.get? b with
    | none => rfl
    | some o => obtain ⟨sl, e'⟩ := (k₁.trans k₂).fr b o eb; have := new b hb; rw [show (_ : Heap).get? b = _ from e'] at this; cases this
  · obtain ⟨sl, e'⟩ := (k₁.trans k₂).fr b0 o hd
    exact hD b0 hb0 _ e'

theorem next_free {h : Heap} : h.get? h.objs.size = none := by
  cases e : h.get? h.objs.size with
  | none => rfl
  | some o => exact absurd (Heap.lt_size e) (Nat.lt_irrefl _)
theorem base_free {h₀ h : Heap} (hk : Ext h₀ h) : h₀.get? h.objs.size = none := by
  cases e : h₀.get? h.objs.size with
  | none => rfl
  | some o => have := hk _ _ e; rw [next_free] at this; cases this

theorem list_goL {ax : Addr} {vs : List Value} {n : Nat} {xs : List PV} {X : List Addr} {Q : Value → Shared → Prop} {E : Value → Shared → Prop} (hh : A.handled = none) (hl : s.heap.get? ax = some (lobj vs n)) (rs : Reps s.heap xs vs) (rsD : Reps (hideAll s.heap X) xs vs) (hne : ax ∉ X) (hk : Ext h₀ s.heap)
    (h : ∀ I s' fp wr P St, Kp A s s' → (∀ b ∈ wr, s.heap.get? b = none) → (∀ i h, St i h → ∃ l j, h.IsListIter I l j) → (∀ b ∈ X, ∀ o, s.heap.get? b = some o → b ∉ fp) → (∀ i v, P i v → ∃ x, xs[i]? = some x ∧ Rep (hideAll s'.heap X) x v) →
      Itr w A h₀ s' I xs fp wr P St → Q (.ref I) s') : wpAny (Md w) A (pyIter (.ref ax)) Q E s := by
  have hl' : s.heap.IsList ax vs.toArray := ⟨_, hl, rfl, _, rfl⟩
  refine wpAny_pyIter_list hl' ?_
  have hlt : ax < s.heap.objs.size := Heap.lt_size hl
  have W := Walks.list (prog := Pw) (w := w) hh s.heap.objs.size ax (Nat.ne_of_lt hlt) vs.toArray
  have hlen : vs.toArray.size = xs.length := by rw [List.size_toArray, rs.length]
  have ext : Ext s.heap (s.heap.push { cls := .type "list_iterator", data := .fields #[.ref ax, .int 0 0] }) := fun b o e => Heap.get?_push_of_some _ e
  refine h s.heap.objs.size _ [s.heap.objs.size, ax] [s.heap.objs.size] (fun i v => vs.toArray[i]? = some v) (fun i h => h.IsListIter s.heap.objs.size ax i ∧ h.IsList ax vs.toArray) (.of_ext ext) (fun b hb => by simp at hb; subst hb; exact next_free) (fun i h st => ⟨_, _, st.1⟩) (fun b0 hb0 o hD hb => ?_) (fun i v hP => ?_) ⟨?_, ⟨⟨_, Heap.get?_push_size _ rfl, rfl, rfl⟩, hl'.push _⟩, ?_, fun b hb => by simp at hb; subst hb; exact base_free hk, ?_, ?_, ?_, fun i v hP => ?_⟩
  · simp at hb
    rcases hb with rfl | rfl
    · rw [next_free] at hD; cases hD
    · exact hne hb0
  · obtain ⟨x, e, r⟩ := rsD.get' (i := i) (v := v) (by simpa using hP)
    refine ⟨x, e, Rep.mono (fun a o e d => ?_) _ _ r⟩
    exact hideAll_get _ (ext _ _ (of_hideAll _ e)) (hideAll_nm e)
  · rw [← hlen]; exact W
  · intro b hb
    rw [Heap.size_push]
    simp at hb
    rcases hb with rfl | rfl
    · exact Nat.lt_succ_self _
    · exact Nat.lt_succ_of_lt hlt
  · intro i h st b hb o e
    simp at hb; subst hb
    obtain ⟨o', e', _, d⟩ := st.1
    rw [e] at e'; cases e'
    exact ⟨_, d⟩
  · intro i h st b hb o e es ep q
    simp at hb
    rcases hb with rfl | rfl
    · obtain ⟨o', e', _, d⟩ := st.1
      rw [e] at e'; cases e'
      rw [d] at q; cases q
    · obtain ⟨o', e', _, n, d⟩ := st.2
      rw [e] at e'; cases e'
      rw [d] at q; cases q
  · intro i h st b hb o e v q
    simp at hb
    rcases hb with rfl | rfl
    · obtain ⟨o', e', _, d⟩ := st.1
      rw [e] at e'; cases e'
      rw [d] at q; cases q
    · obtain ⟨o', e', _, n, d⟩ := st.2
      rw [e] at e'; cases e'
      rw [d] at q; cases q
  · obtain ⟨x, e, r⟩ := rs.get' (i := i) (v := v) (by simpa using hP)
    exact ⟨x, e, Rep.mono ext.q _ _ r⟩
theorem list_go {ax : Addr} {vs : List Value} {n : Nat} {xs : List PV} {X : List Addr} {Q : Value → Shared → Prop} {E : Value → Shared → Prop} (hh : A.handled = none) (hl : s.heap.get? ax = some (lobj vs n)) (rs : Reps s.heap xs vs) (rsD : Reps (hideAll s.heap X) xs vs) (hne : ax ∉ X) (hk : Ext h₀ s.heap)
    (h : ∀ I s' fp wr P St, Kp A s s' → (∀ b ∈ wr, s.heap.get? b = none) → (∀ b ∈ X, ∀ o, s.heap.get? b = some o → b ∉ fp) → (∀ i v, P i v → ∃ x, xs[i]? = some x ∧ Rep (hideAll s'.heap X) x v) →
      Itr w A h₀ s' I xs fp wr P St → Q (.ref I) s') : wpAny (Md w) A (pyIter (.ref ax)) Q E s :=
  list_goL hh hl rs rsD hne hk fun I s' fp wr P St kp new _ => h I s' fp wr P St kp new
theorem ItX_name {x : Str} {p : Pos} {xs : List PV} (hx : m.lookup x = some (.list xs)) (hd : (x == ("__debug__" : Str)) = false := by decide) : ItX w k env m (.Name x p) xs := by
  intro A h₀ s X g Q E h
  have gx := g.ext (ext_hideAll _ _)
  refine wpAny_Name (s := s) ?_ hd
  obtain ⟨mv, n, r⟩ := g.mem
  obtain ⟨v, r1, r2⟩ := r x _ hx
  simp only [Rep] at r1
  obtain ⟨a, vs, nn, rfl, ea, rs⟩ := r1
  have fin : wpAny (Md w) A (pyIter (.ref a)) Q E s := by
    refine list_go (X := X) (h₀ := h₀) gx.ok.hand (of_hideAll _ ea) (Reps.mono (ext_hideAll _ _).q _ _ rs) rs (hideAll_nm ea) gx.base.keep fun I s' fp wr P St k₃ new hD hv it => h I s' fp wr P St k₃ new hD hv it
  rcases r2 with ⟨q, b⟩ | ⟨q, c, b, d⟩
  · exact wpAny_loadName_local g.kind q (n.keeps (ext_hideAll _ _)) b fin
  · rcases q with q | ⟨q, q'⟩
    · exact wpAny_loadName_cell g.kind q b (d.keeps (ext_hideAll _ _)) fin
    · exact wpAny_loadName_free g.kind q b (d.keeps (ext_hideAll _ _)) fin q'

def bInt (b : Array UInt8) : List PV := b.toList.map fun c => PV.int (c.toNat : Int)
theorem ItX_bytes {e : Expr} {b : Array UInt8} (he : Ev w k env m e (.bytes b)) : ItX w k env m e (bInt b) := by
  intro A h₀ s X g' Q E h
  have g := g'.ext (ext_hideAll _ _)
  refine he A h₀ s g _ _ fun v s₁ k₁ r => ?_
  simp only [Rep] at r
  obtain ⟨t, rfl⟩ := r
  refine KBw.pyIter_bytes ?_
  have W := KBw.walks (prog := Pw) (w := w) g.ok.hand s₁.heap.objs.size b t
  have hlen : (bInt b).length = b.size := by simp [bInt]
  refine h s₁.heap.objs.size _ [s₁.heap.objs.size] [s₁.heap.objs.size] (fun i v => ∃ c u, b[i]? = some c ∧ v = .int (c.toNat : Int) u) (fun i h => KBw.IsBytesIter h s₁.heap.objs.size b t i) (k₁.trans (.of_ext fun b o e => Heap.get?_push_of_some _ e)) (fun q hq => ?_) (fun b0 hb0 o hD hq => ?_) ?_ ⟨by rw [hlen]; exact W, ⟨_, Heap.get?_push_size _ rfl, rfl, rfl⟩, ?_, fun q hq => ?_, ?_, ?_, ?_, ?_⟩
  · simp at hq; subst hq
    cases eb : s.heap.get? s₁.heap.objs.size with
    | none => rfl
    | some o => obtain ⟨sl, e'⟩ := k₁.fr _ o eb; rw [next_free] at e'; cases e'
  · simp at hq; subst hq
    obtain ⟨sl, e'⟩ := k₁.fr _ o hD; rw [next_free] at e'; cases e'
  · rintro i v ⟨c, u, hc, rfl⟩
    refine ⟨.int (c.toNat : Int), by simp [bInt, hc], ?_⟩
    simp only [Rep]
    exact ⟨_, rfl⟩
  · intro q hq
    rw [Heap.size_push]
    simp at hq; subst hq; exact Nat.lt_succ_self _
  · simp at hq; subst hq; exact base_free (g.kp k₁).base.keep
  · intro i h st q hq o e
    simp at hq; subst hq
    obtain ⟨o', e', _, d⟩ := st
    rw [e] at e'; cases e'
    exact ⟨_, d⟩
  · intro i h st q hq o e es ep z
    simp at hq; subst hq
    obtain ⟨o', e', _, d⟩ := st
    rw [e] at e'; cases e'
    rw [d] at z; cases z
  · intro i h st q hq o e v z
    simp at hq; subst hq
    obtain ⟨o', e', _, d⟩ := st
    rw [e] at e'; cases e'
    rw [d] at z; cases z
  · rintro i v ⟨c, u, hc, rfl⟩
    refine ⟨.int (c.toNat : Int), by simp [bInt, hc], ?_⟩
    simp only [Rep]
    exact ⟨_, rfl⟩
end
end Mine

end

/-! part Bi1 -/
section
open PySem PySem.W PySem.Calls PyProof.Rows
set_option linter.unusedVariables false
set_option maxRecDepth 100000
namespace Mine

abbrev il (ns : List Int) : List PV := ns.map PV.int
theorem Reps.toInts {h : Heap} : ∀ {ns : List Int} {vs : List Value}, Reps h (il ns) vs → IntsAre vs ns
  | [], vs, r => by simp only [List.map_nil, Reps] at r; subst r; exact .nil
  | n :: ns, vs, r => by
    simp only [List.map_cons, Reps, Rep] at r
    obtain ⟨v, t, rfl, ⟨u, rfl⟩, r⟩ := r
    exact .cons n u (Reps.toInts r)
theorem Reps.of_ints {h : Heap} : ∀ {ns : List Int} {vs : List Value}, IntsAre vs ns → Reps h (il ns) vs
  | _, _, .nil => Reps.nil
  | _, _, .cons n t r => Reps.cons (by simp only [Rep]; exact ⟨t, rfl⟩) (Reps.of_ints r)

section
variable {w : World} {k : Nat} {a b : Int}
theorem add_i : Bop w k .Add (.int a) (.int b) (.int (a + b)) := fun A s va vb cx ra rb Q E h => by
  simp only [Rep] at ra rb; obtain ⟨t, rfl⟩ := ra; obtain ⟨u, rfl⟩ := rb
  exact add_int (h _ _ .of_toks (by simp only [Rep]; exact ⟨_, rfl⟩))
theorem sub_i : Bop w k .Sub (.int a) (.int b) (.int (a - b)) := fun A s va vb cx ra rb Q E h => by
  simp only [Rep] at ra rb; obtain ⟨t, rfl⟩ := ra; obtain ⟨u, rfl⟩ := rb
  exact sub_int' (h _ _ .of_toks (by simp only [Rep]; exact ⟨_, rfl⟩))
theorem mul_i (hm : IntMulOk a b) : Bop w k .Mult (.int a) (.int b) (.int (a * b)) := fun A s va vb cx ra rb Q E h => by
  simp only [Rep] at ra rb; obtain ⟨t, rfl⟩ := ra; obtain ⟨u, rfl⟩ := rb
  exact PyProof.Rows.mul_int (h _ _ .of_toks (by simp only [Rep]; exact ⟨_, rfl⟩)) hm
theorem div_i (hb : 0 < b) (hs : b < 1073741824) : Bop w k .FloorDiv (.int a) (.int b) (.int (a / b)) := fun A s va vb cx ra rb Q E h => by
  simp only [Rep] at ra rb; obtain ⟨t, rfl⟩ := ra; obtain ⟨u, rfl⟩ := rb
  refine floordiv_int (by omega) (h _ _ .of_toks ?_) (.inl (PyProof.noPylong_small (by omega)))
  simp only [Rep]
  exact ⟨_, by rw [Int.fdiv_eq_ediv_of_nonneg _ (by omega)]⟩
theorem mod_i (hb : 0 < b) : Bop w k .Mod (.int a) (.int b) (.int (a % b)) := fun A s va vb cx ra rb Q E h => by
  simp only [Rep] at ra rb; obtain ⟨t, rfl⟩ := ra; obtain ⟨u, rfl⟩ := rb
  refine mod_int' (by omega) (h _ _ .of_toks ?_)
  simp only [Rep]
  exact ⟨_, by rw [Int.fmod_eq_emod_of_nonneg _ (by omega)]⟩
theorem pow_i (hb : 0 ≤ b) (hs : (Builtin.Int.intBits a : Int) * b ≤ 2 ^ 27) : Bop w k .Pow (.int a) (.int b) (.int (a ^ b.toNat)) := fun A s va vb cx ra rb Q E h => by
  simp only [Rep] at ra rb; obtain ⟨t, rfl⟩ := ra; obtain ⟨u, rfl⟩ := rb
  exact PyProof.Rows.pow_int hb hs (h _ _ .of_toks (by simp only [Rep]; exact ⟨_, rfl⟩))
theorem eq_i : Cop w k .Eq (.int a) (.int b) (.bool (a == b)) := fun A s va vb cx ra rb Q E h => by
  simp only [Rep] at ra rb; obtain ⟨t, rfl⟩ := ra; obtain ⟨u, rfl⟩ := rb
  exact wpAny_eq_int (h _ _ (.refl ..) (by simp only [Rep]))
end

section
variable {w : World} {k : Nat} {ns : List Int}
theorem len_bi {xs : List PV} (hl : xs.length < 2 ^ 40) : Bi w k (.builtin "len") [.list xs] (.int xs.length) := fun A s vs cx rs Q E h => by
  simp only [Reps, Rep] at rs
  obtain ⟨v, t, rfl, ⟨a, us, n, rfl, e, r⟩, rfl⟩ := rs
  refine call_len_list ⟨_, e, rfl, _, rfl⟩ (by rw [List.size_toArray, r.length]; omega) (h _ _ .of_toks ?_)
  simp only [Rep]
  exact ⟨_, by rw [List.size_toArray, r.length]⟩
theorem len_il (hl : ns.length < 2 ^ 40) : Bi w k (.builtin "len") [.list (il ns)] (.int ns.length) := by
  have := len_bi (w := w) (k := k) (xs := il ns) (by simpa [il] using hl)
  simpa [il] using this
theorem len_bytes_bi {b : Array UInt8} (hl : b.size < 2 ^ 30) : Bi w k (.builtin "len") [.bytes b] (.int b.size) := fun A s vs cx rs Q E h => by
  simp only [Reps, Rep] at rs
  obtain ⟨v, t, rfl, ⟨u, rfl⟩, rfl⟩ := rs
  refine PySem.W.len_bytes (by omega) (h _ _ .of_toks ?_)
  simp only [Rep]
  exact ⟨_, rfl⟩
theorem sum_bi : Bi w k (.builtin "sum") [.list (il ns)] (.int ns.sum) := fun A s vs cx rs Q E h => by
  simp only [Reps, Rep] at rs
  obtain ⟨v, t, rfl, ⟨a, us, n, rfl, e, r⟩, rfl⟩ := rs
  have hi := Reps.toInts r
  obtain ⟨xs, hx⟩ := (hi.allInts).items
  have hl : s.heap.IsList a us.toArray := ⟨_, e, rfl, _, rfl⟩
  rw [hx] at hl
  refine sum_intListG cx.ok.hand hl fun h' tk t' hk => h _ _ (.of_ext hk) ?_
  simp only [Rep]
  refine ⟨t', ?_⟩
  have e1 := nums_intItems xs
  rw [← hx, show us.toArray.toList = us from rfl, hi.numsOf] at e1
  rw [preSum_eq, List.take_of_length_le (by simp), e1]
end
end Mine

end

/-! part Bi2 -/
section
open PySem PySem.W PySem.Calls PyProof.Rows
set_option linter.unusedVariables false
set_option maxRecDepth 100000
namespace Mine

def PT (p : PV) (T : String) : Prop := ∀ (s : Shared) (v : Value), Rep s.heap p v → s.TypeIs v T ∧ ∀ a, v = .ref a → ∃ o, s.heap.get? a = some o ∧ o.dict = none
theorem PT_list {xs : List PV} : PT (.list xs) "list" := fun s v r => by
  simp only [Rep] at r
  obtain ⟨a, vs, n, rfl, e, _⟩ := r
  exact ⟨⟨_, e, rfl⟩, fun b q => by cases q; exact ⟨_, e, rfl⟩⟩
theorem PT_str {x : Str} : PT (.str x) "str" := fun s v r => by
  simp only [Rep] at r
  obtain ⟨t, rfl⟩ := r
  exact ⟨typeIs_str _ _ _, fun b q => nomatch q⟩

section
variable {w : World} {k : Nat} {env : Env} {m : Mp}

theorem Ev_meth {o : Expr} {name : Str} {apos pos : Pos} {es : List Expr} {T id : String} {p : PV} {ps : List PV} {r : PV} (pa : PlainAttrs T) (slot : Slot T name id) (hty : typeOf (.builtin id) = pure (.type "method_descriptor"))
    (ho : Ev w k env m o p) (hT : PT p T) (he : Evs w k env m es ps) (hf : Bi w k (.builtin id) (p :: ps) r)
    (hbase : attributeBase o name env (eval o env) = eval o env := by rfl) (hline : (apos.endLine == pos.line) = true := by rfl) (hst : (starEach es env).all (fun x => !x.1) = true := by rfl) (hlen : es.length < 29 := by decide) :
    Ev w k env m (.Call (.Attribute o name apos) es [] pos) r := fun A h₀ s g Q E h => by
  refine wpAny_Call_method hbase ?_ hline pa slot hty (ho A h₀ s g _ _ fun v s₁ k₁ rv => ⟨(hT s₁ v rv).1, (hT s₁ v rv).2, ?_⟩)
  · rw [Bool.and_eq_true, Bool.and_eq_true]
    refine ⟨⟨?_, rfl⟩, ?_⟩
    · unfold backTo; rw [List.all_map]; exact hst
    · simp; omega
  · refine callWith_builtin (any_backTo hst) (he.args (g.kp k₁) (fun vs s₂ k₂ rs => ?_) hst)
    exact hf A s₂ (v :: vs) ((g.kp k₁).kp k₂).cx (Reps.cons ((g.kp k₁).rep k₂ rv) rs) _ _ fun v s₃ k₃ r => h v s₃ ((k₁.trans k₂).trans k₃) r

/-- an item -/
def Gi (w : World) (k : Nat) (a b c : PV) : Prop :=
  ∀ A s va vb, Cx w k A s.heap → Rep s.heap a va → Rep s.heap b vb → Tr w A (getItem va vb) c s
theorem Ev_item {value slice : Expr} {pos : Pos} {a b c : PV} {T id : String} (hv : Ev w k env m value a) (hi : Ev w k env m slice b) (hg : Gi w k a b c) (hT : PT a T) (hl : typeLookup (.type T) "__getitem__" = pure (some (.builtin id)))
    (hs : ∀ o i, subscripted slice false o i = operate [o, i] (getItem o i) := by intro _ _; rfl) : Ev w k env m (.Subscript value slice pos) c :=
  fun A h₀ s g Q E h => Subscript_ (hv A h₀ s g _ _ fun v s₁ k₁ rv => hi A h₀ s₁ (g.kp k₁) _ _ fun i s₂ k₂ ri => by
    have rv' := (g.kp k₁).rep k₂ rv
    exact tail_any (hT s₂ v rv').1 hl (hg A s₂ v i ((g.kp k₁).kp k₂).cx rv' ri _ _ fun x s₃ k₃ rx => h x s₃ ((k₁.trans k₂).trans k₃) rx) (hs v i))

theorem gi_list {xs : List PV} {i : Int} {p : PV} (h0 : 0 ≤ i) (hx : xs[i.toNat]? = some p) (hl : xs.length < 2 ^ 40) : Gi w k (.list xs) (.int i) p := fun A s va vb cx ra rb Q E h => by
  simp only [Rep] at ra rb
  obtain ⟨a, vs, n, rfl, e, rs⟩ := ra
  obtain ⟨t, rfl⟩ := rb
  obtain ⟨v, ev, rv⟩ := rs.get hx
  have hlt : i.toNat < xs.length := (List.getElem?_eq_some_iff.mp hx).1
  exact wpAny_getItem_list (items := vs.toArray) ⟨_, e, rfl, _, rfl⟩ h0 (by omega) (by simpa using ev) (h v s (.refl ..) rv)
theorem gi_str {x : Str} {i : Int} {c : Nat} (h0 : 0 ≤ i) (hx : x.cps[i.toNat]? = some c) (hl : x.length < 2 ^ 40) : Gi w k (.str x) (.int i) (.str ⟨#[c]⟩) := fun A s va vb cx ra rb Q E h => by
  simp only [Rep] at ra rb
  obtain ⟨t, rfl⟩ := ra
  obtain ⟨u, rfl⟩ := rb
  have hlt : i.toNat < x.length := (Array.getElem?_eq_some_iff.mp hx).1
  refine PySem.P.getItem_str (c := c) ?_ ?_ (h _ _ .of_toks (by simp only [Rep]; exact ⟨_, rfl⟩))
  · simp only [Bool.or_eq_false_iff, decide_eq_false_iff_not]; omega
  · have : seqIndex? i x.length = some i.toNat := by
      have hn : ¬ i < 0 := by omega
      have h1 : i < x.length := by omega
      simp [seqIndex?, hn, h0, h1]
    rw [this]; exact hx
theorem Ev_itemL {value slice : Expr} {pos : Pos} {xs : List PV} {i : Int} {p : PV} (hv : Ev w k env m value (.list xs)) (hi : Ev w k env m slice (.int i)) (h0 : 0 ≤ i) (hx : xs[i.toNat]? = some p) (hl : xs.length < 2 ^ 40)
    (hs : ∀ o i, subscripted slice false o i = operate [o, i] (getItem o i) := by intro _ _; rfl) : Ev w k env m (.Subscript value slice pos) p := Ev_item hv hi (gi_list h0 hx hl) PT_list slot_list_getitem.lookup hs
theorem Ev_itemS {value slice : Expr} {pos : Pos} {x : Str} {i : Int} {c : Nat} (hv : Ev w k env m value (.str x)) (hi : Ev w k env m slice (.int i)) (h0 : 0 ≤ i) (hx : x.cps[i.toNat]? = some c) (hl : x.length < 2 ^ 40)
    (hs : ∀ o i, subscripted slice false o i = operate [o, i] (getItem o i)) : Ev w k env m (.Subscript value slice pos) (.str ⟨#[c]⟩) := Ev_item hv hi (gi_str h0 hx hl) PT_str F.slot_str_getitem.lookup hs

/-- a slice's part -/
def Part (w : World) (k : Nat) (env : Env) (m : Mp) : Option Expr → Option Int → Prop
  | none, oi => oi = none
  | some e, oi => ∃ i, oi = some i ∧ Ev w k env m e (.int i)
theorem Part.none : Part w k env m none none := by simp [Part]
theorem Part.some {e : Expr} {i : Int} (h : Ev w k env m e (.int i)) : Part w k env m (some e) (some i) := by simp only [Part]; exact ⟨i, rfl, h⟩
theorem Part.go {oe : Option Expr} {oi : Option Int} (h : Part w k env m oe oi) {A : Around} {h₀ : Heap} {s : Shared} (g : Gd w k A env h₀ s.heap m) {Q : Value → Shared → Prop} {E : Value → Shared → Prop}
    (hQ : ∀ v s', Kp A s s' → IsPart v oi → Q v s') : wpAny (Md w) A (valueOrNone (evalOpt oe env)) Q E s := by
  cases oe with
  | none => simp only [Part] at h; subst h; exact wpAny_pure (hQ _ _ (.refl ..) .none)
  | some e =>
    simp only [Part] at h
    obtain ⟨i, rfl, h⟩ := h
    refine h A h₀ s g _ _ fun v s' q r => ?_
    simp only [Rep] at r
    obtain ⟨t, rfl⟩ := r
    exact hQ _ _ q (.int i t)
theorem eval_Slice (l u t : Option Expr) (pos : Pos) : eval (.Slice l u t pos) env = (do
    let lv ← valueOrNone (evalOpt l env)
    let uv ← holding [lv] (valueOrNone (evalOpt u env))
    let sv ← holding [lv, uv] (valueOrNone (evalOpt t env))
    newFields "slice" [lv, uv, sv]) := rfl

theorem Ev_slice {value : Expr} {l u t : Option Expr} {lo hi st : Option Int} {ns : List Int} {pos p : Pos} {ops : Value → Value → List Value} (hv : Ev w k env m value (.list (il ns))) (hl : Part w k env m l lo) (hu : Part w k env m u hi) (ht : Part w k env m t st) (h0 : st ≠ some 0) (hlen : ns.length ≤ sizeLine)
    (hs : ∀ o i, subscripted (.Slice l u t p) false o i = operate (ops o i) (getItem o i)) :
    Ev w k env m (.Subscript value (.Slice l u t p) pos) (.list (il (pickNums ns lo hi st))) := fun A h₀ s g Q E h => by
  refine Subscript_ (hv A h₀ s g _ _ fun v s₁ k₁ rv => ?_)
  have g₁ := g.kp k₁
  rw [eval_Slice]
  refine wpAny_bind (hl.go g₁ fun lv s₂ k₂ pl => wpAny_bind (wpAny_holding (hu.go (g₁.kp k₂) fun uv s₃ k₃ pu => wpAny_bind (wpAny_holding (ht.go ((g₁.kp k₂).kp k₃) fun tv s₄ k₄ pt => wpAny_newObj_type ?_)))))
  have k14 := (k₂.trans k₃).trans k₄
  have rv₄ := g₁.rep k14 rv
  have g₄ := g₁.kp k14
  simp only [Rep] at rv₄
  obtain ⟨a, vs, n, rfl, e, rs⟩ := rv₄
  have hi' := Reps.toInts rs
  have hL : s₄.heap.IsList a vs.toArray := ⟨_, e, rfl, _, rfl⟩
  refine tail_any (Heap.IsList.typeIs (s := { s₄ with heap := s₄.heap.push { cls := .type "slice", data := .fields #[lv, uv, tv] } }) (hL.push _)) slot_list_getitem.lookup
    (wpAny_getItem_list_slice (hL.push _) (Heap.IsSliceOf.new ..) pl pu pt h0 (h _ _ ?_ ?_) (by rw [List.size_toArray, hi'.length]; exact hlen)) (hs _ _)
  · exact (k₁.trans k14).trans ((Kp.of_ext (tk := s₄.toks) fun b o e => Heap.get?_push_of_some _ e).trans (Kp.of_ext (tk := s₄.toks) fun b o e => Heap.get?_push_of_some _ e))
  · simp only [Rep]
    exact ⟨_, (slicePick vs.toArray lo hi st).toList, _, rfl, Heap.get?_push_size _ rfl, Reps.of_ints (hi'.pick lo hi st)⟩
end

section
variable {w : World} {k : Nat} {ns : List Int}

theorem count_bi {i : Int} : Bi w k (.builtin "list.count") [.list (il ns), .int i] (.int (ns.count i : Nat)) := fun A s vs cx rs Q E h => by
  simp only [Reps, Rep] at rs
  obtain ⟨v, t, rfl, ⟨a, us, n, rfl, e, r⟩, v', t', rfl, ⟨u, rfl⟩, rfl⟩ := rs
  exact count_list_ints ⟨_, e, rfl, _, rfl⟩ (Reps.toInts r) (h _ _ .of_toks (by simp only [Rep]; exact ⟨_, rfl⟩))
theorem chr_bi {i : Int} (h0 : 0 ≤ i) (h1 : i < 1000) : Bi w k (.builtin "chr") [.int i] (.str ⟨#[i.toNat]⟩) := fun A s vs cx rs Q E h => by
  simp only [Reps, Rep] at rs
  obtain ⟨v, t, rfl, ⟨u, rfl⟩, rfl⟩ := rs
  exact chr_of_range h0 (by omega) (h _ _ .of_toks (by simp only [Rep]; exact ⟨_, rfl⟩))
theorem index_bi {x y : Str} {i : Nat} {rest : List Nat} (ho : Builtin.Str.occurrences x y 0 x.length 1 = i :: rest) : Bi w k (.builtin "str.index") [.str x, .str y] (.int i) := fun A s vs cx rs Q E h => by
  simp only [Reps, Rep] at rs
  obtain ⟨v, t, rfl, ⟨u, rfl⟩, v', t', rfl, ⟨u', rfl⟩, rfl⟩ := rs
  exact call_gives F.slot_str_index (typeIs_str _ _ _) F.entry_str_index (F.args_str_index_2 _ _) (gives_str_index x y _ _ i rest ho) (h _ _ .of_toks (by simp only [Rep]; exact ⟨_, rfl⟩))

def srt (ns : List Int) : List Int := ns.mergeSort (fun a b => decide (a ≤ b))
theorem srt_perm (ns : List Int) : (srt ns).Perm ns := List.mergeSort_perm ..
theorem srt_sorted (ns : List Int) : (srt ns).Pairwise (· ≤ ·) := by
  have := List.pairwise_mergeSort (le := fun a b : Int => decide (a ≤ b)) (fun a b c h1 h2 => by simp only [decide_eq_true_eq] at *; omega) (fun a b => by simp only [Bool.or_eq_true, decide_eq_true_eq]; omega) ns
  exact this.imp fun h => by simpa using h
theorem sorted_uniq : ∀ {a b : List Int}, a.Perm b → a.Pairwise (· ≤ ·) → b.Pairwise (· ≤ ·) → a = b := fun p h1 h2 => List.Perm.eq_of_pairwise (fun a b _ _ h1 h2 => by omega) h1 h2 p
theorem sorted_bi (hl : ns.length < 64) : Bi w k (.builtin "sorted") [.list (il ns)] (.list (il (srt ns))) := fun A s vs cx rs Q E h => by
  simp only [Reps, Rep] at rs
  obtain ⟨v, t, rfl, ⟨a, us, n, rfl, e, r⟩, rfl⟩ := rs
  have hi := Reps.toInts r
  refine sorted_ints (ns := ns) ⟨_, e, rfl, _, rfl⟩ hi (by rw [hi.length]; exact hl) fun out ns' a1 a2 a3 => h _ _ (Kp.of_ext (tk := s.toks) fun b o => sortedAll_old) ?_
  obtain ⟨ep, he⟩ := sortedAll_at s.heap us out
  have : ns' = srt ns := sorted_uniq (a2.trans (srt_perm ns).symm) a3 (srt_sorted ns)
  subst this
  simp only [Rep]
  exact ⟨_, out.toList, ep, rfl, he, Reps.of_ints a1⟩
end
end Mine

end

/-! part Bi3 -/
section
open PySem PySem.W PySem.Calls PyProof.Rows
set_option linter.unusedVariables false
set_option maxRecDepth 100000
namespace Mine

theorem Ok.units {k : Nat} {A : Around} (x : Ok k A) : A.units + 64 < cLine := by have := x.unit; omega

theorem reads_il {h : Heap} {v : Value} {ns : List Int} (r : Rep h (.list (il ns)) v) : ∃ as, Reads h v (.list (ns.map PyData.int)) as := by
  simp only [Rep] at r
  obtain ⟨a, vs, n, rfl, e, rs⟩ := r
  exact ⟨_, reads_of_ints ⟨_, e, rfl, _, rfl⟩ (Reps.toInts rs)⟩
theorem reads_pair {h : Heap} {v : Value} {ns ms : List Int} (r : Rep h (.tup [.list (il ns), .list (il ms)]) v) : ∃ as, Reads h v (.tuple [.list (ns.map PyData.int), .list (ms.map PyData.int)]) as := by
  simp only [Rep] at r
  obtain ⟨a, vs, n, rfl, e, rs⟩ := r
  simp only [Reps] at rs
  obtain ⟨v1, t1, rfl, r1, v2, t2, rfl, r2, rfl⟩ := rs
  obtain ⟨as1, q1⟩ := reads_il r1
  obtain ⟨as2, q2⟩ := reads_il r2
  exact ⟨_, Reads.tuple e rfl rfl (.cons q1 (.cons q2 .nil))⟩
theorem shaped_pair (ns ms : List Int) : SeqAt.shaped (.tuple [.list (ns.map PyData.int), .list (ms.map PyData.int)]) = true := by
  have h1 := W.depthAll_ints ns
  have h2 := W.depthAll_ints ms
  show (PyData.canLay0 _ && decide (PyData.depth _ ≤ 64)) = true
  rw [Bool.and_eq_true]
  refine ⟨?_, decide_eq_true ?_⟩
  · simp only [PyData.canLay0, PyData.canLayAll0, canLayAll0_ints, Bool.and_self]
  · simp only [PyData.depth, PyData.depthAll]; omega

section
variable {w : World} {k : Nat} {ns ms : List Int}

theorem ne_l : Cop w k .NotEq (.list (il ns)) (.list (il ms)) (.bool (!decide (ns = ms))) := fun A s va vb cx ra rb Q E h => by
  simp only [Rep] at ra rb
  obtain ⟨a, vs, n, rfl, e, rs⟩ := ra
  obtain ⟨b, us, n', rfl, e', rs'⟩ := rb
  exact ne_intsK ⟨_, e, rfl, _, rfl⟩ (Reps.toInts rs) ⟨_, e', rfl, _, rfl⟩ (Reps.toInts rs') cx.ok.units (h _ _ (.refl ..) (by simp only [Rep]))
theorem pair_same (ns ms ns' ms' : List Int) : PySem.Spec.same (.tuple [.list (ns.map PyData.int), .list (ms.map PyData.int)]) (.tuple [.list (ns'.map PyData.int), .list (ms'.map PyData.int)]) = (decide (ns = ns') && decide (ms = ms')) := by
  simp only [PySem.Spec.same, PySem.Spec.sameAll, same_ints, Bool.and_true]
open PyProof.V PySem.Spec PySem.SeqAt in
theorem pair_mix (ns ms ns' ms' : List Int) : noMix (.tuple [.list (ns.map PyData.int), .list (ms.map PyData.int)]) (.tuple [.list (ns'.map PyData.int), .list (ms'.map PyData.int)]) = true := by
  simp only [noMix, noMixAll, noMix_ints, Bool.and_self]
theorem eq_p {ns' ms' : List Int} : Cop w k .Eq (.tup [.list (il ns), .list (il ms)]) (.tup [.list (il ns'), .list (il ms')]) (.bool (decide (ns = ns') && decide (ms = ms'))) := fun A s va vb cx ra rb Q E h => by
  obtain ⟨as, r1⟩ := reads_pair ra
  obtain ⟨bs, r2⟩ := reads_pair rb
  exact eq_dataH_same r1 r2 (shaped_pair ..) (shaped_pair ..) cx.ok.units (pair_mix ..) (by rw [pair_same]; exact h _ _ (.refl ..) (by simp only [Rep]))
theorem ne_p {ns' ms' : List Int} : Cop w k .NotEq (.tup [.list (il ns), .list (il ms)]) (.tup [.list (il ns'), .list (il ms')]) (.bool (!(decide (ns = ns') && decide (ms = ms')))) := fun A s va vb cx ra rb Q E h => by
  obtain ⟨as, r1⟩ := reads_pair ra
  obtain ⟨bs, r2⟩ := reads_pair rb
  exact ne_dataH_same r1 r2 (shaped_pair ..) (shaped_pair ..) cx.ok.units (pair_mix ..) (by rw [pair_same]; exact h _ _ (.refl ..) (by simp only [Rep]))
theorem in_l {i : Int} : Cop w k .In (.int i) (.list (il ns)) (.bool (ns.any (· == i))) := fun A s va vb cx ra rb Q E h => by
  simp only [Rep] at ra rb
  obtain ⟨t, rfl⟩ := ra
  obtain ⟨a, vs, n, rfl, e, rs⟩ := rb
  exact in_list_ints ⟨_, e, rfl, _, rfl⟩ (Reps.toInts rs) (h _ _ (.refl ..) (by simp only [Rep]))
theorem eq_b {a b : Bool} : Cop w k .Eq (.bool a) (.bool b) (.bool (a == b)) := fun A s va vb cx ra rb Q E h => by
  simp only [Rep] at ra rb
  subst ra rb
  exact eq_bool (h _ _ (.refl ..) (by simp only [Rep]))
theorem eq_y {a b : Array UInt8} : Cop w k .Eq (.bytes a) (.bytes b) (.bool (a.toList == b.toList)) := fun A s va vb cx ra rb Q E h => by
  simp only [Rep] at ra rb
  obtain ⟨t, rfl⟩ := ra; obtain ⟨u, rfl⟩ := rb
  exact PySem.W.eq_bytes (h _ _ (.refl ..) (by simp only [Rep]))
theorem ne_y {a b : Array UInt8} : Cop w k .NotEq (.bytes a) (.bytes b) (.bool (a.toList != b.toList)) := fun A s va vb cx ra rb Q E h => by
  simp only [Rep] at ra rb
  obtain ⟨t, rfl⟩ := ra; obtain ⟨u, rfl⟩ := rb
  exact PySem.W.ne_bytes (h _ _ (.refl ..) (by simp only [Rep]))
theorem isnot_t {X Y : String} : Cop w k .IsNot (.type X) (.type Y) (.bool (!(Value.type X == Value.type Y))) := fun A s va vb cx ra rb Q E h => by
  simp only [Rep] at ra rb; subst ra rb
  exact isnot_type (h _ _ (.refl ..) (by simp only [Rep]))
theorem is_t {X Y : String} : Cop w k .Is (.type X) (.type Y) (.bool (Value.type X == Value.type Y)) := fun A s va vb cx ra rb Q E h => by
  simp only [Rep] at ra rb; subst ra rb
  exact wpAny_pure (a := Value.bool (Value.type X == Value.type Y)) (h _ _ (.refl ..) (by simp only [Rep]))
theorem is_none_b {b : Bool} : Cop w k .Is (.bool b) .none (.bool false) := fun A s va vb cx ra rb Q E h => by
  simp only [Rep] at ra rb; subst ra rb
  exact is_none_ne (by intro q; cases q) (h _ _ (.refl ..) (by simp only [Rep]))
theorem isnot_none_n : Cop w k .IsNot .none .none (.bool false) := fun A s va vb cx ra rb Q E h => by
  simp only [Rep] at ra rb; subst ra rb
  exact isnot_none_none (h _ _ (.refl ..) (by simp only [Rep]))

theorem add_l (hl : ns.length + ms.length ≤ sizeLine) : Bop w k .Add (.list (il ns)) (.list (il ms)) (.list (il (ns ++ ms))) := fun A s va vb cx ra rb Q E h => by
  simp only [Rep] at ra rb
  obtain ⟨a, vs, n, rfl, e, rs⟩ := ra
  obtain ⟨b, us, n', rfl, e', rs'⟩ := rb
  have hi := Reps.toInts rs
  have hj := Reps.toInts rs'
  refine concat_meets ⟨_, e, rfl⟩ ⟨_, e', rfl⟩ noFill_list_add seq_list_add PySem.F.slot_list_add PySem.F.entry_list_add (PySem.F.args_list_add_2 _ _) (list_addW a b vs.toArray us.toArray n n' none none #[] #[] (by simp [hi.length, hj.length]; exact hl)) ⟨e, e', h _ _ (Kp.of_ext (tk := s.toks) fun b o e => Heap.get?_push_of_some _ e) ?_⟩
  simp only [Rep]
  refine ⟨_, vs ++ us, 0, rfl, ?_, Reps.of_ints (hi.append hj)⟩
  rw [Heap.get?_push_size _ rfl]
  simp [lobj]

theorem type_bi {p : PV} {T : String} (hT : PT p T) (hn : (Value.type T == Value.type "builtin_function_or_method") = false) : Bi w k (.type "type") [p] (.type T) := fun A s vs cx rs Q E h => by
  simp only [Reps] at rs
  obtain ⟨v, t, rfl, r, rfl⟩ := rs
  exact call_type_of (hT s v r).1 hn (h _ _ (.refl ..) (by simp only [Rep]))
theorem bytes_bi (hr : ∀ n ∈ ns, 0 ≤ n ∧ n < 256) (hl : ns.length ≤ sizeLine) : Bi w k (.type "bytes") [.list (il ns)] (.bytes (byteArr ns)) := fun A s vs cx rs Q E h => by
  simp only [Reps, Rep] at rs
  obtain ⟨v, t, rfl, ⟨a, us, n, rfl, e, r⟩, rfl⟩ := rs
  have hi := Reps.toInts r
  exact call_bytes_ints ⟨_, e, rfl, _, rfl⟩ hi hr (by rw [hi.length]; exact hl) cx.ok.hand fun h' t k hk => h _ _ (.of_ext hk) (by simp only [Rep]; exact ⟨_, rfl⟩)
end
end Mine

end

/-! part Fn1 -/
section
open PySem PySem.W PySem.Calls PyProof.Rows
set_option linter.unusedVariables false
set_option maxRecDepth 100000
namespace Mine

def letters : Str := Str.ofString "ABCDEFGHIJKLMNOPQRSTUVWXYZabcdefghijklmnopqrstuvwxyz0123456789+/"
theorem letters_fn {w : World} : Fn w 1 72 [] (.str letters) := by
  refine Fn_enter (names := []) rfl rfl rfl rfl rfl rfl rfl rfl rfl ?_ rfl (by decide) rfl (by decide) ?_
  · intro vs h
    match vs, h with
    | [], _ => rfl
  · intro L
    exact Ret_return Ev_str

def marksOf (ns : List Int) (n : Nat) : List Int := (List.range n).map fun (i : Nat) => (ns.count (i : Int) : Int)

theorem il_map {α : Type} (f : α → Int) (l : List α) : il (l.map f) = l.map fun a => PV.int (f a) := by simp [il]

theorem marks_fn {w : World} {ns : List Int} {n : Nat} (hn : n < 1000) : Fn w 1 77 [.list (il ns), .int n] (.list (il (marksOf ns n))) := by
  refine Fn_enter (names := [Str.ofString "points", Str.ofString "size"]) rfl rfl rfl rfl rfl rfl rfl rfl rfl ?_ rfl (by decide) rfl (by decide) ?_
  · intro vs h
    match vs, h with
    | [a, b], _ => rfl
  · intro L
    refine Ret_return ?_
    rw [marksOf, il_map]
    refine Cm.ev (Cm_comp (ts := List.range n) (g := fun (i : Nat) => PV.int i) (cl := [(Str.ofString "points", L + 1)]) ⟨rfl, rfl, by decide, by decide, rfl⟩ rfl ?_ ?_ ?_ ?_)
    · exact (ItX_range1 (n := (n : Int)) (Ev_name rfl) (by omega) (by omega) rfl).it
    · intro t ht C
      exact Ev_meth F.plainAttrs_list F.slot_list_count F.type_list_count (Ev_name rfl) PT_list (Evs_cons (Ev_name rfl) Evs_nil) count_bi
    · intro t; rfl
    · rw [List.length_range]; show n ≤ 2 ^ 24; omega
end Mine

end

/-! part Fn2 -/
section
open PySem PySem.W PySem.Calls PyProof.Rows
set_option linter.unusedVariables false
set_option maxRecDepth 100000
namespace Mine

def sumsOf (a b : List Int) : List Int := a.flatMap fun x => b.map fun y => x + y
theorem il_flatMap {α β : Type} (f : α → β → Int) (l : List α) (u : α → List β) : il (l.flatMap fun a => (u a).map (f a)) = l.flatMap fun a => (u a).map fun b => PV.int (f a b) := by
  simp only [il, List.map_flatMap, List.map_map]; rfl

theorem sums_fn {w : World} {a b : List Int} (h : (sumsOf a b).length < 64) : Fn w 1 89 [.list (il a), .list (il b)] (.list (il (srt (sumsOf a b)))) := by
  refine Fn_enter (names := [Str.ofString "first", Str.ofString "second"]) rfl rfl rfl rfl rfl rfl rfl rfl rfl ?_ rfl (by decide) rfl (by decide) ?_
  · intro vs h
    match vs, h with
    | [a, b], _ => rfl
  · intro L
    refine Ret_return ?_
    refine Ev_bi (id := "sorted") rfl rfl rfl (Evs_cons ?_ Evs_nil) (sorted_bi h)
    rw [sumsOf, il_flatMap]
    refine Cm.ev (Cm_comp2 (ts := a) (g := PV.int) (us := fun _ => b) (g1 := fun _ => PV.int) (cl := [(Str.ofString "second", L + 1)]) ⟨rfl, rfl, by decide, by decide, rfl⟩ rfl rfl (by decide) ?_ ?_ ?_ ?_ ?_)
    · exact (ItX_name rfl).it
    · intro t ht C
      exact (ItX_name rfl).d
    · intro t ht u hu C
      exact Ev_bin (Ev_name rfl) (Ev_name rfl) add_i
    · intro t u; rfl
    · have : ((a.flatMap fun x => b.map fun y => PV.int (x + y))).length = (sumsOf a b).length := by rw [sumsOf, ← il_flatMap]; simp [il]
      rw [this]; show _ ≤ 2 ^ 24; omega

def distsOf (ps : List Int) : List Int := (List.range ps.length).flatMap fun b => (List.range b).map fun a => ps.getD b 0 - ps.getD a 0
theorem il_get {ps : List Int} {i : Nat} (h : i < ps.length) : (il ps)[((i : Nat) : Int).toNat]? = some (.int (ps.getD i 0)) := by
  simp [il, h]
end Mine

end

/-! part Fn3 -/
section
open PySem PySem.W PySem.Calls PyProof.Rows
set_option linter.unusedVariables false
set_option maxRecDepth 100000
namespace Mine

theorem intsAre_fun : ∀ {vs : List Value} {a b : List Int}, IntsAre vs a → IntsAre vs b → a = b
  | _, _, _, .nil, .nil => rfl
  | _, _, _, .cons n t r, .cons _ _ q => by rw [intsAre_fun r q]
theorem intsAre_self : ∀ ns : List Int, IntsAre (ns.map fun n => Value.int n 0) ns
  | [] => .nil
  | n :: r => .cons n 0 (intsAre_self r)
theorem pick_upto {ns : List Int} {y : Int} (h0 : 0 ≤ y) (h2 : y ≤ ns.length) : pickNums ns none (some y) none = ns.take y.toNat :=
  intsAre_fun ((intsAre_self ns).pick none (some y) none) (slice_ints_upto (intsAre_self ns) h0 h2)
theorem pick_from {ns : List Int} {x : Int} (h0 : 0 ≤ x) (h2 : x ≤ ns.length) : pickNums ns (some x) none none = ns.drop x.toNat :=
  intsAre_fun ((intsAre_self ns).pick (some x) none none) (slice_ints_from (intsAre_self ns) h0 h2)

def movedOf (ps : List Int) (far : Int) : List Int :=
  ps.take (far % ps.length).toNat ++ ps.drop ((far % ps.length).toNat + 1) ++ [far / ps.length % 10]
theorem moved_fn {w : World} {ps : List Int} {far : Int} (h0 : 0 < ps.length) (h1 : ps.length < 60) : Fn w 1 121 [.list (il ps), .int far] (.list (il (srt (movedOf ps far)))) := by
  refine Fn_enter (names := [Str.ofString "points", Str.ofString "far"]) rfl rfl rfl rfl rfl rfl rfl rfl rfl ?_ rfl (by decide) rfl (by decide) ?_
  · intro vs h
    match vs, h with
    | [a, b], _ => rfl
  · intro L
    have hm0 : 0 ≤ far % (ps.length : Int) := Int.emod_nonneg _ (by omega)
    have hm1 : far % (ps.length : Int) < ps.length := Int.emod_lt_of_pos _ (by omega)
    refine Ret_cons (Nx1_assign (p := .int (far % (ps.length : Int))) (Ev_bin (Ev_name rfl) (Ev_bi (id := "len") rfl rfl rfl (Evs_cons (Ev_name rfl) Evs_nil) (len_il (by omega))) (mod_i (by omega))) rfl) ?_
    refine Ret_return (Ev_bi (id := "sorted") rfl rfl rfl (Evs_cons ?_ Evs_nil) (sorted_bi (by simp [movedOf]; omega)))
    rw [movedOf]
    have e1 : (ps.drop ((far % (ps.length : Int)).toNat + 1)) = pickNums ps (some (far % (ps.length : Int) + 1)) none none := by
      rw [pick_from (by omega) (by omega)]
      congr 1; omega
    rw [← pick_upto hm0 (by omega), e1]
    have hl : ∀ lo hi st, (pickNums ps lo hi st).length ≤ ps.length := fun lo hi st => length_pickNums_le (intsAre_self ps) lo hi st
    have hl1 := hl none (some (far % (ps.length : Int))) none
    have hl2 := hl (some (far % (ps.length : Int) + 1)) none none
    have hsz : (60 : Nat) + 60 + 60 ≤ sizeLine := by decide
    refine Ev_bin (Ev_bin (Ev_slice (ops := fun o i => [i, o]) (Ev_name rfl) Part.none (Part.some (Ev_name rfl)) Part.none (by decide) (by omega) (fun o i => rfl)) (Ev_slice (ops := fun o i => [i, o]) (Ev_name rfl) (Part.some (Ev_bin (Ev_name rfl) Ev_int add_i)) Part.none Part.none (by decide) (by omega) (fun o i => rfl)) (add_l (by omega)))
      (Ev_list (Evs_cons (Ev_bin (Ev_bin (Ev_name rfl) (Ev_bi (id := "len") rfl rfl rfl (Evs_cons (Ev_name rfl) Evs_nil) (len_il (by omega))) (div_i (by omega) (by omega))) Ev_int (mod_i (by decide))) Evs_nil)) (add_l (ms := [far / (ps.length : Int) % 10]) (by rw [List.length_append]; simp; omega))
end Mine

end

/-! part Bi4 -/
section
open PySem PySem.W PySem.Calls PyProof.Rows
set_option linter.unusedVariables false
set_option maxRecDepth 100000
namespace Mine

section
variable {w : World} {k : Nat} {env : Env} {m : Mp}
theorem Ev_sliceB {value : Expr} {l u : Option Expr} {lo hi : Option Int} {b : Array UInt8} {pos p : Pos} (hv : Ev w k env m value (.bytes b)) (hl : Part w k env m l lo) (hu : Part w k env m u hi) (hlen : b.size ≤ sizeLine) :
    Ev w k env m (.Subscript value (.Slice l u none p) pos) (.bytes (KBy.picked b lo hi)) := fun A h₀ s g Q E h => by
  refine Subscript_ (hv A h₀ s g _ _ fun v s₁ k₁ rv => ?_)
  have g₁ := g.kp k₁
  rw [eval_Slice]
  refine wpAny_bind (hl.go g₁ fun lv s₂ k₂ pl => wpAny_bind (wpAny_holding (hu.go (g₁.kp k₂) fun uv s₃ k₃ pu => wpAny_bind (wpAny_holding (wpAny_pure (wpAny_newObj_type ?_))))))
  have k13 := k₂.trans k₃
  simp only [Rep] at rv
  obtain ⟨t, rfl⟩ := rv
  refine tail_any (ops := [.ref s₃.heap.objs.size, .bytes b t]) (typeIs_bytes _ _ _) FB.slot_bytes_getitem.lookup (getItem_meets (typeIs_bytes _ _ _) (by decide) FB.slot_bytes_getitem FB.entry_bytes_getitem (FB.args_bytes_getitem_2 _ _) (KBc.meets_slice2 b t _ pl pu)
    ⟨Heap.IsSliceOf.new _ _ _ _, Nat.le_trans (KBc.size_picked_le b lo hi) hlen, fun t' k' => h _ _ ?_ ?_⟩) rfl
  · exact (k₁.trans k13).trans (.of_ext fun b o e => Heap.get?_push_of_some _ e)
  · simp only [Rep]; exact ⟨_, rfl⟩
end

section
variable {w : World} {k : Nat}
/-- texts -/
abbrev sl (ys : List Str) : List PV := ys.map PV.str
theorem Reps.toStrs {h : Heap} : ∀ {ys : List Str} {vs : List Value}, Reps h (sl ys) vs → StrsAre vs ys
  | [], vs, r => by simp only [List.map_nil, Reps] at r; subst r; exact .nil
  | n :: ns, vs, r => by
    simp only [List.map_cons, Reps, Rep] at r
    obtain ⟨v, t, rfl, ⟨u, rfl⟩, r⟩ := r
    exact .cons n u (Reps.toStrs r)
theorem join_bi {x : Str} {ys : List Str} (hok : (ys.map (·.length)).sum + ys.length * x.length ≤ 16777216) : Bi w k (.builtin "str.join") [.str x, .list (sl ys)] (.str (Txt.join x ys)) := fun A s vs cx rs Q E h => by
  simp only [Reps, Rep] at rs
  obtain ⟨v, t, rfl, ⟨u, rfl⟩, v', t', rfl, ⟨a, us, n, rfl, e, r⟩, rfl⟩ := rs
  exact join_list ⟨_, e, rfl, _, rfl⟩ (Reps.toStrs r) hok fun t' k' => h _ _ .of_toks (by simp only [Rep]; exact ⟨_, rfl⟩)
end
end Mine

end

/-! part Bi5 -/
section
open PySem PySem.W PySem.Calls PyProof.Rows
set_option linter.unusedVariables false
set_option maxRecDepth 100000
namespace Mine
section
variable {w : World} {A : Around} {E : Value → Shared → Prop} {s : Shared}
theorem bytes_len_lookup : typeLookup (.type "bytes") "__len__" = pure (some (.builtin "bytes.__len__")) := FB.slot_bytes_len.lookup
theorem extend_bytes {R : Result → Shared → Prop} (hh : A.handled = none) (b : Array UInt8) (t : Tok) (S : Addr) (c₀ : Nat) (hS : s.heap.get? S = some { cls := .type "list", data := .seq #[] c₀ })
    (hR : ∀ h' tk acc' c', (∀ b o, b ≠ S → s.heap.get? b = some o → h'.get? b = some o) → h'.get? S = some { cls := .type "list", dict := none, data := .seq acc' c', slots := #[] } →
      ItemsOf (fun i v => ∃ c u, b[i]? = some c ∧ v = .int (c.toNat : Int) u) acc' b.size → R (.ok (.ret .none)) { s with heap := h', toks := tk }) (hn : b.size ≤ sizeLine) :
    wpAny (Md w) A.in1 (Builtin.List.listExtendWith (.ref S) (.bytes b t) .none)
      (fun fin s' => match fin with | .done f => R (.ok f) s' | .again c' => c'.quiet = true ∧ codeAny (Md w) A c' R s') (fun e s' => R (.error e) s') s := by
  have hSI : S ≠ s.heap.objs.size := Nat.ne_of_lt (Heap.lt_size hS)
  have hSf : S ∉ [s.heap.objs.size] := fun hm => hSI (List.mem_singleton.mp hm)
  unfold Builtin.List.listExtendWith
  refine wpAny_bind (wpAny_typeOf (typeIs_bytes _ _ _) ?_)
  have h1 : Builtin.List.listSameRef (.ref S) (.bytes b t) = false := rfl
  have h2 : (Value.type "bytes" == Value.type "list") = false := by decide
  have h3 : (Value.type "bytes" == Value.type "tuple") = false := by decide
  simp only [h1, h2, h3, Bool.or_false, Bool.false_eq_true, if_false]
  refine wpAny_bind (KBw.pyIter_bytes ?_)
  refine wpAny_bind (wpAny_holding ?_)
  unfold Builtin.List.listLengthHint
  refine wpAny_bind (wpAny_specialOf (typeIs_bytes _ _ _) bytes_len_lookup ?_)
  wp_delta
  refine wpAny_bind (wpAny_isInstance (T := "bytes") (b := true) (typeIs_bytes _ _ _) (by rw [isSubtype_type]; kernel_rfl) ?_)
  show wpAny _ _ (typeOf (Value.bytes b t) >>= _) _ _ _
  refine wpAny_bind (wpAny_typeOf (typeIs_bytes _ _ _) ?_)
  refine wpAny_pure ?_
  rw [if_neg (by decide)]
  have W := (KBw.walks (prog := Pw) (w := w) (A := A.in1) hh s.heap.objs.size b t).toS
  refine wpAny_pure ⟨plainId_quiet F.plain_extend_loop _, codeAny_extend_loopS W hn _ hSf _ b.size 0 _ _ _ rfl (Nat.zero_le _) ⟨_, Heap.get?_push_size _ rfl, rfl, rfl⟩ (Heap.get?_push_of_some _ hS) (ItemsOf.nil _) fun s' acc' c' hm hS' hacc => ?_⟩
  rw [Moved.eq_with hm]
  refine hR s'.heap s'.toks acc' c' (fun b ob hb e => hm.heap b ob (fun hmem => ?_) (Heap.get?_push_of_some _ e)) hS' hacc
  rcases List.mem_cons.mp hmem with e' | hmem
  · exact hb e'
  · exact absurd (Heap.lt_size e) (by rw [List.mem_singleton.mp hmem]; exact Nat.lt_irrefl _)

theorem list_init_bytes {R : Result → Shared → Prop} (hh : A.handled = none) (b : Array UInt8) (t : Tok) (S : Addr) (hS : s.heap.get? S = some { cls := .type "list", data := .seq #[] })
    (hR : ∀ h' tk acc' c', (∀ b o, b ≠ S → s.heap.get? b = some o → h'.get? b = some o) → h'.get? S = some { cls := .type "list", dict := none, data := .seq acc' c', slots := #[] } →
      ItemsOf (fun i v => ∃ c u, b[i]? = some c ∧ v = .int (c.toNat : Int) u) acc' b.size → R (.ok (.ret .none)) { s with heap := h', toks := tk }) (hn : b.size ≤ sizeLine) :
    wpAny (Md w) A.in1 (Builtin.«list.__init__» ⟨[.ref S, .bytes b t], []⟩)
      (fun fin s' => match fin with | .done f => R (.ok f) s' | .again c' => c'.quiet = true ∧ codeAny (Md w) A c' R s') (fun e s' => R (.error e) s') s := by
  show wpAny _ _ (do let old ← Builtin.List.listItems (.ref S); Builtin.List.listUpdate (.ref S) (fun _ => #[]); letGo old.toList.reverse; Builtin.List.listExtendWith (.ref S) (.bytes b t) .none) _ _ s
  refine wpAny_bind ?_
  unfold Builtin.List.listItems
  refine wpAny_bind (wpAny_seqItems hS rfl (wpAny_pure ?_))
  show wpAny _ _ (updateSeq S (fun _ => #[]) >>= fun _ => letGo (#[] : Array Value).toList.reverse >>= fun _ => Builtin.List.listExtendWith (.ref S) (.bytes b t) .none) _ _ s
  refine wpAny_bind (wpAny_updateSeq hS rfl ?_)
  have hS₂ := Heap.get?_update_self (Obj.mapSeq (fun _ => (#[] : Array Value))) hS rfl
  have oth : ∀ b o, b ≠ S → s.heap.get? b = some o → (s.heap.update S (Obj.mapSeq (fun _ => (#[] : Array Value)))).get? b = some o :=
    fun b o hb e => (Heap.get?_update_other _ _ (Ne.symm hb)).trans e
  refine wpAny_bind (wpAny_letGo ?_)
  refine extend_bytes hh b t S _ hS₂ (fun h' tk acc' c' hk hS' hacc => ?_) hn
  exact hR h' tk acc' c' (fun b o hb e => hk b o hb (oth b o hb e)) hS' hacc
end

section
variable {w : World} {k : Nat}
theorem list_bytes_bi {b : Array UInt8} (hn : b.size ≤ sizeLine) : Bi w k (.type "list") [.bytes b] (.list (bInt b)) := fun A s vs cx rs Q E h => by
  simp only [Reps, Rep] at rs
  obtain ⟨v, t, rfl, ⟨u, rfl⟩, rfl⟩ := rs
  refine callType_codes (Q₁ := fun obj s₁ => obj = .ref s.heap.objs.size ∧ s₁ = { s with heap := s.heap.push { cls := .type "list", data := .seq #[] } }) F.called_list (F.typeCall_list_1 _) F.entry_list_init
    (code_list_new _ ⟨rfl, rfl⟩) fun obj s₁ h₁ => ?_
  obtain ⟨rfl, rfl⟩ := h₁
  have hS : (s.heap.push { cls := .type "list", data := .seq #[] }).get? s.heap.objs.size = some { cls := .type "list", data := .seq #[] } := Heap.get?_push_size _ rfl
  refine ⟨⟨_, hS, rfl⟩, F.args_list_init_2 _ _, list_init_bytes (A := A.in1) cx.ok.hand b _ _ hS (fun h' tk acc' c' hk hS' hacc => ?_) hn⟩
  refine ⟨rfl, h _ _ (.of_ext fun b o e => hk b o (Nat.ne_of_lt (Heap.lt_size e)) (Heap.get?_push_of_some _ e)) ?_⟩
  simp only [Rep]
  refine ⟨_, acc'.toList, c', rfl, hS', ?_⟩
  obtain ⟨h1, h2⟩ := hacc
  have gen : ∀ (l : List UInt8) (vs : List Value), vs.length = l.length → (∀ j v, vs[j]? = some v → ∃ (c : UInt8) (u : Tok), l[j]? = some c ∧ v = Value.int (c.toNat : Int) u) → Reps h' (l.map fun c => PV.int (c.toNat : Int)) vs := fun l => by
    induction l with
    | nil => intro vs hl _; have : vs = [] := List.length_eq_zero_iff.mp hl; subst this; exact Reps.nil
    | cons c l ih =>
      intro vs hl hv
      cases vs with
      | nil => simp at hl
      | cons v vs =>
        obtain ⟨c', u, e1, e2⟩ := hv 0 v rfl
        have e1' : some c = some c' := e1
        cases e1'
        refine Reps.cons (by simp only [Rep]; exact ⟨u, e2⟩) (ih vs (by simpa using hl) fun j x hx => ?_)
        obtain ⟨c', u, e1, e2⟩ := hv (j + 1) x (by simpa using hx)
        exact ⟨c', u, by simpa using e1, e2⟩
  refine gen b.toList acc'.toList (by simp [h1]) fun j v hj => ?_
  obtain ⟨c, u, e1, e2⟩ := h2 j v (by simpa using hj)
  exact ⟨c, u, by simpa using e1, e2⟩
end
end Mine

end

/-! part Bi6 -/
section
open PySem PySem.W PySem.Calls PyProof.Rows
set_option linter.unusedVariables false
set_option maxRecDepth 100000
namespace Mine
theorem pb {α β : Type} (a : α) (f : α → Sem β) : (pure a >>= f : Sem β) = f a := rfl
open Builtin._codecs in
/-- its loop -/
theorem narrow_tree (id : String) (self : Value) (x : Str) : ∃ (body : Nat → Nat × Array UInt8 × Faults → Sem (ForInStep (Nat × Array UInt8 × Faults))) (post : Nat × Array UInt8 × Faults → Sem (Array UInt8)),
    encodeNarrow id asciiCodec none self x = (forIn [0 : x.length] (0, #[], {}) body >>= post) ∧
    (∀ j st c, x.cps[0]? = some c → asciiCodec.bad c = false → x.cps.findIdx? asciiCodec.bad = none → body j (0, #[], st) = pure (.yield (x.cps.size, x.cps.foldl (fun acc y => acc ++ (asciiCodec.bytesOf y).toArray) #[], st))) ∧
    (∀ j i out st, ¬ out.size > sizeLine → x.cps[i]? = none → body j (i, out, st) = pure (.done (i, out, st))) ∧ ∀ i out st, post (i, out, st) = pure out := by
  unfold encodeNarrow
  refine ⟨_, _, rfl, fun j st c h1 h2 h3 => ?_, fun j i out st h1 h2 => ?_, fun i out st => ?_⟩
  · have e0 : x.cps.extract 0 = x.cps := by simp
    have n0 : ¬ ((#[] : Array UInt8).size > sizeLine) := by decide
    simp only [n0, if_false, h1, h2, Bool.not_false, if_true, e0, h3, Option.getD_none, Nat.zero_add]
  · simp only [h1, if_false, h2]
  · rfl
open Builtin._codecs in
theorem narrow_ascii {id : String} {self : Value} {x : Str} (h20 : x.cps.size = 20) (hb : ∀ c ∈ x.cps, c < 128) :
    encodeNarrow id asciiCodec none self x = pure (x.cps.map (·.toUInt8)) := by
  obtain ⟨c0, hc0⟩ : ∃ c, x.cps[0]? = some c := ⟨x.cps[0]'(by omega), by simp [h20]⟩
  have hbad : ∀ c ∈ x.cps, asciiCodec.bad c = false := fun c hc => by
    have := hb c hc
    simp [asciiCodec]; omega
  have e1 : x.cps.findIdx? asciiCodec.bad = none := by
    rw [Array.findIdx?_eq_none_iff]
    exact fun c hc => hbad c hc
  have e2 : x.cps.foldl (fun acc y => acc ++ (asciiCodec.bytesOf y).toArray) #[] = x.cps.map (·.toUInt8) := by
    have gen : ∀ (l : List Nat) (a : Array UInt8), l.foldl (fun acc y => acc ++ (asciiCodec.bytesOf y).toArray) a = a ++ (l.map (·.toUInt8)).toArray := fun l => by
      induction l with
      | nil => intro a; simp
      | cons c l ih => intro a; rw [List.foldl_cons, ih]; simp [asciiCodec, List.map_cons]
    rw [← Array.foldl_toList, gen]
    apply Array.toList_inj.mp
    simp
  have n1 : ¬ ((x.cps.map (·.toUInt8)).size > sizeLine) := by rw [Array.size_map, h20]; decide
  obtain ⟨body, post, t0, t1, t2, t3⟩ := narrow_tree id self x
  rw [t0, Std.Legacy.Range.forIn_eq_forIn_range', show x.length = 20 from h20]
  rw [show List.range' 0 [:20].size = 0 :: 1 :: List.range' 2 18 from rfl, List.forIn_cons, t1 0 {} c0 hc0 (hbad _ (Array.mem_of_getElem? hc0)) e1, e2, pb]
  show (forIn (1 :: List.range' 2 18) _ body >>= post) = _
  rw [List.forIn_cons, t2 _ _ _ _ n1 (by simp [h20]), pb]
  exact t3 ..
section
variable {w : World} {k : Nat}
open Builtin._codecs in
theorem encode_tree2 (x : Str) (t u : Tok) : Builtin.«str.encode» ⟨[.str x t, .str (Str.ofString "ascii") u], []⟩ = (do ret (← encodeRoad "str.encode" (.str x t) x (Str.ofString "ascii") none)) := by kernel_rfl
open Builtin._codecs in
theorem encode_bi {x : Str} (h20 : x.cps.size = 20) (hb : ∀ c ∈ x.cps, c < 128) : Bi w k (.builtin "str.encode") [.str x, .str (Str.ofString "ascii")] (.bytes (x.cps.map (·.toUInt8))) := fun A s vs cx rs Q E h => by
  simp only [Reps, Rep] at rs
  obtain ⟨v, t, rfl, ⟨u, rfl⟩, v', t', rfl, ⟨u', rfl⟩, rfl⟩ := rs
  refine call_gives (m := .bytes (x.cps.map (·.toUInt8))) F.slot_str_encode (typeIs_str _ _ _) F.entry_str_encode (F.args_str_encode_2 _ _) (.of_wp fun M A E s Q hq => ?_) ?_
  · rw [encode_tree2]
    have : encodeRoad "str.encode" (.str x u) x (Str.ofString "ascii") none = (do mkBytes (← encodeNarrow "str.encode" asciiCodec none (.str x u) x)) := by rfl
    rw [this, narrow_ascii h20 hb]
    exact wpAny_bind (wpAny_bind (wpAny_pure (wpAny_mkBytes (wpAny_pure ⟨_, rfl, hq.2⟩) hq.1)))
  · refine ⟨by rw [Array.size_map, h20]; decide, h _ _ .of_toks ?_⟩
    simp only [Rep]; exact ⟨_, rfl⟩
end
end Mine

end

/-! part Res -/
section
open PySem PySem.W PySem.Calls PyProof.Rows
set_option linter.unusedVariables false
set_option maxRecDepth 100000
namespace Mine

/-- an object that is being changed -/
inductive Rs where
  | list (ys : List PV)
  | ba (b : Array UInt8)
  | own
abbrev bobj (b : Array UInt8) : Obj := { cls := .type "bytearray", data := .bytearray b 0 }
def Rs.At (h : Heap) (a : Addr) : Rs → Prop
  | .list ys => (∀ y ∈ ys, y.flat = true) ∧ ∃ vs n, h.get? a = some (lobj vs n) ∧ Reps h ys vs
  | .ba b => h.get? a = some (bobj b)
  | .own => ∃ x y, IsPair h a x y
abbrev Led := List (Addr × Rs)
abbrev adr (o : Led) : List Addr := o.map (·.1)
theorem Rs.At.same {h h' : Heap} {a : Addr} {r : Rs} (x : r.At h a) (k : ∀ o, h.get? a = some o → h'.get? a = some o) : r.At h' a := by
  cases r with
  | list ys => obtain ⟨f, vs, n, e, rs⟩ := x; exact ⟨f, vs, n, k _ e, rs.flat f⟩
  | ba b => exact k _ x
  | own => obtain ⟨p, q, e⟩ := x; exact ⟨p, q, k _ e⟩
theorem Rs.At.there {h : Heap} {a : Addr} {r : Rs} (x : r.At h a) : ∃ o, h.get? a = some o ∧ (∀ es ep, o.data ≠ .dict es ep) ∧ (∀ v, o.data ≠ .cell v) ∧ ∀ vs, o.data ≠ .fields vs := by
  cases r with
  | list ys => obtain ⟨f, vs, n, e, rs⟩ := x; exact ⟨_, e, by simp, by simp, by simp⟩
  | ba b => exact ⟨_, x, by simp, by simp, by simp⟩
  | own => obtain ⟨p, q, e⟩ := x; exact ⟨_, e, by simp, by simp, by simp⟩

structure Sr (w : World) (k : Nat) (A : Around) (env : Env) (h₀ : Heap) (s : Shared) (m : Mp) (o : Led) : Prop where
  gd : Gd w k A env h₀ (hideAll s.heap (adr o)) m
  at_ : ∀ p ∈ o, p.2.At s.heap p.1
  nd : (adr o).Nodup

structure Kx (A : Around) (env : Env) (X : List Addr) (s s' : Shared) : Prop where
  same : ∃ h tk, s' = { s with heap := h, toks := tk }
  up : ∀ b o, s.heap.get? b = some o → b ∉ frs A → b ≠ env.locals → (∀ x, (x, b) ∉ env.cells) → b ∉ X → s'.heap.get? b = some o
  fr : ∀ b o, s.heap.get? b = some o → b ≠ env.locals → (∀ x, (x, b) ∉ env.cells) → b ∉ X → ∃ sl, s'.heap.get? b = some { o with slots := sl }
theorem Ks.kx {A : Around} {env : Env} {X : List Addr} {s s' : Shared} (x : Ks A env s s') : Kx A env X s s' := ⟨x.same, fun b o e n l c _ => x.up b o e n l c, fun b o e l c _ => x.fr b o e l c⟩
theorem Kx.refl (A : Around) (env : Env) (X : List Addr) (s : Shared) : Kx A env X s s := (Ks.refl A env s).kx
theorem Kx.trans {A : Around} {env : Env} {X : List Addr} {a b c : Shared} (x : Kx A env X a b) (y : Kx A env X b c) : Kx A env X a c := by
  refine ⟨?_, fun p o e n l q z => y.up p o (x.up p o e n l q z) n l q z, fun p o e l q z => ?_⟩
  · obtain ⟨h1, t1, rfl⟩ := x.same
    obtain ⟨h2, t2, rfl⟩ := y.same
    exact ⟨h2, t2, rfl⟩
  · obtain ⟨s1, e1⟩ := x.fr p o e l q z
    obtain ⟨s2, e2⟩ := y.fr p _ e1 l q z
    exact ⟨s2, e2⟩
theorem Kx.mono {A : Around} {env : Env} {X Y : List Addr} {s s' : Shared} (x : Kx A env X s s') (h : ∀ q ∈ X, q ∈ Y) : Kx A env Y s s' :=
  ⟨x.same, fun p o e n l q z => x.up p o e n l q fun z' => z (h _ z'), fun p o e l q z => x.fr p o e l q fun z' => z (h _ z')⟩
theorem Kp.kx {A : Around} {env : Env} {X : List Addr} {s s' : Shared} (x : Kp A s s') : Kx A env X s s' := x.ks.kx
theorem Kx.of_sameBut {A : Around} {env : Env} {X : List Addr} {s : Shared} {h : Heap} {tk : Nat} {a : Addr} (x : Heap.SameBut a s.heap h) (ha : a ∈ X) : Kx A env X s { s with heap := h, toks := tk } :=
  ⟨⟨_, _, rfl⟩, fun b o e _ _ _ l => (x.2 b fun q => l (q ▸ ha)).trans e, fun b o e _ _ l => ⟨o.slots, (x.2 b fun q => l (q ▸ ha)).trans e⟩⟩

section
variable {w : World} {k : Nat} {env : Env} {m : Mp} {A : Around} {h₀ : Heap} {s s' : Shared} {o : Led} {x : Str} {p : PV} {v : Value}
theorem Sr.gdx (c : Sr w k A env h₀ s m o) : Gd w k A env h₀ s.heap m := c.gd.ext (ext_hideAll _ _)
theorem hideAll_kp {X : List Addr} (q : Kp A s s') : Kp A { s with heap := hideAll s.heap X } { s' with heap := hideAll s'.heap X } := by
  refine ⟨?_, fun b o e n => ?_, fun b o e => ?_⟩
  · obtain ⟨h1, t1, rfl⟩ := q.same
    exact ⟨_, _, rfl⟩
  · exact hideAll_get _ (q.up b o (of_hideAll _ e) n) (hideAll_nm e)
  · obtain ⟨sl, e'⟩ := q.fr b o (of_hideAll _ e)
    exact ⟨sl, hideAll_get _ e' (hideAll_nm e)⟩
theorem Sr.off (c : Sr w k A env h₀ s m o) {a : Addr} (ha : a ∈ adr o) : a ∉ frs A := fun hb => by
  obtain ⟨outer, hA, hf⟩ := c.gd.base.frames
  obtain ⟨_, ob, es, ep, e, _⟩ := frame_dict hA hf hb
  exact hideAll_nm e ha
theorem Sr.kp (c : Sr w k A env h₀ s m o) (q : Kp A s s') : Sr w k A env h₀ s' m o := by
  refine ⟨Gd.kp (s := { s with heap := hideAll s.heap (adr o) }) (s' := { s' with heap := hideAll s'.heap (adr o) }) c.gd (hideAll_kp q), fun p hp => (c.at_ p hp).same fun ob e => q.up _ _ e (c.off (List.mem_map_of_mem hp)), c.nd⟩
theorem Sr.drop (c : Sr w k A env h₀ s ((x, p) :: m) o) (hx : m.lookup x = none) : Sr w k A env h₀ s m o := { c with gd := c.gd.drop hx }

theorem Sr.store {Q : Unit → Shared → Prop} {E : Value → Shared → Prop} (c : Sr w k A env h₀ s m o) (r : Rep (hideAll s.heap (adr o)) p v) (hx : env.kindOf x = some .local)
    (h : ∀ s', Kx A env (adr o) s s' → Sr w k A env h₀ s' ((x, p) :: m) o → Q () s') : wpAny (Md w) A (storeName env x v) Q E s := by
  obtain ⟨mv, n, rd⟩ := c.gd.mem
  have hCD : env.locals ∉ adr o := by obtain ⟨o, es, ep, e, _⟩ := n; exact hideAll_nm e
  have n1 : s.heap.Ns env.locals mv := n.keeps (ext_hideAll _ _)
  refine wpAny_storeName_local hx n1 (fun h' n' sb => ?_) (by rw [c.gd.kind]; rfl)
  refine h _ ⟨⟨_, _, rfl⟩, fun b o e _ l _ _ => (sb.2 b l).trans e, fun b o e l _ _ => ⟨o.slots, (sb.2 b l).trans e⟩⟩ ⟨?_, fun p hp => (c.at_ p hp).same fun ob e => (sb.2 _ fun q => hCD (q ▸ List.mem_map_of_mem hp)).trans e, c.nd⟩
  refine c.gd.afterL r hx n ?_ fun b hb => ?_
  · obtain ⟨ob, es, ep, e1, r1⟩ := n'
    exact ⟨ob, es, ep, hideAll_get _ e1 hCD, r1⟩
  · by_cases hbD : b ∈ adr o
    · rw [hideAll_none _ hbD, hideAll_none _ hbD]
    · cases e : s.heap.get? b with
      | some ob => rw [hideAll_get _ e hbD, hideAll_get _ ((sb.2 b hb).trans e) hbD]
      | none =>
        have e1 : (hideAll s.heap (adr o)).get? b = none := by
          cases q : (hideAll s.heap (adr o)).get? b with
          | none => rfl
          | some ob => rw [of_hideAll _ q] at e; cases e
        have e2 : (hideAll h' (adr o)).get? b = none := by
          cases q : (hideAll h' (adr o)).get? b with
          | none => rfl
          | some ob => have := of_hideAll _ q; rw [sb.2 b hb, e] at this; cases this
        rw [e1, e2]

/-- one of the objects is changed -/
theorem Sr.set {pre post : Led} {a : Addr} {r r' : Rs} {h' : Heap} {tk : Nat} (c : Sr w k A env h₀ s m (pre ++ (a, r) :: post)) (sb : Heap.SameBut a s.heap h') (hr : r'.At h' a) :
    Sr w k A env h₀ { s with heap := h', toks := tk } m (pre ++ (a, r') :: post) ∧ Kx A env (adr (pre ++ (a, r) :: post)) s { s with heap := h', toks := tk } := by
  have ea : adr (pre ++ (a, r') :: post) = adr (pre ++ (a, r) :: post) := by simp [adr]
  have ha : a ∈ adr (pre ++ (a, r) :: post) := by simp [adr]
  have nd := c.nd
  refine ⟨⟨?_, fun p hp => ?_, by rw [ea]; exact nd⟩, .of_sameBut sb ha⟩
  · rw [ea]
    refine c.gd.ext fun b ob e => ?_
    have := hideAll_nm e
    exact hideAll_get _ ((sb.2 b fun q => this (q ▸ ha)).trans (of_hideAll _ e)) this
  · rw [adr, List.map_append, List.map_cons, List.nodup_append] at nd
    obtain ⟨n1, n2, n3⟩ := nd
    have n4 := List.nodup_cons.mp n2
    rcases List.mem_append.mp hp with q | q
    · exact (c.at_ p (List.mem_append_left _ q)).same fun ob e => (sb.2 _ (n3 _ (List.mem_map_of_mem q) _ (by simp))).trans e
    · rcases List.mem_cons.mp q with rfl | q
      · exact hr
      · exact (c.at_ p (List.mem_append_right _ (List.mem_cons_of_mem _ q))).same fun ob e => (sb.2 _ fun z => n4.1 (List.mem_map.mpr ⟨p, q, z⟩)).trans e

/-- done with changing: it is a plain value -/
theorem Sr.open {a : Addr} {ys : List PV} (c : Sr w k A env h₀ s m o) (hm : (a, Rs.list ys) ∈ o) (hx : m.lookup x = some (.ref a)) : Gd w k A env h₀ s.heap ((x, .list ys) :: m) := by
  have g := c.gdx
  obtain ⟨mv, n, rd⟩ := g.mem
  refine { g with mem := ⟨mv, n, fun y py e => ?_⟩ }
  rw [List.lookup_cons] at e
  cases hyx : y == x with
  | true =>
    rw [hyx] at e; cases e
    have := beq_iff_eq.mp hyx
    subst this
    obtain ⟨v, r1, r2⟩ := rd y _ hx
    obtain ⟨f, vs, nn, e1, rs⟩ := c.at_ _ hm
    simp only [Rep] at r1
    subst r1
    refine ⟨_, ?_, r2⟩
    simp only [Rep]
    exact ⟨a, vs, nn, rfl, e1, rs⟩
  | false => rw [hyx] at e; exact rd y py e
end

/-- statements that change objects -/
def Nr1 (w : World) (k : Nat) (env : Env) (m : Mp) (o : Led) (st : Stmt) (m' : Mp) (o' : Led) : Prop :=
  adr o' = adr o ∧ ∀ A h₀ s, Sr w k A env h₀ s m o → ∀ (Q : Flow → Shared → Prop) (E : Value → Shared → Prop), (∀ s', Kx A env (adr o) s s' → Sr w k A env h₀ s' m' o' → Q .next s') → wpAny (Md w) A (exec st env) Q E s
def Nr (w : World) (k : Nat) (env : Env) (m : Mp) (o : Led) (st : List Stmt) (m' : Mp) (o' : Led) : Prop :=
  adr o' = adr o ∧ ∀ A h₀ s, Sr w k A env h₀ s m o → ∀ (Q : Flow → Shared → Prop) (E : Value → Shared → Prop), (∀ s', Kx A env (adr o) s s' → Sr w k A env h₀ s' m' o' → Q .next s') → wpAny (Md w) A (execs st env) Q E s

section
variable {w : World} {k : Nat} {env : Env} {m m' m'' : Mp} {o o' o'' : Led}
theorem Nr_nil : Nr w k env m o [] m o := ⟨rfl, fun A h₀ s c Q E hQ => wpAny_execs_nil (hQ s (.refl ..) c)⟩
theorem Nr_cons {st : Stmt} {rest : List Stmt} (h : Nr1 w k env m o st m' o') (hr : Nr w k env m' o' rest m'' o'') : Nr w k env m o (st :: rest) m'' o'' :=
  ⟨hr.1.trans h.1, fun A h₀ s c Q E hQ => wpAny_execs_cons (h.2 A h₀ s c _ _ fun s' q c' => hr.2 A h₀ s' c' _ _ fun s'' q' c'' => hQ s'' (q.trans (by rw [← h.1]; exact q')) c'')⟩
theorem Nr.drop {st : List Stmt} {x : Str} {p : PV} (h : Nr w k env m o st ((x, p) :: m') o') (hx : m'.lookup x = none) : Nr w k env m o st m' o' :=
  ⟨h.1, fun A h₀ s c Q E hQ => h.2 A h₀ s c _ _ fun s' q c' => hQ s' q (c'.drop hx)⟩
theorem Nr1_assign {x : Str} {e : Expr} {p : PV} {px pos : Pos} (h : Ev w k env m e p) (hp : p.flat = true) (hx : env.kindOf x = some .local) (hs : swapsWith e (some (.Name x px)) pos.line env = pure false := by rfl) :
    Nr1 w k env m o (.Assign [.Name x px] e pos) ((x, p) :: m) o :=
  ⟨rfl, fun A h₀ s c Q E hQ => wpAny_Assign_Name (h A h₀ s c.gdx _ _ fun v s₁ k₁ r => (c.kp k₁).store (r.flat hp) hx fun s₂ q c₂ => hQ s₂ (k₁.kx.trans q) c₂) hs⟩
theorem Nr1_if {t : Expr} {b e : List Stmt} {pos : Pos} {c : Bool} (h : Ts w k env m t c) (ht : c = true → Nr w k env m o b m' o') (hf : c = false → Nr w k env m o e m' o') (ha : adr o' = adr o) : Nr1 w k env m o (.If t b e pos) m' o' :=
  ⟨ha, fun A h₀ s cs Q E hQ => wpAny_If (h A h₀ s _ _ cs.gdx fun s₁ q => by
    cases c with
    | true => simp only [if_true]; exact (ht rfl).2 A h₀ s₁ (cs.kp q) _ _ fun s₂ q₂ c₂ => hQ s₂ (q.kx.trans q₂) c₂
    | false => simp only [Bool.false_eq_true, if_false]; exact (hf rfl).2 A h₀ s₁ (cs.kp q) _ _ fun s₂ q₂ c₂ => hQ s₂ (q.kx.trans q₂) c₂)⟩

/-- a for over values, a name as its target -/
theorem Nr1_for {α : Type} {ts : List α} {g : α → PV} {x : Str} {px pos : Pos} {iter : Expr} {body : List Stmt} (oo : Nat → Led) (mm : Nat → Mp) (hit : ItX w k env (mm 0) iter (ts.map g)) (hx : env.kindOf x = some .local)
    (hb : ∀ i t, ts[i]? = some t → Nr w k env ((x, g t) :: mm i) (oo i) body (mm (i + 1)) (oo (i + 1)))
    (hs : ∀ x, foldedSetIterable iter env x = pure x := by intro _; rfl) :
    Nr1 w k env (mm 0) (oo 0) (.For (.Name x px) iter body [] pos) (mm ts.length) (oo ts.length) := by
  have ha : ∀ i, i ≤ ts.length → adr (oo i) = adr (oo 0) := fun i => by
    induction i with
    | zero => intro _; rfl
    | succ i ih =>
      intro hi
      have := (hb i ts[i] (List.getElem?_eq_getElem (by omega))).1
      rw [this]; exact ih (by omega)
  refine ⟨ha _ (Nat.le_refl _), fun A h₀ s c Q E hQ => wpAny_For ?_ hs⟩
  refine hit A h₀ s (adr (oo 0)) c.gd _ _ fun I s₂ fp wr P St kp new hoff hval it => ?_
  have c₂ := c.kp kp
  have hlen : (ts.map g).length = ts.length := by simp
  have noff : ∀ b ∈ adr (oo 0), b ∉ fp := fun b hb' => by
    obtain ⟨p, hp, rfl⟩ := List.mem_map.mp hb'
    obtain ⟨ob, e, _⟩ := (c.at_ p hp).there
    exact hoff _ (List.mem_map_of_mem hp) ob e
  obtain ⟨Iv, mk, un⟩ : ∃ Iv : Nat → Shared → Prop, (∀ n s', (∃ i, i ≤ ts.length ∧ n = ts.length + 1 - i ∧ Sr w k A env h₀ s' (mm i) (oo i) ∧ St i s'.heap ∧ ExtQ (hideAll s₂.heap (adr (oo 0))) (hideAll s'.heap (adr (oo 0))) ∧ Kx A env (adr (oo 0) ++ wr) s₂ s') → Iv n s') ∧ ∀ n s', Iv n s' → ∃ i, i ≤ ts.length ∧ n = ts.length + 1 - i ∧ Sr w k A env h₀ s' (mm i) (oo i) ∧ St i s'.heap ∧ ExtQ (hideAll s₂.heap (adr (oo 0))) (hideAll s'.heap (adr (oo 0))) ∧ Kx A env (adr (oo 0) ++ wr) s₂ s' := ⟨fun n s' => ∃ i, i ≤ ts.length ∧ n = ts.length + 1 - i ∧ Sr w k A env h₀ s' (mm i) (oo i) ∧ St i s'.heap ∧ ExtQ (hideAll s₂.heap (adr (oo 0))) (hideAll s'.heap (adr (oo 0))) ∧ Kx A env (adr (oo 0) ++ wr) s₂ s', fun _ _ h => h, fun _ _ h => h⟩
  refine codeAny_forLoop Iv (fun n s' h => ?_) (ts.length + 1) (mk _ _ ⟨0, Nat.zero_le _, rfl, c₂, it.st, fun a o e _ => e, .refl ..⟩)
  obtain ⟨i, hi, rfl, cs, st, q, kx⟩ := un _ _ h
  have hai := ha i hi
  have g' := cs.gd
  rw [hai] at g'
  have step : ∀ (h' : Heap) (tk : Nat), (∀ b o, b ∉ wr → s'.heap.get? b = some o → h'.get? b = some o) → Sr w k A env h₀ { s' with heap := h', toks := tk } (mm i) (oo i) ∧ ExtQ (hideAll s'.heap (adr (oo 0))) (hideAll h' (adr (oo 0))) ∧ Kx A env (adr (oo 0) ++ wr) s' { s' with heap := h', toks := tk } := fun h' tk hk => by
    have hdat : ∀ b ∈ wr, ∀ ob, s'.heap.get? b = some ob → ∃ vs, ob.data = .fields vs := it.fld i _ st
    refine ⟨⟨?_, fun p hp => (cs.at_ p hp).same fun ob e => hk _ _ (fun hw => ?_) e, cs.nd⟩, fun a ob e d => ?_, ⟨⟨_, _, rfl⟩, fun b o e _ _ _ l => hk b o (fun hb' => l (List.mem_append_right _ hb')) e, fun b o e _ _ l => ⟨o.slots, hk b o (fun hb' => l (List.mem_append_right _ hb')) e⟩⟩⟩
    · refine cs.gd.but (X := wr) (fun b ob hb' e => hideAll_get _ (hk b ob hb' (of_hideAll _ e)) (hideAll_nm e)) fun b hb' => ⟨it.new b hb', fun ob e => hdat b hb' ob (of_hideAll _ e)⟩
    · obtain ⟨vs, f⟩ := hdat _ hw _ e
      obtain ⟨ob', e', _, _, nf⟩ := (cs.at_ p hp).there
      rw [e] at e'; cases e'
      exact nf vs f
    · refine hideAll_get _ (hk a ob (fun hw => ?_) (of_hideAll _ e)) (hideAll_nm e)
      obtain ⟨vs, f⟩ := hdat _ hw _ (of_hideAll _ e)
      obtain ⟨_, _, d⟩ := d
      rw [d] at f; cases f
  by_cases hlt : i < ts.length
  · refine it.W.item i _ _ _ (by rw [hlen]; exact hlt) st fun v h' tk hP st' hk => ?_
    obtain ⟨y, hy, ry⟩ := hval i v hP
    have hti : ts[i]? = some ts[i] := List.getElem?_eq_getElem hlt
    rw [List.getElem?_map, hti] at hy
    have hy' : g ts[i] = y := Option.some.inj hy
    subst hy'
    obtain ⟨c1, q1, k1⟩ := step h' tk hk
    have rv : Rep (hideAll h' (adr (oo i))) (g ts[i]) v := by rw [hai]; exact Rep.mono (q.trans q1) _ _ ry
    refine wpAny_assign_Name (c1.store rv hx fun s2 k2 c2 => ?_)
    refine (hb i ts[i] hti).2 A h₀ s2 c2 _ _ fun s3 k3 c3 => ?_
    have k23 : Kx A env (adr (oo 0)) { s' with heap := h', toks := tk } s3 := by
      have := k2.trans k3
      rwa [hai] at this
    have g1 := c1.gd
    rw [hai] at g1
    obtain ⟨outer, hA, hf⟩ := g1.base.frames
    obtain ⟨mv, ⟨oC, es, ep, eC, dC, _⟩, _⟩ := g1.mem
    refine ⟨ts.length + 1 - (i + 1), by omega, mk _ _ ⟨i + 1, hlt, rfl, c3, it.W.frame _ _ _ st' fun b hb' o eb => ?_, q.trans (q1.trans fun a ob e d => ?_), kx.trans (k1.trans (k23.mono fun z hz => List.mem_append_left _ hz))⟩⟩
    · have nd := it.nod (i + 1) _ st' b hb' o eb
      refine k23.up b o eb (fun hb2 => ?_) (fun hb2 => ?_) (fun z hb2 => ?_) fun hb2 => noff b hb2 hb'
      · obtain ⟨_, o', es', ep', e', d'⟩ := frame_dict hA hf hb2
        have := of_hideAll _ e'
        rw [show ({ s' with heap := h', toks := tk } : Shared).heap.get? b = _ from eb] at this; cases this
        exact nd _ _ d'
      · have := of_hideAll _ eC
        rw [← hb2, show ({ s' with heap := h', toks := tk } : Shared).heap.get? b = _ from eb] at this; cases this
        exact nd _ _ dC
      · obtain ⟨_, _, vv, oc, ec, dc⟩ := c.gd.base.noC z b hb2
        have hlt2 : b < s.heap.objs.size := Heap.lt_size (of_hideAll _ ec)
        obtain ⟨_, _, vv2, oc2, ec2, dc2⟩ := g1.base.noC z b hb2
        have := of_hideAll _ ec2
        rw [show ({ s' with heap := h', toks := tk } : Shared).heap.get? b = _ from eb] at this; cases this
        exact it.nocell (i + 1) _ st' b hb' _ eb _ dc2
    · have hnm := hideAll_nm e
      refine hideAll_get _ (k23.up a ob (of_hideAll _ e) (fun hb2 => ?_) (fun hb2 => ?_) (fun z hb2 => ?_) hnm) hnm
      · obtain ⟨_, o', es', ep', e', d'⟩ := frame_dict hA hf hb2
        rw [show (hideAll h' (adr (oo 0))).get? a = _ from e] at e'; cases e'
        obtain ⟨_, _, d⟩ := d
        rw [d] at d'; cases d'
      · rw [← hb2, show (hideAll h' (adr (oo 0))).get? a = _ from e] at eC; cases eC
        obtain ⟨_, _, d⟩ := d
        rw [d] at dC; cases dC
      · obtain ⟨_, _, vv2, oc2, ec2, dc2⟩ := g1.base.noC z a hb2
        rw [show (hideAll h' (adr (oo 0))).get? a = _ from e] at ec2; cases ec2
        obtain ⟨_, _, d⟩ := d
        rw [d] at dc2; cases dc2
  · have hin : i = ts.length := by omega
    subst hin
    refine it.W.done _ _ _ (by rw [hlen]; exact st) fun h' tk hk => ?_
    obtain ⟨c1, q1, k1⟩ := step h' tk hk
    refine wpAny_execs_nil (hQ _ ?_ c1)
    have kk := kx.trans k1
    refine ⟨?_, fun b o e n l z y => kk.up b o (kp.up b o e n) n l z fun hb' => ?_, fun b o e l z y => ?_⟩
    · obtain ⟨h1, t1, rfl⟩ := kp.same
      obtain ⟨h2, t2, e2⟩ := kk.same
      rw [e2]
      exact ⟨h2, t2, rfl⟩
    · rcases List.mem_append.mp hb' with q | q
      · exact y q
      · rw [new b q] at e; cases e
    · obtain ⟨sl, e1⟩ := kp.fr b o e
      obtain ⟨sl2, e2⟩ := kk.fr b _ e1 l z fun hb' => by
        rcases List.mem_append.mp hb' with q | q
        · exact y q
        · rw [new b q] at e; cases e
      exact ⟨sl2, e2⟩
end
end Mine

end

/-! part RulesC -/
section
open PySem PySem.W PySem.Calls PyProof.Rows
set_option linter.unusedVariables false
set_option maxRecDepth 100000
namespace Mine

/-- the judgements over clean contexts -/
def TrC (w : World) (A : Around) (t : Sem Value) (p : PV) (s : Shared) : Prop :=
  ∀ (Q : Value → Shared → Prop) (E : Value → Shared → Prop), (∀ v s', Kp A s s' → Rep s'.heap p v → Q v s') → wpC (Md w) A t Q E s
def EvC (w : World) (k : Nat) (env : Env) (m : Mp) (e : Expr) (p : PV) : Prop := ∀ A h₀ s, Gd w k A env h₀ s.heap m → TrC w A (eval e env) p s
def FnC (w : World) (k : Nat) (f : Addr) (ps : List PV) (r : PV) : Prop := ∀ A s vs, Cx w k A s.heap → Reps s.heap ps vs → TrC w A (call (.ref f) vs) r s
def RetC (w : World) (k : Nat) (env : Env) (m : Mp) (st : List Stmt) (r : PV) : Prop :=
  ∀ A h₀ s, Gd w k A env h₀ s.heap m → ∀ (Q : Flow → Shared → Prop) (E : Value → Shared → Prop), (∀ v s', Ks A env s s' → Rep s'.heap r v → Q (.ret v) s') → wpC (Md w) A (execs st env) Q E s

section
variable {w : World} {k : Nat} {env : Env} {m m' : Mp}
theorem Ev.c {e : Expr} {p : PV} (h : Ev w k env m e p) : EvC w k env m e p := fun A h₀ s g Q E hQ => .any (h A h₀ s g Q E hQ)
theorem Ret.c {st : List Stmt} {r : PV} (h : Ret w k env m st r) : RetC w k env m st r := fun A h₀ s g Q E hQ => .any (h A h₀ s g Q E hQ)
theorem FnC.le {j : Nat} {f : Addr} {ps : List PV} {r : PV} (x : FnC w j f ps r) (h : j ≤ k) : FnC w k f ps r := fun A s vs g => x A s vs (g.le h)

theorem wpC_execs_cons {A : Around} {s : Shared} {E : Value → Shared → Prop} {st : Stmt} {rest : List Stmt} {Q : Flow → Shared → Prop}
    (h : wpC (Md w) A (exec st env) (fun f s' => match f with | .next => wpC (Md w) A (execs rest env) Q E s' | f => Q f s') E s) : wpC (Md w) A (execs (st :: rest) env) Q E s := by
  rw [execs_cons]
  refine wpC_bind (wpC_mono h (fun f s' h' => ?_) fun _ _ e => e)
  cases f <;> first | exact h' | exact wpC_pure h'

theorem callWith_functionC {A : Around} {s : Shared} {E : Value → Shared → Prop} {pos : Pos} {a : Addr} {o : Obj} {fd : FuncData} {args : List (Bool × Sem Value)} {Q : Value → Shared → Prop} (hplain : args.any (·.1) = false)
    (h : wpAny (Md w) A (evalArgs (.ref a) true args []) (fun x s₁ => (s₁.heap.get? a = some o ∧ o.data = .func fd) ∧ wpC (Md w) A (call (.ref a) x.pos x.kw) Q E s₁) E s) :
    wpC (Md w) A (callWith pos (.ref a) [] args []) Q E s := by
  unfold callWith
  refine wpC_bind (wpC_holding (wpC_mono (.any h) (fun x s₁ h₁ => wpC_step (wpAny_standAt ?_)) fun _ _ x => x))
  have tail : ∀ {t : Sem Value}, wpC (Md w) A t Q E s₁ → wpC (Md w) A (t >>= fun r => holding [r] point >>= fun _ => pure r) Q E s₁ :=
    fun ht => wpC_bind (wpC_mono ht (fun r s₂ hr => wpC_step (wpAny_holding (wpAny_point (wpC_pure hr)))) fun _ _ x => x)
  simp only [hplain, List.any_nil, Bool.or_false]
  refine wpC_step (m := keeperOf (.ref a)) ?_
  unfold keeperOf
  refine wpAny_bind (wpAny_load h₁.1.1 ?_)
  rw [h₁.1.2]
  refine wpAny_pure ?_
  split
  all_goals (try split)
  all_goals first
    | exact tail h₁.2
    | (refine tail ?_; unfold callMarked; intro Γ p g; rw [Sem.wp_keep]; exact h₁.2 Γ p g)

theorem EvC_fn {x : Str} {p pos : Pos} {es : List Expr} {ps : List PV} {f : Addr} {r : PV} {fd : FuncData} {oc : Value} {od : Option Addr} {osl : Array (Option Value)} (hx : nsIn (K w) mainGlobals x = some (some (.ref f))) (hk : env.kindOf x = some .globalImplicit)
    (ho : (K w).lookup f = some ⟨oc, od, .func fd, osl⟩)
    (he : Evs w k env m es ps) (hf : FnC w k f ps r) (hst : (starEach es env).all (fun x => !x.1) = true := by rfl) (hd : (x == ("__debug__" : Str)) = false := by decide) : EvC w k env m (.Call (.Name x p) es [] pos) r :=
  fun A h₀ s g Q E h => by
    rw [arm_eval_Call_Name']
    refine wpC_step (g.global hx hk (callWith_functionC (o := ⟨oc, od, .func fd, osl⟩) (fd := fd) (any_backTo hst) (he.args g (fun vs s₁ k₁ rs => ?_) hst)) hd)
    have g₁ := g.kp k₁
    exact ⟨⟨g₁.cx.gl.k _ _ ho, rfl⟩, hf A s₁ vs g₁.cx rs _ _ fun v s₂ k₂ r => h v s₂ (k₁.trans k₂) r⟩

theorem wpC_Assign_Name {A : Around} {s : Shared} {E : Value → Shared → Prop} {x : Str} {pos' : Pos} {value : Expr} {pos : Pos} {Q : Flow → Shared → Prop}
    (h : wpC (Md w) A (eval value env) (fun v s₁ => wpAny (Md w) A (storeName env x v) (fun _ => Q .next) E s₁) E s)
    (hs : swapsWith value (some (.Name x pos')) pos.line env = pure false := by rfl) :
    wpC (Md w) A (exec (.Assign [.Name x pos'] value pos) env) Q E s := fun Γ p g => by
  simp only [exec_Assign_Name env x pos' value pos hs, Sem.wp_bind', Sem.wp_cmd_standAt, Sem.wp_bindName, Sem.wp_pure']
  exact Sem.wp_mono _ Γ _ (fun v _ s₁ h₁ => h₁ Γ _ g.1) (fun _ _ _ h' => h') _ _ (h Γ _ g)

theorem RetC_cons {st : Stmt} {rest : List Stmt} {r : PV} (h : Nx1 w k env m st m') (hr : RetC w k env m' rest r) : RetC w k env m (st :: rest) r :=
  fun A h₀ s g Q E hQ => wpC_execs_cons (.any (h A h₀ s g _ _ fun s' q g' => hr A h₀ s' g' _ _ fun v s'' q' rv => hQ v s'' (q.trans q') rv))
theorem RetC_assign {x : Str} {e : Expr} {p : PV} {px pos : Pos} {rest : List Stmt} {r : PV} (h : EvC w k env m e p) (hx : env.kindOf x = some .local) (hr : RetC w k env ((x, p) :: m) rest r) (hs : swapsWith e (some (.Name x px)) pos.line env = pure false) :
    RetC w k env m (.Assign [.Name x px] e pos :: rest) r :=
  fun A h₀ s g Q E hQ => wpC_execs_cons (wpC_Assign_Name (h A h₀ s g _ _ fun v s₁ k₁ rv => (g.kp k₁).storeL rv hx fun s₂ q g₂ _ => hr A h₀ s₂ g₂ _ _ fun v s₃ q₃ r₃ => hQ v s₃ ((k₁.ks.trans q).trans q₃) r₃) hs)
theorem RetC_assignC {x : Str} {e : Expr} {p : PV} {px pos : Pos} {rest : List Stmt} {r : PV} {c : Addr} (h : EvC w k env m e p) (hx : env.kindOf x = some .cell) (hc : env.cells.lookup x = some c) (hr : RetC w k env ((x, p) :: m) rest r) (hs : swapsWith e (some (.Name x px)) pos.line env = pure false) :
    RetC w k env m (.Assign [.Name x px] e pos :: rest) r :=
  fun A h₀ s g Q E hQ => wpC_execs_cons (wpC_Assign_Name (h A h₀ s g _ _ fun v s₁ k₁ rv => (g.kp k₁).storeC rv hx hc fun s₂ q g₂ _ => hr A h₀ s₂ g₂ _ _ fun v s₃ q₃ r₃ => hQ v s₃ ((k₁.ks.trans q).trans q₃) r₃) hs)
theorem RetC_return {e : Expr} {pos : Pos} {rest : List Stmt} {r : PV} (h : EvC w k env m e r) : RetC w k env m (.Return (some e) pos :: rest) r :=
  fun A h₀ s g Q E hQ => wpC_execs_cons (by
    rw [exec_Return_some]
    exact wpC_step (wpAny_standAt (wpC_bind (h A h₀ s g _ _ fun v s' q rv => wpC_pure (hQ v s' q.ks rv)))))
end

section
variable {prog : Program} {w : World} {A : Around} {R : Result → Shared → Prop} {s : Shared}
theorem codeC_func {body : List Stmt} {env : Env}
    (h : wpC (model prog w) (A.deeper env) (execs body env) (fun f s' => R (.ok (.ret (match f with | .ret v => v | _ => .none))) s')
      (fun e s' => wpAny (model prog w) (A.deeper env) (leaving env e) (fun _ s'' => R (.error e) s'') (fun e' s'' => R (.error e') s'') s') s) :
    codeC (model prog w) A (.func body env) R s := by
  refine codeC_of_tree rfl ?_
  show wpC _ (A.deeper env) (do point; match ← (execs body env).onRaise (leaving env) with | .ret v => ret v | _ => ret .none) _ _ s
  refine wpC_step (wpAny_point (wpC_bind (wpC_onRaise (wpC_mono h (fun f s' h' => ?_) fun _ _ h' => .any h'))))
  cases f <;> exact wpC_pure h'
theorem codeC_call_function {a : Addr} {args : Args} {o : Obj} {fd : FuncData} {body : List Stmt} (hroom : A.depth < recursionLimit)
    (ho : s.heap.get? a = some o)
    (hd' : o.data = .func fd) (hco : fd.scope.isCoroutine = false) (hgen : fd.scope.isGenerator = false) (hbody : fd.body = .stmts body) (hcd : s.heap.CodeRec fd.code fd.qualname)
    (h : wpAny (model prog w) A.in1 (bindArgs fd args) (fun binds s₁ =>
      wpAny (model prog w) A.in1 (newFunctionEnv fd.scope fd.globals fd.closure binds (fd.qualname ++ ".<locals>.") (some a) fd.code none fd.builtins)
        (fun env s₂ => s₂.heap.NoLimit ∧ codeC (model prog w) A (.func body env) R s₂) (fun e s' => R (.error e) s') s₁) (fun e s' => R (.error e) s') s) :
    codeC (model prog w) A (.call (.ref a) args) R s := by
  refine codeC_of_tree rfl (.any ?_)
  show wpAny _ A.in1 (callAny (.ref a) args) _ _ s
  simp only [callAny]
  refine wpAny_bind (wpAny_load ho ?_)
  obtain ⟨c, oc, vs, tq, hc, hoc, hdc, hq⟩ := hcd
  simp only [hd', callFunction, hco, hgen, hbody, hc]
  rw [hc] at h
  refine wpAny_bind (m := field (.ref c) 1) (wpAny_field hoc hdc hq (wpAny_bind (wpAny_pure ?_)))
  exact wpAny_bind (wpAny_mono h (fun binds s₁ h₁ => wpAny_bind (wpAny_mono h₁ (fun env s₂ h₂ => wpAny_bind (wpAny_enterFrame h₂.1 hroom
    (wpAny_pure (And.intro rfl h₂.2)))) fun _ _ h' => h')) fun _ _ h' => h')
end

theorem FnC_enter {w : World} {k : Nat} {f : Addr} {fd : FuncData} {body : List Stmt} {oc : Value} {od : Option Addr} {osl : Array (Option Value)} {names : List Str} {ps : List PV} {r : PV}
    (ho : (K w).lookup f = some ⟨oc, od, .func fd, osl⟩) (hbody : fd.body = .stmts body) (hcode : codeIn (K w) fd.code fd.qualname = true) (hclo : fd.closure = []) (hgl : fd.globals = mainGlobals) (hbt : fd.builtins = builtinsNs)
    (hkind : fd.scope.kind = .function) (hco : fd.scope.isCoroutine = false) (hgen : fd.scope.isGenerator = false)
    (hbind : ∀ vs, vs.length = names.length → bindArgs fd ⟨vs, []⟩ = pure (names.zip vs)) (hlen : names.length = ps.length) (hnd : names.Nodup)
    (hks : (names.all fun y => fd.scope.names.lookup y == some .local || fd.scope.names.lookup y == some .cell) = true)
    (hcn : ((cellsFrom 0 fd.scope.names []).map (·.1)).Nodup)
    (h : ∀ L, RetC w k (enter fd L f) (names.zip ps) body r) : FnC w (k + 1) f ps r := by
  intro A s vs cx rs Q E hQ
  have G := cx.gl
  have hvl : vs.length = names.length := by rw [rs.length, hlen]
  refine wpC_call (codeC_call_function (by have := cx.ok.deep; omega) (G.k _ _ ho) rfl hco hgen hbody (codeRec_of G.k hcode) ?_)
  rw [hbind vs hvl]
  refine wpAny_pure ?_
  rw [hclo, hgl, hbt]
  refine enter_core hkind hlen hnd hks hcn cx rs fun s₁ h₀ g keep back => ⟨G.nolimit.keeps keep, codeC_func ?_⟩
  exact h s.heap.objs.size _ h₀ s₁ g _ _ fun v s' q rv => hQ v s' (back s' q) rv

end Mine

end

/-! part Ba -/
section
open PySem PySem.W PySem.Calls PyProof.Rows
set_option linter.unusedVariables false
set_option maxRecDepth 100000
namespace Mine

theorem owner_bytearray : Manifest.owners.lookup (String.ofList ['y', 'a', 'r', 'r', 'a', 'e', 't', 'y', 'b'].reverse) = some Manifest.sig_bytearray := by kernel_rfl
theorem slot_ba_init : Slot "bytearray" "__init__" "bytearray.__init__" :=
  .of (owner := "bytearray") (n := "__init__") (by rw [typeLookup_type, builtinLookup_eq_fast]; kernel_rfl) (by decide +kernel) (by decide +kernel) (by decide +kernel)
    (by first | exact .inl (by decide +kernel) | exact .inr (by decide +kernel)) (by rw [isSubtype_type]; kernel_rfl)
theorem entry_ba_init : entryFor table "bytearray.__init__" = some Builtin.«bytearray.__init__» := entryFor_of_tree (by kernel_rfl)
theorem args_ba_init (a b : Value) : argsOk "bytearray.__init__" ⟨[a, b], []⟩ := by
  unfold argsOk; rw [signature?_of (id := "bytearray.__init__") (n := ['_', '_', 't', 'i', 'n', 'i', '_', '_']) (o := ['y', 'a', 'r', 'r', 'a', 'e', 't', 'y', 'b']) (by kernel_rfl) owner_bytearray]; kernel_rfl
theorem entry_ba_new : entryFor table "bytearray.__new__" = some Builtin.«list.__new__» :=
  entryFor_alias (id' := "list.__new__") (by kernel_rfl) (by first | rfl | decide +kernel | (unfold String.splitOn; simp +decide [String.splitOnAux])) (by decide +kernel) (by kernel_rfl)
theorem mro_ba : mroOf (.type "bytearray") = pure [.type "bytearray", .type "object"] := by rw [mroOf_type]; kernel_rfl
theorem lookup_ba_new : typeLookup (.type "bytearray") "__new__" = pure (some (.builtin "bytearray.__new__")) := by rw [typeLookup_type, builtinLookup_eq_fast]; kernel_rfl
theorem called_ba : TypeCalled "bytearray" "bytearray.__new__" "bytearray.__init__" :=
  ⟨by decide +kernel, by decide +kernel, ⟨_, _, mro_ba⟩, madeBy_type mro_ba lookup_ba_new (by decide +kernel), by decide +kernel, by rw [isSubtype_type]; kernel_rfl, slot_ba_init⟩
theorem typeCall_ba (a : Value) : checkTypeCall "bytearray" ⟨[a], []⟩ = pure () := by kernel_rfl
theorem newCall_ba (a : Value) : checkBuiltinCall "bytearray.__new__" ⟨[.type "bytearray", a], []⟩ = pure () := by kernel_rfl
theorem plain_ba_new : plainId "bytearray.__new__" = true := by decide +kernel
set_option maxRecDepth 1000000 in
set_option maxHeartbeats 4000000 in
theorem owner_ba_new : ("bytearray.__new__".splitOn ".__new__").headD "" = "bytearray" := by simp +decide [String.splitOn, String.splitOnAux]
theorem sub_ba : isSubtype (.type "bytearray") (.type "bytearray") = pure true := by rw [isSubtype_type]; kernel_rfl

section
variable {w : World} {A : Around} {E : Value → Shared → Prop} {s : Shared}
theorem code_ba_new (a : Value) {Q₁ : Value → Shared → Prop} (h : Q₁ (.ref s.heap.objs.size) { s with heap := s.heap.push (bobj #[]) }) :
    codeAny (Md w) A (.call (.builtin "bytearray.__new__") ⟨[.type "bytearray", a], []⟩) (wants Q₁ E) s := by
  refine codeAny_of_tree ?_
  show wpAny _ A.in1 (do checkBuiltinCall "bytearray.__new__" ⟨[.type "bytearray", a], []⟩; again (.builtin "bytearray.__new__" ⟨[.type "bytearray", a], []⟩)) _ _ s
  refine wpAny_bind (wpAny_of_eq (newCall_ba a) (wpAny_pure ⟨plainId_quiet plain_ba_new _, codeAny_builtin_stack entry_ba_new rfl fun p st => ?_⟩))
  rw [Around.under_plainId plain_ba_new _]
  have hsub := sub_ba
  have hown := owner_ba_new
  obtain ⟨hp, g, d, tk, os⟩ := s
  simp only [hown]
  wp_walk
  exact h
end
end Mine

end

/-! part Ba2 -/
section
open PySem PySem.W PySem.Calls PyProof.Rows
set_option linter.unusedVariables false
set_option maxRecDepth 100000
namespace Mine
section
variable {w : World} {A : Around} {E : Value → Shared → Prop} {s : Shared}
theorem lookup_ba_release : typeLookup (.type "bytearray") "__release_buffer__" = pure (some (.builtin "bytearray.__release_buffer__")) := by rw [typeLookup_type, builtinLookup_eq_fast]; kernel_rfl
theorem lookup_int_index : typeLookup (.type "int") "__index__" = pure (some (.builtin "int.__index__")) := by rw [typeLookup_type, builtinLookup_eq_fast]; kernel_rfl

theorem ba_write {S : Addr} {b : Array UInt8} {f : Array UInt8 → Array UInt8} {Q : Unit → Shared → Prop} (hS : s.heap.get? S = some (bobj b)) (hz : (f b).size ≤ sizeLine)
    (h : ∀ h', h'.get? S = some (bobj (f b)) → Heap.SameBut S s.heap h' → Q () { s with heap := h' }) : wpAny (Md w) A (Builtin.Bytes.write (.ref S) f) Q E s := by
  show wpAny _ _ (updateBytearray S f) _ _ _
  unfold updateBytearray
  refine wpAny_bind (wpAny_load hS ?_)
  refine wpAny_bind (wpAny_update hS ?_)
  have e : (s.heap.update S (Obj.mapBytearray f)).get? S = some (bobj (f b)) := by
    rw [Heap.get?_update_self _ hS rfl]; rfl
  refine wpAny_lookBehind e ?_ (h _ e (Heap.SameBut.update ..))
  show (if (f b).size > sizeLine then _ else _) = none
  rw [if_neg (Nat.not_lt.mpr hz)]

/-- the steps of its tree -/
theorem ba_tree {S : Addr} {n : Nat} {u : Tok} : ∃ (k1 : Bool → Sem Fin) (k2 : Bool → Sem Fin) (k3 : Unit → Sem Fin) (k6 : Option Str → Sem Fin) (k7 : Unit → Sem Fin) (k4 : Option Value → Sem Fin) (k5 : Except Value Int → Sem Fin),
    Builtin.«bytearray.__init__» ⟨[.ref S, .int n u], []⟩ = (Builtin.Bytes.ownRelease (.ref S) >>= k1) ∧
    k1 false = ((orM (Builtin.Bytes.exported (.ref S)) (do return (← Builtin.Bytes.exportsOf (.ref S)) > 0)) >>= k2) ∧
    k2 false = (Builtin.Bytes.write (.ref S) (fun _ => #[]) >>= k3) ∧
    k3 () = (asStr? (.int n u) >>= k6) ∧
    k6 none = ((pure () : Sem Unit) >>= k7) ∧
    k7 () = (specialOf (.int n u) (Str.ofString "__index__") >>= k4) ∧
    (∀ v, k4 (some v) = ((asIndex (.int n u)).attempt >>= k5)) ∧
    ∃ (a1 a2 a3 a4 : Sem Fin), k5 (.ok n) = (if !Builtin.Bytes.fitsIndex n then a1 else if (n : Int) < 0 then a2 else if (n : Int) == 2 ^ 63 - 1 then a3 else if Builtin.Bytes.tooLong (n : Int).toNat then a4 else do
      rule "bytearray.__init__.count"
      if (n : Int) > 0 then Builtin.Bytes.write (.ref S) fun _ => Array.replicate (n : Int).toNat 0
      ret .none) := by
  refine ⟨_, _, _, _, _, _, _, rfl, rfl, rfl, rfl, rfl, rfl, fun _ => rfl, _, _, _, _, rfl⟩
theorem own_release {S : Addr} {Q : Bool → Shared → Prop} (hS : s.heap.get? S = some (bobj #[])) (h : Q false s) : wpAny (Md w) A (Builtin.Bytes.ownRelease (.ref S)) Q E s := by
  have hT : s.TypeIs (.ref S) "bytearray" := ⟨_, hS, rfl⟩
  unfold Builtin.Bytes.ownRelease Builtin.Bytes.slotIsOwn
  refine wpAny_bind (wpAny_bind (wpAny_specialOf hT lookup_ba_release ?_))
  have hE : (("bytearray.__release_buffer__" : String).endsWith ("." ++ "__release_buffer__")) = true := by decide +kernel
  have hD : (("bytearray.__release_buffer__" : String).dropRight (("__release_buffer__" : String).length + 1)) = "bytearray" := by decide +kernel
  simp only [hE, Bool.not_true, Bool.false_eq_true, if_false, hD]
  exact wpAny_isInstance (T := "bytearray") (b := true) hT sub_ba (wpAny_pure h)
theorem not_exported {S : Addr} {Q : Bool → Shared → Prop} (hS : s.heap.get? S = some (bobj #[])) (h : Q false s) : wpC (Md w) A (orM (Builtin.Bytes.exported (.ref S)) (do return (← Builtin.Bytes.exportsOf (.ref S)) > 0)) Q E s := by
  unfold orM
  refine wpC_bind (exported_false ?_)
  refine .any ?_
  show wpAny _ _ (Builtin.Bytes.exportsOf (.ref S) >>= _) _ _ _
  unfold Builtin.Bytes.exportsOf
  exact wpAny_bind (wpAny_bind (wpAny_load hS (wpAny_pure (wpAny_pure h))))
theorem ba_init {S : Addr} {n : Nat} {u : Tok} {Q : Fin → Shared → Prop} (hS : s.heap.get? S = some (bobj #[])) (hn : n ≤ 1000)
    (h : ∀ h' tk, h'.get? S = some (bobj (Array.replicate n 0)) → (∀ b o, b ≠ S → s.heap.get? b = some o → h'.get? b = some o) → Q (.done (.ret .none)) { s with heap := h', toks := tk }) :
    wpC (Md w) A (Builtin.«bytearray.__init__» ⟨[.ref S, .int n u], []⟩) Q E s := by
  obtain ⟨k1, k2, k3, k6, k7, k4, k5, e1, e2, e3, e6, e7, e4, e5, a1, a2, a3, a4, e8⟩ := ba_tree (S := S) (n := n) (u := u)
  rw [e1]
  refine wpC_step (own_release hS ?_)
  rw [e2]
  refine wpC_bind (not_exported hS ?_)
  rw [e3]
  refine wpC_step (ba_write hS (by simp) fun h1 g1 sb1 => ?_)
  rw [e6, show asStr? (.int n u) = pure none from rfl, pb, e7, pb, e4]
  have hsp : specialOf (Value.int (n : Int) u) (Str.ofString "__index__") = pure (some (.builtin "int.__index__")) := by
    simp only [specialOf]
    rw [show typeOf (Value.int (n : Int) u) = pure (.type "int") from rfl, pb]
    exact lookup_int_index
  rw [hsp, pb, e5, show (asIndex (Value.int (n : Int) u)).attempt = pure (Except.ok (n : Int)) from rfl, pb, e8]
  have f1 : Builtin.Bytes.fitsIndex (n : Int) = true := by
    unfold Builtin.Bytes.fitsIndex
    simp; omega
  have f2 : ¬ ((n : Int) < 0) := by omega
  have f3 : ((n : Int) == 2 ^ 63 - 1) = false := by
    rw [beq_eq_false_iff_ne]; omega
  have f4 : Builtin.Bytes.tooLong ((n : Int)).toNat = false := by
    unfold Builtin.Bytes.tooLong
    simp [sizeLine]; omega
  rw [f1, if_neg (by decide), if_neg f2, f3, if_neg (by decide), f4, if_neg (by decide)]
  refine .any (wpAny_bind (wpAny_rule ?_))
  split
  · refine wpAny_bind (ba_write (s := { s with heap := h1 }) g1 (by simp [sizeLine]; omega) fun h2 g2 sb2 => wpAny_pure ?_)
    exact h h2 s.toks g2 fun b o hb e => (sb2.2 b hb).trans ((sb1.2 b hb).trans e)
  · have : n = 0 := by omega
    subst this
    exact wpAny_pure (h h1 s.toks g1 fun b o hb e => (sb1.2 b hb).trans e)
end
end Mine

end

/-! part Ba3 -/
section
open PySem PySem.W PySem.Calls PyProof.Rows
set_option linter.unusedVariables false
set_option maxRecDepth 100000
namespace Mine
section
variable {w : World} {A : Around} {E : Value → Shared → Prop} {s : Shared}
theorem codeC_builtin {R : Result → Shared → Prop} {id : String} {args : Args} {b : Builtin} (hl : holdless (.builtin id args) = true) (hb : entryFor table id = some b)
    (h : wpC (Md w) (A.under (.builtin id args)) (b args)
      (fun fin s' => match fin with | .done f => R (.ok f) s' | .again c' => c'.quiet = true ∧ codeC (Md w) A c' R s') (fun e s' => R (.error e) s') s) :
    codeC (Md w) A (.builtin id args) R s := by
  refine codeC_of_tree hl ?_
  show wpC _ _ (match entryFor table id with | some b => b args | none => unsupported ((withoutEnding? id "#data").getD id)) _ _ s
  rw [hb]; exact h
theorem call_ba {n : Nat} {u : Tok} {Q : Value → Shared → Prop} (hn : n ≤ 1000)
    (h : ∀ h' tk, h'.get? s.heap.objs.size = some (bobj (Array.replicate n 0)) → (∀ b o, s.heap.get? b = some o → h'.get? b = some o) → Q (.ref s.heap.objs.size) { s with heap := h', toks := tk }) :
    wpC (Md w) A (call (.type "bytearray") [.int n u]) Q E s := by
  refine wpC_call (codeC_of_tree rfl ?_)
  show wpC _ _ (callAny (.type "bytearray") _) _ _ _
  refine wpC_pure ⟨Code.quiet_builtin _ (by decide +kernel), codeC_builtin (by simp [holdless, holdIds, PySem.Builtin.Bytes.decodersThatHold]) F.entry_type_call ?_⟩
  rw [Around.under_plain (weight_type_call_type "bytearray" _ []) rfl]
  unfold Builtin.«type.__call__»
  dsimp only
  rw [show (Value.type "bytearray" == Value.type "type") = false from by decide]
  rw [if_neg (by decide)]
  have h2 := called_ba.canCreate
  rw [if_neg (by rw [h2]; decide), typeCall_ba, pure_bind, mro_ba, pure_bind, if_neg (by decide), called_ba.made, pure_bind]
  dsimp only
  rw [pure_bind]
  refine wpC_step (wpAny_holding (wpAny_call ?_))
  refine codeAny_mono (code_ba_new (E := fun _ _ => False) _ (Q₁ := fun v s₁ => v = .ref s.heap.objs.size ∧ s₁ = { s with heap := s.heap.push (bobj #[]) }) ⟨rfl, rfl⟩) fun r s₁ hr => ?_
  match r, hr with
  | .ok (.ret v), hr =>
    obtain ⟨rfl, rfl⟩ := hr
    have hS : (s.heap.push (bobj #[])).get? s.heap.objs.size = some (bobj #[]) := Heap.get?_push_size _ rfl
    have hT : ({ s with heap := s.heap.push (bobj #[]) } : Shared).TypeIs (.ref s.heap.objs.size) "bytearray" := ⟨_, hS, rfl⟩
    dsimp only
    refine wpC_step (wpAny_isInstance (T := "bytearray") (b := true) hT sub_ba ?_)
    rw [if_neg (by decide)]
    refine wpC_bind (wpC_holding ?_)
    unfold callSpecial?
    refine wpC_step (wpAny_specialOf hT slot_ba_init.lookup ?_)
    simp only [slot_ba_init.bind]
    refine wpC_holding (wpC_step (wpAny_pure (wpC_bind (wpC_call (codeC_of_tree rfl ?_)))))
    show wpC _ A.in1.in1 (do checkBuiltinCall "bytearray.__init__" ⟨[.ref s.heap.objs.size, .int n u], []⟩; again (.builtin "bytearray.__init__" ⟨[.ref s.heap.objs.size, .int n u], []⟩)) _ _ _
    refine wpC_step (slot_ba_init.check _ _ _ _ _ _ _ _ hT (args_ba_init _ _) (wpC_pure ⟨plainId_quiet slot_ba_init.plain _, codeC_builtin (by simp [holdless, holdIds, PySem.Builtin.Bytes.decodersThatHold]) entry_ba_init ?_⟩))
    rw [Around.under_plainId slot_ba_init.plain _]
    refine ba_init hS hn fun h' tk e' k' => ?_
    refine wpC_pure (wpC_pure ?_)
    exact h h' tk e' fun b o e => k' b o (Nat.ne_of_lt (Heap.lt_size e)) (Heap.get?_push_of_some _ e)
  | .ok .next, hr => exact hr.elim
  | .ok .cont, hr => exact hr.elim
  | .ok .brk, hr => exact hr.elim
  | .error e, hr => exact hr.elim
end
end Mine

end

/-! part Mut -/
section
open PySem PySem.W PySem.Calls PyProof.Rows
set_option linter.unusedVariables false
set_option maxRecDepth 100000
namespace Mine

/-- a block that returns, with objects being changed -/
def RetR (w : World) (k : Nat) (env : Env) (m : Mp) (o : Led) (st : List Stmt) (r : PV) : Prop :=
  ∀ A h₀ s, Sr w k A env h₀ s m o → ∀ (Q : Flow → Shared → Prop) (E : Value → Shared → Prop), (∀ v s', Kx A env (adr o) s s' → Rep s'.heap r v → Q (.ret v) s') → wpAny (Md w) A (execs st env) Q E s
/-- an expression that makes a new object -/
def New (w : World) (k : Nat) (env : Env) (m : Mp) (e : Expr) (r : Rs) : Prop :=
  ∀ A h₀ s, Gd w k A env h₀ s.heap m → ∀ (Q : Value → Shared → Prop) (E : Value → Shared → Prop), (∀ a s', Kp A s s' → s.heap.get? a = none → r.At s'.heap a → Q (.ref a) s') → wpAny (Md w) A (eval e env) Q E s

section
variable {w : World} {k : Nat} {env : Env} {m m' : Mp} {A : Around} {h₀ : Heap} {s s' : Shared} {o o' : Led} {x : Str} {p : PV} {v : Value} {a : Addr} {r : Rs}
theorem Sr.nil (g : Gd w k A env h₀ s.heap m) : Sr w k A env h₀ s m [] := ⟨g, (fun _ h => by cases h), List.nodup_nil⟩
theorem Kx.ks (q : Kx A env [] s s') : Ks A env s s' := ⟨q.same, fun b o e n l c => q.up b o e n l c (by simp), fun b o e l c => q.fr b o e l c (by simp)⟩
theorem RetR.ret {st : List Stmt} {r : PV} (h : RetR w k env m [] st r) : Ret w k env m st r := fun A h₀ s g Q E hQ => h A h₀ s (.nil g) Q E fun v s' q rv => hQ v s' q.ks rv

/-- a new object joins the ledger -/
theorem Sr.new (c : Sr w k A env h₀ s m o) (q : Kp A s s') (hn : s.heap.get? a = none) (hr : r.At s'.heap a) : Sr w k A env h₀ s' m ((a, r) :: o) := by
  have c' := c.kp q
  have hna : a ∉ adr o := fun hm => by
    obtain ⟨p, hp, rfl⟩ := List.mem_map.mp hm
    obtain ⟨ob, e, _⟩ := (c.at_ p hp).there
    rw [hn] at e; cases e
  refine ⟨Gd.kp (s := { s with heap := hideAll s.heap (adr o) }) (s' := { s' with heap := hideAll s'.heap (a :: adr o) }) c.gd ⟨?_, fun b ob e n => ?_, fun b ob e => ?_⟩, fun p hp => ?_, List.nodup_cons.mpr ⟨hna, c.nd⟩⟩
  · obtain ⟨h1, t1, rfl⟩ := q.same
    exact ⟨_, _, rfl⟩
  · have e' := of_hideAll _ e
    refine hideAll_get _ (q.up b ob e' n) fun hb => ?_
    rcases List.mem_cons.mp hb with rfl | hb
    · rw [hn] at e'; cases e'
    · exact hideAll_nm e hb
  · have e' := of_hideAll _ e
    obtain ⟨sl, e2⟩ := q.fr b ob e'
    refine ⟨sl, hideAll_get _ e2 fun hb => ?_⟩
    rcases List.mem_cons.mp hb with rfl | hb
    · rw [hn] at e'; cases e'
    · exact hideAll_nm e hb
  · rcases List.mem_cons.mp hp with rfl | hp
    · exact hr
    · exact c'.at_ p hp

theorem Kx.less (q : Kx A env (a :: adr o) s s') {s₀ : Shared} (q₀ : Kp A s₀ s) (hn : s₀.heap.get? a = none) : Kx A env (adr o) s₀ s' := by
  have q1 : Kx A env (a :: adr o) s₀ s' := q₀.kx.trans q
  have ne : ∀ b ob, s₀.heap.get? b = some ob → b ∉ adr o → b ∉ a :: adr o := fun b ob e n hm => by
    rcases List.mem_cons.mp hm with rfl | hm
    · rw [hn] at e; cases e
    · exact n hm
  exact ⟨q1.same, fun b ob e n l c z => q1.up b ob e n l c (ne b ob e z), fun b ob e l c z => q1.fr b ob e l c (ne b ob e z)⟩

theorem RetR_new {e : Expr} {px pos : Pos} {rest : List Stmt} {rv : PV} (hn : New w k env m e r) (hx : env.kindOf x = some .local) (h : ∀ a, RetR w k env ((x, .ref a) :: m) ((a, r) :: o) rest rv)
    (hs : swapsWith e (some (.Name x px)) pos.line env = pure false := by rfl) : RetR w k env m o (.Assign [.Name x px] e pos :: rest) rv :=
  fun A h₀ s c Q E hQ => wpAny_execs_cons (wpAny_Assign_Name (hn A h₀ s c.gdx _ _ fun a s₁ k₁ hf hr =>
    (c.new k₁ hf hr).store (p := .ref a) (by simp only [Rep]) hx fun s₂ q c₂ => h a A h₀ s₂ c₂ _ _ fun v s₃ q₃ r₃ => hQ v s₃ ((q.trans q₃).less k₁ hf) r₃) hs)
theorem RetR_cons {st : Stmt} {rest : List Stmt} {rv : PV} (h : Nr1 w k env m o st m' o') (hr : RetR w k env m' o' rest rv) : RetR w k env m o (st :: rest) rv :=
  fun A h₀ s c Q E hQ => wpAny_execs_cons (h.2 A h₀ s c _ _ fun s' q c' => hr A h₀ s' c' _ _ fun v s'' q' rv => hQ v s'' (q.trans (by rw [← h.1]; exact q')) rv)
theorem RetR_open {ys : List PV} {st : List Stmt} {rv : PV} (hm : (a, Rs.list ys) ∈ o) (hx : m.lookup x = some (.ref a)) (h : Ret w k env ((x, .list ys) :: m) st rv) : RetR w k env m o st rv :=
  fun A h₀ s c Q E hQ => h A h₀ s (c.open hm hx) Q E fun v s' q rv => hQ v s' q.kx rv
theorem RetR_pure {st : List Stmt} {rv : PV} (h : Ret w k env m st rv) : RetR w k env m o st rv :=
  fun A h₀ s c Q E hQ => h A h₀ s c.gdx Q E fun v s' q rv => hQ v s' q.kx rv

/-- a fresh list, stored as a plain value beside objects being changed -/
theorem New_list {es : List Expr} {pos : Pos} {ps : List PV} (he : Evs w k env m es ps) (hf : ∀ y ∈ ps, y.flat = true) (hl : ps.length ≤ sizeLine) : New w k env m (.List es pos) (.list ps) :=
  fun A h₀ s g Q E h => List_ (he A h₀ s _ _ pos g fun vs s₁ k₁ rs => by
    refine wpAny_newObj_type (h _ _ (k₁.trans (.of_ext fun b o e => Heap.get?_push_of_some _ e)) ?_ ⟨hf, vs, _, Heap.get?_push_size _ rfl, rs.flat hf⟩) (by show vs.toArray.size ≤ sizeLine; rw [List.size_toArray, rs.length]; exact hl)
    cases e : s.heap.get? s₁.heap.objs.size with
    | none => rfl
    | some ob => obtain ⟨sl, e'⟩ := k₁.fr _ _ e; exact absurd (Heap.lt_size e') (Nat.lt_irrefl _))
end

/-- a built-in's contract used at a call -/
theorem call_meets {w : World} {A : Around} {E : Value → Shared → Prop} {s : Shared} {T : String} {name : Str} {id : String} {B : Builtin} {self : Value} {args : List Value} {S : PySem.Spec} {Q : Value → Shared → Prop} (slot : Slot T name id) (entry : entryFor table id = some B)
    (hT : s.TypeIs self T) (ha : argsOk id ⟨self :: args, []⟩) (g : Meets (B ⟨self :: args, []⟩) S) (h : S A (wants Q E) s) : wpAny (Md w) A (call (.builtin id) (self :: args)) Q E s :=
  wpAny_call (codeAny_mono (codeAny_call_builtin slot.plain entry (slot.check _ _ _ _ _ _ _ _ hT ha (g _ _ A (wants Q E) s h))) fun r s' hr => by
    cases r with
    | error e => exact hr
    | ok f => cases f <;> exact hr)
end Mine

end

/-! part Mut2 -/
section
open PySem PySem.W PySem.Calls PyProof.Rows
set_option linter.unusedVariables false
set_option maxRecDepth 100000
namespace Mine
section
variable {w : World} {k : Nat} {env : Env} {m m' : Mp} {A : Around} {h₀ : Heap} {s s' : Shared} {o o' : Led} {x : Str} {p : PV} {v : Value} {a : Addr} {r : Rs}

theorem Sr.meth {name : Str} {px apos pos : Pos} {es : List Expr} {T id : String} {ps : List PV} {Q : Value → Shared → Prop} {E : Value → Shared → Prop} (pa : PlainAttrs T) (slot : Slot T name id) (hty : typeOf (.builtin id) = pure (.type "method_descriptor"))
    (c : Sr w k A env h₀ s m o) (hx : m.lookup x = some (.ref a)) (hT : ∃ ob, s.heap.get? a = some ob ∧ ob.cls = .type T ∧ ob.dict = none) (he : Evs w k env m es ps)
    (h : ∀ vs s₁, Kp A s s₁ → Reps s₁.heap ps vs → wpAny (Md w) A (call (.builtin id) (.ref a :: vs)) Q E s₁)
    (hbase : attributeBase (.Name x px) name env (eval (.Name x px) env) = eval (.Name x px) env := by rfl) (hline : (apos.endLine == pos.line) = true := by rfl) (hst : (starEach es env).all (fun x => !x.1) = true := by rfl) (hlen : es.length < 29 := by decide)
    (hd : (x == ("__debug__" : Str)) = false := by decide) :
    wpAny (Md w) A (eval (.Call (.Attribute (.Name x px) name apos) es [] pos) env) Q E s := by
  obtain ⟨ob, e1, e2, e3⟩ := hT
  refine wpAny_Call_method hbase ?_ hline pa slot hty (wpAny_Name (c.gdx.load hx fun v r => ?_) hd)
  · rw [Bool.and_eq_true, Bool.and_eq_true]
    refine ⟨⟨?_, rfl⟩, ?_⟩
    · unfold backTo; rw [List.all_map]; exact hst
    · simp; omega
  · simp only [Rep] at r
    subst r
    refine ⟨⟨ob, e1, e2⟩, fun b q => by cases q; exact ⟨ob, e1, e3⟩, callWith_builtin (any_backTo hst) (he.args c.gdx (fun vs s₂ k₂ rs => h vs s₂ k₂ rs) hst)⟩

theorem rs_update {h : Heap} {vs : List Value} {n : Nat} (e : h.get? a = some (lobj vs n)) (f : Array Value → Array Value) : ∃ n', (h.update a (Obj.mapSeq f)).get? a = some (lobj (f vs.toArray).toList n') ∧ Heap.SameBut a h (h.update a (Obj.mapSeq f)) := by
  exact ⟨_, IsL.update (n := n) (items := vs.toArray) e f, Heap.SameBut.update ..⟩
theorem Nr1_append {pre post : Led} {ys : List PV} {e : Expr} {px apos cpos pos : Pos} (hx : m.lookup x = some (.ref a)) (he : Ev w k env m e p) (hp : p.flat = true) (hsz : ys.length ≤ 1000)
    (hna : ∀ env, starEach [e] env = (false, eval e env) :: starEach [] env)
    (hbase : attributeBase (.Name x px) "append" env (eval (.Name x px) env) = eval (.Name x px) env) (hline : (apos.endLine == cpos.line) = true) (hst : (starEach [e] env).all (fun x => !x.1) = true)
    (hi : interactive env = false) (hs : swapsWith (.Call (.Attribute (.Name x px) "append" apos) [e] [] cpos) none pos.line env = pure false)
    (hd : (x == ("__debug__" : Str)) = false) :
    Nr1 w k env m (pre ++ (a, .list ys) :: post) (.Expr (.Call (.Attribute (.Name x px) "append" apos) [e] [] cpos) pos) m (pre ++ (a, .list (ys ++ [p])) :: post) := by
  refine ⟨by simp [adr], fun A h₀ s c Q E hQ => wpAny_Expr ?_ hi hs⟩
  have hm : (a, Rs.list ys) ∈ pre ++ (a, Rs.list ys) :: post := by simp
  obtain ⟨fl, vs, n, e1, rs⟩ := c.at_ _ hm
  refine c.meth F.plainAttrs_list F.slot_list_append F.type_list_append hx ⟨_, e1, rfl, rfl⟩ (Evs_cons he Evs_nil hna) (fun us s₁ k₁ ru => ?_) hbase hline hst (by simp) hd
  simp only [Reps] at ru
  obtain ⟨u, t, rfl, r1, rfl⟩ := ru
  have c1 := c.kp k₁
  obtain ⟨fl, vs, n, e1, rs⟩ := c1.at_ _ hm
  refine call_meets F.slot_list_append F.entry_list_append ⟨_, e1, rfl⟩ (F.args_list_append_2 _ _) (list_append a vs.toArray n u (by rw [List.size_toArray, rs.length]; simp only [sizeLine]; omega)) ⟨e1, ?_⟩
  obtain ⟨n', e2, sb⟩ := rs_update e1 (fun xs => xs.push u)
  have hr : (Rs.list (ys ++ [p])).At (s₁.heap.update a (Obj.mapSeq fun xs => xs.push u)) a := by
    refine ⟨fun y hy => ?_, vs ++ [u], n', by rw [e2]; simp, (rs.flat fl).append (Reps.cons (r1.flat hp) Reps.nil)⟩
    rcases List.mem_append.mp hy with hy | hy
    · exact fl y hy
    · rw [List.mem_singleton.mp hy]; exact hp
  obtain ⟨c2, q2⟩ := c1.set (tk := s₁.toks) sb hr
  exact hQ _ (k₁.kx.trans q2) c2
end
end Mine

end

/-! part Mut3 -/
section
open PySem PySem.W PySem.Calls PyProof.Rows
set_option linter.unusedVariables false
set_option maxRecDepth 100000
namespace Mine
theorem slot_ba_setitem : Slot "bytearray" "__setitem__" "bytearray.__setitem__" :=
  .of (owner := "bytearray") (n := "__setitem__") (by rw [typeLookup_type, builtinLookup_eq_fast]; kernel_rfl) (by decide +kernel) (by decide +kernel) (by decide +kernel)
    (by first | exact .inl (by decide +kernel) | exact .inr (by decide +kernel)) (by rw [isSubtype_type]; kernel_rfl)
theorem entry_ba_setitem : entryFor table "bytearray.__setitem__" = some Builtin.«bytearray.__setitem__» := entryFor_of_tree (by kernel_rfl)
theorem args_ba_setitem (a b c : Value) : argsOk "bytearray.__setitem__" ⟨[a, b, c], []⟩ := by
  unfold argsOk; rw [signature?_of (id := "bytearray.__setitem__") (n := ['_', '_', 'm', 'e', 't', 'i', 't', 'e', 's', '_', '_']) (o := ['y', 'a', 'r', 'r', 'a', 'e', 't', 'y', 'b']) (by kernel_rfl) owner_bytearray]; kernel_rfl
section
variable {w : World} {A : Around} {E : Value → Shared → Prop} {s : Shared} {l : Addr}
theorem setItem_l {vs : List Value} {n : Nat} {k : Int} {t : Tok} {v : Value} {Q : Unit → Shared → Prop} (hl : s.heap.get? l = some (lobj vs n)) (h0 : 0 ≤ k) (hfit : k < 2 ^ 63) (hj : k.toNat < vs.length)
    (hQ : ∀ h' n', h'.get? l = some (lobj (vs.set k.toNat v) n') → Heap.SameBut l s.heap h' → Q () { s with heap := h' }) : wpAny (Md w) A (setItem (.ref l) (.int k t) v) Q E s := by
  have hT : s.TypeIs (.ref l) "list" := ⟨_, hl, rfl⟩
  unfold setItem
  refine wpAny_holding (wpAny_bind (wpAny_sequenceKey hT (by decide) ?_))
  refine wpAny_bind (wpAny_callSpecial?_slot (name := Str.ofString "__setitem__") hT F.slot_list_setitem
    (wpAny_call_entry F.slot_list_setitem hT F.entry_list_setitem ?_ (F.args_list_setitem_3 _ _ _)))
  show wpAny _ _ (Builtin.List.listSubscript? (.int k t) >>= _) _ _ s
  refine wpAny_bind (wpAny_listSubscript_int (fitsIndex_of h0 hfit) ?_)
  clear hfit
  obtain ⟨j, rfl⟩ := Int.eq_ofNat_of_zero_le h0
  replace hj : j < vs.length := hj
  have hx' : vs.toArray[j]? = some vs[j] := by simp [hj]
  show wpAny _ _ ((seqItemAt l j >>= fun r => pure (r.map (j, ·))) >>= _) _ _ s
  refine wpAny_bind (wpAny_bind (wpAny_seqItemAt hl rfl (wpAny_pure ?_)))
  rw [hx']
  show wpAny _ _ (setSeqItemAt l j v >>= _) _ _ s
  refine wpAny_bind (wpAny_setSeqItemAt hl rfl ?_)
  obtain ⟨n', e2, sb⟩ := rs_update hl (fun xs => xs.setIfInBounds j v)
  have e3 : (s.heap.update l (Obj.mapSeq fun xs => xs.setIfInBounds j v)).get? l = some (lobj (vs.set j v) n') := by rw [e2]; simp
  first
    | exact wpAny_bind (wpAny_pure (wpAny_pure ⟨.none, rfl, wpAny_pure (hQ _ _ e3 sb)⟩))
    | exact wpAny_pure ⟨.none, rfl, wpAny_pure (hQ _ _ e3 sb)⟩

theorem setItem_ba {b : Array UInt8} {j : Nat} {t u : Tok} {c : UInt8} {Q : Unit → Shared → Prop} (hl : s.heap.get? l = some (bobj b)) (hj : j < b.size) (hs : b.size ≤ 1000)
    (hQ : ∀ h', h'.get? l = some (bobj (b.setIfInBounds j c)) → Heap.SameBut l s.heap h' → Q () { s with heap := h' }) : wpAny (Md w) A (setItem (.ref l) (.int j t) (.int c.toNat u)) Q E s := by
  have hT : s.TypeIs (.ref l) "bytearray" := ⟨_, hl, rfl⟩
  unfold setItem
  refine wpAny_holding (wpAny_bind (wpAny_sequenceKey hT (by decide) ?_))
  refine wpAny_bind (wpAny_callSpecial?_slot (name := Str.ofString "__setitem__") hT slot_ba_setitem
    (wpAny_call_entry slot_ba_setitem hT entry_ba_setitem ?_ (args_ba_setitem _ _ _)))
  show wpAny _ _ (Builtin.Bytes.subscript? (.int j t) >>= _) _ _ s
  have hsp : specialOf (Value.int (j : Int) t) (Str.ofString "__index__") = pure (some (.builtin "int.__index__")) := by
    simp only [specialOf]
    rw [show typeOf (Value.int (j : Int) t) = pure (.type "int") from rfl, pure_bind]
    exact lookup_int_index
  have f1 : Builtin.Bytes.fitsIndex (j : Int) = true := by
    unfold Builtin.Bytes.fitsIndex
    simp; omega
  have h1 : Builtin.Bytes.subscript? (.int j t) = pure (some (j : Int)) := by
    unfold Builtin.Bytes.subscript?
    rw [hsp, pure_bind, if_neg (by decide), show asIndex (Value.int (j : Int) t) = pure (j : Int) from rfl, pure_bind, f1]
    rfl
  have hc := c.toNat_lt
  have h2 : Builtin.Bytes.byteValue (Value.int (c.toNat : Int) u) = pure c := by
    unfold Builtin.Bytes.byteValue
    rw [show asIndex (Value.int (c.toNat : Int) u) = pure (c.toNat : Int) from rfl, pure_bind, if_neg (by simp; omega)]
    simp
  rw [h1, pure_bind]
  dsimp only
  rw [h2, pure_bind]
  refine wpAny_bind ?_
  unfold Builtin.Bytes.payload Builtin.Bytes.payload?
  refine wpAny_bind (wpAny_bind (wpAny_load hl (wpAny_pure (wpAny_pure ?_))))
  have h3 : seqIndex? (j : Int) b.size = some j := by
    unfold seqIndex?
    simp
    omega
  rw [h3]
  dsimp only
  refine wpAny_bind (ba_write hl (by simp [sizeLine]; omega) fun h' e' sb => ?_)
  exact wpAny_pure ⟨.none, rfl, wpAny_pure (hQ h' e' sb)⟩
end
end Mine

end

/-! part Mut4 -/
section
open PySem PySem.W PySem.Calls PyProof.Rows
set_option linter.unusedVariables false
set_option maxRecDepth 100000
namespace Mine
section
variable {w : World} {k : Nat} {env : Env} {m m' : Mp} {A : Around} {h₀ : Heap} {s s' : Shared} {o o' : Led} {x : Str} {p : PV} {v : Value} {a : Addr} {r : Rs}

theorem Nr1_setBa {pre post : Led} {b : Array UInt8} {e ie : Expr} {px tpos pos : Pos} {j : Nat} {c : UInt8} (hx : m.lookup x = some (.ref a)) (he : Ev w k env m e (.int c.toNat)) (hi : Ev w k env m ie (.int j)) (hj : j < b.size) (hsz : b.size ≤ 1000)
    (hs : swapsWith e (some (.Subscript (.Name x px) ie tpos)) pos.line env = pure false) (hd : (x == ("__debug__" : Str)) = false) :
    Nr1 w k env m (pre ++ (a, .ba b) :: post) (.Assign [.Subscript (.Name x px) ie tpos] e pos) m (pre ++ (a, .ba (b.setIfInBounds j c)) :: post) := by
  refine ⟨by simp [adr], fun A h₀ s cs Q E hQ => wpAny_Assign_Subscript ?_ hs⟩
  have hm : (a, Rs.ba b) ∈ pre ++ (a, Rs.ba b) :: post := by simp
  refine he A h₀ s cs.gdx _ _ fun v s₁ k₁ rv => wpAny_Name ((cs.kp k₁).gdx.load hx fun u ru => ?_) hd
  simp only [Rep] at ru
  subst ru
  refine hi A h₀ s₁ (cs.kp k₁).gdx _ _ fun iv s₂ k₂ ri => ?_
  have c2 := (cs.kp k₁).kp k₂
  simp only [Rep] at rv ri
  obtain ⟨t1, rfl⟩ := rv
  obtain ⟨t2, rfl⟩ := ri
  refine setItem_ba (c2.at_ _ hm) hj hsz fun h' e' sb => ?_
  obtain ⟨c3, q3⟩ := c2.set (r' := .ba (b.setIfInBounds j c)) (tk := s₂.toks) sb e'
  exact hQ _ ((k₁.kx.trans k₂.kx).trans q3) c3

theorem Reps.int_at {h : Heap} : ∀ {ns : List Int} {vs : List Value} {j : Nat}, Reps h (il ns) vs → j < ns.length → ∃ t, vs[j]? = some (.int (ns.getD j 0) t)
  | [], vs, j, r, hj => by simp at hj
  | n :: ns, vs, j, r, hj => by
    simp only [il, List.map_cons, Reps, Rep] at r
    obtain ⟨v, t, rfl, ⟨u, rfl⟩, rs⟩ := r
    cases j with
    | zero => exact ⟨u, by simp⟩
    | succ j =>
      obtain ⟨t', e⟩ := Reps.int_at (ns := ns) (j := j) rs (by simpa using hj)
      exact ⟨t', by simpa using e⟩
theorem Reps.int_set {h : Heap} : ∀ {ns : List Int} {vs : List Value} {j : Nat} {i : Int} {t : Tok}, Reps h (il ns) vs → Reps h (il (ns.set j i)) (vs.set j (.int i t))
  | [], vs, j, i, t, r => by simp only [il, List.map_nil, Reps] at r; subst r; simp [il, Reps]
  | n :: ns, vs, j, i, t, r => by
    simp only [il, List.map_cons, Reps, Rep] at r
    obtain ⟨v, tl, rfl, ⟨u, rfl⟩, rs⟩ := r
    cases j with
    | zero => simp only [List.set_cons_zero, il, List.map_cons]; exact Reps.cons (by simp only [Rep]; exact ⟨t, rfl⟩) rs
    | succ j => simp only [List.set_cons_succ, il, List.map_cons]; exact Reps.cons (by simp only [Rep]; exact ⟨u, rfl⟩) (Reps.int_set rs)
theorem il_flat {ns : List Int} : ∀ y ∈ il ns, y.flat = true := fun y hy => by
  obtain ⟨n, _, rfl⟩ := List.mem_map.mp hy; rfl

theorem Nr1_inc {pre post : Led} {ns : List Int} {e ie : Expr} {px tpos pos : Pos} {j d : Int} (hx : m.lookup x = some (.ref a)) (he : Ev w k env m e (.int d)) (hi : Ev w k env m ie (.int j)) (h0 : 0 ≤ j) (hj : j.toNat < ns.length) (hsz : ns.length ≤ 1000)
    (hs : ∀ ov iv new, augStore ie ov iv new = (do holding [new, ov, iv] (setItem ov iv new); release [new, ov, iv] []; pure .next)) (hd : (x == ("__debug__" : Str)) = false) :
    Nr1 w k env m (pre ++ (a, .list (il ns)) :: post) (.AugAssign (.Subscript (.Name x px) ie tpos) .Add e pos) m (pre ++ (a, .list (il (ns.set j.toNat (ns.getD j.toNat 0 + d)))) :: post) := by
  refine ⟨by simp [adr], fun A h₀ s cs Q E hQ => wpAny_AugAssign_SubscriptAny ?_ hs⟩
  have hm : (a, Rs.list (il ns)) ∈ pre ++ (a, Rs.list (il ns)) :: post := by simp
  refine wpAny_Name (cs.gdx.load hx fun u ru => ?_) hd
  simp only [Rep] at ru
  subst ru
  refine hi A h₀ s cs.gdx _ _ fun iv s₁ k₁ ri => ?_
  have c1 := cs.kp k₁
  simp only [Rep] at ri
  obtain ⟨t1, rfl⟩ := ri
  obtain ⟨fl, vs, n, e1, rs⟩ := c1.at_ _ hm
  have hl := rs.length
  simp only [il, List.length_map] at hl
  obtain ⟨t2, e2⟩ := rs.int_at hj
  refine wpAny_getItem_list (items := vs.toArray) ⟨_, e1, rfl, n, rfl⟩ h0 (by omega) (by simpa using e2) ?_
  refine he A h₀ s₁ c1.gdx _ _ fun v s₂ k₂ rv => ?_
  have c2 := c1.kp k₂
  simp only [Rep] at rv
  obtain ⟨t3, rfl⟩ := rv
  obtain ⟨fl, vs, n, e1, rs⟩ := c2.at_ _ hm
  refine AutoIntOps.iadd_0 ?_
  have c3 := c2.kp (Kp.of_toks (tk := s₂.toks + 1))
  obtain ⟨fl, vs, n, e1, rs⟩ := c3.at_ _ hm
  refine setItem_l e1 h0 (by omega) (by have := rs.length; simp only [il, List.length_map] at this; omega) fun h' n' e' sb => ?_
  have hr : (Rs.list (il (ns.set j.toNat (ns.getD j.toNat 0 + d)))).At h' a := ⟨il_flat, _, n', e', (Reps.int_set rs).flat il_flat⟩
  obtain ⟨c4, q4⟩ := c3.set (tk := s₂.toks + 1) sb hr
  exact hQ _ ((k₁.kx.trans k₂.kx).trans (Kp.of_toks.kx.trans q4)) c4
end
end Mine

end

/-! part Ba4 -/
section
open PySem PySem.W PySem.Calls PyProof.Rows
set_option linter.unusedVariables false
set_option maxRecDepth 100000
namespace Mine
theorem ba_no_bytes : typeLookup (.type "bytearray") "__bytes__" = pure none := by rw [typeLookup_type, builtinLookup_eq_fast]; kernel_rfl
theorem ba_no_index : typeLookup (.type "bytearray") "__index__" = pure none := by rw [typeLookup_type, builtinLookup_eq_fast]; kernel_rfl
theorem ba_buffer : typeLookup (.type "bytearray") "__buffer__" = pure (some (.builtin "bytearray.__buffer__")) := by rw [typeLookup_type, builtinLookup_eq_fast]; kernel_rfl
section
variable {w : World} {A : Around} {E : Value → Shared → Prop} {s : Shared}
theorem ba_slotOwn {S : Addr} {b : Array UInt8} {n : String} {id : String} {Q : Bool → Shared → Prop} (hS : s.heap.get? S = some (bobj b)) (hl : typeLookup (.type "bytearray") (n : Str) = pure (some (.builtin id)))
    (hE : id.endsWith ("." ++ n) = true) (hD : (id.dropRight (n.length + 1)) = "bytearray") (h : Q true s) : wpAny (Md w) A (Builtin.Bytes.slotIsOwn (.ref S) n) Q E s := by
  have hT : s.TypeIs (.ref S) "bytearray" := ⟨_, hS, rfl⟩
  unfold Builtin.Bytes.slotIsOwn
  refine wpAny_bind (wpAny_specialOf hT hl ?_)
  simp only [hE, Bool.not_true, Bool.false_eq_true, if_false, hD]
  exact wpAny_isInstance (T := "bytearray") (b := true) hT sub_ba h
theorem ba_bytes_new {l : Addr} {b : Array UInt8} {Q : Value → Shared → Prop} (hl : s.heap.get? l = some (bobj b)) (hz : b.size ≤ sizeLine)
    (hQ : ∀ t k, Q (.bytes b t) { s with toks := k }) :
    codeAny (Md w) A (.call (.builtin "bytes.__new__") ⟨[.type "bytes", .ref l], []⟩) (wants Q E) s := by
  refine codeAny_of_tree ?_
  show wpAny _ A.in1 (do checkBuiltinCall "bytes.__new__" ⟨[.type "bytes", .ref l], []⟩; again (.builtin "bytes.__new__" ⟨[.type "bytes", .ref l], []⟩)) _ _ s
  refine wpAny_bind (wpAny_of_eq (F.bm_newCall _) (wpAny_pure ⟨plainId_quiet F.bm_plain _, codeAny_builtin F.bm_entry ?_⟩))
  rw [Around.under_plainId F.bm_plain _]
  have hT : s.TypeIs (.ref l) "bytearray" := ⟨_, hl, rfl⟩
  unfold Builtin.«bytes.__new__»
  refine wpAny_bind (wpAny_of_eq (a := true) rfl ?_)
  refine bm_if_false rfl ?_
  refine wpAny_bind (wpAny_of_eq F.bm_sub ?_)
  refine bm_if_false rfl ?_
  refine wpAny_bind (wpAny_of_eq (F.bm_bind _) ?_)
  refine wpAny_bind (wpAny_of_eq (a := ()) rfl ?_)
  refine wpAny_bind (wpAny_of_eq (a := ()) rfl ?_)
  refine bm_if_false rfl ?_
  refine wpAny_bind (wpAny_specialOf hT ba_no_bytes ?_)
  refine wpAny_bind (wpAny_bind ?_)
  show wpAny _ _ (load l >>= _) _ _ _
  refine wpAny_bind (wpAny_load hl ?_)
  refine wpAny_pure (wpAny_pure ?_)
  refine bm_if_false rfl ?_
  refine wpAny_bind (wpAny_specialOf hT ba_no_index ?_)
  refine bm_if_true rfl ?_
  first
    | show wpAny _ _ (Builtin.Bytes.buffer? "bytes.__new__" (.ref l) true >>= _) _ _ _
    | (refine wpAny_bind ?_; show wpAny _ _ (Builtin.Bytes.buffer? "bytes.__new__" (.ref l) true >>= _) _ _ _)
  refine wpAny_bind ?_
  unfold Builtin.Bytes.buffer?
  refine wpAny_bind (wpAny_specialOf hT ba_buffer ?_)
  refine wpAny_bind (ba_slotOwn hl ba_buffer (by decide +kernel) (by decide +kernel) ?_)
  simp only [Bool.not_true, Bool.false_eq_true, if_false]
  refine wpAny_bind (wpAny_specialOf hT ba_buffer ?_)
  show wpAny _ _ (Builtin.Bytes.ownRelease (.ref l) >>= _) _ _ _
  unfold Builtin.Bytes.ownRelease
  refine wpAny_bind (wpAny_bind (ba_slotOwn hl lookup_ba_release (by decide +kernel) (by decide +kernel) (wpAny_pure ?_)))
  simp only [Bool.not_true, Bool.false_eq_true, if_false]
  unfold Builtin.Bytes.payload Builtin.Bytes.payload?
  refine wpAny_bind (wpAny_bind (wpAny_bind (wpAny_load hl (wpAny_pure (wpAny_pure (wpAny_pure ?_))))))
  refine wpAny_bind (wpAny_rule (wpAny_bind ?_))
  refine wpAny_mkBytes ?_ (by exact hz)
  show wpAny _ _ (ret _) _ _ _
  exact wpAny_pure (hQ _ _)
theorem call_bytes_ba {l : Addr} {b : Array UInt8} {Q : Value → Shared → Prop} (hl : s.heap.get? l = some (bobj b)) (hz : b.size ≤ sizeLine)
    (hQ : ∀ t k, Q (.bytes b t) { s with toks := k }) : wpAny (Md w) A (call (.type "bytes") [.ref l]) Q E s := by
  refine callType_codes (Q₁ := fun obj s₁ => s₁.TypeIs obj "bytes" ∧ Q obj s₁) F.bm_called (F.bm_typeCall _) F.entry_object_init
    (ba_bytes_new hl hz fun t k => ⟨PySem.W.typeIs_bytes _ _ _, hQ t k⟩) fun obj s₁ h₁ => ?_
  exact ⟨h₁.1, F.args_object_init_2 obj _, object_init_meets F.bm_called.init.lookup F.bm_called.made (by decide) _ w A.in1 _ s₁ ⟨h₁.1, rfl, h₁.2⟩⟩
end
end Mine

end

/-! part Fn4 -/
section
open PySem PySem.W PySem.Calls PyProof.Rows
set_option linter.unusedVariables false
set_option maxRecDepth 100000
namespace Mine
section
variable {w : World} {k : Nat} {env : Env} {m m' : Mp} {A : Around} {h₀ : Heap} {s s' : Shared} {o o' : Led} {x : Str} {p : PV} {v : Value} {a : Addr} {r : Rs}

theorem ItX_range3 {e1 e2 e3 : Expr} {p pos : Pos} {a b c : Int} {N : Nat} (hE : Evs w k env m [e1, e2, e3] [.int a, .int b, .int c]) (hc : c ≠ 0) (hsm : Builtin.Range.small a b c = true) (hN : Builtin.Range.rangeSize a b c = (N : Int))
    (hp : Builtin.divisionGoesByPylong (b - a) c = false) (hk : env.kindOf (Str.ofString "range") = some .globalImplicit) (hst : (starEach [e1, e2, e3] env).all (fun x => !x.1) = true) :
    ItX w k env m (.Call (.Name (Str.ofString "range") p) [e1, e2, e3] [] pos) ((List.range N).map fun (i : Nat) => PV.int (a + (i : Int) * c)) := by
  intro A h₀ s X g Q E h
  have gx := g.ext (ext_hideAll _ _)
  refine wpAny_Call_Name_kw (gx.built (v := .type "range") rfl rfl hk (by decide) (callWith_type (any_backTo hst) (hE.args gx (fun vs s₁ k₁ rs => ?_) hst)) (by decide))
  simp only [Reps, Rep] at rs
  obtain ⟨v1, _, rfl, ⟨t1, rfl⟩, v2, _, rfl, ⟨t2, rfl⟩, v3, _, rfl, ⟨t3, rfl⟩, rfl⟩ := rs
  refine call_range_3 hc ?_ (.inl hp)
  have k₂ : Kp A s₁ { s₁ with heap := s₁.heap.push { cls := .type "range", data := .fields #[.int a t1, .int b t2, .int c t3] }, toks := s₁.toks } := .of_ext fun b o e => Heap.get?_push_of_some _ e
  have g₂ := (gx.kp k₁).kp k₂
  refine range_go (X := X) (h₀ := h₀) gx.ok.hand (IsRange.new ..) hsm hN g₂.base.keep fun I s' fp wr P St k₃ new hD hv it => ?_
  refine h I s' fp wr P St ((k₁.trans k₂).trans k₃) (fun b hb => ?_) (fun b0 hb0 o hd => ?_) hv it
  · cases eb : s.heap.get? b with
    | none => rfl
    | some o => obtain ⟨sl, e'⟩ := (k₁.trans k₂).fr b o eb; have := new b hb; rw [show (_ : Heap).get? b = _ from e'] at this; cases this
  · obtain ⟨sl, e'⟩ := (k₁.trans k₂).fr b0 o hd
    exact hD b0 hb0 _ e'

theorem Gi_bytes {b : Array UInt8} {i : Int} (hf : b.size ≤ 1000) (h0 : 0 ≤ i) (h1 : i < b.size) : Gi w k (.bytes b) (.int i) (.int (b.toList.getD i.toNat 0).toNat) := fun A s va vb cx ra rb Q E h => by
  simp only [Rep] at ra rb
  obtain ⟨t, rfl⟩ := ra; obtain ⟨u, rfl⟩ := rb
  obtain ⟨l⟩ := b
  refine getItem_bytes (l := l) (by simp at hf; omega) h0 (by simpa using h1) (h _ _ .of_toks ?_)
  simp only [Rep]
  exact ⟨_, rfl⟩
theorem PT_bytes {b : Array UInt8} : PT (.bytes b) "bytes" := fun s v r => by
  simp only [Rep] at r
  obtain ⟨t, rfl⟩ := r
  exact ⟨PySem.W.typeIs_bytes _ _ _, fun b q => nomatch q⟩

theorem callWith_typeC {pos : Pos} {n : String} {args : List (Bool × Sem Value)} {Q : Value → Shared → Prop} {E : Value → Shared → Prop} (hplain : args.any (·.1) = false)
    (h : wpAny (Md w) A (evalArgs (.type n) true args []) (fun a s₁ => wpC (Md w) A (call (.type n) a.pos a.kw) Q E s₁) E s) :
    wpC (Md w) A (callWith pos (.type n) [] args []) Q E s := by
  unfold callWith
  refine wpC_bind (wpC_holding (wpC_mono (.any h) (fun a s₁ h₁ => wpC_step (wpAny_standAt ?_)) fun _ _ x => x))
  simp only [hplain, List.any_nil, Bool.or_false]
  refine wpC_step (wpAny_pure ?_)
  exact wpC_bind (wpC_mono h₁ (fun r s₂ hr => wpC_step (wpAny_holding (wpAny_point (wpC_pure hr)))) fun _ _ x => x)

theorem RetC_newBa {n : Nat} {ee : Expr} {px p cpos pos : Pos} {rest : List Stmt} {rv : PV} (he : Ev w k env m ee (.int n)) (hn : n ≤ 1000) (hx : env.kindOf x = some .local) (hk : env.kindOf (Str.ofString "bytearray") = some .globalImplicit)
    (h : ∀ a, RetR w k env ((x, .ref a) :: m) [(a, .ba (Array.replicate n 0))] rest rv)
    (hna : ∀ env, starEach [ee] env = (false, eval ee env) :: starEach [] env) (hst : (starEach [ee] env).all (fun x => !x.1) = true)
    (hs : swapsWith (.Call (.Name (Str.ofString "bytearray") p) [ee] [] cpos) (some (.Name x px)) pos.line env = pure false) :
    RetC w k env m (.Assign [.Name x px] (.Call (.Name (Str.ofString "bytearray") p) [ee] [] cpos) pos :: rest) rv := by
  intro A h₀ s g Q E hQ
  refine wpC_execs_cons (wpC_Assign_Name ?_ hs)
  rw [arm_eval_Call_Name']
  refine wpC_step (g.built (v := .type "bytearray") rfl rfl hk (by decide) (callWith_typeC (any_backTo hst) ((Evs_cons he Evs_nil hna).args g (fun vs s₁ k₁ rs => ?_) hst)) (by decide))
  simp only [Reps, Rep] at rs
  obtain ⟨v, _, rfl, ⟨t, rfl⟩, rfl⟩ := rs
  refine call_ba hn fun h' tk e' k' => ?_
  have k₂ : Kp A s₁ { s₁ with heap := h', toks := tk } := .of_ext k'
  have fr : s₁.heap.get? s₁.heap.objs.size = none := next_free
  have c1 := (Sr.nil (g.kp k₁)).new (r := .ba (Array.replicate n 0)) k₂ fr e'
  have frs : s.heap.get? s₁.heap.objs.size = none := by
    cases e : s.heap.get? s₁.heap.objs.size with
    | none => rfl
    | some ob => obtain ⟨sl, e2⟩ := k₁.fr _ _ e; rw [fr] at e2; cases e2
  refine c1.store (p := .ref s₁.heap.objs.size) (by simp only [Rep]) hx fun s₂ q c₂ => .any (h s₁.heap.objs.size A h₀ s₂ c₂ _ _ fun v s₃ q₃ r₃ => hQ v s₃ ?_ r₃)
  exact (Kx.less (o := []) (q.trans q₃) (k₁.trans k₂) frs).ks
theorem RetR_bytesBa {b : Array UInt8} {x : Str} {p px cpos pos : Pos} {rest : List Stmt} (hm : (a, Rs.ba b) ∈ o) (hx : m.lookup x = some (.ref a)) (hz : b.size ≤ 1000) (hk : env.kindOf (Str.ofString "bytes") = some .globalImplicit)
    (hst : (starEach [.Name x px] env).all (fun x => !x.1) = true) (hna : ∀ env, starEach [.Name x px] env = (false, eval (.Name x px) env) :: starEach [] env) (hd : (x == ("__debug__" : Str)) = false) :
    RetR w k env m o (.Return (some (.Call (.Name (Str.ofString "bytes") p) [.Name x px] [] cpos)) pos :: rest) (.bytes b) := by
  intro A h₀ s c Q E hQ
  refine wpAny_execs_cons (wpAny_Return_some ?_)
  refine wpAny_Call_Name_kw (c.gdx.built (v := .type "bytes") rfl rfl hk (by decide) (callWith_type (any_backTo hst) ((Evs_cons (Ev_name (p := .ref a) hx hd) Evs_nil hna).args c.gdx (fun vs s₁ k₁ rs => ?_) hst)) (by decide))
  simp only [Reps, Rep] at rs
  obtain ⟨v, _, rfl, rfl, rfl⟩ := rs
  refine call_bytes_ba ((c.kp k₁).at_ _ hm) (by simp only [sizeLine]; omega) fun t tk => ?_
  exact hQ _ _ (k₁.kx.trans (Kp.of_toks (tk := tk)).kx) (by simp only [Rep]; exact ⟨_, rfl⟩)
end
end Mine

end

/-! part Fn5 -/
section
open PySem PySem.W PySem.Calls PyProof.Rows
set_option linter.unusedVariables false
set_option maxRecDepth 100000
namespace Mine

/-- after j stores -/
def bsw (b : Array UInt8) (n j : Nat) : Array UInt8 := ((List.range n).map fun q => if n - j ≤ q then b.toList.getD (n - 1 - q) 0 else 0).toArray
theorem bsw_size {b : Array UInt8} {n j : Nat} : (bsw b n j).size = n := by simp [bsw]
theorem bsw_zero {b : Array UInt8} {n : Nat} : bsw b n 0 = Array.replicate n 0 := by
  apply Array.ext
  · simp [bsw]
  · intro i h1 h2
    simp [bsw] at h1 ⊢
    omega
theorem bsw_step {b : Array UInt8} {n j : Nat} (h : j < n) : (bsw b n j).setIfInBounds (n - 1 - j) (b.toList.getD j 0) = bsw b n (j + 1) := by
  apply Array.ext
  · simp [bsw]
  · intro i h1 h2
    simp [bsw] at h1 h2
    rw [Array.getElem_setIfInBounds]
    simp only [bsw, List.getElem_toArray, List.getElem_map, List.getElem_range]
    split
    · rename_i e
      subst e
      rw [if_pos (by omega)]
      congr 1; omega
    · rename_i e
      have : (n - j ≤ i) ↔ (n - (j + 1) ≤ i) := by omega
      simp only [this]
    · rw [bsw_size]; exact h1
theorem bsw_full {b : Array UInt8} {n : Nat} (h : b.size = n) : bsw b n n = ⟨b.toList.reverse⟩ := by
  apply Array.ext
  · simp [bsw, h]
  · intro i h1 h2
    simp [bsw] at h1 h2
    simp [bsw, h]
    have : n - 1 - i < b.size := by omega
    simp [this]

theorem byteswap_fn {w : World} {b : Array UInt8} {n : Nat} (hb : b.size = n) (hn0 : 0 < n) (hn : n ≤ 100) (hsm : Builtin.Range.small 0 n n = true) (hN : Builtin.Range.rangeSize 0 n n = ((1 : Nat) : Int)) (hp : Builtin.divisionGoesByPylong ((n : Int) - 0) n = false) :
    FnC w 1 65 [.bytes b, .int n] (.bytes ⟨b.toList.reverse⟩) := by
  refine FnC_enter (names := [Str.ofString "data", Str.ofString "width"]) rfl rfl rfl rfl rfl rfl rfl rfl rfl ?_ rfl (by decide) rfl (by decide) ?_
  · intro vs h
    match vs, h with
    | [a, b], _ => rfl
  · intro L
    refine RetC_newBa (hna := by intro _; rfl) (hst := by rfl) (hs := by rfl) (n := n) (Ev_bi (id := "len") rfl rfl rfl (Evs_cons (Ev_name rfl) Evs_nil) (by rw [← hb]; exact len_bytes_bi (by omega))) (by omega) rfl rfl fun a => ?_
    rw [show Array.replicate n (0 : UInt8) = bsw b n (0 * n) by rw [Nat.zero_mul, bsw_zero]]
    refine RetR_cons (Nr1_for (ts := List.range 1) (g := fun (i : Nat) => PV.int (0 + (i : Int) * n)) (fun i => [(a, Rs.ba (bsw b n (i * n)))]) (fun _ => [(Str.ofString "swapped_data", .ref a), (Str.ofString "data", .bytes b), (Str.ofString "width", .int n)]) ?_ rfl ?_) ?_
    · exact ItX_range3 (hst := by rfl) (Evs_cons Ev_int (Evs_cons (Ev_bi (id := "len") rfl rfl rfl (Evs_cons (Ev_name rfl) Evs_nil) (by rw [← hb]; exact len_bytes_bi (by omega))) (Evs_cons (Ev_name rfl) Evs_nil))) (by omega) hsm hN hp rfl
    · intro i t ht
      have : i = 0 ∧ t = 0 := by
        rw [List.getElem?_eq_some_iff] at ht
        obtain ⟨h, e⟩ := ht
        simp at h e
        omega
      obtain ⟨rfl, rfl⟩ := this
      refine Nr.drop (x := Str.ofString "i") (p := PV.int (0 + ((0 : Nat) : Int) * n)) (Nr_cons (Nr1_for (ts := List.range n) (g := fun (j : Nat) => PV.int j) (fun j => [(a, Rs.ba (bsw b n (0 * n + j)))]) (fun _ => [(Str.ofString "i", PV.int (0 + ((0 : Nat) : Int) * n)), (Str.ofString "swapped_data", .ref a), (Str.ofString "data", .bytes b), (Str.ofString "width", .int n)]) ?_ rfl ?_) ?_) rfl
      · exact ItX_range1 (n := (n : Int)) (Ev_name rfl) (by omega) (by omega) rfl
      · intro j t ht
        have : t = j ∧ j < n := by
          rw [List.getElem?_eq_some_iff] at ht
          obtain ⟨h, e⟩ := ht
          simp at h e
          omega
        obtain ⟨rfl, hj⟩ := this
        refine Nr.drop (x := Str.ofString "j") (p := PV.int (t : Nat)) (Nr_cons (Nr1_setBa (hs := by rfl) (hd := by decide) (pre := []) (post := []) (j := n - 1 - t) (c := b.toList.getD t 0) rfl ?_ ?_ (by rw [bsw_size]; omega) (by rw [bsw_size]; omega)) ?_) rfl
        · refine Ev_item (a := .bytes b) (b := .int ((0 + ((0 : Nat) : Int) * n) + t)) (T := "bytes") (id := "bytes.__getitem__") (Ev_name rfl) (Ev_bin (Ev_name rfl) (Ev_name rfl) add_i) ?_ PT_bytes FB.slot_bytes_getitem.lookup
          have := Gi_bytes (w := w) (k := 0) (b := b) (i := (0 + ((0 : Nat) : Int) * n) + t) (by omega) (by simp) (by simp; omega)
          simpa using this
        · have e : (((n - 1 - t : Nat)) : Int) = 0 + ((0 : Nat) : Int) * n + n - 1 - t := by simp; omega
          rw [e]
          exact Ev_bin (Ev_bin (Ev_bin (Ev_name rfl) (Ev_name rfl) add_i) Ev_int sub_i) (Ev_name rfl) sub_i
        · simp only [Nat.zero_mul, Nat.zero_add, List.nil_append]
          rw [bsw_step (by omega)]
          exact Nr_nil
      · simp only [List.length_range, Nat.zero_mul, Nat.zero_add, Nat.one_mul]
        exact Nr_nil
    · rw [← bsw_full hb]
      refine RetR_bytesBa (hst := by rfl) (hna := by intro _; rfl) (hd := by decide) (a := a) (by simp) rfl (by rw [bsw_size]; omega) rfl
end Mine

end

/-! part Un -/
section
open PySem PySem.W PySem.Calls PyProof.Rows
set_option linter.unusedVariables false
set_option maxRecDepth 100000
namespace Mine

def TopA (A : Around) (env : Env) : Prop := ∃ outer, A.frames = some (env :: outer)
/-- statements that change objects, where the frame is the stack's top -/
def Nt1 (w : World) (k : Nat) (env : Env) (m : Mp) (o : Led) (st : Stmt) (m' : Mp) (o' : Led) : Prop :=
  adr o' = adr o ∧ ∀ A h₀ s, Sr w k A env h₀ s m o → TopA A env → ∀ (Q : Flow → Shared → Prop) (E : Value → Shared → Prop), (∀ s', Kx A env (adr o) s s' → Sr w k A env h₀ s' m' o' → Q .next s') → wpAny (Md w) A (exec st env) Q E s
def Nt (w : World) (k : Nat) (env : Env) (m : Mp) (o : Led) (st : List Stmt) (m' : Mp) (o' : Led) : Prop :=
  adr o' = adr o ∧ ∀ A h₀ s, Sr w k A env h₀ s m o → TopA A env → ∀ (Q : Flow → Shared → Prop) (E : Value → Shared → Prop), (∀ s', Kx A env (adr o) s s' → Sr w k A env h₀ s' m' o' → Q .next s') → wpAny (Md w) A (execs st env) Q E s
/-- a test beside objects that are being changed -/
def TsR (w : World) (k : Nat) (env : Env) (m : Mp) (o : Led) (e : Expr) (b : Bool) : Prop :=
  ∀ A h₀ s (Q : Bool → Shared → Prop) (E : Value → Shared → Prop), Sr w k A env h₀ s m o → (∀ s', Kp A s s' → Q b s') → wpAny (Md w) A (isTrue e env (eval e env)) Q E s

section
variable {w : World} {k : Nat} {env : Env} {m m' m'' : Mp} {A : Around} {h₀ : Heap} {s s' : Shared} {o o' o'' : Led} {x : Str} {p : PV} {v : Value} {a : Addr} {r : Rs}
theorem Nr1.t {st : Stmt} (h : Nr1 w k env m o st m' o') : Nt1 w k env m o st m' o' := ⟨h.1, fun A h₀ s c _ => h.2 A h₀ s c⟩
theorem Nt_nil : Nt w k env m o [] m o := ⟨rfl, fun A h₀ s c _ Q E hQ => wpAny_execs_nil (hQ s (.refl ..) c)⟩
theorem Nt_cons {st : Stmt} {rest : List Stmt} (h : Nt1 w k env m o st m' o') (hr : Nt w k env m' o' rest m'' o'') : Nt w k env m o (st :: rest) m'' o'' :=
  ⟨hr.1.trans h.1, fun A h₀ s c t Q E hQ => wpAny_execs_cons (h.2 A h₀ s c t _ _ fun s' q c' => hr.2 A h₀ s' c' t _ _ fun s'' q' c'' => hQ s'' (q.trans (by rw [← h.1]; exact q')) c'')⟩
theorem Nt.drop {st : List Stmt} {x : Str} {p : PV} (h : Nt w k env m o st ((x, p) :: m') o') (hx : m'.lookup x = none) : Nt w k env m o st m' o' :=
  ⟨h.1, fun A h₀ s c t Q E hQ => h.2 A h₀ s c t _ _ fun s' q c' => hQ s' q (c'.drop hx)⟩
theorem Ts.tr {e : Expr} {b : Bool} (h : Ts w k env m e b) : TsR w k env m o e b := fun A h₀ s Q E c hQ => h A h₀ s Q E c.gdx hQ

theorem Nt1_while {test : Expr} {body : List Stmt} {pos : Pos} (N : Nat) (mm : Nat → Mp) (oo : Nat → Led) (ht : ∀ i, i ≤ N → TsR w k env (mm i) (oo i) test (decide (i < N)))
    (hb : ∀ i, i < N → Nt w k env (mm i) (oo i) body (mm (i + 1)) (oo (i + 1))) : Nt1 w k env (mm 0) (oo 0) (.While test body [] pos) (mm N) (oo N) := by
  have ha : ∀ i, i ≤ N → adr (oo i) = adr (oo 0) := fun i => by
    induction i with
    | zero => intro _; rfl
    | succ i ih => intro hi; rw [(hb i (by omega)).1]; exact ih (by omega)
  refine ⟨ha _ (Nat.le_refl _), fun A h₀ s c tp Q E hQ => wpAny_While ?_⟩
  refine codeAny_whileLoop (fun n s' => ∃ i, i ≤ N ∧ n = N - i ∧ Sr w k A env h₀ s' (mm i) (oo i) ∧ Kx A env (adr (oo 0)) s s') (fun n s' h => ?_) N ⟨0, Nat.zero_le _, rfl, c, .refl ..⟩
  obtain ⟨i, hi, rfl, cs, kx⟩ := h
  refine ht i hi A h₀ s' _ _ cs fun s₁ k₁ => ?_
  by_cases hlt : i < N
  · rw [if_pos (decide_eq_true hlt)]
    refine (hb i hlt).2 A h₀ s₁ (cs.kp k₁) tp _ _ fun s₂ q c₂ => ?_
    rw [ha i hi] at q
    exact ⟨N - (i + 1), by omega, i + 1, hlt, rfl, c₂, kx.trans (k₁.kx.trans q)⟩
  · rw [if_neg (by simpa using hlt)]
    obtain rfl : i = N := by omega
    exact wpAny_execs_nil (hQ s₁ (kx.trans k₁.kx) (cs.kp k₁))

/-- a list's truth -/
theorem TsR_list {ys : List PV} {px : Pos} (hx : m.lookup x = some (.ref a)) (hm : (a, Rs.list ys) ∈ o) (hl : ys.length ≤ 1000) (hd : (x == ("__debug__" : Str)) = false) : TsR w k env m o (.Name x px) (decide (0 < ys.length)) := fun A h₀ s Q E c h => by
  refine isTrue_plain ?_
  refine wpAny_Name (c.gdx.load hx fun v rv => ?_) hd
  simp only [Rep] at rv
  subst rv
  obtain ⟨fl, vs, n, e1, rs⟩ := c.at_ _ hm
  have hl' := rs.length
  refine wpAny_truthy_list (items := vs.toArray) ⟨_, e1, rfl, n, rfl⟩ (by simp; omega) ?_
  have : (!vs.toArray.isEmpty) = decide (0 < ys.length) := by
    cases vs <;> cases ys <;> simp_all
  rw [this]
  exact h _ .of_toks

theorem Reps.split {h : Heap} : ∀ {ps qs : List PV} {vs : List Value}, Reps h (ps ++ qs) vs → ∃ us ws, vs = us ++ ws ∧ Reps h ps us ∧ Reps h qs ws
  | [], qs, vs, r => ⟨[], vs, rfl, Reps.nil, r⟩
  | p :: ps, qs, vs, r => by
    simp only [List.cons_append, Reps] at r
    obtain ⟨v, t, rfl, r1, r2⟩ := r
    obtain ⟨us, ws, rfl, a, b⟩ := Reps.split r2
    exact ⟨v :: us, ws, rfl, Reps.cons r1 a, b⟩
theorem il_concat {ns : List Int} {i : Int} : il (ns ++ [i]) = il ns ++ [.int i] := by simp [il]
/-- the last item is taken -/
theorem Nr1_pop {pre post : Led} {ns : List Int} {i : Int} {y : Str} {px py apos cpos pos : Pos} (hx : m.lookup x = some (.ref a)) (hy : env.kindOf y = some .local) (hsz : ns.length ≤ 1000)
    (hbase : attributeBase (.Name x px) "pop" env (eval (.Name x px) env) = eval (.Name x px) env) (hline : (apos.endLine == cpos.line) = true)
    (hs : swapsWith (.Call (.Attribute (.Name x px) "pop" apos) [] [] cpos) (some (.Name y py)) pos.line env = pure false) (hd : (x == ("__debug__" : Str)) = false) :
    Nr1 w k env m (pre ++ (a, .list (il (ns ++ [i]))) :: post) (.Assign [.Name y py] (.Call (.Attribute (.Name x px) "pop" apos) [] [] cpos) pos) ((y, .int i) :: m) (pre ++ (a, .list (il ns)) :: post) := by
  refine ⟨by simp [adr], fun A h₀ s c Q E hQ => wpAny_Assign_Name ?_ hs⟩
  have hm : (a, Rs.list (il (ns ++ [i]))) ∈ pre ++ (a, Rs.list (il (ns ++ [i]))) :: post := by simp
  obtain ⟨fl, vs, n, e1, rs⟩ := c.at_ _ hm
  refine c.meth F.plainAttrs_list F.slot_list_pop F.type_list_pop hx ⟨_, e1, rfl, rfl⟩ Evs_nil (fun us s₁ k₁ ru => ?_) hbase hline rfl (by simp) hd
  simp only [Reps] at ru
  subst ru
  have c1 := c.kp k₁
  obtain ⟨fl, vs, n, e1, rs⟩ := c1.at_ _ hm
  have hl := rs.length
  simp only [il, List.length_map, List.length_append, List.length_cons, List.length_nil] at hl
  obtain ⟨t, et⟩ := rs.int_at (j := ns.length) (by simp)
  have et' : vs.toArray[vs.toArray.size - 1]? = some (.int i t) := by
    simp only [List.size_toArray, hl]
    simpa using et
  refine call_meets F.slot_list_pop F.entry_list_pop ⟨_, e1, rfl⟩ (F.args_list_pop_1 _) (MeetsSeq.list_pop_last a vs.toArray n _ et' (by rw [List.size_toArray]; simp only [sizeLine]; omega)) ⟨e1, ?_⟩
  obtain ⟨n', e2, sb⟩ := rs_update e1 (fun xs => xs.eraseIdxIfInBounds (vs.toArray.size - 1))
  have ev : (vs.toArray.eraseIdxIfInBounds (vs.toArray.size - 1)).toList = vs.take ns.length := by
    rw [Array.eraseIdxIfInBounds]
    simp only [List.size_toArray, hl]
    rw [dif_pos (by omega)]
    simp [List.eraseIdx_eq_take_drop_succ, hl]
  rw [ev] at e2
  have rs' : Reps s₁.heap (il ns) (vs.take ns.length) := by
    rw [il_concat] at rs
    obtain ⟨us, ws, rfl, r1, r2⟩ := rs.split
    rw [List.take_left' (by have := r1.length; simpa [il] using this)]
    exact r1
  have hr : (Rs.list (il ns)).At (s₁.heap.update a (Obj.mapSeq fun xs => xs.eraseIdxIfInBounds (vs.toArray.size - 1))) a := ⟨il_flat, _, n', e2, rs'.flat il_flat⟩
  obtain ⟨c2, q2⟩ := c1.set (tk := s₁.toks) sb hr
  have ea : adr (pre ++ (a, Rs.list (il ns)) :: post) = adr (pre ++ (a, Rs.list (il (ns ++ [i]))) :: post) := by simp [adr]
  refine c2.store (p := .int i) (by simp only [Rep]; exact ⟨t, rfl⟩) hy fun s₃ q c₃ => hQ s₃ ((k₁.kx.trans q2).trans (by rw [← ea]; exact q)) c₃
end
end Mine

end

/-! part Un2 -/
section
open PySem PySem.W PySem.Calls PyProof.Rows
set_option linter.unusedVariables false
set_option maxRecDepth 100000
namespace Mine
section
variable {w : World} {k : Nat} {env : Env} {m m' m'' : Mp} {A A' : Around} {h₀ : Heap} {s s' : Shared} {o o' o'' : Led} {x : Str} {p : PV} {v : Value} {a : Addr} {r : Rs}

/-- names read alike whatever is handled -/
theorem Gd.load' {Q : Value → Shared → Prop} {E : Value → Shared → Prop} (g : Gd w k A env h₀ s.heap m) (hx : m.lookup x = some p) (h : ∀ v, Rep s.heap p v → Q v s) : wpAny (Md w) A' (loadName env x) Q E s := by
  obtain ⟨mv, n, r⟩ := g.mem
  obtain ⟨v, r1, r2⟩ := r x p hx
  rcases r2 with ⟨a, b⟩ | ⟨a, c, b, d⟩
  · exact wpAny_loadName_local g.kind a n b (h v r1)
  · rcases a with a | ⟨a, a'⟩
    · exact wpAny_loadName_cell g.kind a b d (h v r1)
    · exact wpAny_loadName_free g.kind a b d (h v r1) a'
theorem Gd.built' {Q : Value → Shared → Prop} {E : Value → Shared → Prop} {pos : Pos} (g : Gd w k A env h₀ s.heap m) (hx : nsIn (K w) mainGlobals x = some none) (hb : bootBuiltins x = some v)
    (hk : env.kindOf x = some .globalImplicit) (hn : x ≠ "__name__") (h : Q v s) (hd : (x == ("__debug__" : Str)) = false := by decide) : wpAny (Md w) A' (eval (.Name x pos) env) Q E s := by
  refine Name_function_global g.kind hk ?_ hd
  have G := g.cx.gl
  obtain ⟨mg, n⟩ := G.g
  obtain ⟨mb, n', b⟩ := G.b
  exact loadGlobal_builtin (env := env) (by rw [g.glob]; exact n) (mg_none_of G.k n hx) (by rw [g.bins]; exact n') ((b x hn).trans hb) h

def isI (i : Int) : Value → Bool
  | .int n _ => n == i
  | _ => false
theorem isI_eq {h : Heap} {ns : List Int} {vs : List Value} {i : Int} {t : Tok} (rs : Reps h (il ns) vs) : ∀ y, y ∈ vs.toArray → MeetsSeq.EqGives y (.int i t) (isI i y) := fun y hy => by
  have hy : y ∈ vs := by simpa using hy
  induction ns generalizing vs with
  | nil => simp only [il, List.map_nil, Reps] at rs; subst rs; simp at hy
  | cons n ns ih =>
    simp only [il, List.map_cons, Reps, Rep] at rs
    obtain ⟨v, tl, rfl, ⟨u, rfl⟩, rs⟩ := rs
    rcases List.mem_cons.mp hy with rfl | hy
    · exact MeetsSeq.EqGives.int n i u t
    · exact ih rs (by simpa using hy) hy
theorem isI_at {h : Heap} {ns : List Int} {vs : List Value} {i : Int} {j : Nat} (rs : Reps h (il ns) vs) (hj : j < ns.length) (hj' : j < vs.length) : isI i vs[j] = (ns[j] == i) := by
  obtain ⟨t, e⟩ := rs.int_at hj
  rw [List.getElem?_eq_getElem hj'] at e
  rw [Option.some.inj e]
  simp [isI, List.getD, hj]
theorem Reps.eraseIdx {h : Heap} : ∀ {ns : List Int} {vs : List Value} {j : Nat}, Reps h (il ns) vs → Reps h (il (ns.eraseIdx j)) (vs.eraseIdx j)
  | [], vs, j, r => by simp only [il, List.map_nil, Reps] at r; subst r; simp [il, Reps]
  | n :: ns, vs, j, r => by
    simp only [il, List.map_cons, Reps, Rep] at r
    obtain ⟨v, tl, rfl, ⟨u, rfl⟩, rs⟩ := r
    cases j with
    | zero => exact rs
    | succ j => simp only [List.eraseIdx_cons_succ, il, List.map_cons]; exact Reps.cons (by simp only [Rep]; exact ⟨u, rfl⟩) (Reps.eraseIdx rs)

/-- one that is there is removed -/
theorem Nt1_try_hit {pre post : Led} {ns : List Int} {i : Int} {y : Str} {px py apos cpos epos pos : Pos} {hd₀ : ExceptHandler} (hx : m.lookup x = some (.ref a)) (hy : m.lookup y = some (.int i)) (hi : i ∈ ns) (hsz : ns.length ≤ 1000)
    (hbase : attributeBase (.Name x px) "remove" env (eval (.Name x px) env) = eval (.Name x px) env) (hline : (apos.endLine == cpos.line) = true)
    (hin : interactive env = false) (hs : swapsWith (.Call (.Attribute (.Name x px) "remove" apos) [.Name y py] [] cpos) none epos.line env = pure false)
    (hd : (x == ("__debug__" : Str)) = false) (hd' : (y == ("__debug__" : Str)) = false) :
    Nt1 w k env m (pre ++ (a, .list (il ns)) :: post) (.Try [.Expr (.Call (.Attribute (.Name x px) "remove" apos) [.Name y py] [] cpos) epos] [hd₀] [] [] pos) m (pre ++ (a, .list (il (ns.erase i))) :: post) := by
  refine ⟨by simp [adr], fun A h₀ s c tp Q E hQ => wpAny_Try_except (wpAny_execs_cons (wpAny_Expr ?_ hin hs))⟩
  have hm : (a, Rs.list (il ns)) ∈ pre ++ (a, Rs.list (il ns)) :: post := by simp
  obtain ⟨fl, vs, n, e1, rs⟩ := c.at_ _ hm
  refine c.meth F.plainAttrs_list F.slot_list_remove F.type_list_remove hx ⟨_, e1, rfl, rfl⟩ (Evs_cons (Ev_name hy hd') Evs_nil) (fun us s₁ k₁ ru => ?_) hbase hline rfl (by simp) hd
  simp only [Reps, Rep] at ru
  obtain ⟨u, tl, rfl, ⟨t, rfl⟩, rfl⟩ := ru
  have c1 := c.kp k₁
  obtain ⟨fl, vs, n, e1, rs⟩ := c1.at_ _ hm
  have hl := rs.length
  simp only [il, List.length_map] at hl
  have hj : ns.idxOf i < ns.length := List.idxOf_lt_length_of_mem hi
  refine call_meets F.slot_list_remove F.entry_list_remove ⟨_, e1, rfl⟩ (F.args_list_remove_2 _ _) (MeetsSeq.list_remove a vs.toArray n _ (isI i) (isI_eq rs) (ns.idxOf i) (by simp; omega) ?_ ?_ (by rw [List.size_toArray]; simp only [sizeLine]; omega)) ⟨e1, ?_⟩
  · rw [List.getElem_toArray, isI_at rs hj (by omega)]
    simp
  · intro q hq hlt
    rw [List.getElem_toArray, isI_at rs (by omega) (by simpa using hq)]
    have hq' := List.not_of_lt_findIdx (p := fun x => x == i) (xs := ns) (i := q) hlt
    simpa using hq'
  · obtain ⟨n', e2, sb⟩ := rs_update e1 (fun xs => xs.eraseIdxIfInBounds (ns.idxOf i))
    have ev : (vs.toArray.eraseIdxIfInBounds (ns.idxOf i)).toList = vs.eraseIdx (ns.idxOf i) := by
      rw [Array.eraseIdxIfInBounds]
      rw [dif_pos (by simp; omega)]
      simp
    rw [ev] at e2
    have hr : (Rs.list (il (ns.erase i))).At (s₁.heap.update a (Obj.mapSeq fun xs => xs.eraseIdxIfInBounds (ns.idxOf i))) a := by
      rw [show ns.erase i = ns.eraseIdx (ns.idxOf i) from List.erase_eq_eraseIdx_of_idxOf rfl]
      exact ⟨il_flat, _, n', e2, rs.eraseIdx.flat il_flat⟩
    obtain ⟨c2, q2⟩ := c1.set (tk := s₁.toks) sb hr
    exact wpAny_execs_nil (wpAny_execs_nil (hQ _ (k₁.kx.trans q2) c2))

/-- one that is not there: the handler notes it -/
theorem Nt1_try_miss {o₂ : Led} {b : Addr} {ms ns : List Int} {i : Int} {y z : Str} {px py apos cpos epos pos vp pz py' apos' cpos' epos' hpos : Pos} (hx : m.lookup x = some (.ref a)) (hy : m.lookup y = some (.int i)) (hz : m.lookup z = some (.ref b))
    (hm : (a, Rs.list (il ns)) ∈ (b, Rs.list (il ms)) :: o₂) (hi : i ∉ ns) (hsz : ms.length ≤ 1000) (hk : env.kindOf (Str.ofString "ValueError") = some .globalImplicit) {L : Addr} (hfr : env.frame = some L)
    (hbase : attributeBase (.Name x px) "remove" env (eval (.Name x px) env) = eval (.Name x px) env) (hline : (apos.endLine == cpos.line) = true)
    (hin : interactive env = false) (hs : swapsWith (.Call (.Attribute (.Name x px) "remove" apos) [.Name y py] [] cpos) none epos.line env = pure false)
    (hbase' : attributeBase (.Name z pz) "append" env (eval (.Name z pz) env) = eval (.Name z pz) env) (hline' : (apos'.endLine == cpos'.line) = true)
    (hs' : swapsWith (.Call (.Attribute (.Name z pz) "append" apos') [.Name y py'] [] cpos') none epos'.line env = pure false)
    (hd : (x == ("__debug__" : Str)) = false) (hd' : (y == ("__debug__" : Str)) = false) (hd2 : (z == ("__debug__" : Str)) = false)
    (htr : backTo cpos' (starEach [.Name y py'] env) = [(false, eval (.Name y py') env)])
    (hfew : ((backTo cpos' (starEach [.Name y py'] env)).all (fun x => !x.1) && (backToKw cpos' (keywordEach [] env)).all (fun x => x.1.isSome)
      && decide (([.Name y py'] : List Expr).length + ([] : List Keyword).length + (if ([] : List Keyword).isEmpty then 0 else 1) < 30)) = true) :
    Nt1 w k env m ((b, .list (il ms)) :: o₂) (.Try [.Expr (.Call (.Attribute (.Name x px) "remove" apos) [.Name y py] [] cpos) epos] [.ExceptHandler (some (.Name (Str.ofString "ValueError") vp)) none [.Expr (.Call (.Attribute (.Name z pz) "append" apos') [.Name y py'] [] cpos') epos'] hpos] [] [] pos) m
      ((b, .list (il (ms ++ [i]))) :: o₂) := by
  refine ⟨by simp [adr], fun A h₀ s c tp Q E hQ => wpAny_Try_except (wpAny_execs_cons (wpAny_Expr ?_ hin hs))⟩
  obtain ⟨fl, vs, n, e1, rs⟩ := c.at_ _ hm
  refine c.meth F.plainAttrs_list F.slot_list_remove F.type_list_remove hx ⟨_, e1, rfl, rfl⟩ (Evs_cons (Ev_name hy hd') Evs_nil) (fun us s₁ k₁ ru => ?_) hbase hline rfl (by simp) hd
  simp only [Reps, Rep] at ru
  obtain ⟨u, tl, rfl, ⟨t, rfl⟩, rfl⟩ := ru
  have c1 := c.kp k₁
  obtain ⟨fl, vs, n, e1, rs⟩ := c1.at_ _ hm
  have hl := rs.length
  simp only [il, List.length_map] at hl
  refine call_meets F.slot_list_remove F.entry_list_remove ⟨_, e1, rfl⟩ (F.args_list_remove_2 _ _) (MeetsSeq.list_remove_none a vs.toArray n _ (isI i) (isI_eq rs) ?_) ⟨e1, c1.gd.ok.hand, fun h₂ tk e nx => ?_⟩
  · intro q hq
    rw [List.getElem_toArray, isI_at rs (by simp at hq; omega) (by simpa using hq)]
    exact beq_eq_false_iff_ne.mpr fun h => hi (h ▸ List.getElem_mem _)
  obtain ⟨outer, hA⟩ := tp
  obtain ⟨outer', hA', hfo⟩ := c1.gdx.base.frames
  rw [hA] at hA'
  cases hA'
  obtain ⟨oe, te, ee, ec, ed⟩ := nx.there
  show wpAny _ _ (noteFrame (.ref e) env) _ _ _
  unfold noteFrame
  simp only [hfr]
  refine wpAny_bind (wpAny_field ee ed (x := .none) rfl ?_)
  rw [if_neg (by decide)]
  have hfe : e ∉ frs A := fun hb => by
    obtain ⟨_, ob, _, _, e', _⟩ := frame_dict hA hfo hb
    rw [nx.new] at e'; cases e'
  have fun_frames : ∀ l : List Env, (∀ x ∈ l, x ∈ env :: outer) → h₂.FunFrames (hideAll h₂ (e :: frs A)) l := fun l => by
    induction l with
    | nil => intro _; trivial
    | cons en l ih =>
      intro hl
      obtain ⟨a1, L', ob, es, ep, e1', e2', e3', e4'⟩ := hfo en (hl en (by simp))
      refine ⟨a1, ⟨L', ob, e1', hideAll_none _ ?_, nx.keeps _ _ e3', fun vs q => by rw [e4'] at q; cases q⟩, ih fun x hx => hl x (by simp [hx])⟩
      refine List.mem_cons_of_mem _ ?_
      unfold frs; rw [hA]; exact List.mem_filterMap.mpr ⟨en, hl en (by simp), e1'⟩
  refine wpAny_newEntry (base := hideAll h₂ (e :: frs A)) (s := { s₁ with heap := h₂, toks := tk }) hA (fun_frames _ fun x h => h) hfr ee (ext_hideAll _ _) (hideAll_none _ (by simp)) ed (by simp) fun h₃ left => ?_
  obtain ⟨stay, ff, ⟨oe3, vs3, T, oT, ts, t1, t2, t3, t4, t5, t6, t7, t8, t9⟩, sl3⟩ := left
  have keep3 : ∀ b ob, s₁.heap.get? b = some ob → b ∉ frs A → h₃.get? b = some ob := fun b ob eb nb => stay b ob (hideAll_get _ (nx.keeps _ _ eb) fun hm => by
    rcases List.mem_cons.mp hm with rfl | hm
    · rw [nx.new] at eb; cases eb
    · exact nb hm)
  have hT1 : s₁.heap.get? T = none := by
    cases q : s₁.heap.get? T with
    | none => rfl
    | some ob =>
      by_cases hTf : T ∈ frs A
      · obtain ⟨en, hen, hef⟩ := mem_frs hA hTf
        have := Heap.FunFrames.mem ff (b := T) (List.mem_filterMap.mpr ⟨en, hen, hef⟩)
        obtain ⟨_, o', q1, q2⟩ := this
        rw [t7] at q1; cases q1
        exact absurd t8 (q2 ts)
      · have := hideAll_get (e :: frs A) (nx.keeps _ _ q) (fun hm => by
          rcases List.mem_cons.mp hm with rfl | hm
          · rw [nx.new] at q; cases q
          · exact hTf hm)
        rw [t5] at this; cases this
  have fr3 : ∀ b ob, s₁.heap.get? b = some ob → ∃ sl, h₃.get? b = some { ob with slots := sl } := fun b ob eb => by
    by_cases hb : b ∈ frs A
    · obtain ⟨_, o', es, ep, q1, q2⟩ := frame_dict hA hfo hb
      rw [eb] at q1; cases q1
      exact sl3 b ob (nx.keeps _ _ eb) fun vs q => by rw [q2] at q; cases q
    · exact ⟨ob.slots, keep3 b ob eb hb⟩
  have k3 : Kp A s₁ { s₁ with heap := h₃, toks := tk } := ⟨⟨_, _, rfl⟩, keep3, fr3⟩
  have c3 := c1.kp k3
  refine wpAny_handleBy_builtin (X := "ValueError") (T := "ValueError") (b := true) (by rw [isSubtype_type]; kernel_rfl) (by first | (rw [isSubtype_type]; kernel_rfl) | decide +kernel) (by rw [isSubtype_type]; kernel_rfl) ?_
  refine c3.gdx.built' (v := .type "ValueError") rfl rfl hk (by decide) ⟨rfl, ⟨oe3, t1, t2.trans ec⟩, ?_⟩ (by decide)
  rw [if_pos rfl]
  refine wpAny_setFlight_none (s := { s₁ with heap := h₃, toks := tk }) t1 t3 t4 t7 t8 (Array.getElem?_eq_some_iff.mp t9).1 ?_
  have k4 : Kp A s₁ { s₁ with heap := h₃.update T (Obj.mapFields (·.setIfInBounds 3 .none)), toks := tk } := by
    refine ⟨⟨_, _, rfl⟩, fun b ob eb nb => ?_, fun b ob eb => ?_⟩
    · exact (Heap.get?_update_other _ _ (fun q => by rw [← q, hT1] at eb; cases eb)).trans (keep3 b ob eb nb)
    · obtain ⟨sl, q⟩ := fr3 b ob eb
      exact ⟨sl, (Heap.get?_update_other _ _ (fun q => by rw [← q, hT1] at eb; cases eb)).trans q⟩
  have c4 := c1.kp k4
  refine wpAny_execs_cons (wpAny_Expr ?_ hin hs')
  have hm' : (b, Rs.list (il ms)) ∈ (b, Rs.list (il ms)) :: o₂ := by simp
  obtain ⟨fl', vs', n', e1', rs'⟩ := c4.at_ _ hm'
  refine wpAny_Call_append hbase' hfew hline' htr (wpAny_Name (c4.gdx.load' hz fun v rv => ?_) hd2)
  simp only [Rep] at rv
  subst rv
  refine ⟨b, vs'.toArray, rfl, ⟨_, n', e1', rfl, rfl, rfl⟩, wpAny_Name (c4.gdx.load' hy fun v rv => ?_) hd'⟩
  simp only [Rep] at rv
  obtain ⟨t', rfl⟩ := rv
  have hl' := rs'.length
  simp only [il, List.length_map] at hl'
  refine call_meets F.slot_list_append F.entry_list_append ⟨_, e1', rfl⟩ (F.args_list_append_2 _ _) (list_append b vs'.toArray n' _ (by rw [List.size_toArray]; simp only [sizeLine]; omega)) ⟨e1', ?_⟩
  obtain ⟨n2, e2, sb⟩ := rs_update e1' (fun xs => xs.push (.int i t'))
  have hr : (Rs.list (il (ms ++ [i]))).At ((h₃.update T (Obj.mapFields (·.setIfInBounds 3 .none))).update b (Obj.mapSeq fun xs => xs.push (.int i t'))) b := by
    refine ⟨il_flat, vs' ++ [.int i t'], n2, by rw [e2]; simp, ?_⟩
    rw [il_concat]
    refine (rs'.flat il_flat).append (Reps.cons ?_ Reps.nil)
    simp only [Rep]; exact ⟨_, rfl⟩
  obtain ⟨c5, q5⟩ := c4.set (pre := []) (tk := tk) sb hr
  exact wpAny_execs_nil (hQ _ ((k₁.trans k4).kx.trans q5) c5)
end
end Mine

end

/-! part Un3 -/
section
open PySem PySem.W PySem.Calls PyProof.Rows
set_option linter.unusedVariables false
set_option maxRecDepth 100000
namespace Mine

/-- entering a function whose arguments are changed (no cells in it) -/
theorem Fn_enterR {w : World} {k : Nat} {f : Addr} {fd : FuncData} {body : List Stmt} {oc : Value} {od : Option Addr} {osl : Array (Option Value)} {names : List Str} {ps : List PV} {o : Led} {P : Value → Shared → Prop}
    (ho : (K w).lookup f = some ⟨oc, od, .func fd, osl⟩) (hbody : fd.body = .stmts body) (hcode : codeIn (K w) fd.code fd.qualname = true) (hclo : fd.closure = []) (hgl : fd.globals = mainGlobals) (hbt : fd.builtins = builtinsNs)
    (hkind : fd.scope.kind = .function) (hco : fd.scope.isCoroutine = false) (hgen : fd.scope.isGenerator = false)
    (hbind : ∀ vs, vs.length = names.length → bindArgs fd ⟨vs, []⟩ = pure (names.zip vs)) (hlen : names.length = ps.length) (hnd : names.Nodup)
    (hks : (names.all fun y => fd.scope.names.lookup y == some .local) = true)
    (hcn : ∀ n, cellsFrom n fd.scope.names [] = [])
    (h : ∀ L A h₀ s, Sr w k A (enter fd L f) h₀ s (names.zip ps) o → TopA A (enter fd L f) → ∀ (Q : Flow → Shared → Prop) (E : Value → Shared → Prop), (∀ v s', Kx A (enter fd L f) (adr o) s s' → P v s' → Q (.ret v) s') → wpAny (Md w) A (execs body (enter fd L f)) Q E s) :
    ∀ A s vs, Cx w (k + 1) A (hideAll s.heap (adr o)) → Reps (hideAll s.heap (adr o)) ps vs → (∀ p ∈ o, p.2.At s.heap p.1) → (adr o).Nodup → ∀ (Q : Value → Shared → Prop) (E : Value → Shared → Prop), (∀ v s', Kc A (adr o) s s' → P v s' → Q v s') → wpAny (Md w) A (call (.ref f) vs) Q E s := by
  intro A s vs cx rs hat hndo Q E hQ
  have Gh := cx.gl
  have G := Gh.keeps (ext_hideAll s.heap (adr o))
  have hvl : vs.length = names.length := by rw [rs.length, hlen]
  refine wpAny_call (codeAny_call_function (by have := cx.ok.deep; omega) (G.k _ _ ho) rfl hco hgen hbody (codeRec_of G.k hcode) ?_)
  rw [hbind vs hvl]
  refine wpAny_pure ?_
  rw [hclo, hgl, hbt]
  have hz : ((names.zip vs).all fun y => fd.scope.names.lookup y.1 == some .local || fd.scope.names.lookup y.1 == some .cell) = true := by
    rw [List.all_eq_true] at hks ⊢
    intro y hy
    rw [hks _ (List.of_mem_zip hy).1]; rfl
  refine wpAny_newFunctionEnv_cells hkind (fun y hy => kindsX hz _ y hy) fun env he s₁ x => ?_
  subst he
  refine ⟨G.nolimit.keeps x.toInCall.keep, codeAny_func ?_⟩
  obtain ⟨h₀, gl, kp, outer, hA, hf⟩ := cx.base
  have keep := x.toInCall.keep
  have hL : ∀ b o, s.heap.get? b = some o → b ≠ s.heap.objs.size := fun b o e => Nat.ne_of_lt (Heap.lt_size e)
  have hnc : (enter fd s.heap.objs.size f).cells = [] := hcn _
  have hLX : s.heap.objs.size ∉ adr o := fun hm => by
    obtain ⟨p, hp, e⟩ := List.mem_map.mp hm
    obtain ⟨ob, e', _⟩ := (hat p hp).there
    rw [e] at e'
    exact hL _ _ e' rfl
  have fresh : ∀ a, s.heap.objs.size ≤ a → h₀.get? a = none := fun a ha => by
    cases e : h₀.get? a with
    | none => rfl
    | some o => exact absurd (Heap.lt_size (of_hideAll _ (kp a o e))) (Nat.not_lt.mpr ha)
  obtain ⟨h₁, tk, rfl, _⟩ := x.done
  have keepH : Ext (hideAll s.heap (adr o)) (hideAll h₁ (adr o)) := fun b ob e => hideAll_get _ (keep b ob (of_hideAll _ e)) (hideAll_nm e)
  have hA' : (A.deeper (enter fd s.heap.objs.size f)).frames = some (enter fd s.heap.objs.size f :: outer) := Around.frames_deeper hA
  have nsH : ∀ {mv}, h₁.Ns s.heap.objs.size mv → (hideAll h₁ (adr o)).Ns s.heap.objs.size mv := fun ⟨ob, es, ep, e1, r⟩ => ⟨ob, es, ep, hideAll_get _ e1 hLX, r⟩
  have g : Gd w k (A.deeper (enter fd s.heap.objs.size f)) (enter fd s.heap.objs.size f) h₀ (hideAll h₁ (adr o)) (names.zip ps) := by
    refine ⟨cx.ok.deeper, hkind, rfl, rfl, ⟨gl, kp.trans keepH, ⟨_, hA', fun e he => ?_⟩, fresh _ (Nat.le_refl _), (fun y c hm => by rw [hnc] at hm; cases hm)⟩, (fun y z c e1 e2 => by rw [hnc] at e1; cases e1), _, nsH x.toInCall.ns, fun y p e => ?_⟩
    · rcases List.mem_cons.mp he with rfl | he
      · obtain ⟨ob, es, ep, e1, e2, _⟩ := nsH x.toInCall.ns
        exact ⟨by rw [show (enter fd s.heap.objs.size f).scope.kind = _ from hkind]; decide, _, ob, es, ep, rfl, fresh _ (Nat.le_refl _), e1, e2⟩
      · obtain ⟨a, L, ob, es, ep, e1, e2, e3, e4⟩ := hf e he
        exact ⟨a, L, ob, es, ep, e1, e2, keepH _ _ e3, e4⟩
    · obtain ⟨v, a, b, c⟩ := (bind_reads (enter fd s.heap.objs.size f).kindOf names ps vs hnd rs hlen (fun _ => none) (fun _ => none) y).1 p e
      have hy : y ∈ names := (List.of_mem_zip (mem_of_lookup e)).1
      have q' : (enter fd s.heap.objs.size f).kindOf y = some .local := beq_iff_eq.mp (List.all_eq_true.mp hks y hy)
      exact ⟨v, Rep.mono (Ext.q keepH) _ _ a, .inl ⟨q', b q'⟩⟩
  refine h s.heap.objs.size (A.deeper (enter fd s.heap.objs.size f)) h₀ _ ⟨g, fun p hp => (hat p hp).same fun ob e => keep _ _ e, hndo⟩ ⟨outer, hA'⟩ _ _ fun v s' q rv => hQ v s' ⟨?_, fun b ob e n z => ?_, fun b ob e z => ?_⟩ rv
  · obtain ⟨h', t', rfl⟩ := q.same
    exact ⟨h', t', rfl⟩
  · refine q.up b ob (keep b ob e) (fun hb => ?_) (hL b ob e) (fun y hm => by rw [hnc] at hm; cases hm) z
    obtain ⟨e', he', hfe⟩ := mem_frs hA' hb
    rcases List.mem_cons.mp he' with rfl | he'
    · cases hfe; exact hL _ _ e rfl
    · exact n (by unfold frs; rw [hA]; exact List.mem_filterMap.mpr ⟨e', he', hfe⟩)
  · exact q.fr b ob (keep b ob e) (hL b ob e) (fun y hm => by rw [hnc] at hm; cases hm) z

/-- what is computed -/
def ustep (s : List Int × List Int) (i : Int) : List Int × List Int := if i ∈ s.2 then (s.1, s.2.erase i) else (s.1 ++ [i], s.2)
def uld (xs ys : List Int) : List Int × List Int := xs.reverse.foldl ustep ([], ys)
def ust (xs ys : List Int) (j : Nat) : List Int × List Int := (xs.reverse.take j).foldl ustep ([], ys)
theorem ust_len (l : List Int) : ∀ s : List Int × List Int, (l.foldl ustep s).1.length ≤ s.1.length + l.length ∧ (l.foldl ustep s).2.length ≤ s.2.length := by
  induction l with
  | nil => intro s; simp
  | cons i l ih =>
    intro s
    have := ih (ustep s i)
    have h1 : (ustep s i).1.length ≤ s.1.length + 1 ∧ (ustep s i).2.length ≤ s.2.length := by
      unfold ustep; split
      · exact ⟨by simp, List.length_erase_le⟩
      · simp
    simp only [List.foldl_cons, List.length_cons]
    omega
theorem ust_succ {xs ys : List Int} {j : Nat} (h : j < xs.length) : ust xs ys (j + 1) = ustep (ust xs ys j) (xs.getD (xs.length - 1 - j) 0) := by
  unfold ust
  rw [List.take_add_one, List.foldl_append]
  have : xs.reverse[j]? = some (xs.getD (xs.length - 1 - j) 0) := by
    rw [List.getElem?_reverse h, List.getElem?_eq_getElem (by omega)]
    simp [List.getD, List.getElem?_eq_getElem (show xs.length - 1 - j < xs.length by omega)]
  rw [this]; rfl
theorem take_last {xs : List Int} {j : Nat} (h : j < xs.length) : xs.take (xs.length - j) = xs.take (xs.length - (j + 1)) ++ [xs.getD (xs.length - 1 - j) 0] := by
  have e : xs.length - j = (xs.length - (j + 1)) + 1 := by omega
  have e2 : xs.length - 1 - j = xs.length - (j + 1) := by omega
  rw [e, e2, List.take_add_one]
  simp [List.getD, List.getElem?_eq_getElem (show xs.length - (j + 1) < xs.length by omega)]
end Mine

end

/-! part Un4 -/
section
open PySem PySem.W PySem.Calls PyProof.Rows
set_option linter.unusedVariables false
set_option maxRecDepth 100000
namespace Mine

theorem unord_fn {w : World} {xs ys : List Int} {a₁ a₂ : Addr} (hx : xs.length ≤ 400) (hy : ys.length ≤ 400) (hne : a₁ ≠ a₂) :
    ∀ A s, Cx w 1 A (hideAll s.heap [a₁, a₂]) → (Rs.list (il xs)).At s.heap a₁ → (Rs.list (il ys)).At s.heap a₂ → ∀ (Q : Value → Shared → Prop) (E : Value → Shared → Prop),
      (∀ v s', Kc A [a₁, a₂] s s' → (Rs.list (il [])).At s'.heap a₁ → (Rs.list (il (uld xs ys).2)).At s'.heap a₂ → Rep s'.heap (.tup [.list (il (uld xs ys).1), .list (il (uld xs ys).2)]) v → Q v s') →
      wpAny (Md w) A (call (.ref 28) [.ref a₁, .ref a₂]) Q E s := by
  intro A s cx h1 h2 Q E hQ
  have hlen : ∀ j, (ust xs ys j).1.length ≤ 400 ∧ (ust xs ys j).2.length ≤ 400 := fun j => by
    have := ust_len (xs.reverse.take j) ([], ys)
    have hl : (xs.reverse.take j).length ≤ xs.length := by rw [List.length_take, List.length_reverse]; omega
    simp only [List.length_nil] at this
    unfold ust
    omega
  refine Fn_enterR (o := [(a₁, .list (il xs)), (a₂, .list (il ys))]) (ps := [.ref a₁, .ref a₂]) (names := [Str.ofString "expected", Str.ofString "actual"])
    (P := fun v s' => (Rs.list (il [])).At s'.heap a₁ ∧ (Rs.list (il (uld xs ys).2)).At s'.heap a₂ ∧ Rep s'.heap (.tup [.list (il (uld xs ys).1), .list (il (uld xs ys).2)]) v)
    rfl rfl rfl rfl rfl rfl rfl rfl rfl ?_ rfl (by decide) rfl (fun n => rfl) ?_ A s _ cx ?_ ?_ ?_ Q E fun v s' kc p => hQ v s' kc p.1 p.2.1 p.2.2
  · intro vs h
    match vs, h with
    | [a, b], _ => rfl
  · intro L A h₀ s c tp Q E hQ
    refine wpAny_execs_cons (wpAny_Assign_Name ((New_list (ps := []) Evs_nil (by simp) (by decide)) A h₀ s c.gdx _ _ fun a₃ s₁ k₁ hf hr => ?_))
    refine (c.new (r := .list (il [])) k₁ hf hr).store (p := .ref a₃) (by simp only [Rep]) rfl fun s₂ q c₂ => ?_
    have e0 : ∀ l : List Int, l.take (l.length - 0) = l := fun l => by simp
    refine wpAny_execs_cons ((Nt1_while xs.length (fun _ => [(Str.ofString "missing", .ref a₃), (Str.ofString "expected", .ref a₁), (Str.ofString "actual", .ref a₂)])
      (fun j => [(a₃, .list (il (ust xs ys j).1)), (a₁, .list (il (xs.take (xs.length - j)))), (a₂, .list (il (ust xs ys j).2))]) (fun j hj => ?_) (fun j hj => ?_)).2 A h₀ s₂ (by rw [e0]; exact c₂) tp _ _ fun s₃ q₃ c₃ => ?_)
    · have e : decide (j < xs.length) = decide (0 < (il (xs.take (xs.length - j))).length) := by
        simp only [il, List.length_map, List.length_take]
        congr 1
        simp only [eq_iff_iff]
        omega
      rw [e]
      exact TsR_list (hd := by decide) (a := a₁) rfl (by simp) (by simp [il]; omega)
    · have hl := hlen j
      have hl1 : (xs.take (xs.length - (j + 1))).length ≤ 400 := by rw [List.length_take]; omega
      rw [take_last hj]
      refine Nt.drop (x := Str.ofString "item") (p := .int (xs.getD (xs.length - 1 - j) 0)) (Nt_cons (Nr1.t (Nr1_pop (hbase := by rfl) (hline := by rfl) (hs := by rfl) (hd := by decide) (a := a₁) (pre := [(a₃, .list (il (ust xs ys j).1))]) (post := [(a₂, .list (il (ust xs ys j).2))]) rfl rfl (by omega))) (Nt_cons ?_ Nt_nil)) rfl
      rw [ust_succ hj]
      by_cases hi : xs.getD (xs.length - 1 - j) 0 ∈ (ust xs ys j).2
      · have e : ustep (ust xs ys j) (xs.getD (xs.length - 1 - j) 0) = ((ust xs ys j).1, (ust xs ys j).2.erase (xs.getD (xs.length - 1 - j) 0)) := by unfold ustep; rw [if_pos hi]
        rw [e]
        exact Nt1_try_hit (hbase := by rfl) (hline := by rfl) (hin := by rfl) (hs := by rfl) (hd := by decide) (hd' := by decide) (a := a₂) (pre := [(a₃, .list (il (ust xs ys j).1)), (a₁, .list (il (xs.take (xs.length - (j + 1)))))]) (post := []) rfl rfl hi (by omega)
      · have e : ustep (ust xs ys j) (xs.getD (xs.length - 1 - j) 0) = ((ust xs ys j).1 ++ [xs.getD (xs.length - 1 - j) 0], (ust xs ys j).2) := by unfold ustep; rw [if_neg hi]
        rw [e]
        exact Nt1_try_miss (hbase := by rfl) (hline := by rfl) (hin := by rfl) (hs := by rfl) (hbase' := by rfl) (hline' := by rfl) (hs' := by rfl) (hd := by decide) (hd' := by decide) (hd2 := by decide) (htr := by rfl) (hfew := by rfl) (a := a₂) (b := a₃) (L := L) rfl rfl rfl (ns := (ust xs ys j).2) (by simp) hi (by omega) rfl rfl
    · have e1 : xs.take (xs.length - xs.length) = [] := by simp
      rw [e1] at c₃
      have eu : ust xs ys xs.length = uld xs ys := by unfold ust uld; rw [List.take_of_length_le (by simp)]
      rw [eu] at c₃
      refine wpAny_execs_cons (wpAny_Return_some (Ev_tuple (ps := [.ref a₃, .ref a₂]) (Evs_cons (Ev_name rfl) (Evs_cons (Ev_name rfl) Evs_nil)) (by simp only [List.length_cons, List.length_nil]; decide) A h₀ s₃ c₃.gdx _ _ fun v s₄ k₄ rv => hQ v s₄ ?_ ?_))
      · exact Kx.less (o := [(a₁, .list (il xs)), (a₂, .list (il ys))]) (q.trans (q₃.trans k₄.kx)) k₁ hf
      · have c₄ := c₃.kp k₄
        refine ⟨c₄.at_ (a₁, .list (il [])) (by simp), c₄.at_ (a₂, .list (il (uld xs ys).2)) (by simp), ?_⟩
        simp only [Rep, Reps] at rv
        obtain ⟨T, us, n, rfl, eT, v1, t1, rfl, rfl, v2, t2, rfl, rfl, rfl⟩ := rv
        obtain ⟨_, w1, n1, f1, r1⟩ := c₄.at_ (a₃, .list (il (uld xs ys).1)) (by simp)
        obtain ⟨_, w2, n2, f2, r2⟩ := c₄.at_ (a₂, .list (il (uld xs ys).2)) (by simp)
        simp only [Rep, Reps]
        exact ⟨T, _, n, rfl, eT, _, _, rfl, ⟨a₃, w1, n1, rfl, f1, r1⟩, _, _, rfl, ⟨a₂, w2, n2, rfl, f2, r2⟩, rfl⟩
  · simp only [Reps, Rep]
    exact ⟨_, _, rfl, rfl, _, _, rfl, rfl, rfl⟩
  · intro p hp
    simp at hp
    rcases hp with rfl | rfl
    · exact h1
    · exact h2
  · simp [adr, hne]
end Mine

end

/-! part Fn6 -/
section
open PySem PySem.W PySem.Calls PyProof.Rows
set_option linter.unusedVariables false
set_option maxRecDepth 100000
namespace Mine
theorem fm_congr {α β : Type} {f g : α → Option β} : ∀ {l : List α}, (∀ x ∈ l, f x = g x) → l.filterMap f = l.filterMap g
  | [], _ => rfl
  | a :: l, h => by
    rw [List.filterMap_cons, List.filterMap_cons, h a (by simp), fm_congr (l := l) fun x hx => h x (by simp [hx])]
theorem pick_rev {ns : List Int} : pickNums ns none none (some (-1)) = ns.reverse := by
  unfold pickNums sliceBounds sliceRange
  simp only [Option.getD_some, show ¬ ((-1 : Int) > 0) by decide, if_false]
  have hc : (if ((ns.length : Int) - 1 > -1) then (((ns.length : Int) - 1 - -1 - -1 - 1) / - -1) else 0).toNat = ns.length := by
    split
    · simp; 
    · have : ns.length = 0 := by omega
      rw [this]; rfl
  rw [hc]
  rw [List.filterMap_map]
  have e : (List.range ns.length).filterMap ((fun x => ns[x]?) ∘ fun k : Nat => ((ns.length : Int) - 1 + -1 * (k : Int)).toNat) = (List.range ns.length).filterMap (some ∘ fun k => ns.reverse.getD k 0) := by
    refine fm_congr fun x hx => ?_
    have hx := List.mem_range.mp hx
    have hi : ((ns.length : Int) - 1 + -1 * (x : Int)).toNat = ns.length - 1 - x := by omega
    simp only [Function.comp, hi]
    rw [List.getElem?_eq_getElem (by omega)]
    simp [List.getD, hx]
  rw [e, List.filterMap_eq_map]
  apply List.ext_getElem
  · simp
  · intro i h1 h2
    simp at h1 h2
    simp [List.getD, h1]
section
variable {w : World} {k : Nat} {env : Env} {m m' : Mp}
theorem Ev_neg {e : Expr} {pos : Pos} {i : Int} (h : Ev w k env m e (.int i)) : Ev w k env m (.UnaryOp .USub e pos) (.int (-i)) := fun A h₀ s g Q E hQ =>
  wpAny_UnaryOp (h A h₀ s g _ _ fun v s₁ k₁ r => by
    simp only [Rep] at r
    obtain ⟨t, rfl⟩ := r
    exact neg_int (hQ _ _ (k₁.trans .of_toks) (by simp only [Rep]; exact ⟨_, rfl⟩)))
theorem Ts_or {e₁ e₂ : Expr} {pos : Pos} {b : Bool} (h1 : Ts w k env m e₁ false) (h2 : Ts w k env m e₂ b) : Ts w k env m (.BoolOp .Or [e₁, e₂] pos) b := fun A h₀ s Q E g hQ =>
  isTrue_or (h1 A h₀ s _ _ g fun s₁ k₁ => by
    simp only [Bool.false_eq_true, if_false]
    exact isTrue_or (h2 A h₀ s₁ _ _ (g.kp k₁) fun s₂ k₂ => by
      cases b with
      | true => exact hQ _ (k₁.trans k₂)
      | false => exact isTrue_or_nil (hQ _ (k₁.trans k₂))))
theorem RetC_if_false {t : Expr} {b o rest : List Stmt} {pos : Pos} {r : PV} (h : Ts w k env m t false) (ho : Nx w k env m o m') (hr : RetC w k env m' rest r) : RetC w k env m (.If t b o pos :: rest) r := RetC_cons (Nx1_if_false h ho) hr
end
theorem byteArr_rev {ns : List Int} : byteArr ns.reverse = ⟨(byteArr ns).toList.reverse⟩ := by
  unfold byteArr
  simp
theorem bInt_byteArr {ns : List Int} (h : ∀ n ∈ ns, 0 ≤ n ∧ n < 256) : bInt (byteArr ns) = il ns := by
  unfold bInt byteArr il
  simp only [List.map_map]
  refine List.map_congr_left fun n hn => ?_
  have := h n hn
  simp only [Function.comp, PV.int.injEq, UInt8.toNat_ofNat', Nat.toUInt8]
  have h2 : n.toNat % 256 = n.toNat := Nat.mod_eq_of_lt (by omega)
  simp [h2]
  omega

theorem turned_fn {w : World} {ns : List Int} (hr : ∀ n ∈ ns, 0 ≤ n ∧ n < 256) (hn : ns.length = 6 ∨ ns.length = 10) : FnC w 2 84 [.list (il ns)] (.list (il ns.reverse)) := by
  refine FnC_enter (names := [Str.ofString "marks"]) rfl rfl rfl rfl rfl rfl rfl rfl rfl ?_ rfl (by decide) rfl (by decide) ?_
  · intro vs h
    match vs, h with
    | [a], _ => rfl
  · intro L
    have hl : ns.length ≤ 10 := by omega
    have hsz : (10 : Nat) ≤ sizeLine := by decide
    have hrr : ∀ n ∈ ns.reverse, 0 ≤ n ∧ n < 256 := fun n h => hr n (by simpa using h)
    have bs : FnC w 1 65 [.bytes (byteArr ns), .int ns.length] (.bytes ⟨(byteArr ns).toList.reverse⟩) := by
      refine byteswap_fn (byteArr_size ns) (by omega) (by omega) ?_ ?_ ?_
      all_goals (rcases hn with h | h <;> rw [h] <;> decide +kernel)
    refine RetC_assign (hs := by rfl) (p := .bytes ⟨(byteArr ns).toList.reverse⟩) (EvC_fn (f := 65) rfl rfl rfl (Evs_cons (Ev_ty (id := "bytes") rfl rfl rfl (Evs_cons (Ev_name rfl) Evs_nil) (bytes_bi hr (by omega))) (Evs_cons (Ev_bi (id := "len") rfl rfl rfl (Evs_cons (Ev_name rfl) Evs_nil) (len_il (by omega))) Evs_nil)) bs) rfl ?_
    refine RetC_if_false (m' := [(Str.ofString "turned", .bytes ⟨(byteArr ns).toList.reverse⟩), (Str.ofString "marks", .list (il ns))]) ?_ Nx_nil (Ret.c (Ret_return ?_))
    · refine Ts_or ?_ ?_
      · exact Ts_cmp (b := .type "bytes") (Ev_ty (id := "type") rfl rfl rfl (Evs_cons (Ev_name rfl) Evs_nil) (type_bi PT_bytes (by decide))) (Ev_tyname rfl rfl rfl) (isnot_t (X := "bytes") (Y := "bytes"))
      · have := ne_y (w := w) (k := 1) (a := ⟨(byteArr ns).toList.reverse⟩) (b := byteArr ns.reverse)
        rw [byteArr_rev] at this
        simp only [bne_self_eq_false] at this
        refine Ts_cmp (b := .bytes ⟨(byteArr ns).toList.reverse⟩) (Ev_name rfl) ?_ this
        rw [← byteArr_rev, ← pick_rev]
        refine Ev_ty (id := "bytes") rfl rfl rfl (Evs_cons (Ev_slice (ops := fun o i => [o, i]) (Ev_name rfl) Part.none Part.none (Part.some (Ev_neg Ev_int)) (by decide) (by omega) (fun o i => rfl)) Evs_nil) (bytes_bi ?_ ?_)
        · rw [pick_rev]; exact hrr
        · rw [pick_rev, List.length_reverse]; omega
    · rw [← bInt_byteArr hrr, byteArr_rev]
      exact Ev_ty (id := "list") rfl rfl rfl (Evs_cons (Ev_name rfl) Evs_nil) (list_bytes_bi (by simp [byteArr]; omega))
end Mine

end

/-! part Fn7 -/
section
open PySem PySem.W PySem.Calls PyProof.Rows
set_option linter.unusedVariables false
set_option maxRecDepth 100000
namespace Mine
section
variable {w : World} {k : Nat} {env : Env} {m m' : Mp}
theorem mulList {A : Around} {E : Value → Shared → Prop} {s : Shared} {l : Addr} {vs : List Value} {c : Nat} {x : Int} {u : Tok} {Q : Value → Shared → Prop} (hl : s.heap.get? l = some (lobj vs c)) (hne : vs ≠ [])
    (hlo : -(2 ^ 63 : Int) ≤ x) (hhi : x < 2 ^ 63) (hsz : vs.toArray.size * x.toNat ≤ 2 ^ 24)
    (h : Q (.ref s.heap.objs.size) { s with heap := s.heap.push (lobj (List.replicate x.toNat vs).flatten 0) }) : wpAny (Md w) A (binaryOp .Mult (.ref l) (.int x u)) Q E s := by
  have e : ((List.foldl (fun x1 x2 => x1 ++ x2) #[] (List.replicate (if vs.toArray.isEmpty = true then 0 else x.toNat) vs.toArray))) = (List.replicate x.toNat vs).flatten.toArray := by
    have : vs.toArray.isEmpty = false := by cases vs <;> simp_all
    rw [this, if_neg (by decide), listMul_foldl]
    simp
  exact wpAny_binaryOp_repeat_ref (T := "list") (U := "int") (by decide) ⟨_, hl, rfl⟩ (fun s' => typeIs_int s' x u) noFill_list_mul F.fills_int_mul F.slot_int_rmul repeat_list F.slot_int_index.lookup
    (call_meets F.slot_int_rmul F.entry_int_rmul (typeIs_int s x u) (F.args_int_rmul_2 _ _) (int___rmul___int_list x u l _ c)
      ⟨hl, rfl, ⟨_, hl, rfl⟩, call_meets F.slot_list_mul F.entry_list_mul ⟨_, hl, rfl⟩ (F.args_list_mul_2 _ _)
        (AutoListH.list___mul___list_int_3 l vs.toArray c x u (by simp [Builtin.List.listFitsIndex]; omega) (by omega) (by simp [Builtin.List.listTooLong, sizeLine] at hsz ⊢; omega)) ⟨hl, by rw [e]; exact h⟩⟩)
theorem New_zeros {e1 e2 : Expr} {pos : Pos} {n : Nat} (h1 : Ev w k env m e1 (.list (il [0]))) (h2 : Ev w k env m e2 (.int n)) (hn : n ≤ 1000) : New w k env m (.BinOp e1 .Mult e2 pos) (.list (il (List.replicate n 0))) := by
  intro A h₀ s g Q E hQ
  refine wpAny_BinOp (h1 A h₀ s g _ _ fun va s₁ k₁ ra => h2 A h₀ s₁ (g.kp k₁) _ _ fun vb s₂ k₂ rb => ?_)
  have ra' := (g.kp k₁).rep k₂ ra
  simp only [Rep, il, List.map_cons, List.map_nil, Reps] at ra' rb
  obtain ⟨l, us, c, rfl, hl, v, tl, rfl, ⟨t0, rfl⟩, rfl⟩ := ra'
  obtain ⟨u, rfl⟩ := rb
  refine mulList hl (by simp) (by omega) (by omega) (by simp; omega) ?_
  have fr : s.heap.get? s₂.heap.objs.size = none := by
    cases e : s.heap.get? s₂.heap.objs.size with
    | none => rfl
    | some ob => obtain ⟨sl, e2⟩ := (k₁.trans k₂).fr _ _ e; rw [next_free] at e2; cases e2
  refine hQ _ _ ((k₁.trans k₂).trans (.of_ext fun b o e => Heap.get?_push_of_some _ e)) fr ⟨il_flat, List.replicate n (.int 0 t0), 0, ?_, ?_⟩
  · rw [Heap.get?_push_size _ rfl]
    simp [lm_rep_flat_one]
  · have gen : ∀ (h : Heap) (n : Nat), Reps h (il (List.replicate n 0)) (List.replicate n (.int 0 t0)) := fun h n => by
      induction n with
      | zero => simp [il, Reps]
      | succ n ih => simp only [List.replicate_succ, il, List.map_cons]; exact Reps.cons (by simp only [Rep]; exact ⟨_, rfl⟩) ih
    exact gen _ n
end

/-- how often each figure -/
def inc (l : List Int) (j : Int) : List Int := l.set j.toNat (l.getD j.toNat 0 + 1)
def tally (js : List Int) : List Int := js.foldl inc (List.replicate 20 0)
def diffs (ps : List Int) : List Int := ps.flatMap fun one => ps.map fun other => 10 + one - other
def often (ps : List Int) : List Int := tally (diffs ps)
theorem inc_length (l : List Int) (j : Int) : (inc l j).length = l.length := by simp [inc]
theorem tally_length (js : List Int) : (tally js).length = 20 := by
  unfold tally
  have : ∀ l : List Int, (js.foldl inc l).length = l.length := by
    induction js with
    | nil => intro l; rfl
    | cons j js ih => intro l; rw [List.foldl_cons, ih, inc_length]
  rw [this]; simp
theorem tally_snoc (js : List Int) (j : Int) : tally (js ++ [j]) = inc (tally js) j := by simp [tally]
theorem take_flatMap_succ {ps : List Int} {f : Int → List Int} {i : Nat} (h : i < ps.length) : (ps.take (i + 1)).flatMap f = (ps.take i).flatMap f ++ f (ps.getD i 0) := by
  rw [List.take_add_one, List.getElem?_eq_getElem h, Option.toList_some, List.flatMap_append]
  congr 1
  simp [List.getD, List.getElem?_eq_getElem h]
theorem take_map_succ {ps : List Int} {f : Int → Int} {i : Nat} (h : i < ps.length) : (ps.take (i + 1)).map f = (ps.take i).map f ++ [f (ps.getD i 0)] := by
  rw [List.take_add_one, List.getElem?_eq_getElem h, Option.toList_some, List.map_append]
  congr 1
  simp [List.getD, List.getElem?_eq_getElem h]
def signsOf (l : List Int) : Array UInt8 := (l.map fun f => ((letters.cps.toList.getD f.toNat 0)).toUInt8).toArray

theorem join_one {cs : List Nat} : Txt.join (Str.ofString "") (cs.map fun c => (⟨#[c]⟩ : Str)) = ⟨cs.toArray⟩ := by
  unfold Txt.join
  have gen : ∀ (cs : List Nat) (acc : Array Nat), (cs.map fun c => (⟨#[c]⟩ : Str)).foldl (fun acc p => acc ++ (Str.ofString "").cps ++ p.cps) acc = acc ++ cs.toArray := fun cs => by
    induction cs with
    | nil => intro acc; simp
    | cons c cs ih =>
      intro acc
      rw [List.map_cons, List.foldl_cons, ih]
      have : (Str.ofString "").cps = #[] := by decide
      rw [this]
      simp
  cases cs with
  | nil => rfl
  | cons c cs =>
    show (⟨_⟩ : Str) = _
    congr 1
    exact (gen cs #[c]).trans (by simp)
theorem abase_call {f : Expr} {fn : Str} {fp : Pos} {a : List Expr} {ks : List Keyword} {p : Pos} {name : Str} {env : Env} {t : Sem Value} : attributeBase (.Call (.Attribute f fn fp) a ks p) name env t = t := rfl
theorem sum_ones : ∀ cs : List Nat, (cs.map fun _ => 1).sum = cs.length
  | [] => rfl
  | c :: cs => by simp [sum_ones cs]; try omega
theorem abase_const {c : Const} {n : Nat} {p : Pos} {name : Str} {env : Env} {t : Sem Value} : attributeBase (.Constant c n p) name env t = t := rfl
set_option maxHeartbeats 4000000 in
theorem signs_fn {w : World} {ps : List Int} (hp : ∀ p ∈ ps, 0 ≤ p ∧ p ≤ 9) (hl : ps.length ≤ 20) (hf : ∀ f ∈ often ps, 0 ≤ f ∧ f < 64) : Fn w 2 99 [.list (il ps)] (.bytes (signsOf (often ps))) := by
  refine Fn_enter (names := [Str.ofString "points"]) rfl rfl rfl rfl rfl rfl rfl rfl rfl ?_ rfl (by decide) rfl (by decide) ?_
  · intro vs h
    match vs, h with
    | [a], _ => rfl
  · intro L
    refine RetR.ret (RetR_new (r := .list (il (List.replicate 20 0))) (New_zeros (Ev_list (Evs_cons Ev_int Evs_nil)) Ev_int (by decide)) rfl fun a => ?_)
    have hget : ∀ i, i < ps.length → ps.getD i 0 ∈ ps := fun i hi => by
      simp [List.getD, List.getElem?_eq_getElem hi]
    refine RetR_cons (Nr1_for (ts := ps) (g := PV.int) (fun i => [(a, Rs.list (il (tally ((ps.take i).flatMap fun one => ps.map fun other => 10 + one - other))))]) (fun _ => [(Str.ofString "often", .ref a), (Str.ofString "points", .list (il ps))]) ?_ rfl ?_) ?_
    · exact ItX_name rfl
    · intro i t ht
      obtain ⟨hi, rfl⟩ := List.getElem?_eq_some_iff.mp ht
      have e1 : ps.getD i 0 = ps[i] := by simp [List.getD, List.getElem?_eq_getElem hi]
      rw [take_flatMap_succ hi, e1]
      have e0 : tally ((ps.take i).flatMap fun one => ps.map fun other => 10 + one - other) = tally (((ps.take i).flatMap fun one => ps.map fun other => 10 + one - other) ++ (ps.take 0).map fun other => 10 + ps[i] - other) := by simp
      rw [e0]
      refine Nr.drop (x := Str.ofString "one") (p := .int ps[i]) ?_ rfl
      refine Nr_cons (Nr1_for (ts := ps) (g := PV.int) (fun j => [(a, Rs.list (il (tally (((ps.take i).flatMap fun one => ps.map fun other => 10 + one - other) ++ (ps.take j).map fun other => 10 + ps[i] - other))))]) (fun _ => [(Str.ofString "one", .int ps[i]), (Str.ofString "often", .ref a), (Str.ofString "points", .list (il ps))]) ?_ rfl ?_) ?_
      · exact ItX_name rfl
      · intro j t ht
        obtain ⟨hj, rfl⟩ := List.getElem?_eq_some_iff.mp ht
        have e2 : ps.getD j 0 = ps[j] := by simp [List.getD, List.getElem?_eq_getElem hj]
        rw [take_map_succ hj, e2, ← List.append_assoc, tally_snoc]
        have h1 := hp ps[i] (List.getElem_mem hi)
        have h2 := hp ps[j] (List.getElem_mem hj)
        refine Nr.drop (x := Str.ofString "other") (p := .int ps[j]) (Nr_cons (Nr1_inc (hs := by intros; rfl) (hd := by decide) (pre := []) (post := []) (j := 10 + ps[i] - ps[j]) (d := 1) rfl Ev_int (Ev_bin (Ev_bin Ev_int (Ev_name rfl) add_i) (Ev_name rfl) sub_i) (by omega) (by rw [tally_length]; omega) (by rw [tally_length]; omega)) ?_) rfl
        exact Nr_nil
      · rw [List.take_length]
        exact Nr_nil
    · rw [List.take_length]
      refine RetR_open (x := Str.ofString "often") (a := a) (ys := il (often ps)) (by simp [often, diffs]) rfl (Ret_return ?_)
      have hfl := tally_length (diffs ps)
      have ec : ∀ f ∈ often ps, letters.cps[f.toNat]? = some (letters.cps.toList.getD f.toNat 0) := fun f h => by
        have h1 := hf f h
        have h64 : letters.cps.toList.length = 64 := by decide
        have h2 : f.toNat < letters.cps.toList.length := by omega
        rw [← Array.getElem?_toList, List.getElem?_eq_getElem h2]
        simp only [List.getD, List.getElem?_eq_getElem h2, Option.getD_some]
      obtain ⟨cs, hcs⟩ : ∃ cs : List Nat, cs = (often ps).map fun f => letters.cps.toList.getD f.toNat 0 := ⟨_, rfl⟩
      have hcl : cs.length = 20 := by rw [hcs, List.length_map]; exact hfl
      have hca : ∀ c ∈ cs, c < 128 := by
        have hall : ∀ c ∈ letters.cps.toList, c < 128 := by decide
        intro c hc
        rw [hcs] at hc
        obtain ⟨f, hf1, rfl⟩ := List.mem_map.mp hc
        have := ec f hf1
        rw [← Array.getElem?_toList] at this
        exact hall _ (List.mem_of_getElem? this)
      have hj : Bi w 1 (.builtin "str.join") [.str (Str.ofString ""), .list (sl (cs.map fun c => (⟨#[c]⟩ : Str)))] (.str ⟨cs.toArray⟩) := by
        rw [← join_one]
        refine join_bi ?_
        have h0 : (Str.ofString "").length = 0 := by decide
        rw [h0]
        have : ((cs.map fun c => (⟨#[c]⟩ : Str)).map (·.length)) = cs.map fun _ => 1 := by simp [Str.length, Function.comp_def]
        rw [this]
        have h1 := sum_ones cs
        omega
      have es : signsOf (often ps) = (⟨cs.toArray⟩ : Str).cps.map (·.toUInt8) := by
        rw [hcs]; simp [signsOf]
      rw [es]
      have hfn : Bi w 1 (.builtin "str.encode") [.str ⟨cs.toArray⟩, .str (Str.ofString "ascii")] (.bytes ((⟨cs.toArray⟩ : Str).cps.map (·.toUInt8))) := encode_bi (by simpa using hcl) (by simpa using hca)
      refine Ev_meth F.plainAttrs_str F.slot_str_encode F.type_str_encode (hbase := abase_call) (ho := ?_) (hT := PT_str) (he := Evs_cons Ev_str Evs_nil) (hf := hfn)
      refine Ev_meth (p := .str (Str.ofString "")) (r := .str ⟨cs.toArray⟩) (ps := [.list (sl (cs.map fun c => (⟨#[c]⟩ : Str)))]) (T := "str") (id := "str.join") F.plainAttrs_str F.slot_str_join F.type_str_join Ev_str PT_str ?_ hj abase_const rfl rfl (by decide)
      refine Evs_cons ?_ Evs_nil
      have esl : sl (cs.map fun c => (⟨#[c]⟩ : Str)) = (often ps).map fun f => PV.str ⟨#[letters.cps.toList.getD f.toNat 0]⟩ := by
        rw [hcs]; simp [sl]
      rw [esl]
      refine Cm.ev (Cm_comp (ts := often ps) (g := PV.int) (cl := []) ⟨rfl, rfl, by decide, by decide, rfl⟩ rfl ?_ ?_ ?_ ?_)
      · exact (ItX_name rfl).it
      · intro f hfm C
        have h1 := hf f hfm
        exact Ev_itemS (hs := by intro _ _; rfl) (Ev_fn (f := 72) rfl rfl rfl Evs_nil letters_fn) (Ev_name rfl) h1.1 (ec f hfm) (by decide)
      · intro f; rfl
      · rw [show (often ps).length = 20 from hfl]; decide
end Mine

end

/-! part Fn8 -/
section
open PySem PySem.W PySem.Calls PyProof.Rows
set_option linter.unusedVariables false
set_option maxRecDepth 100000
namespace Mine
/-- contracts that also say how the result stands to the start -/
def RetP (w : World) (k : Nat) (env : Env) (m : Mp) (st : List Stmt) (P : Shared → Value → Shared → Prop) : Prop :=
  ∀ A h₀ s, Gd w k A env h₀ s.heap m → ∀ (Q : Flow → Shared → Prop) (E : Value → Shared → Prop), (∀ v s', Ks A env s s' → P s v s' → Q (.ret v) s') → wpAny (Md w) A (execs st env) Q E s
def FnP (w : World) (k : Nat) (f : Addr) (ps : List PV) (P : Shared → Value → Shared → Prop) : Prop :=
  ∀ A s vs, Cx w k A s.heap → Reps s.heap ps vs → ∀ (Q : Value → Shared → Prop) (E : Value → Shared → Prop), (∀ v s', Kp A s s' → P s v s' → Q v s') → wpAny (Md w) A (call (.ref f) vs) Q E s
theorem Fn_enterP {w : World} {k : Nat} {f : Addr} {fd : FuncData} {body : List Stmt} {oc : Value} {od : Option Addr} {osl : Array (Option Value)} {names : List Str} {ps : List PV} {P : Shared → Value → Shared → Prop} (hP : ∀ s s₁ v s', (∀ b o, s.heap.get? b = some o → s₁.heap.get? b = some o) → P s₁ v s' → P s v s')
    (ho : (K w).lookup f = some ⟨oc, od, .func fd, osl⟩) (hbody : fd.body = .stmts body) (hcode : codeIn (K w) fd.code fd.qualname = true) (hclo : fd.closure = []) (hgl : fd.globals = mainGlobals) (hbt : fd.builtins = builtinsNs)
    (hkind : fd.scope.kind = .function) (hco : fd.scope.isCoroutine = false) (hgen : fd.scope.isGenerator = false)
    (hbind : ∀ vs, vs.length = names.length → bindArgs fd ⟨vs, []⟩ = pure (names.zip vs)) (hlen : names.length = ps.length) (hnd : names.Nodup)
    (hks : (names.all fun y => fd.scope.names.lookup y == some .local || fd.scope.names.lookup y == some .cell) = true)
    (hcn : ((cellsFrom 0 fd.scope.names []).map (·.1)).Nodup)
    (h : ∀ L, RetP w k (enter fd L f) (names.zip ps) body P) : FnP w (k + 1) f ps P := by
  intro A s vs cx rs Q E hQ
  have G := cx.gl
  have hvl : vs.length = names.length := by rw [rs.length, hlen]
  refine wpAny_call (codeAny_call_function (by have := cx.ok.deep; omega) (G.k _ _ ho) rfl hco hgen hbody (codeRec_of G.k hcode) ?_)
  rw [hbind vs hvl]
  refine wpAny_pure ?_
  rw [hclo, hgl, hbt]
  refine enter_core hkind hlen hnd hks hcn cx rs fun s₁ h₀ g keep back => ⟨G.nolimit.keeps keep, codeAny_func ?_⟩
  exact h s.heap.objs.size _ h₀ s₁ g _ _ fun v s' q rv => hQ v s' (back s' q) (hP _ _ _ _ keep rv)

/-- a fresh list -/
def Fresh (ys : List PV) (s : Shared) (v : Value) (s' : Shared) : Prop := ∃ a, v = .ref a ∧ s.heap.get? a = none ∧ (Rs.list ys).At s'.heap a
theorem Fresh.anti {ys : List PV} : ∀ s s₁ v s', (∀ b o, s.heap.get? b = some o → s₁.heap.get? b = some o) → Fresh ys s₁ v s' → Fresh ys s v s' := fun s s₁ v s' hk ⟨a, e, n, r⟩ => by
  refine ⟨a, e, ?_, r⟩
  cases q : s.heap.get? a with
  | none => rfl
  | some o => rw [hk _ _ q] at n; cases n
section
variable {w : World} {k : Nat} {env : Env} {m m' : Mp}
theorem RetP_new {e : Expr} {pos : Pos} {rest : List Stmt} {ys : List PV} (h : New w k env m e (.list ys)) : RetP w k env m (.Return (some e) pos :: rest) (Fresh ys) :=
  fun A h₀ s g Q E hQ => wpAny_execs_cons (wpAny_Return_some (h A h₀ s g _ _ fun a s' q hf r => hQ _ s' q.ks ⟨a, rfl, hf, r⟩))
theorem RetP_cons {st : Stmt} {rest : List Stmt} {ys : List PV} (h : Nx1 w k env m st m') (hr : RetP w k env m' rest (Fresh ys)) : RetP w k env m (st :: rest) (Fresh ys) :=
  fun A h₀ s g Q E hQ => wpAny_execs_cons (h A h₀ s g _ _ fun s' q g' => hr A h₀ s' g' _ _ fun v s'' q' ⟨a, e, n, r⟩ => hQ v s'' (q.trans q') (by
    refine ⟨a, e, ?_, r⟩
    cases z : s.heap.get? a with
    | none => rfl
    | some o =>
      by_cases hl : a = env.locals
      · subst hl
        obtain ⟨mv, ⟨ob, _, _, eo, _⟩, _⟩ := g'.mem
        rw [n] at eo; cases eo
      · by_cases hc : ∃ x, (x, a) ∈ env.cells
        · obtain ⟨x, hx⟩ := hc
          obtain ⟨_, _, vv, ob, eo, _⟩ := g'.base.noC x a hx
          rw [n] at eo; cases eo
        · obtain ⟨sl, e'⟩ := q.fr a o z hl fun x hx => hc ⟨x, hx⟩
          rw [n] at e'; cases e'))
theorem New_fn {x : Str} {p pos : Pos} {es : List Expr} {ps : List PV} {f : Addr} {ys : List PV} {fd : FuncData} {oc : Value} {od : Option Addr} {osl : Array (Option Value)} (hx : nsIn (K w) mainGlobals x = some (some (.ref f))) (hk : env.kindOf x = some .globalImplicit)
    (ho : (K w).lookup f = some ⟨oc, od, .func fd, osl⟩)
    (he : Evs w k env m es ps) (hf : FnP w k f ps (Fresh ys)) (hst : (starEach es env).all (fun x => !x.1) = true := by rfl) (hd : (x == ("__debug__" : Str)) = false := by decide) : New w k env m (.Call (.Name x p) es [] pos) (.list ys) :=
  fun A h₀ s g Q E h => wpAny_Call_Name_kw (g.global hx hk (callWith_function (he.args g (fun vs s₁ k₁ rs => by
    have g₁ := g.kp k₁
    refine ⟨⟨g₁.cx.gl.k _ _ ho, rfl⟩, hf A s₁ vs g₁.cx rs _ _ fun v s₂ k₂ ⟨a, e, n, r⟩ => ?_⟩
    subst e
    refine h a s₂ (k₁.trans k₂) ?_ r
    cases z : s.heap.get? a with
    | none => rfl
    | some o => obtain ⟨sl, e'⟩ := k₁.fr a o z; rw [n] at e'; cases e') hst)) hd)
theorem New_sorted {e : Expr} {p pos : Pos} {ns : List Int} (he : Ev w k env m e (.list (il ns))) (hl : ns.length < 64) (hk : env.kindOf (Str.ofString "sorted") = some .globalImplicit) (hst : (starEach [e] env).all (fun x => !x.1) = true)
    (hna : ∀ env, starEach [e] env = (false, eval e env) :: starEach [] env) : New w k env m (.Call (.Name (Str.ofString "sorted") p) [e] [] pos) (.list (il (srt ns))) :=
  fun A h₀ s g Q E h => wpAny_Call_Name_kw (g.built (v := .builtin "sorted") rfl rfl hk (by decide) (callWith_builtin (any_backTo hst) ((Evs_cons he Evs_nil hna).args g (fun vs s₁ k₁ rs => by
    simp only [Reps, Rep] at rs
    obtain ⟨v, t, rfl, ⟨a, us, n, rfl, e, r⟩, rfl⟩ := rs
    have hi := Reps.toInts r
    refine sorted_ints (ns := ns) ⟨_, e, rfl, _, rfl⟩ hi (by rw [hi.length]; exact hl) fun out ns' a1 a2 a3 => h _ _ (k₁.trans (Kp.of_ext (tk := s₁.toks) fun b o => sortedAll_old)) ?_ ?_
    · cases z : s.heap.get? (s₁.heap.objs.size + 1) with
      | none => rfl
      | some o => obtain ⟨sl, e'⟩ := k₁.fr _ _ z; exact absurd (Heap.lt_size e') (Nat.not_lt.mpr (Nat.le_succ _))
    · obtain ⟨ep, he⟩ := sortedAll_at s₁.heap us out
      have : ns' = srt ns := sorted_uniq (a2.trans (srt_perm ns).symm) a3 (srt_sorted ns)
      subst this
      exact ⟨il_flat, out.toList, ep, he, Reps.of_ints a1⟩) hst)) (by decide))
theorem New_addL {e1 e2 : Expr} {pos : Pos} {ns ms : List Int} (h1 : Ev w k env m e1 (.list (il ns))) (h2 : Ev w k env m e2 (.list (il ms))) (hl : ns.length + ms.length ≤ sizeLine) : New w k env m (.BinOp e1 .Add e2 pos) (.list (il (ns ++ ms))) :=
  fun A h₀ s g Q E h => wpAny_BinOp (h1 A h₀ s g _ _ fun va s₁ k₁ ra => h2 A h₀ s₁ (g.kp k₁) _ _ fun vb s₂ k₂ rb => by
    have ra' := (g.kp k₁).rep k₂ ra
    simp only [Rep] at ra' rb
    obtain ⟨a, vs, n, rfl, e, rs⟩ := ra'
    obtain ⟨b, us, n', rfl, e', rs'⟩ := rb
    have hi := Reps.toInts rs
    have hj := Reps.toInts rs'
    refine P.add_list (l := a) (b := b) (items := vs.toArray) (items2 := us.toArray) e e' (h _ _ ((k₁.trans k₂).trans (.of_ext fun b o e => Heap.get?_push_of_some _ e)) ?_ ⟨il_flat, vs ++ us, 0, ?_, Reps.of_ints (hi.append hj)⟩) (by simp [hi.length, hj.length]; exact hl)
    · cases e : s.heap.get? s₂.heap.objs.size with
      | none => rfl
      | some ob => obtain ⟨sl, e2⟩ := (k₁.trans k₂).fr _ _ e; rw [next_free] at e2; cases e2
    · rw [Heap.get?_push_size _ rfl]
      simp)
end
end Mine

end

/-! part Fn9 -/
section
open PySem PySem.W PySem.Calls PyProof.Rows
set_option linter.unusedVariables false
set_option maxRecDepth 100000
namespace Mine
theorem dists_new {w : World} {ps : List Int} (h : (distsOf ps).length < 64) (hp : ps.length < 1000) : FnP w 1 109 [.list (il ps)] (Fresh (il (srt (distsOf ps)))) := by
  refine Fn_enterP Fresh.anti (names := [Str.ofString "points"]) rfl rfl rfl rfl rfl rfl rfl rfl rfl ?_ rfl (by decide) rfl (by decide) ?_
  · intro vs h
    match vs, h with
    | [a], _ => rfl
  · intro L
    refine RetP_new (New_sorted (hst := by rfl) (hna := by intro _; rfl) ?_ h rfl)
    rw [distsOf, il_flatMap]
    refine Cm.ev (Cm_comp2 (ts := List.range ps.length) (g := fun (i : Nat) => PV.int i) (us := fun b => List.range b) (g1 := fun _ (i : Nat) => PV.int i) (f := fun b a => PV.int (ps.getD b 0 - ps.getD a 0)) (cl := [(Str.ofString "points", L + 1)]) ⟨rfl, rfl, by decide, by decide, rfl⟩ rfl rfl (by decide) ?_ ?_ ?_ ?_ ?_)
    · exact (ItX_range1 (n := (ps.length : Int)) (Ev_bi (id := "len") rfl rfl rfl (Evs_cons (Ev_name rfl) Evs_nil) (len_il (by omega))) (by omega) (by omega) rfl).it
    · intro t ht C
      have ht' := List.mem_range.mp ht
      exact (ItX_range1 (n := (t : Int)) (Ev_name rfl) (by omega) (by omega) rfl).d
    · intro t ht u hu C
      have ht' := List.mem_range.mp ht
      have hu' := List.mem_range.mp hu
      exact Ev_bin (Ev_itemL (Ev_name rfl) (Ev_name rfl) (by omega) (il_get (by omega)) (by simp [il]; omega)) (Ev_itemL (Ev_name rfl) (Ev_name rfl) (by omega) (il_get (by omega)) (by simp [il]; omega)) sub_i
    · intro t u; rfl
    · have : ((List.range ps.length).flatMap fun b => (List.range b).map fun a => PV.int (ps.getD b 0 - ps.getD a 0)).length = (distsOf ps).length := by rw [distsOf, ← il_flatMap]; simp only [il, List.length_map]
      rw [this]; show _ ≤ 2 ^ 24; omega

/-- the figures behind the middle -/
theorem letters_index : ∀ f : Fin 64, Builtin.Str.occurrences letters ⟨#[letters.cps.toList.getD f.val 0]⟩ 0 letters.length 1 = [f.val] := by decide +kernel
theorem abase_fn {id : Str} {p1 p : Pos} {name : Str} {env : Env} {t : Sem Value} (h : (id != "super") = true) : attributeBase (.Call (.Name id p1) [] [] p) name env t = t := by
  unfold attributeBase
  simp only [h, Bool.true_or, if_true, bind_pure]
def readOf (l : List Int) (n : Nat) : List Int := [(l.getD 10 0 - n) / 2] ++ l.drop 11
theorem slice_signs {l : List Int} (hl : l.length = 20) (hf : ∀ f ∈ l, 0 ≤ f ∧ f < 64) : bInt (KBy.picked (signsOf l) (some 10) none) = (l.drop 10).map fun f => PV.int ((letters.cps.toList.getD f.toNat 0 : Nat) : Int) := by
  have hs : (signsOf l).size = 20 := by simp [signsOf, hl]
  unfold KBy.picked Builtin.Bytes.sliced
  rw [hs, show sliceRange (sliceBounds (some 10) none none 20).1 (sliceBounds (some 10) none none 20).2.1 (sliceBounds (some 10) none none 20).2.2 = (List.range 10).map (fun k => 10 + k) by decide]
  rw [List.filterMap_map]
  have e : (List.range 10).filterMap ((fun x => (signsOf l)[x]?) ∘ fun k => 10 + k) = (List.range 10).filterMap (some ∘ fun k => (letters.cps.toList.getD (l.getD (10 + k) 0).toNat 0).toUInt8) := by
    refine fm_congr fun x hx => ?_
    have hx := List.mem_range.mp hx
    have h2 : 10 + x < l.length := by omega
    simp [signsOf, Function.comp, List.getD, h2]
  rw [e, List.filterMap_eq_map, bInt]
  apply List.ext_getElem
  · simp [hl]
  · intro i h1 h2
    simp [hl] at h1 h2
    have h3 : 10 + i < l.length := by omega
    have h4 := hf (l.getD (10 + i) 0) (by simp [List.getD, h3])
    have h64 : letters.cps.toList.length = 64 := by decide
    have hall : ∀ c ∈ letters.cps.toList, c < 128 := by decide
    have hc : letters.cps.toList.getD (l.getD (10 + i) 0).toNat 0 < 128 := by
      rw [List.getD, List.getElem?_eq_getElem (by omega), Option.getD_some]
      exact hall _ (List.getElem_mem _)
    have e5 : l[10 + i] = l.getD (10 + i) 0 := by simp [List.getD, h3]
    simp only [List.getElem_map, List.getElem_range, List.getElem_drop, e5]
    generalize letters.cps.toList.getD (l.getD (10 + i) 0).toNat 0 = c at hc ⊢
    have h6 : c % 256 = c := Nat.mod_eq_of_lt (by omega)
    simp [Nat.toUInt8, h6]
theorem read_new {w : World} {l : List Int} {n : Nat} (hl : l.length = 20) (hf : ∀ f ∈ l, 0 ≤ f ∧ f < 64) : FnP w 2 104 [.bytes (signsOf l), .int n] (Fresh (il (readOf l n))) := by
  refine Fn_enterP Fresh.anti (names := [Str.ofString "writing", Str.ofString "size"]) rfl rfl rfl rfl rfl rfl rfl rfl rfl ?_ rfl (by decide) rfl (by decide) ?_
  · intro vs h
    match vs, h with
    | [a, b], _ => rfl
  · intro L
    have hd : (il (l.drop 10)) = (l.drop 10).map fun f => PV.int f := rfl
    refine RetP_cons (m' := [(Str.ofString "figures", .list (il (l.drop 10))), (Str.ofString "writing", .bytes (signsOf l)), (Str.ofString "size", .int n)]) (Cm.assign (Cm_comp (ts := l.drop 10) (g := fun f => PV.int ((letters.cps.toList.getD f.toNat 0 : Nat) : Int)) (f := PV.int) (cl := []) ⟨rfl, rfl, by decide, by decide, rfl⟩ rfl ?_ ?_ ?_ ?_) rfl) ?_
    · rw [← slice_signs hl hf]
      exact (ItX_bytes (Ev_sliceB (Ev_name rfl) (Part.some Ev_int) Part.none (by simp [signsOf, hl]; decide))).it
    · intro f hfm C
      have h1 := hf f (List.mem_of_mem_drop hfm)
      have hlt : f.toNat < 64 := by omega
      have h64 : letters.cps.toList.length = 64 := by decide
      have hall : ∀ c ∈ letters.cps.toList, c < 128 := by decide
      have hc : letters.cps.toList.getD f.toNat 0 < 128 := by
        rw [List.getD, List.getElem?_eq_getElem (by omega), Option.getD_some]
        exact hall _ (List.getElem_mem _)
      have e0 : (f.toNat : Int) = f := by omega
      have hb := index_bi (w := w) (k := 1) (letters_index ⟨f.toNat, hlt⟩)
      simp only [e0] at hb
      refine Ev_meth F.plainAttrs_str F.slot_str_index F.type_str_index (hbase := abase_fn (by decide)) (ho := Ev_fn (f := 72) rfl rfl rfl Evs_nil letters_fn) (hT := PT_str) (he := Evs_cons (Ev_bi (id := "chr") rfl rfl rfl (Evs_cons (Ev_name rfl) Evs_nil) (chr_bi (by omega) (by omega))) Evs_nil) (hf := hb)
    · intro f; rfl
    · rw [List.length_drop, hl]; decide
    · have h0 : (l.drop 10).length = 10 := by rw [List.length_drop, hl]
      have e1 : (l.drop 11) = pickNums (l.drop 10) (some 1) none none := by
        rw [pick_from (by decide) (by omega)]
        simp
      have h1 := length_pickNums_le (intsAre_self (l.drop 10)) (some 1) none none
      have hz : (100 : Nat) ≤ sizeLine := by decide
      have eg : (l.drop 10).getD 0 0 = l.getD 10 0 := by simp [List.getD]
      rw [readOf, e1]
      refine RetP_new (New_addL (ns := [(l.getD 10 0 - n) / 2]) (Ev_list (ps := [PV.int ((l.getD 10 0 - n) / 2)]) (Evs_cons (Ev_bin (Ev_bin (Ev_itemL (Ev_name rfl) Ev_int (by decide) ?_ ?_) (Ev_name rfl) sub_i) Ev_int (div_i (by decide) (by decide))) Evs_nil)) (Ev_slice (ops := fun o i => [i, o]) (Ev_name rfl) (Part.some Ev_int) Part.none Part.none (by decide) (by omega) (fun o i => rfl)) (by simp; omega))
      · have := il_get (ps := l.drop 10) (i := 0) (by omega)
        rw [eg] at this
        exact this
      · simp [il]; omega
end Mine

end

/-! part Fn10 -/
section
open PySem PySem.W PySem.Calls PyProof.Rows
set_option linter.unusedVariables false
set_option maxRecDepth 100000
namespace Mine
section
variable {w : World} {k : Nat} {env : Env} {m m' : Mp}
theorem Ts_or_true {e₁ : Expr} {rest : List Expr} {pos : Pos} (h1 : Ts w k env m e₁ true) : Ts w k env m (.BoolOp .Or (e₁ :: rest) pos) true := fun A h₀ s Q E g hQ =>
  isTrue_or (h1 A h₀ s _ _ g fun s₁ k₁ => by simp only [if_true]; exact hQ _ k₁)
theorem Ts_or_next {e₁ : Expr} {rest : List Expr} {pos : Pos} {b : Bool} (h1 : Ts w k env m e₁ false) (h2 : Ts w k env m (.BoolOp .Or rest pos) b) : Ts w k env m (.BoolOp .Or (e₁ :: rest) pos) b := fun A h₀ s Q E g hQ =>
  isTrue_or (h1 A h₀ s _ _ g fun s₁ k₁ => by
    simp only [Bool.false_eq_true, if_false]
    exact h2 A h₀ s₁ _ _ (g.kp k₁) fun s₂ k₂ => hQ _ (k₁.trans k₂))
theorem Ts_name {x : Str} {pos : Pos} {b : Bool} (hx : m.lookup x = some (.bool b)) (hd : (x == ("__debug__" : Str)) = false) : Ts w k env m (.Name x pos) b := fun A h₀ s Q E g hQ =>
  isTrue_plain (Ev_name hx hd A h₀ s g _ _ fun v s₁ k₁ r => by
    simp only [Rep] at r; subst r
    exact wpAny_truthy_bool (hQ _ k₁))
theorem Ev_ifexp_false {t b o : Expr} {pos : Pos} {p : PV} (h : Ts w k env m t false) (ho : Ev w k env m o p) : Ev w k env m (.IfExp t b o pos) p := fun A h₀ s g Q E hQ =>
  IfExp_ (h A h₀ s _ _ g fun s₁ k₁ => by
    simp only [Bool.false_eq_true, if_false]
    exact ho A h₀ s₁ (g.kp k₁) _ _ fun v s₂ k₂ r => hQ v s₂ (k₁.trans k₂) r)
end
theorem PT_bool {b : Bool} : PT (.bool b) "bool" := fun s v r => by
  simp only [Rep] at r; subst r
  exact ⟨rfl, fun b q => nomatch q⟩
theorem buffer_fn {w : World} {b : Array UInt8} : Fn w 1 35 [.bytes b] (.bytes b) := by
  refine Fn_enter (names := [Str.ofString "data"]) rfl rfl rfl rfl rfl rfl rfl rfl rfl ?_ rfl (by decide) rfl (by decide) ?_
  · intro vs h
    match vs, h with
    | [a], _ => rfl
  · intro L
    refine Ret_cons (Nx1_assign (p := .type "bytes") (Ev_ty (id := "type") rfl rfl rfl (Evs_cons (Ev_name rfl) Evs_nil) (type_bi PT_bytes (by decide))) rfl) ?_
    exact Ret_if_true (Ts_cmp (Ev_name rfl) (Ev_tyname rfl rfl rfl) (is_t (X := "bytes") (Y := "bytes"))) (Ret_return (Ev_name rfl))
theorem truth_fn {w : World} : Fn w 1 42 [.bool false] (.bool false) := by
  refine Fn_enter (names := [Str.ofString "x"]) rfl rfl rfl rfl rfl rfl rfl rfl rfl ?_ rfl (by decide) rfl (by decide) ?_
  · intro vs h
    match vs, h with
    | [a], _ => rfl
  · intro L
    refine Ret_cons (Nx1_assign (p := .type "bool") (Ev_ty (id := "type") rfl rfl rfl (Evs_cons (Ev_name rfl) Evs_nil) (type_bi PT_bool (by decide))) rfl) ?_
    refine Ret_if_true (Ts_or_next (Ts_cmp (Ev_name rfl) Ev_none is_none_b) (Ts_or_true (Ts_cmp (Ev_name rfl) (Ev_tyname rfl rfl rfl) (is_t (X := "bool") (Y := "bool"))))) (Ret_return (Ev_ifexp_false (Ts_name (hd := by decide) rfl) Ev_bool))
end Mine

end

/-! part Fn11 -/
section
open PySem PySem.W PySem.Calls PyProof.Rows
set_option linter.unusedVariables false
set_option maxRecDepth 100000
namespace Mine
/-- a call with keywords -/
def FnK (w : World) (k : Nat) (f : Addr) (ps : List PV) (kw : List (Str × Value)) (r : PV) : Prop :=
  ∀ A s vs, Cx w k A s.heap → Reps s.heap ps vs → Tr w A (call (.ref f) vs kw) r s
theorem Fn_enterK {w : World} {k : Nat} {f : Addr} {fd : FuncData} {body : List Stmt} {oc : Value} {od : Option Addr} {osl : Array (Option Value)} {names : List Str} {ps qs : List PV} {us : List Value} {kw : List (Str × Value)} {r : PV}
    (ho : (K w).lookup f = some ⟨oc, od, .func fd, osl⟩) (hbody : fd.body = .stmts body) (hcode : codeIn (K w) fd.code fd.qualname = true) (hclo : fd.closure = []) (hgl : fd.globals = mainGlobals) (hbt : fd.builtins = builtinsNs)
    (hkind : fd.scope.kind = .function) (hco : fd.scope.isCoroutine = false) (hgen : fd.scope.isGenerator = false)
    (hbind : ∀ vs, vs.length = ps.length → bindArgs fd ⟨vs, kw⟩ = pure (names.zip (vs ++ us))) (hus : ∀ h, Reps h qs us) (hlen : names.length = (ps ++ qs).length) (hnd : names.Nodup)
    (hks : (names.all fun y => fd.scope.names.lookup y == some .local || fd.scope.names.lookup y == some .cell) = true)
    (hcn : ((cellsFrom 0 fd.scope.names []).map (·.1)).Nodup)
    (h : ∀ L, Ret w k (enter fd L f) (names.zip (ps ++ qs)) body r) : FnK w (k + 1) f ps kw r := by
  intro A s vs₀ cx rs₀ Q E hQ
  have G := cx.gl
  have rs := rs₀.append (hus s.heap)
  have hvl : vs₀.length = ps.length := rs₀.length
  refine wpAny_call (codeAny_call_function (by have := cx.ok.deep; omega) (G.k _ _ ho) rfl hco hgen hbody (codeRec_of G.k hcode) ?_)
  rw [hbind vs₀ hvl]
  generalize hvs : vs₀ ++ us = vs at rs
  refine wpAny_pure ?_
  rw [hclo, hgl, hbt]
  refine enter_core hkind hlen hnd hks hcn cx rs fun s₁ h₀ g keep back => ⟨G.nolimit.keeps keep, codeAny_func ?_⟩
  exact h s.heap.objs.size _ h₀ s₁ g _ _ fun v s' q rv => hQ v s' (back s' q) rv

end Mine

end

/-! part Fn12 -/
section
open PySem PySem.W PySem.Calls PyProof.Rows
set_option linter.unusedVariables false
set_option maxRecDepth 100000
namespace Mine
section
variable {w : World} {k : Nat}
theorem shr_i {a : Int} {n : Int} (hn : 0 ≤ n) : Bop w k .RShift (.int a) (.int n) (.int (a.fdiv (2 ^ n.toNat))) := fun A s va vb cx ra rb Q E h => by
  simp only [Rep] at ra rb; obtain ⟨t, rfl⟩ := ra; obtain ⟨u, rfl⟩ := rb
  exact rshift_int hn (h _ _ .of_toks (by simp only [Rep]; exact ⟨_, rfl⟩))
theorem shl_i {a : Int} {n : Int} (hn : 0 ≤ n) (hsz : (Builtin.Int.intBits a : Int) + n ≤ 2 ^ 27) : Bop w k .LShift (.int a) (.int n) (.int (a * 2 ^ n.toNat)) := fun A s va vb cx ra rb Q E h => by
  simp only [Rep] at ra rb; obtain ⟨t, rfl⟩ := ra; obtain ⟨u, rfl⟩ := rb
  exact lshift_int hn hsz (h _ _ .of_toks (by simp only [Rep]; exact ⟨_, rfl⟩))
theorem and_i {a b : Int} : Bop w k .BitAnd (.int a) (.int b) (.int (Builtin.bitAnd a b)) := fun A s va vb cx ra rb Q E h => by
  simp only [Rep] at ra rb; obtain ⟨t, rfl⟩ := ra; obtain ⟨u, rfl⟩ := rb
  exact and_int (h _ _ .of_toks (by simp only [Rep]; exact ⟨_, rfl⟩))
theorem or_i {a b : Int} : Bop w k .BitOr (.int a) (.int b) (.int (Builtin.bitOr a b)) := fun A s va vb cx ra rb Q E h => by
  simp only [Rep] at ra rb; obtain ⟨t, rfl⟩ := ra; obtain ⟨u, rfl⟩ := rb
  exact or_int (h _ _ .of_toks (by simp only [Rep]; exact ⟨_, rfl⟩))
end
end Mine

end

/-! part Bits -/
section
open PySem PySem.W PySem.Calls PyProof.Rows
set_option linter.unusedVariables false
namespace Mine
theorem bitAnd_nat (a b : Nat) : Builtin.bitAnd (a : Int) (b : Int) = ((a &&& b : Nat) : Int) := by
  unfold Builtin.bitAnd
  simp
theorem bitNot_nat (a : Nat) : Builtin.bitNot (a : Int) = -(a : Int) - 1 := by
  unfold Builtin.bitNot
  omega
theorem bitOr_nat (a b : Nat) : Builtin.bitOr (a : Int) (b : Int) = ((a ||| b : Nat) : Int) := by
  unfold Builtin.bitOr
  rw [bitNot_nat, bitNot_nat]
  have ha : decide (0 ≤ -(a : Int) - 1) = false := by simp; omega
  have hb : decide (0 ≤ -(b : Int) - 1) = false := by simp; omega
  unfold Builtin.bitAnd
  rw [ha, hb]
  simp only
  have e : ∀ n : Nat, (Builtin.bitNot (-(n : Int) - 1)).toNat = n := fun n => by unfold Builtin.bitNot; omega
  rw [e, e]
  unfold Builtin.bitNot
  omega
theorem and_63 (a : Nat) : a &&& 63 = a % 64 := by
  have := Nat.and_two_pow_sub_one_eq_mod a 6
  simpa using this
theorem and_65535 (a : Nat) : a &&& 65535 = a % 65536 := by
  have := Nat.and_two_pow_sub_one_eq_mod a 16
  simpa using this
theorem or_256 (a b : Nat) (h : b < 256) : (a * 256) ||| b = a * 256 + b := by
  have := Nat.two_pow_add_eq_or_of_lt (i := 8) (b := b) (by simpa using h) a
  simp only [show (2 : Nat) ^ 8 = 256 from rfl] at this
  rw [Nat.mul_comm a 256]
  omega
end Mine

end

/-! part Fn13 -/
section
open PySem PySem.W PySem.Calls PyProof.Rows
set_option linter.unusedVariables false
set_option maxRecDepth 100000
namespace Mine
section
variable {w : World} {k : Nat} {env : Env} {m m' m'' : Mp} {o o' o'' : Led}
theorem Nr1_while {test : Expr} {body : List Stmt} {pos : Pos} (N : Nat) (mm : Nat → Mp) (oo : Nat → Led) (ht : ∀ i, i ≤ N → TsR w k env (mm i) (oo i) test (decide (i < N)))
    (hb : ∀ i, i < N → Nr w k env (mm i) (oo i) body (mm (i + 1)) (oo (i + 1))) : Nr1 w k env (mm 0) (oo 0) (.While test body [] pos) (mm N) (oo N) := by
  have ha : ∀ i, i ≤ N → adr (oo i) = adr (oo 0) := fun i => by
    induction i with
    | zero => intro _; rfl
    | succ i ih => intro hi; rw [(hb i (by omega)).1]; exact ih (by omega)
  refine ⟨ha _ (Nat.le_refl _), fun A h₀ s c Q E hQ => wpAny_While ?_⟩
  refine codeAny_whileLoop (fun n s' => ∃ i, i ≤ N ∧ n = N - i ∧ Sr w k A env h₀ s' (mm i) (oo i) ∧ Kx A env (adr (oo 0)) s s') (fun n s' h => ?_) N ⟨0, Nat.zero_le _, rfl, c, .refl ..⟩
  obtain ⟨i, hi, rfl, cs, kx⟩ := h
  refine ht i hi A h₀ s' _ _ cs fun s₁ k₁ => ?_
  by_cases hlt : i < N
  · rw [if_pos (decide_eq_true hlt)]
    refine (hb i hlt).2 A h₀ s₁ (cs.kp k₁) _ _ fun s₂ q c₂ => ?_
    rw [ha i hi] at q
    exact ⟨N - (i + 1), by omega, i + 1, hlt, rfl, c₂, kx.trans (k₁.kx.trans q)⟩
  · rw [if_neg (by simpa using hlt)]
    obtain rfl : i = N := by omega
    exact wpAny_execs_nil (hQ s₁ (kx.trans k₁.kx) (cs.kp k₁))

/-- a global name that holds a plain value -/
theorem Ev_globalB {x : Str} {pos : Pos} {b : Array UInt8} {t : Tok} (hx : nsIn (K w) mainGlobals x = some (some (.bytes b t))) (hk : env.kindOf x = some .globalImplicit) (hd : (x == ("__debug__" : Str)) = false) : Ev w k env m (.Name x pos) (.bytes b) :=
  fun A h₀ s g Q E h => g.global hx hk (h _ _ (.refl ..) (by simp only [Rep]; exact ⟨_, rfl⟩)) hd
end
/-- the fields of a number -/
def byteAt (P i : Nat) : Nat := P / 256 ^ (14 - i) % 256
def digAt (P j : Nat) : Nat := P / 64 ^ (19 - j) % 64
def alph : List Nat := letters.cps.toList
def outTo (P n : Nat) : List Int := (List.range n).map fun j => ((alph.getD (digAt P j) 0 : Nat) : Int)
theorem outTo_succ (P n : Nat) : outTo P (n + 1) = outTo P n ++ [((alph.getD (digAt P n) 0 : Nat) : Int)] := by simp [outTo, List.range_succ]
end Mine

end

/-! part Bits2 -/
section
open PySem PySem.W PySem.Calls PyProof.Rows
set_option linter.unusedVariables false
namespace Mine
def lcAt (P i : Nat) : Nat := P / 256 ^ (15 - i) % 65536
theorem lc_step {P i : Nat} (h : i < 15) : ((lcAt P i * 256) ||| byteAt P i) &&& 65535 = lcAt P (i + 1) := by
  have hb : byteAt P i < 256 := Nat.mod_lt _ (by decide)
  rw [or_256 _ _ hb, and_65535]
  unfold lcAt byteAt
  have e1 : 15 - i = (14 - i) + 1 := by omega
  have e2 : 15 - (i + 1) = 14 - i := by omega
  rw [e2, e1, Nat.pow_succ, ← Nat.div_div_eq_div_mul]
  generalize P / 256 ^ (14 - i) = x
  omega
theorem lc_zero {P : Nat} (h : P < 64 ^ 20) : lcAt P 0 = 0 := by
  unfold lcAt
  rw [Nat.div_eq_of_lt (by simpa using h)]
/-- a digit out of the last two bytes -/
theorem dig_of {P i j r : Nat} (h : i < 15) (hr : r ≤ 8) (hj : j < 20) (e : 8 * (14 - i) + r = 6 * (19 - j)) : lcAt P (i + 1) / 2 ^ r % 64 = digAt P j := by
  unfold lcAt digAt
  have e2 : 15 - (i + 1) = 14 - i := by omega
  have e3 : (64 : Nat) ^ (19 - j) = 256 ^ (14 - i) * 2 ^ r := by
    rw [show (64 : Nat) = 2 ^ 6 from rfl, show (256 : Nat) = 2 ^ 8 from rfl, ← Nat.pow_mul, ← Nat.pow_mul, ← Nat.pow_add, e]
  rw [e2, e3, ← Nat.div_div_eq_div_mul]
  generalize P / 256 ^ (14 - i) = x
  rw [show (65536 : Nat) = 2 ^ r * 2 ^ (16 - r) by rw [← Nat.pow_add, show r + (16 - r) = 16 from Nat.add_sub_cancel' (Nat.le_trans hr (by decide))], Nat.mod_mul_right_div_self]
  refine Nat.mod_mod_of_dvd _ ⟨2 ^ (10 - r), ?_⟩
  rw [show (64 : Nat) = 2 ^ 6 from rfl, ← Nat.pow_add]
  congr 1
  omega
end Mine

end

/-! part Fn14 -/
section
open PySem PySem.W PySem.Calls PyProof.Rows
set_option linter.unusedVariables false
set_option maxRecDepth 100000
namespace Mine
/-- fewer names -/
theorem Gd.sub {w : World} {k : Nat} {A : Around} {env : Env} {h₀ h : Heap} {m m' : Mp} (g : Gd w k A env h₀ h m) (hs : ∀ x p, m'.lookup x = some p → m.lookup x = some p) : Gd w k A env h₀ h m' := by
  obtain ⟨mv, n, r⟩ := g.mem
  exact { g with mem := ⟨mv, n, fun x p e => r x p (hs x p e)⟩ }
theorem Sr.sub {w : World} {k : Nat} {A : Around} {env : Env} {h₀ : Heap} {s : Shared} {m m' : Mp} {o : Led} (c : Sr w k A env h₀ s m o) (hs : ∀ x p, m'.lookup x = some p → m.lookup x = some p) : Sr w k A env h₀ s m' o := { c with gd := c.gd.sub hs }
theorem Nr.sub {w : World} {k : Nat} {env : Env} {m m' m'' : Mp} {o o' : Led} {st : List Stmt} (h : Nr w k env m o st m' o') (hs : ∀ x p, m''.lookup x = some p → m'.lookup x = some p) : Nr w k env m o st m'' o' :=
  ⟨h.1, fun A h₀ s c Q E hQ => h.2 A h₀ s c _ _ fun s' q c' => hQ s' q (c'.sub hs)⟩
theorem sub_of {m m' : Mp} (hk : ∀ p ∈ m', m.lookup p.1 = m'.lookup p.1) : ∀ x p, m'.lookup x = some p → m.lookup x = some p := fun x p e => by
  have := hk (x, p) (mem_of_lookup e)
  exact this.trans e
theorem ge_i {w : World} {k : Nat} {a b : Int} : Cop w k .GtE (.int a) (.int b) (.bool (decide (b ≤ a))) := fun A s va vb cx ra rb Q E h => by
  simp only [Rep] at ra rb; obtain ⟨t, rfl⟩ := ra; obtain ⟨u, rfl⟩ := rb
  exact PyProof.Rows.ge_int (h _ _ (.refl ..) (by simp only [Rep]))
def b64 : Array UInt8 := (alph.map Nat.toUInt8).toArray
theorem b64_at : ∀ d : Fin 64, (b64.toList.getD d.val 0).toNat = alph.getD d.val 0 := by decide +kernel
theorem fdiv_nat (a r : Nat) : ((a : Int)).fdiv (2 ^ r) = ((a / 2 ^ r : Nat) : Int) := by
  rw [Int.fdiv_eq_ediv_of_nonneg _ (by have := Int.pow_pos (n := 2) (m := r) (by decide); omega)]
  push_cast
  rfl
def bytesOf (P : Nat) : List Int := (List.range 15).map fun i => ((byteAt P i : Nat) : Int)
theorem b2a_fn {w : World} {P : Nat} (hP : P < 64 ^ 20) : FnK w 2 50 [.bytes (byteArr (bytesOf P))] [(Str.ofString "newline", .bool false)] (.bytes (byteArr (outTo P 20))) := by
  refine Fn_enterK (names := [Str.ofString "data", Str.ofString "newline"]) (qs := [.bool false]) (us := [.bool false]) rfl rfl rfl rfl rfl rfl rfl rfl rfl ?_ ?_ rfl (by decide) rfl (by decide) ?_
  · intro vs h
    match vs, h with
    | [a], _ => rfl
  · intro h; simp only [Reps, Rep]; exact ⟨_, _, rfl, rfl, rfl⟩
  · intro L
    refine Ret_cons (Nx1_assign (p := .bytes (byteArr (bytesOf P))) (Ev_fn (f := 35) rfl rfl rfl (Evs_cons (Ev_name rfl) Evs_nil) buffer_fn) rfl) ?_
    refine Ret_cons (Nx1_assign (p := .bool false) (Ev_fn (f := 42) rfl rfl rfl (Evs_cons (Ev_name rfl) Evs_nil) truth_fn) rfl) ?_
    refine RetR.ret (RetR_new (r := .list []) (New_list (hl := by first | decide | (simp only [List.length_cons, List.length_nil]; decide)) Evs_nil (by simp)) rfl fun a => ?_)
    refine RetR_cons (Nr1_assign (p := .int ((8 * 0 % 6 : Nat) : Int)) Ev_int rfl rfl) (RetR_cons (Nr1_assign (p := .int (lcAt P 0 : Nat)) (by rw [lc_zero hP]; exact Ev_int) rfl rfl) ?_)
    have hit : bInt (byteArr (bytesOf P)) = (List.range 15).map fun i => PV.int ((byteAt P i : Nat) : Int) := by
      rw [bInt_byteArr]
      · simp [il, bytesOf]
      · intro n hn
        simp only [bytesOf, List.mem_map] at hn
        obtain ⟨i, _, rfl⟩ := hn
        have : byteAt P i < 256 := Nat.mod_lt _ (by decide)
        omega
    refine RetR_cons (Nr1_for (ts := List.range 15) (g := fun i => PV.int ((byteAt P i : Nat) : Int)) (fun i => [(a, Rs.list (il (outTo P (8 * i / 6))))])
      (fun i => [(Str.ofString "leftchar", .int (lcAt P i : Nat)), (Str.ofString "leftbits", .int ((8 * i % 6 : Nat) : Int)), (Str.ofString "out", .ref a), (Str.ofString "newline", .bool false), (Str.ofString "bin_data", .bytes (byteArr (bytesOf P))), (Str.ofString "data", .bytes (byteArr (bytesOf P))), (Str.ofString "newline", .bool false)]) ?_ rfl ?_) ?_
    · rw [← hit]
      exact ItX_bytes (Ev_name rfl)
    · intro i t ht
      obtain ⟨hi, rfl⟩ : i < 15 ∧ t = i := by
        rw [List.getElem?_eq_some_iff] at ht
        obtain ⟨h, e⟩ := ht
        simp at h e
        omega
      have hb : byteAt P t < 256 := Nat.mod_lt _ (by decide)
      have hlc : lcAt P t < 65536 := Nat.mod_lt _ (by decide)
      have eN : 8 * (t + 1) / 6 = 8 * t / 6 + (8 * t % 6 + 8) / 6 := by omega
      have e6 : 8 * (t + 1) % 6 = 8 * t % 6 + 8 - 6 * ((8 * t % 6 + 8) / 6) := by omega
      have hqr : 8 * t = 6 * (8 * t / 6) + 8 * t % 6 := by omega
      have hr6 : 8 * t % 6 < 6 := Nat.mod_lt _ (by decide)
      rw [eN]
      generalize 8 * t / 6 = q at *
      generalize 8 * t % 6 = r at *
      clear hP hit
      refine Nr.sub (Nr_cons (Nr1_assign (p := .int (lcAt P (t + 1) : Nat)) ?_ rfl rfl) (Nr_cons (Nr1_assign (p := .int ((r + 8 : Nat) : Int)) ?_ rfl rfl) (Nr_cons (Nr1_while ((r + 8) / 6)
        (fun j => [(Str.ofString "leftbits", .int ((r + 8 - 6 * j : Nat) : Int)), (Str.ofString "leftchar", .int (lcAt P (t + 1) : Nat)), (Str.ofString "b", .int ((byteAt P t : Nat) : Int)), (Str.ofString "leftchar", .int (lcAt P t : Nat)), (Str.ofString "leftbits", .int ((r : Nat) : Int)), (Str.ofString "out", .ref a), (Str.ofString "newline", .bool false), (Str.ofString "bin_data", .bytes (byteArr (bytesOf P))), (Str.ofString "data", .bytes (byteArr (bytesOf P))), (Str.ofString "newline", .bool false)])
        (fun j => [(a, Rs.list (il (outTo P (q + j))))]) (fun j hj => ?_) (fun j hj => ?_)) Nr_nil))) ?_
      · have hsz : (Builtin.Int.intBits ((lcAt P t : Nat) : Int) : Int) + 8 ≤ 2 ^ 27 := by
          have := intBits_le_64 (k := ((lcAt P t : Nat) : Int)) (by omega) (by omega)
          omega
        have e1 : (((lcAt P t : Nat) : Int) * 2 ^ (8 : Int).toNat) = ((lcAt P t * 256 : Nat) : Int) := by
          rw [show (8 : Int).toNat = 8 from rfl]; omega
        rw [← lc_step hi, ← bitAnd_nat, ← bitOr_nat, ← e1]
        exact Ev_bin (Ev_bin (Ev_bin (Ev_name rfl) Ev_int (shl_i (by decide) hsz)) (Ev_name rfl) or_i) Ev_int and_i
      · rw [show (((r + 8 : Nat)) : Int) = ((r : Nat) : Int) + 8 by omega]
        exact Ev_bin (Ev_name rfl) Ev_int add_i
      · have e : decide (j < (r + 8) / 6) = decide ((6 : Int) ≤ ((r + 8 - 6 * j : Nat) : Int)) := by
          congr 1
          simp only [eq_iff_iff]
          omega
        rw [e]
        exact Ts.tr (Ts_cmp (Ev_name rfl) Ev_int ge_i)
      · obtain ⟨z, hz⟩ : ∃ z, r + 8 = 6 * j + 6 + z := ⟨r + 8 - (6 * j + 6), by omega⟩
        have y1 : r + 8 - 6 * j = z + 6 := by omega
        have y2 : r + 8 - 6 * (j + 1) = z := by omega
        have hz8 : z ≤ 8 := by omega
        have hqj : q + j < 20 := by omega
        rw [y1, y2]
        clear y1 y2 hj
        have eo : il (outTo P (q + (j + 1))) = il (outTo P (q + j)) ++ [.int ((alph.getD (digAt P (q + j)) 0 : Nat) : Int)] := by
          rw [← Nat.add_assoc, outTo_succ, il_concat]
        have hdg : digAt P (q + j) < 64 := Nat.mod_lt _ (by decide)
        rw [eo]
        refine Nr.sub (Nr_cons (Nr1_append (hna := by intro _; rfl) (hbase := by rfl) (hline := by rfl) (hst := by rfl) (hi := by rfl) (hs := by rfl) (hd := by decide) (pre := []) (post := []) (a := a) (p := .int ((alph.getD (digAt P (q + j)) 0 : Nat) : Int)) rfl ?_ rfl ?_) (Nr_cons (Nr1_assign (p := .int ((z : Nat) : Int)) ?_ rfl rfl) Nr_nil)) ?_
        · have h64 : b64.size = 64 := by decide
          have hg := Gi_bytes (w := w) (k := 1) (b := b64) (i := ((digAt P (q + j) : Nat) : Int)) (by decide) (by omega) (by omega)
          rw [Int.toNat_natCast, b64_at ⟨_, hdg⟩] at hg
          refine Ev_item (a := .bytes b64) (b := .int ((digAt P (q + j) : Nat) : Int)) (T := "bytes") (id := "bytes.__getitem__") (Ev_globalB (hd := by decide) rfl rfl) ?_ hg PT_bytes FB.slot_bytes_getitem.lookup
          have er : (((z + 6 : Nat) : Int) - 6).toNat = z := by omega
          have hdo := dig_of (P := P) (i := t) (j := q + j) (r := z) hi hz8 hqj (by omega)
          have hsh := shr_i (w := w) (k := 1) (a := ((lcAt P (t + 1) : Nat) : Int)) (n := ((z + 6 : Nat) : Int) - 6) (by omega)
          rw [er] at hsh
          rw [← hdo, ← and_63, ← bitAnd_nat, ← fdiv_nat]
          exact Ev_bin (Ev_bin (Ev_name rfl) (Ev_bin (Ev_name rfl) Ev_int sub_i) hsh) Ev_int and_i
        · simp [il, outTo]; omega
        · rw [show (((z : Nat)) : Int) = ((z + 6 : Nat) : Int) - 6 by omega]
          exact Ev_bin (Ev_name rfl) Ev_int sub_i
        · refine sub_of fun p hp => ?_
          simp only [List.mem_cons, List.not_mem_nil, or_false] at hp
          rcases hp with rfl | rfl | rfl | rfl | rfl | rfl | rfl | rfl | rfl | rfl <;> rfl
      · rw [e6]
        refine sub_of fun p hp => ?_
        simp only [List.mem_cons, List.not_mem_nil, or_false] at hp
        rcases hp with rfl | rfl | rfl | rfl | rfl | rfl | rfl <;> rfl
    · refine RetR_cons (Nr1_if (c := false) (Ts_cmp (a := .int ((8 * (List.range 15).length % 6 : Nat) : Int)) (Ev_name rfl) Ev_int eq_i) (fun h => by cases h) (fun _ => Nr_cons (Nr1_if (c := false) (Ts_cmp (a := .int ((8 * (List.range 15).length % 6 : Nat) : Int)) (Ev_name rfl) Ev_int eq_i) (fun h => by cases h) (fun _ => Nr_nil) rfl) Nr_nil) rfl) ?_
      refine RetR_cons (Nr1_if (c := false) (Ts_name (hd := by decide) rfl) (fun h => by cases h) (fun _ => Nr_nil) rfl) ?_
      refine RetR_open (x := Str.ofString "out") (a := a) (ys := il (outTo P 20)) (by simp) rfl (Ret_return (Ev_ty (id := "bytes") rfl rfl rfl (Evs_cons (Ev_name rfl) Evs_nil) (bytes_bi ?_ ?_)))
      · intro n hn
        simp only [outTo, List.mem_map] at hn
        obtain ⟨j, _, rfl⟩ := hn
        have h64 : letters.cps.toList.length = 64 := by decide
        have hall : ∀ c ∈ letters.cps.toList, c < 128 := by decide
        have hd : digAt P j < 64 := Nat.mod_lt _ (by decide)
        have hc : alph.getD (digAt P j) 0 < 128 := by
          unfold alph
          rw [List.getD, List.getElem?_eq_getElem (by omega), Option.getD_some]
          exact hall _ (List.getElem_mem _)
        omega
      · simp [outTo]; decide
end Mine

end

/-! part Zip -/
section
open PySem PySem.W PySem.Calls PyProof.Rows
set_option linter.unusedVariables false
set_option maxRecDepth 100000
namespace Mine
section
variable {M : Model} {A : Around} {E : Value → Shared → Prop} {s : Shared}
theorem splicedC_cons {x : Sem Value} {rest : List (Bool × Sem Value)} {Q : List Value → Shared → Prop}
    (h : wpC M A x (fun v s₁ => wpC M A (spliced rest) (fun vs s₂ => Q (v :: vs) s₂) E s₁) E s) : wpC M A (spliced ((false, x) :: rest)) Q E s := by
  rw [spliced]
  refine wpC_bind (wpC_mono h (fun v s₁ h₁ => ?_) fun _ _ x => x)
  simp only [Bool.false_eq_true, if_false]
  exact wpC_step (wpAny_pure (wpC_bind (wpC_holding (wpC_mono h₁ (fun vs s₂ h₂ => wpC_pure h₂) fun _ _ x => x))))
theorem evalArgsC_plain {f : Value} {x : Sem Value} {rest : List (Bool × Sem Value)} {Q : Args → Shared → Prop}
    (h : wpC M A (spliced ((false, x) :: rest)) (fun vs s' => Q ⟨vs, []⟩ s') E s) : wpC M A (evalArgs f true ((false, x) :: rest) []) Q E s := by
  unfold evalArgs
  show wpC M A (spliced ((false, x) :: rest) >>= _) Q E s
  refine wpC_bind (wpC_mono h (fun vs s' h' => ?_) fun _ _ x => x)
  refine wpC_holding ?_
  exact .any (wpAny_bind (wpAny_pure (wpAny_bind (wpAny_pure (wpAny_pure h')))))
theorem wpC_For {env : Env} {target : Expr} {iter : Expr} {body orelse : List Stmt} {pos : Pos} {Q : Flow → Shared → Prop}
    (h : wpC M A (eval iter env) (fun x s₁ => wpAny M A (pyIter x) (fun it s₂ =>
      codeAny M A (.forLoop target it body orelse env) (fun r s' => match r with | .ok f => Q f s' | .error e => cameBackBy M A env E e s') s₂) E s₁) E s)
    (hs : ∀ x, foldedSetIterable iter env x = pure x) :
    wpC M A (exec (.For target iter body orelse pos) env) Q E s := by
  rw [exec_For]
  exact wpC_step (wpAny_standAt (wpC_bind (wpC_mono h (fun x s₁ h₁ => .any (wpAny_bind (wpAny_of_eq (hs x) (wpAny_bind (wpAny_standAt (wpAny_bind (wpAny_holding
    (wpAny_mono h₁ (fun it s₂ h₂ => wpAny_runOwn h₂) fun _ _ h' => h')))))))) fun _ _ h' => h')))
end
section
variable {w : World} {k : Nat} {env : Env} {m m' : Mp}
theorem callWith_typeCC {A : Around} {s : Shared} {pos : Pos} {n : String} {args : List (Bool × Sem Value)} {Q : Value → Shared → Prop} {E : Value → Shared → Prop} (hplain : args.any (·.1) = false)
    (h : wpC (Md w) A (evalArgs (.type n) true args []) (fun a s₁ => wpC (Md w) A (call (.type n) a.pos a.kw) Q E s₁) E s) :
    wpC (Md w) A (callWith pos (.type n) [] args []) Q E s := by
  unfold callWith
  refine wpC_bind (wpC_holding (wpC_mono h (fun a s₁ h₁ => wpC_step (wpAny_standAt ?_)) fun _ _ x => x))
  simp only [hplain, List.any_nil, Bool.or_false]
  refine wpC_step (wpAny_pure ?_)
  exact wpC_bind (wpC_mono h₁ (fun r s₂ hr => wpC_step (wpAny_holding (wpAny_point (wpC_pure hr)))) fun _ _ x => x)
theorem args2C {e1 e2 : Expr} {p q : PV} (h1 : Ev w k env m e1 p) (h2 : EvC w k env m e2 q) {A : Around} {h₀ : Heap} {s : Shared} {f : Value} {pos : Pos} {Q : Args → Shared → Prop} {E : Value → Shared → Prop} (g : Gd w k A env h₀ s.heap m)
    (hQ : ∀ u v s', Kp A s s' → Rep s'.heap p u → Rep s'.heap q v → Q ⟨[u, v], []⟩ s') (hs : starEach [e1, e2] env = [(false, eval e1 env), (false, eval e2 env)]) :
    wpC (Md w) A (evalArgs f true (backTo pos (starEach [e1, e2] env)) []) Q E s := by
  rw [hs]
  show wpC _ A (evalArgs f true [(false, eval e1 env), (false, eval e2 env)] []) Q E s
  exact evalArgsC_plain (splicedC_cons (.any (h1 A h₀ s g _ _ fun u s₁ k₁ ru => splicedC_cons (h2 A h₀ s₁ (g.kp k₁) _ _ fun v s₂ k₂ rv => .any (spliced_nil (hQ u v s₂ (k₁.trans k₂) ((g.kp k₁).rep k₂ ru) rv))))))
theorem Sr.keep {A : Around} {h₀ : Heap} {s s' : Shared} {o : Led} {X : List Addr} {b : Addr} {ob : Obj} (c : Sr w k A env h₀ s m o) (kx : Kx A env X s s') (e : s.heap.get? b = some ob) (hb : b ∉ X)
    (nd : ∀ es ep, ob.data ≠ .dict es ep) (nc : ∀ v, ob.data ≠ .cell v) : s'.heap.get? b = some ob := by
  have g := c.gdx
  obtain ⟨outer, hA, hf⟩ := g.base.frames
  obtain ⟨mv, ⟨oC, es, ep, eC, dC, _⟩, _⟩ := g.mem
  refine kx.up b ob e (fun h => ?_) (fun h => ?_) (fun y h => ?_) hb
  · obtain ⟨_, o', es', ep', e', d'⟩ := frame_dict hA hf h
    rw [e] at e'; cases e'
    exact nd _ _ d'
  · rw [← h, e] at eC; cases eC
    exact nd _ _ dC
  · obtain ⟨_, _, v, oc, ec, dc⟩ := g.base.noC y b h
    rw [e] at ec; cases ec
    exact nc _ dc

theorem nd_fields {ob : Obj} {vs : Array Value} (e : ob.data = .fields vs) : ∀ es ep, ob.data ≠ .dict es ep := fun _ _ q => by rw [e] at q; cases q
theorem nc_fields {ob : Obj} {vs : Array Value} (e : ob.data = .fields vs) : ∀ v, ob.data ≠ .cell v := fun _ q => by rw [e] at q; cases q
theorem nd_seq {ob : Obj} {vs : Array Value} {n : Nat} (e : ob.data = .seq vs n) : ∀ es ep, ob.data ≠ .dict es ep := fun _ _ q => by rw [e] at q; cases q
theorem nc_seq {ob : Obj} {vs : Array Value} {n : Nat} (e : ob.data = .seq vs n) : ∀ v, ob.data ≠ .cell v := fun _ q => by rw [e] at q; cases q
theorem mem4 {b x y z u : Nat} (h : b ∈ [x, y, z, u]) (h3 : b ≠ y) : b ∈ [x, z, u] := by
  simp only [List.mem_cons, List.not_mem_nil, or_false] at h ⊢
  rcases h with h | h | h | h
  · exact .inl h
  · exact absurd h h3
  · exact .inr (.inl h)
  · exact .inr (.inr h)
theorem mem4_lt {b N : Nat} (h : b ∈ [N + 4, N + 3, N, N + 1]) : N ≤ b := by
  simp only [List.mem_cons, List.not_mem_nil, or_false] at h
  rcases h with rfl | rfl | rfl | rfl
  · exact Nat.le_add_right ..
  · exact Nat.le_add_right ..
  · exact Nat.le_refl _
  · exact Nat.le_add_right ..

/-- the walk's own objects after i rounds -/
def ZSt (N l1 l2 : Addr) (a1 a2 : Array Value) (i : Nat) (h : Heap) : Prop :=
  IsZip h (N + 4) (N + 2) (N + 3) .none ∧ IsPair h (N + 2) (.ref N) (.ref (N + 1)) ∧ (∃ a b, IsPair h (N + 3) a b) ∧ h.IsListIter N l1 i ∧ h.IsListIter (N + 1) l2 i ∧ h.IsList l1 a1 ∧ h.IsList l2 a2
theorem ZSt.pair {N l1 l2 : Addr} {a1 a2 : Array Value} {i : Nat} {h : Heap} (st : ZSt N l1 l2 a1 a2 i h) : ∃ a b, IsPair h (N + 3) a b := st.2.2.1
theorem RetC_zip {x y : Str} {px py zp cpos pt pos : Pos} {kt : Nat} {e1 e2 : Expr} {body rest : List Stmt} {xs ys : List PV} {r : PV} (mm : Nat → Mp)
    (h1 : Ev w k env (mm 0) e1 (.list xs)) (h2 : EvC w k env (mm 0) e2 (.list ys)) (hlen : ys.length = xs.length) (hx : env.kindOf x = some .local) (hy : env.kindOf y = some .local) (hk : env.kindOf (Str.ofString "zip") = some .globalImplicit)
    (hb : ∀ T i p q, xs[i]? = some p → ys[i]? = some q → Nr w k env ((y, q) :: (x, p) :: mm i) [(T, .own)] body (mm (i + 1)) [(T, .own)])
    (hr : RetC w k env (mm xs.length) rest r)
    (hs : ∀ v, foldedSetIterable (.Call (.Name (Str.ofString "zip") zp) [e1, e2] [] cpos) env v = pure v)
    (hst : (starEach [e1, e2] env).all (fun x => !x.1) = true) (hse : starEach [e1, e2] env = [(false, eval e1 env), (false, eval e2 env)]) :
    RetC w k env (mm 0) (.For (.Tuple [.Name x px, .Name y py] kt pt) (.Call (.Name (Str.ofString "zip") zp) [e1, e2] [] cpos) body [] pos :: rest) r := by
  intro A h₀ s g Q E hQ
  refine wpC_execs_cons (wpC_For ?_ hs)
  rw [arm_eval_Call_Name']
  refine wpC_step (g.built (v := .type "zip") rfl rfl hk (by decide) (callWith_typeCC (any_backTo hst) (args2C h1 h2 g (fun u v s₁ k₁ ru rv => .any ?_) hse)) (by decide))
  simp only [Rep] at ru rv
  obtain ⟨l1, vs1, n1, rfl, el1, rs1⟩ := ru
  obtain ⟨l2, vs2, n2, rfl, el2, rs2⟩ := rv
  have L1 : s₁.heap.IsList l1 vs1.toArray := ⟨_, el1, rfl, _, rfl⟩
  have L2 : s₁.heap.IsList l2 vs2.toArray := ⟨_, el2, rfl, _, rfl⟩
  refine call_zip_2 L1 L2 fun h' hz hTI hTO hi1 hi2 hsz hk' => ?_
  have lt1 : l1 < s₁.heap.objs.size := Heap.lt_size el1
  have lt2 : l2 < s₁.heap.objs.size := Heap.lt_size el2
  obtain ⟨N, hN⟩ : ∃ N, N = s₁.heap.objs.size := ⟨_, rfl⟩
  rw [← hN] at hz hTI hTO hi1 hi2 hsz lt1 lt2 ⊢
  have free : ∀ j, s₁.heap.get? (N + j) = none := fun j => by
    cases e : s₁.heap.get? (N + j) with
    | none => rfl
    | some o => exact absurd (Heap.lt_size e) (by rw [← hN]; exact Nat.not_lt.mpr (Nat.le_add_right N j))
  have g₁ := g.kp k₁
  have hmin : min vs1.toArray.size vs2.toArray.size = xs.length := by simp [rs1.length, rs2.length, hlen]
  obtain ⟨Mid, W⟩ : ∃ Mid, WalksT Pw w A (N + 4) [N + 4, N + 2, N + 3, N, N + 1, l1, l2] [N + 4, N + 3, N, N + 1] xs.length (fun i vals => ∃ x y, vs1.toArray[i]? = some x ∧ vs2.toArray[i]? = some y ∧ vals = #[x, y]) (ZSt N l1 l2 vs1.toArray vs2.toArray) Mid :=
    ⟨_, hmin ▸ WalksT.zip2 (prog := Pw) (w := w) (A := A) g.ok.hand (N + 4) (N + 2) (N + 3) N (N + 1) l1 l2 (zipApart_new lt1 lt2) vs1.toArray vs2.toArray⟩
  have L1' : h'.IsList l1 vs1.toArray := ⟨_, hk' _ _ el1, rfl, _, rfl⟩
  have L2' : h'.IsList l2 vs2.toArray := ⟨_, hk' _ _ el2, rfl, _, rfl⟩
  have st0 : ZSt N l1 l2 vs1.toArray vs2.toArray 0 h' := ⟨hz, hTI, ⟨_, _, hTO⟩, hi1, hi2, L1', L2'⟩
  refine W.self 0 { s₁ with heap := h' } _ _ st0 ?_
  have k₂ : Kp A s₁ { s₁ with heap := h', toks := s₁.toks } := .of_ext hk'
  have c₂ : Sr w k A env h₀ { s₁ with heap := h' } (mm 0) [(N + 3, .own)] := (Sr.nil g₁).new (r := .own) k₂ (free 3) ⟨_, _, hTO⟩
  have q₂ : ExtQ s₁.heap (hideAll h' [N + 3]) := fun a o e _ => hideAll_get _ (hk' a o e) (fun hm => by
    simp at hm; subst hm; rw [free 3] at e; cases e)
  obtain ⟨Iv, mk, un⟩ : ∃ Iv : Nat → Shared → Prop, (∀ n s', (∃ i, i ≤ xs.length ∧ n = xs.length + 1 - i ∧ Sr w k A env h₀ s' (mm i) [(N + 3, .own)] ∧
      ZSt N l1 l2 vs1.toArray vs2.toArray i s'.heap ∧
      ExtQ s₁.heap (hideAll s'.heap [N + 3]) ∧ Kx A env [N + 4, N + 3, N, N + 1] { s₁ with heap := h' } s') → Iv n s') ∧ ∀ n s', Iv n s' → ∃ i, i ≤ xs.length ∧ n = xs.length + 1 - i ∧ Sr w k A env h₀ s' (mm i) [(N + 3, .own)] ∧
      ZSt N l1 l2 vs1.toArray vs2.toArray i s'.heap ∧
      ExtQ s₁.heap (hideAll s'.heap [N + 3]) ∧ Kx A env [N + 4, N + 3, N, N + 1] { s₁ with heap := h' } s' := ⟨fun n s' => ∃ i, i ≤ xs.length ∧ n = xs.length + 1 - i ∧ Sr w k A env h₀ s' (mm i) [(N + 3, .own)] ∧
      ZSt N l1 l2 vs1.toArray vs2.toArray i s'.heap ∧
      ExtQ s₁.heap (hideAll s'.heap [N + 3]) ∧ Kx A env [N + 4, N + 3, N, N + 1] { s₁ with heap := h' } s', fun _ _ h => h, fun _ _ h => h⟩
  refine codeAny_forLoop_any Iv (fun n s' h => ?_) (xs.length + 1) (mk _ _ ⟨0, Nat.zero_le _, rfl, c₂, st0, q₂, .refl ..⟩)
  obtain ⟨i, hi, rfl, cs, st, qs, kx⟩ := un _ _ h
  -- a change of the walk's own objects
  have hnew : ∀ j, h₀.get? (N + j) = none := fun j => by
    cases e : h₀.get? (N + j) with
    | none => rfl
    | some o => have := g₁.base.keep _ _ e; rw [free j] at this; cases this
  have stepG : ∀ (h'' : Heap), (∀ b o, b ∉ [N + 4, N + 3, N, N + 1] → s'.heap.get? b = some o → h''.get? b = some o) → Gd w k A env h₀ (hideAll h'' [N + 3]) (mm i) := fun h'' hk2 => by
    obtain ⟨z1, z2, z3, z4, z5, z6, z7⟩ := st
    refine cs.gd.but (X := [N + 4, N, N + 1]) (fun b ob hb' e => hideAll_get _ (hk2 b ob (fun hm => hb' (mem4 hm fun q => hideAll_nm e (by simp [adr, q]))) (of_hideAll _ e)) (hideAll_nm e)) fun b hb' => ?_
    simp at hb'
    rcases hb' with rfl | rfl | rfl
    · exact ⟨hnew 4, fun o e => by have := of_hideAll _ e; rw [show s'.heap.get? (N + 4) = _ from z1] at this; cases this; exact ⟨_, rfl⟩⟩
    · exact ⟨hnew 0, fun o e => by
        have := of_hideAll _ e
        obtain ⟨o', e', _, d'⟩ := z4
        rw [e'] at this; cases this; exact ⟨_, d'⟩⟩
    · exact ⟨hnew 1, fun o e => by
        have := of_hideAll _ e
        obtain ⟨o', e', _, d'⟩ := z5
        rw [e'] at this; cases this; exact ⟨_, d'⟩⟩
  have step : ∀ (h'' : Heap) (tk : Nat), (∀ b o, b ∉ [N + 4, N + 3, N, N + 1] → s'.heap.get? b = some o → h''.get? b = some o) → (∃ a b, IsPair h'' (N + 3) a b) →
      Sr w k A env h₀ { s' with heap := h'', toks := tk } (mm i) [(N + 3, .own)] ∧ ExtQ s₁.heap (hideAll h'' [N + 3]) ∧ Kx A env [N + 4, N + 3, N, N + 1] s' { s' with heap := h'', toks := tk } := fun h'' tk hk2 hp => by
    refine ⟨⟨stepG h'' hk2, fun p hp' => ?_, by simp [adr]⟩, fun a o e d => ?_, ⟨⟨_, _, rfl⟩, fun b o e _ _ _ l => hk2 b o l e, fun b o e _ _ l => ⟨o.slots, hk2 b o l e⟩⟩⟩
    · simp at hp'; subst hp'; exact hp
    · have e2 := qs a o e d
      have h3 := hideAll_nm e2
      have hlt := Heap.lt_size e
      refine hideAll_get _ (hk2 a o (fun hm => ?_) (of_hideAll _ e2)) h3
      rw [← hN] at hlt
      exact absurd hlt (Nat.not_lt.mpr (mem4_lt hm))
  by_cases hlt : i < xs.length
  · refine W.item i _ _ _ hlt st fun T vals h1 tk hP hT1 hT2 mid hk1 => ?_
    refine W.go _ _ _ i T { s' with heap := h1, toks := tk } _ _ mid fun h2 st2 hk2 => ?_
    obtain ⟨v1, v2, ev1, ev2, rfl⟩ := hP
    have hTn := W.apart i T _ mid
    have hk12 : ∀ b o, b ∉ [N + 4, N + 3, N, N + 1] → s'.heap.get? b = some o → h2.get? b = some o := fun b o hb' e => hk2 b o hb' (hk1 b o hb' e)
    obtain ⟨c1, q1, kx1⟩ := step h2 tk hk12 st2.pair
    have hT3 : h2.IsTuple T #[v1, v2] := hT2.at fun o e => hk2 T o hTn e
    obtain ⟨p1, ep1, rp1⟩ := rs1.get' (i := i) (v := v1) (by simpa using ev1)
    obtain ⟨p2, ep2, rp2⟩ := rs2.get' (i := i) (v := v2) (by simpa using ev2)
    refine wpAny_assign_Tuple (s := { s' with heap := h2, toks := tk }) g.ok.hand hT3 rfl rfl fun h3 ext3 => ?_
    have k3 : Kp A { s' with heap := h2, toks := tk } { s' with heap := h3, toks := tk } := .of_ext fun b o e => ext3 b o (Nat.ne_of_lt (Heap.lt_size e)) e
    have c3 := c1.kp k3
    have q3 : ExtQ s₁.heap (hideAll h3 [N + 3]) := fun a o e d => by
      have e2 := q1 a o e d
      exact hideAll_get _ (ext3 a o (Nat.ne_of_lt (Heap.lt_size (of_hideAll _ e2))) (of_hideAll _ e2)) (hideAll_nm e2)
    show wpAny _ A (holding [v2] (PySem.assign (.Name x px) env v1) >>= fun _ => assignInOrder [PySem.assign (.Name y py) env] [v2]) _ _ _
    refine wpAny_bind (wpAny_holding (wpAny_assign_Name (c3.store (p := p1) (Rep.mono q3 _ _ rp1) hx fun s4 kx4 c4 => ?_)))
    show wpAny _ A (holding [] (PySem.assign (.Name y py) env v2) >>= fun _ => pure ()) _ _ _
    have q4 : ExtQ s₁.heap (hideAll s4.heap [N + 3]) := fun a o e d => by
      have e2 := q3 a o e d
      have h3 := hideAll_nm e2
      obtain ⟨_, _, d⟩ := d
      exact hideAll_get _ (c3.keep kx4 (of_hideAll _ e2) h3 (nd_seq d) (nc_seq d)) h3
    refine wpAny_bind (wpAny_holding (wpAny_assign_Name (c4.store (p := p2) (Rep.mono q4 _ _ rp2) hy fun s5 kx5 c5 => wpAny_pure ?_)))
    refine (hb (N + 3) i p1 p2 ep1 ep2).2 A h₀ s5 c5 _ _ fun s6 kx6 c6 => ?_
    have kx36 : Kx A env [N + 3] { s' with heap := h3, toks := tk } s6 := kx4.trans (kx5.trans kx6)
    have kx26 : Kx A env [N + 3] { s' with heap := h2, toks := tk } s6 := k3.kx.trans kx36
    refine ⟨xs.length + 1 - (i + 1), by omega, mk _ _ ⟨i + 1, hlt, rfl, c6, ?_, fun a o e d => ?_, kx.trans (kx1.trans (kx26.mono fun z hz => by simp at hz; subst hz; simp))⟩⟩
    · obtain ⟨y1, y2, y3, y4, y5, y6, y7⟩ := st2
      have kp : ∀ b ob, b ≠ N + 3 → h2.get? b = some ob → (∀ es ep, ob.data ≠ .dict es ep) → (∀ v, ob.data ≠ .cell v) → s6.heap.get? b = some ob := fun b ob hb' e nd nc => c1.keep kx26 e (by simp; exact hb') nd nc
      refine ⟨kp _ _ (by omega) y1 (nd_fields rfl) (nc_fields rfl), kp _ _ (by omega) y2 (nd_seq rfl) (nc_seq rfl), c6.at_ (N + 3, .own) (by simp), ?_, ?_, ?_, ?_⟩
      · obtain ⟨o', e', c', d'⟩ := y4
        exact ⟨o', kp _ _ (by omega) e' (nd_fields d') (nc_fields d'), c', d'⟩
      · obtain ⟨o', e', c', d'⟩ := y5
        exact ⟨o', kp _ _ (by omega) e' (nd_fields d') (nc_fields d'), c', d'⟩
      · obtain ⟨o', e', c', n', d'⟩ := y6
        exact ⟨o', kp _ _ (Nat.ne_of_lt (Nat.lt_of_lt_of_le lt1 (Nat.le_add_right N 3))) e' (nd_seq d') (nc_seq d'), c', n', d'⟩
      · obtain ⟨o', e', c', n', d'⟩ := y7
        exact ⟨o', kp _ _ (Nat.ne_of_lt (Nat.lt_of_lt_of_le lt2 (Nat.le_add_right N 3))) e' (nd_seq d') (nc_seq d'), c', n', d'⟩
    · have e2 := q1 a o e d
      have h3 := hideAll_nm e2
      obtain ⟨_, _, d⟩ := d
      exact hideAll_get _ (c1.keep kx26 (of_hideAll _ e2) h3 (nd_seq d) (nc_seq d)) h3
  · have hin : i = xs.length := by omega
    subst hin
    refine W.done _ _ _ st fun h2 tk hk2 => ?_
    refine wpAny_execs_nil ?_
    have g2 : Gd w k A env h₀ h2 (mm xs.length) := (stepG h2 hk2).ext (ext_hideAll _ _)
    have kxe : Kx A env [N + 4, N + 3, N, N + 1] { s₁ with heap := h' } { s' with heap := h2, toks := tk } :=
      kx.trans ⟨⟨_, _, rfl⟩, fun b o e _ _ _ l => hk2 b o l e, fun b o e _ _ l => ⟨o.slots, hk2 b o l e⟩⟩
    have off : ∀ b o, s.heap.get? b = some o → b ∉ [N + 4, N + 3, N, N + 1] := fun b o e hm => by
      obtain ⟨sl, e'⟩ := k₁.fr b o e
      have hl := Heap.lt_size e'
      rw [← hN] at hl
      exact absurd hl (Nat.not_lt.mpr (mem4_lt hm))
    refine hr A h₀ _ g2 _ _ fun v s7 ks rv => hQ v s7 (Ks.trans ⟨?_, fun b o e n l c => ?_, fun b o e l c => ?_⟩ ks) rv
    · obtain ⟨ha, ta, ea⟩ := k₁.same
      obtain ⟨hb', tb, eb⟩ := kx.same
      exact ⟨h2, tk, by rw [eb, ea]⟩
    · exact kxe.up b o (hk' b o (k₁.up b o e n)) n l c (off b o e)
    · obtain ⟨sl, e'⟩ := k₁.fr b o e
      obtain ⟨sl2, e2⟩ := kxe.fr b _ (hk' b _ e') l c (off b o e)
      exact ⟨sl2, e2⟩
end
end Mine

end

/-! part Fn15 -/
section
open PySem PySem.W PySem.Calls PyProof.Rows
set_option linter.unusedVariables false
set_option maxRecDepth 100000
namespace Mine
theorem Fn_enterD {w : World} {k : Nat} {f : Addr} {fd : FuncData} {body : List Stmt} {oc : Value} {od : Option Addr} {osl : Array (Option Value)} {names : List Str} {ps qs : List PV} {us : List Value} {r : PV}
    (ho : (K w).lookup f = some ⟨oc, od, .func fd, osl⟩) (hbody : fd.body = .stmts body) (hcode : codeIn (K w) fd.code fd.qualname = true) (hclo : fd.closure = []) (hgl : fd.globals = mainGlobals) (hbt : fd.builtins = builtinsNs)
    (hkind : fd.scope.kind = .function) (hco : fd.scope.isCoroutine = false) (hgen : fd.scope.isGenerator = false)
    (hbind : ∀ (s : Shared) vs, Gl w s.heap → vs.length = ps.length → BindsTo s fd ⟨vs, []⟩ (names.zip (vs ++ us))) (hus : ∀ h, Reps h qs us) (hlen : names.length = (ps ++ qs).length) (hnd : names.Nodup)
    (hks : (names.all fun y => fd.scope.names.lookup y == some .local || fd.scope.names.lookup y == some .cell) = true)
    (hcn : ((cellsFrom 0 fd.scope.names []).map (·.1)).Nodup)
    (h : ∀ L, Ret w k (enter fd L f) (names.zip (ps ++ qs)) body r) : Fn w (k + 1) f ps r := by
  intro A s vs₀ cx rs₀ Q E hQ
  have G := cx.gl
  have rs := rs₀.append (hus s.heap)
  have hvl : vs₀.length = ps.length := rs₀.length
  refine wpAny_call (codeAny_call_function (by have := cx.ok.deep; omega) (G.k _ _ ho) rfl hco hgen hbody (codeRec_of G.k hcode) ?_)
  refine hbind s vs₀ G hvl _ _ _ _ ?_
  generalize hvs : vs₀ ++ us = vs at rs
  rw [hclo, hgl, hbt]
  refine enter_core hkind hlen hnd hks hcn cx rs fun s₁ h₀ g keep back => ⟨G.nolimit.keeps keep, codeAny_func ?_⟩
  exact h s.heap.objs.size _ h₀ s₁ g _ _ fun v s' q rv => hQ v s' (back s' q) rv

theorem Ev_fnK1 {w : World} {k : Nat} {env : Env} {m : Mp} {x kn : Str} {p pos : Pos} {e kwe : Expr} {kw : Keyword} {b : Bool} {pv : PV} {f : Addr} {r : PV} {fd : FuncData} {oc : Value} {od : Option Addr} {osl : Array (Option Value)} (hx : nsIn (K w) mainGlobals x = some (some (.ref f))) (hk : env.kindOf x = some .globalImplicit)
    (ho : (K w).lookup f = some ⟨oc, od, .func fd, osl⟩) (he : Ev w k env m e pv) (hkw : Ev w k env m kwe (.bool b)) (hf : FnK w k f [pv] [(kn, .bool b)] r)
    (hse : starEach [e] env = [(false, eval e env)]) (hke : keywordEach [kw] env = [(some kn, eval kwe env)]) (hd : (x == ("__debug__" : Str)) = false) : Ev w k env m (.Call (.Name x p) [e] [kw] pos) r :=
  fun A h₀ s g Q E h => wpAny_Call_Name_kw (g.global hx hk (by
    rw [hse, hke]
    refine callWith_function_kw (o := ⟨oc, od, .func fd, osl⟩) (fd := fd) (evalArgs_kw rfl (spliced_cons (he A h₀ s g _ _ fun v s₁ k₁ rv => spliced_nil ?_)))
    refine wpAny_evalAll_cons (wpAny_bind (hkw A h₀ s₁ (g.kp k₁) _ _ fun u s₂ k₂ ru => wpAny_bind (wpAny_standAt (wpAny_pure (wpAny_evalAll_nil ?_)))))
    simp only [Rep] at ru
    subst ru
    have g₂ := (g.kp k₁).kp k₂
    exact ⟨⟨g₂.cx.gl.k _ _ ho, rfl⟩, hf A s₂ [v] g₂.cx (Reps.cons ((g.kp k₁).rep k₂ rv) Reps.nil) _ _ fun v s₃ k₃ r => h v s₃ ((k₁.trans k₂).trans k₃) r⟩) hd)

theorem b64encode_fn {w : World} {P : Nat} (hP : P < 64 ^ 20) : Fn w 3 58 [.bytes (byteArr (bytesOf P))] (.bytes (byteArr (outTo P 20))) := by
  refine Fn_enterD (names := [Str.ofString "s", Str.ofString "altchars"]) (qs := [.none]) (us := [.none]) rfl rfl rfl rfl rfl rfl rfl rfl rfl ?_ ?_ rfl (by decide) rfl (by decide) ?_
  · intro s vs G h
    match vs, h with
    | [a], _ => exact BindsTo.of_defaults rfl (G.k _ _ rfl) rfl rfl rfl
  · intro h; simp only [Reps, Rep]; exact ⟨_, _, rfl, rfl, rfl⟩
  · intro L
    refine Ret_cons (Nx1_assign (p := .bytes (byteArr (outTo P 20))) (Ev_fnK1 (hse := by rfl) (hke := by rfl) (hd := by decide) (f := 50) (kn := Str.ofString "newline") rfl rfl rfl (Ev_name rfl) Ev_bool (b2a_fn hP)) rfl) ?_
    exact Ret_cons (Nx1_if_false (Ts_cmp (Ev_name rfl) Ev_none isnot_none_n) Nx_nil) (Ret_return (Ev_name rfl))
end Mine

end

/-! part Fn16 -/
section
open PySem PySem.W PySem.Calls PyProof.Rows
set_option linter.unusedVariables false
set_option maxRecDepth 100000
namespace Mine
def num (l : List Int) : Int := l.foldl (fun a d => a * 64 + d) 0
theorem num_snoc (l : List Int) (d : Int) : num (l ++ [d]) = num l * 64 + d := by simp [num]
theorem num_take {l : List Int} {i : Nat} (h : i < l.length) : num (l.take (i + 1)) = num (l.take i) * 64 + l.getD i 0 := by
  rw [List.take_add_one, List.getElem?_eq_getElem h, Option.toList_some, num_snoc]
  simp [List.getD, List.getElem?_eq_getElem h]
theorem num_bound : ∀ {l : List Int}, (∀ d ∈ l, 0 ≤ d ∧ d < 64) → 0 ≤ num l ∧ num l < 64 ^ l.length := by
  intro l
  suffices ∀ (l : List Int) (a : Int) (n : Nat), 0 ≤ a → a < 64 ^ n → (∀ d ∈ l, 0 ≤ d ∧ d < 64) → 0 ≤ l.foldl (fun a d => a * 64 + d) a ∧ l.foldl (fun a d => a * 64 + d) a < 64 ^ (n + l.length) by
    intro h
    have := this l 0 0 (by decide) (by decide) h
    simpa [num] using this
  intro l
  induction l with
  | nil => intro a n h1 h2 _; exact ⟨h1, by simpa using h2⟩
  | cons d l ih =>
    intro a n h1 h2 h
    have hd := h d (by simp)
    have h3 : a * 64 + d < 64 ^ (n + 1) := by rw [Int.pow_succ]; omega
    have := ih (a * 64 + d) (n + 1) (by omega) h3 fun x hx => h x (by simp [hx])
    rw [List.foldl_cons, List.length_cons]
    rw [show n + (l.length + 1) = n + 1 + l.length by omega]
    exact this
theorem il_some {l : List Int} {i : Nat} {p : PV} (h : (il l)[i]? = some p) : i < l.length ∧ p = .int (l.getD i 0) := by
  rw [List.getElem?_map] at h
  cases e : l[i]? with
  | none => rw [e] at h; cases h
  | some v =>
    rw [e] at h
    have : PV.int v = p := Option.some.inj h
    obtain ⟨hi, ev⟩ := List.getElem?_eq_some_iff.mp e
    exact ⟨hi, by rw [← this]; simp [List.getD, e]⟩
theorem div_ib {w : World} {k : Nat} {a b : Int} (hb : 0 < b) (hs' : Builtin.divisionGoesByPylong a b = false) : Bop w k .FloorDiv (.int a) (.int b) (.int (a / b)) := fun A s va vb cx ra rb Q E h => by
  simp only [Rep] at ra rb; obtain ⟨t, rfl⟩ := ra; obtain ⟨u, rfl⟩ := rb
  refine floordiv_int (by omega) (h _ _ .of_toks ?_) (.inl hs')
  simp only [Rep]
  exact ⟨_, by rw [Int.fdiv_eq_ediv_of_nonneg _ (by omega)]⟩
theorem log_small : ∀ t : Fin 15, ((256 : Int) ^ ((14 : Int) - (t.val : Int)).toNat).natAbs.log2 < 9000 := by decide +kernel
/-- the product of the two numbers -/
def prodOf (ps : List Int) : Nat := (num (marksOf ps 10) * num (marksOf ps 10).reverse).toNat
theorem marksOf_length (ps : List Int) (n : Nat) : (marksOf ps n).length = n := by simp [marksOf]
theorem marksOf_nonneg {ps : List Int} {n : Nat} : ∀ d ∈ marksOf ps n, 0 ≤ d := by
  intro d hd
  simp only [marksOf, List.mem_map] at hd
  obtain ⟨i, _, rfl⟩ := hd
  omega
theorem prodOf_spec {ps : List Int} (hm : ∀ d ∈ marksOf ps 10, d < 64) : ((prodOf ps : Nat) : Int) = num (marksOf ps 10) * num (marksOf ps 10).reverse ∧ prodOf ps < 64 ^ 20 ∧ 0 ≤ num (marksOf ps 10) ∧ num (marksOf ps 10) < 64 ^ 10 := by
  have h1 := num_bound (l := marksOf ps 10) fun d hd => ⟨marksOf_nonneg d hd, hm d hd⟩
  have h2 := num_bound (l := (marksOf ps 10).reverse) fun d hd => ⟨marksOf_nonneg d (by simpa using hd), hm d (by simpa using hd)⟩
  rw [marksOf_length] at h1
  rw [List.length_reverse, marksOf_length] at h2
  have h3 : 0 ≤ num (marksOf ps 10) * num (marksOf ps 10).reverse := Int.mul_nonneg h1.1 h2.1
  have h4 : num (marksOf ps 10) * num (marksOf ps 10).reverse < 64 ^ 10 * 64 ^ 10 := by
    refine Int.lt_of_le_of_lt (Int.mul_le_mul_of_nonneg_right (Int.le_of_lt h1.2) h2.1) ?_
    exact Int.mul_lt_mul_of_pos_left h2.2 (by decide)
  refine ⟨by unfold prodOf; omega, ?_, h1.1, h1.2⟩
  unfold prodOf
  omega

theorem written_fn {w : World} {ps : List Int} (hm : ∀ d ∈ marksOf ps 10, d < 64) : FnC w 4 94 [.list (il ps)] (.bytes (byteArr (outTo (prodOf ps) 20))) := by
  obtain ⟨hP, hlt, hn0, hn1⟩ := prodOf_spec hm
  refine FnC_enter (names := [Str.ofString "points"]) rfl rfl rfl rfl rfl rfl rfl rfl rfl ?_ rfl (by decide) rfl (by decide) ?_
  · intro vs h
    match vs, h with
    | [a], _ => rfl
  · intro L
    have hl := marksOf_length ps 10
    generalize hM : marksOf ps 10 = M at *
    refine RetC_cons (Nx1_assign (p := .list (il M)) (Ev_fn (f := 77) rfl rfl rfl (Evs_cons (Ev_name rfl) (Evs_cons Ev_int Evs_nil)) (by
      have := marks_fn (w := w) (ns := ps) (n := 10) (by decide)
      rw [hM] at this
      exact fun A s vs cx => this A s vs (cx.le (by decide)))) rfl) ?_
    refine RetC_cons (Nx1_assign (p := .int 0) Ev_int rfl) (RetC_cons (Nx1_assign (p := .int 0) Ev_int rfl) ?_)
    refine RetC_zip (hs := by intro _; rfl) (hst := by rfl) (hse := by rfl) (xs := il M) (ys := il M.reverse) (fun i => [(Str.ofString "other", .int (num (M.reverse.take i))), (Str.ofString "one", .int (num (M.take i))), (Str.ofString "marks", .list (il M)), (Str.ofString "points", .list (il ps))])
      (Ev_name rfl) (EvC_fn (f := 84) rfl rfl rfl (Evs_cons (Ev_name rfl) Evs_nil) ((turned_fn (fun n hn => ⟨by rw [← hM] at hn; exact marksOf_nonneg n hn, by have := hm n hn; omega⟩) (.inr hl)).le (by decide))) (by simp [il]) rfl rfl rfl ?_ ?_
    · intro T i p q hp hq
      obtain ⟨hi, rfl⟩ := il_some hp
      obtain ⟨hi', rfl⟩ := il_some hq
      refine Nr.sub (Nr_cons (Nr1_assign (p := .int (num (M.take (i + 1)))) ?_ rfl rfl) (Nr_cons (Nr1_assign (p := .int (num (M.reverse.take (i + 1)))) ?_ rfl rfl) Nr_nil)) (sub_of fun p hp => ?_)
      · rw [num_take hi]
        exact Ev_bin (Ev_bin (Ev_name rfl) Ev_int (mul_i (.of_right (by decide)))) (Ev_name rfl) add_i
      · rw [num_take hi']
        exact Ev_bin (Ev_bin (Ev_name rfl) Ev_int (mul_i (.of_right (by decide)))) (Ev_name rfl) add_i
      · simp only [List.mem_cons, List.not_mem_nil, or_false] at hp
        rcases hp with rfl | rfl | rfl | rfl <;> rfl
    · have e1 : (il M).length = 10 := by simpa [il] using hl
      have e2 : M.take 10 = M := List.take_of_length_le (by omega)
      have e3 : M.reverse.take 10 = M.reverse := List.take_of_length_le (by simp; omega)
      rw [e1]
      rw [e2, e3]
      refine Ret.c (Ret_cons (Nx1_assignC (hs := by rfl) (p := .int (prodOf ps : Nat)) (by
        rw [hP]
        exact Ev_bin (Ev_name rfl) (Ev_name rfl) (mul_i (.of_left (intBits_le_64 (by omega) (by omega))))) rfl rfl) ?_)
      refine Ret_return (Ev_fn (f := 58) rfl rfl rfl (Evs_cons (Ev_ty (id := "bytes") rfl rfl rfl (Evs_cons ?_ Evs_nil) (bytes_bi (ns := bytesOf (prodOf ps)) ?_ ?_)) Evs_nil) (b64encode_fn hlt))
      · rw [bytesOf, il_map]
        refine Cm.ev (Cm_comp (ts := List.range 15) (g := fun (i : Nat) => PV.int i) (cl := [(Str.ofString "product", L + 1)]) ⟨rfl, rfl, by decide, by decide, rfl⟩ rfl ?_ ?_ ?_ ?_)
        · exact (ItX_range1 (n := (15 : Int)) Ev_int (by omega) (by omega) rfl).it
        · intro t ht C
          have ht' := List.mem_range.mp ht
          have e4 : (((byteAt (prodOf ps) t : Nat)) : Int) = ((prodOf ps : Nat) : Int) / (256 ^ ((14 : Int) - (t : Int)).toNat) % 256 := by
            unfold byteAt
            rw [show ((14 : Int) - (t : Int)).toNat = 14 - t by omega]
            push_cast
            rfl
          rw [e4]
          refine Ev_bin (Ev_bin (Ev_name rfl) (Ev_bin Ev_int (Ev_bin Ev_int (Ev_name rfl) sub_i) (pow_i (by omega) ?_)) (div_ib ?_ ?_)) Ev_int (mod_i (by decide))
          · have : Builtin.Int.intBits 256 = 9 := by decide
            rw [this]; omega
          · exact Int.pow_pos (by decide)
          · exact PyProof.noPylong_of_log2 (log_small ⟨t, ht'⟩)
        · intro t; rfl
        · decide
      · intro n hn
        simp only [bytesOf, List.mem_map] at hn
        obtain ⟨i, _, rfl⟩ := hn
        have : byteAt (prodOf ps) i < 256 := Nat.mod_lt _ (by decide)
        omega
      · simp [bytesOf]; decide
end Mine

end

/-! part Told1 -/
section
open PySem PySem.W PySem.Calls PyProof.Rows
set_option linter.unusedVariables false
set_option maxRecDepth 100000
namespace Mine
section
variable {w : World} {k : Nat} {env : Env} {m m' : Mp} {A : Around} {h₀ h h' : Heap} {s s' : Shared} {o o' : Led} {x : Str} {p : PV} {v : Value} {a c : Addr} {r : Rs}

theorem Sr.storeC {Q : Unit → Shared → Prop} {E : Value → Shared → Prop} (cs : Sr w k A env h₀ s m o) (r : Rep (hideAll s.heap (adr o)) p v) (hx : env.kindOf x = some .cell) (hc : env.cells.lookup x = some c)
    (h : ∀ s', Kx A env (adr o) s s' → Sr w k A env h₀ s' ((x, p) :: m) o → Q () s') : wpAny (Md w) A (storeName env x v) Q E s := by
  obtain ⟨c1, c2, u, c3⟩ := cs.gd.base.noC x c (mem_of_lookup hc)
  have hCD : c ∉ adr o := by obtain ⟨ob, e, _⟩ := c3; exact hideAll_nm e
  have c4 : s.heap.IsCell c u := by obtain ⟨ob, e, d⟩ := c3; exact ⟨ob, of_hideAll _ e, d⟩
  refine wpAny_storeName_cell cs.gd.kind hx hc c4 fun h' hv sb => ?_
  refine h _ ⟨⟨_, _, rfl⟩, fun b ob e _ l nc _ => (sb.2 b fun q => nc x (q ▸ mem_of_lookup hc)).trans e, fun b ob e l nc _ => ⟨ob.slots, (sb.2 b fun q => nc x (q ▸ mem_of_lookup hc)).trans e⟩⟩ ⟨?_, fun p hp => (cs.at_ p hp).same fun ob e => (sb.2 _ fun q => hCD (q ▸ List.mem_map_of_mem hp)).trans e, cs.nd⟩
  refine cs.gd.afterC r hx hc ?_ fun b hb => ?_
  · obtain ⟨ob, e1, r1⟩ := hv
    exact ⟨ob, hideAll_get _ e1 hCD, r1⟩
  · by_cases hbD : b ∈ adr o
    · rw [hideAll_none _ hbD, hideAll_none _ hbD]
    · cases e : s.heap.get? b with
      | some ob => rw [hideAll_get _ e hbD, hideAll_get _ ((sb.2 b hb).trans e) hbD]
      | none =>
        have e1 : (hideAll s.heap (adr o)).get? b = none := by
          cases q : (hideAll s.heap (adr o)).get? b with
          | none => rfl
          | some ob => rw [of_hideAll _ q] at e; cases e
        have e2 : (hideAll h' (adr o)).get? b = none := by
          cases q : (hideAll h' (adr o)).get? b with
          | none => rfl
          | some ob => have := of_hideAll _ q; rw [sb.2 b hb, e] at this; cases this
        rw [e1, e2]

theorem Nr1_freshC {e : Expr} {ys : List PV} {px pos : Pos} (hn : New w k env m e (.list ys)) (hx : env.kindOf x = some .cell) (hc : env.cells.lookup x = some c) (hs : swapsWith e (some (.Name x px)) pos.line env = pure false) :
    Nr1 w k env m o (.Assign [.Name x px] e pos) ((x, .list ys) :: m) o :=
  ⟨rfl, fun A h₀ s cs Q E hQ => wpAny_Assign_Name (hn A h₀ s cs.gdx _ _ fun a s₁ k₁ hf hr => by
    obtain ⟨fl, vs, n, e1, rs⟩ := hr
    have hna : a ∉ adr o := fun hm => by
      obtain ⟨p, hp, rfl⟩ := List.mem_map.mp hm
      obtain ⟨ob, e, _⟩ := (cs.at_ p hp).there
      rw [hf] at e; cases e
    exact (cs.kp k₁).storeC (p := .list ys) (by simp only [Rep]; exact ⟨a, vs, n, rfl, hideAll_get _ e1 hna, rs.flat fl⟩) hx hc fun s₂ q c₂ => hQ s₂ (k₁.kx.trans q) c₂) hs⟩

theorem Cm.assignR {elt : Expr} {rest : List Comprehension} {scope : Scope} {pos : Pos} {cl : List (Str × Addr)} {gg : Comprehension} {ys : List PV} {y : Str} {py spos : Pos} (c : Cm w k env m elt (gg :: rest) scope pos cl ys) (hy : env.kindOf y = some .local)
    (hsw : swapsWith (.ListComp elt (gg :: rest) scope pos) (some (.Name y py)) spos.line env = pure true := by rfl) (ha : gg.is_async = 0 := by rfl) (hs : ∀ x, foldedSetIterable gg.iter env x = pure x := by intro _; rfl) :
    Nr1 w k env m o (.Assign [.Name y py] (.ListComp elt (gg :: rest) scope pos) spos) ((y, .list ys) :: m) o := by
  refine ⟨rfl, fun A h₀ s cs Q E hQ => ?_⟩
  have gd := cs.gdx
  rw [exec_Assign_Name_used _ _ _ _ hsw]
  refine wpAny_bind (wpAny_standAt (wpAny_bind ?_))
  have hf : firstAsync (gg :: rest) = false := by obtain ⟨a, b, c, d⟩ := gg; simp only at ha; subst ha; rfl
  show wpAny _ A (do let _ ← comprehension (.ListComp elt (gg :: rest) scope pos) scope env _ (newList []) (firstAsync (gg :: rest)) (firstIter (gg :: rest) env) (some (PySem.assign (.Name y py) env))) _ _ s
  rw [hf]
  refine wpAny_bind (wpAny_mono (wpAny_comprehension_free (use := some (PySem.assign (.Name y py) env)) (Q := fun _ s' => Q .next s') rfl hs (closureFor_of c.sc.cl) c.sc.kind c.sc.names
    (c.run A h₀ s gd _ _ fun D C s' vs n mC kp hD hC hCD e fl rs nC => ?_)) (fun _ s' hq => wpAny_pure (wpAny_pure hq)) fun _ _ e => e)
  show wpAny _ A (PySem.assign (.Name y py) env (.ref D)) _ _ _
  have g' := gd.kp kp
  have cs' := cs.kp kp
  have hnot : ∀ b, s.heap.get? b = none → b ∉ adr o := fun b hb hm => by
    obtain ⟨p, hp, rfl⟩ := List.mem_map.mp hm
    obtain ⟨ob, e, _⟩ := (cs.at_ p hp).there
    rw [hb] at e; cases e
  have hCL : C ≠ env.locals := fun q => by obtain ⟨mv, ⟨o, _, _, e, _⟩, _⟩ := gd.mem; rw [← q, hC] at e; cases e
  have hCc : ∀ x, (x, C) ∉ env.cells := fun x hm => by obtain ⟨_, _, v, o, e, _⟩ := gd.base.noC x C hm; rw [hC] at e; cases e
  have hCf : C ∉ frs A := fun hb => by
    obtain ⟨outer, hA, hf⟩ := gd.base.frames
    obtain ⟨_, o, _, _, e, _⟩ := frame_dict hA hf hb
    rw [hC] at e; cases e
  refine wpAny_assign_Name (cs'.store (p := .list ys) (by simp only [Rep]; exact ⟨D, vs, n, rfl, hideAll_get _ e (hnot D hD), rs.flat fl⟩) hy fun s'' q c'' => ?_)
  have nC'' : s''.heap.Ns C mC := by
    obtain ⟨o, es, ep, e1, e2, e3⟩ := nC
    obtain ⟨sl, e1'⟩ := q.fr C o e1 hCL hCc (hnot C hC)
    exact ⟨_, es, ep, e1', e2, e3⟩
  refine ⟨mC, nC'', fun h' sb => hQ _ ⟨?_, fun b ob eb n1 n2 n3 n4 => ?_, fun b ob eb n2 n3 n4 => ?_⟩ ⟨?_, fun p hp => (c''.at_ p hp).same fun ob e => (sb.2 _ fun q => hnot C hC (q ▸ List.mem_map_of_mem hp)).trans e, c''.nd⟩⟩
  · obtain ⟨h1, t1, rfl⟩ := kp.same
    obtain ⟨h2, t2, rfl⟩ := q.same
    exact ⟨_, _, rfl⟩
  · have hbC : b ≠ C := fun z => by rw [z, hC] at eb; cases eb
    exact (sb.2 b hbC).trans (q.up b ob (kp.up b ob eb n1) n1 n2 n3 n4)
  · have hbC : b ≠ C := fun z => by rw [z, hC] at eb; cases eb
    obtain ⟨sl, e1⟩ := kp.fr b ob eb
    obtain ⟨sl2, e2⟩ := q.fr b _ e1 n2 n3 n4
    exact ⟨sl2, (sb.2 b hbC).trans e2⟩
  · refine c''.gd.other (C := C) (fun b ob hb e => hideAll_get _ ((sb.2 b hb).trans (of_hideAll _ e)) (hideAll_nm e)) ?_ hCL hCc hCf ?_
    · cases e0 : h₀.get? C with
      | none => rfl
      | some o => have := gd.base.keep C o e0; rw [hC] at this; cases this
    · intro o eo xs n' d
      obtain ⟨o', es, ep, e1, e2, e3⟩ := nC''
      rw [of_hideAll _ eo] at e1; cases e1
      rw [e2] at d; cases d

theorem Gd.put {ys : List PV} (g : Gd w k A env h₀ h m) (hx : m.lookup x = some (.ref a)) (hr : Rep h (.list ys) (.ref a)) : Gd w k A env h₀ h ((x, .list ys) :: m) := by
  obtain ⟨mv, n, rd⟩ := g.mem
  refine { g with mem := ⟨mv, n, fun y py e => ?_⟩ }
  rw [List.lookup_cons] at e
  cases hyx : y == x with
  | true =>
    rw [hyx] at e; cases e
    have := beq_iff_eq.mp hyx
    subst this
    obtain ⟨v, r1, r2⟩ := rd y _ hx
    simp only [Rep] at r1
    subst r1
    exact ⟨_, hr, r2⟩
  | false => rw [hyx] at e; exact rd y py e

theorem RetR_unord {xs ys : List Int} {a₁ a₂ : Addr} {x1 x2 xf : Str} {px p p1 p2 cpos pos : Pos} {rest : List Stmt} {rv : PV} {fd : FuncData} {oc : Value} {od : Option Addr} {osl : Array (Option Value)} (ho : (K w).lookup 28 = some ⟨oc, od, .func fd, osl⟩) (h1 : m.lookup x1 = some (.ref a₁)) (h2 : m.lookup x2 = some (.ref a₂)) (h12 : (x2 == x1) = false) (hf : env.kindOf xf = some .local) (hk : env.kindOf (Str.ofString "unorderable_list_difference") = some .globalImplicit)
    (hl1 : xs.length ≤ 400) (hl2 : ys.length ≤ 400) (hd1 : (x1 == ("__debug__" : Str)) = false) (hd2 : (x2 == ("__debug__" : Str)) = false)
    (hr : Ret w (k + 1) env ((xf, .tup [.list (il (uld xs ys).1), .list (il (uld xs ys).2)]) :: (x2, .list (il (uld xs ys).2)) :: (x1, .list (il [])) :: m) rest rv) :
    RetR w (k + 1) env m [(a₂, .list (il ys)), (a₁, .list (il xs))] (.Assign [.Name xf px] (.Call (.Name (Str.ofString "unorderable_list_difference") p) [.Name x1 p1, .Name x2 p2] [] cpos) pos :: rest) rv := by
  intro A h₀ s cs Q E hQ
  have hne : a₂ ≠ a₁ := by have := cs.nd; simp [adr] at this; exact this
  refine wpAny_execs_cons (wpAny_Assign_Name (wpAny_Call_Name_kw (cs.gdx.global (v := .ref 28) rfl hk (callWith_function (o := ⟨oc, od, .func fd, osl⟩) (fd := fd) ((Evs_cons (Ev_name h1 hd1) (Evs_cons (Ev_name h2 hd2) Evs_nil)).args cs.gdx (fun vs s₁ k₁ rs => ?_) rfl)) (by decide))))
  simp only [Reps, Rep] at rs
  obtain ⟨_, _, rfl, rfl, _, _, rfl, rfl, rfl⟩ := rs
  have c1 := cs.kp k₁
  refine ⟨⟨c1.gdx.cx.gl.k _ _ ho, rfl⟩, ?_⟩
  have gx : Gd w (k + 1) A env h₀ (hideAll s₁.heap [a₁, a₂]) m := c1.gd.ext fun b ob e => hideAll_get _ (of_hideAll _ e) (by
    have := hideAll_nm e
    simp [adr] at this ⊢
    exact ⟨this.2, this.1⟩)
  refine unord_fn (w := w) (xs := xs) (ys := ys) hl1 hl2 (Ne.symm hne) A s₁ (gx.cx.le (by omega)) (c1.at_ (a₁, .list (il xs)) (by simp)) (c1.at_ (a₂, .list (il ys)) (by simp)) _ _ fun v s₂ kc at1 at2 rv => ?_
  have g2h : Gd w (k + 1) A env h₀ (hideAll s₂.heap [a₁, a₂]) m := Gd.kp (s := { s₁ with heap := hideAll s₁.heap [a₁, a₂] }) (s' := { s₂ with heap := hideAll s₂.heap [a₁, a₂] }) gx ⟨by
      obtain ⟨h1, t1, rfl⟩ := kc.same
      exact ⟨_, _, rfl⟩, fun b ob e n => hideAll_get _ (kc.up b ob (of_hideAll _ e) n (hideAll_nm e)) (hideAll_nm e), fun b ob e => by
      obtain ⟨sl, e2⟩ := kc.fr b ob (of_hideAll _ e) (hideAll_nm e)
      exact ⟨sl, hideAll_get _ e2 (hideAll_nm e)⟩⟩
  have g2 := g2h.ext (ext_hideAll _ _)
  obtain ⟨f1, w1, n1, e1, r1⟩ := at1
  obtain ⟨f2, w2, n2, e2, r2⟩ := at2
  have g3 := g2.put (ys := il []) h1 (by simp only [Rep]; exact ⟨_, w1, n1, rfl, e1, r1⟩)
  have g4 := g3.put (x := x2) (ys := il (uld xs ys).2) (by rw [List.lookup_cons, h12]; exact h2) (by simp only [Rep]; exact ⟨_, w2, n2, rfl, e2, r2⟩)
  refine g4.storeL rv hf fun s₃ ks g5 _ => hr A h₀ s₃ g5 _ _ fun v s₄ ks' rv' => hQ v s₄ ?_ rv'
  have kx1 : Kx A env [a₂, a₁] s₁ s₂ := ⟨kc.same, fun b ob e n _ _ z => kc.up b ob e n (by simp at z ⊢; exact ⟨z.2, z.1⟩), fun b ob e _ _ z => kc.fr b ob e (by simp at z ⊢; exact ⟨z.2, z.1⟩)⟩
  exact k₁.kx.trans (kx1.trans (ks.kx.trans ks'.kx))
end
theorem PT_tup {xs : List PV} : PT (.tup xs) "tuple" := fun s v r => by
  simp only [Rep] at r
  obtain ⟨a, vs, n, rfl, e, _⟩ := r
  exact ⟨⟨_, e, rfl⟩, fun b q => by cases q; exact ⟨_, e, rfl⟩⟩
end Mine

end

/-! part Fn17 -/
section
open PySem PySem.W PySem.Calls PyProof.Rows
set_option linter.unusedVariables false
set_option maxRecDepth 100000
namespace Mine
theorem FnP.le {w : World} {j k : Nat} {f : Addr} {ps : List PV} {P : Shared → Value → Shared → Prop} (x : FnP w j f ps P) (h : j ≤ k) : FnP w k f ps P := fun A s vs g => x A s vs (g.le h)
def missOf (A B : List Int) : List Int := (List.range 10).flatMap fun t => (List.range (A.getD (9 - t) 0 - B.getD (9 - t) 0).toNat).map fun _ => (9 + (t : Int) * (-1))
def unexOf (A B : List Int) : List Int := (List.range 10).flatMap fun t => (List.range (B.getD t 0 - A.getD t 0).toNat).map fun _ => (t : Int)
theorem readOf_length {l : List Int} {n : Nat} (hl : l.length = 20) : (readOf l n).length = 10 := by simp [readOf, hl]
theorem readOf_bound {l : List Int} {n : Nat} (hl : l.length = 20) (hf : ∀ f ∈ l, 0 ≤ f ∧ f < 64) (hn : n < 1000) (i : Nat) : -1000 ≤ (readOf l n).getD i 0 ∧ (readOf l n).getD i 0 ≤ 1000 := by
  unfold readOf
  cases i with
  | zero =>
    have h1 := hf (l.getD 10 0) (by simp [List.getD, List.getElem?_eq_getElem (show 10 < l.length by omega)])
    show -1000 ≤ (l.getD 10 0 - n) / 2 ∧ (l.getD 10 0 - n) / 2 ≤ 1000
    omega
  | succ i =>
    simp only [List.singleton_append, List.getD_cons_succ]
    by_cases hi : i < (l.drop 11).length
    · have h1 := hf ((l.drop 11).getD i 0) (by
        have : (l.drop 11).getD i 0 ∈ l.drop 11 := by
          rw [List.getD, List.getElem?_eq_getElem hi, Option.getD_some]; exact List.getElem_mem _
        exact List.mem_of_mem_drop this)
      omega
    · rw [List.getD, List.getElem?_eq_none (by omega)]; simp
theorem srt_length (ns : List Int) : (srt ns).length = ns.length := (srt_perm ns).length_eq

theorem told_fn {w : World} {one other l1 l2 : List Int} (hd1 : (distsOf one).length < 64) (hd2 : (distsOf other).length < 64) (hp1 : one.length < 1000) (hp2 : other.length < 1000)
    (hl1 : l1.length = 20) (hf1 : ∀ f ∈ l1, 0 ≤ f ∧ f < 64) (hl2 : l2.length = 20) (hf2 : ∀ f ∈ l2, 0 ≤ f ∧ f < 64)
    (hm : (uld (srt (distsOf one)) (srt (distsOf other))).1 = missOf (readOf l1 one.length) (readOf l2 other.length))
    (hu : (uld (srt (distsOf one)) (srt (distsOf other))).2 = unexOf (readOf l1 one.length) (readOf l2 other.length))
    (he : (decide ((uld (srt (distsOf one)) (srt (distsOf other))).1 = []) && decide ((uld (srt (distsOf one)) (srt (distsOf other))).2 = [])) = ((signsOf l1).toList == (signsOf l2).toList)) :
    Fn w 3 114 [.list (il one), .list (il other), .bytes (signsOf l1), .bytes (signsOf l2)] (.bool true) := by
  refine Fn_enter (names := [Str.ofString "one", Str.ofString "other", Str.ofString "writing", Str.ofString "beside"]) rfl rfl rfl rfl rfl rfl rfl rfl rfl ?_ rfl (by decide) rfl (by decide) ?_
  · intro vs h
    match vs, h with
    | [a, b, c, d], _ => rfl
  · intro L
    have D1 := (dists_new (w := w) hd1 hp1).le (k := 2) (by decide)
    have D2 := (dists_new (w := w) hd2 hp2).le (k := 2) (by decide)
    have R1 := read_new (w := w) (n := one.length) hl1 hf1
    have R2 := read_new (w := w) (n := other.length) hl2 hf2
    have bA := readOf_bound (n := one.length) hl1 hf1 hp1
    have bB := readOf_bound (n := other.length) hl2 hf2 hp2
    have lA := readOf_length (n := one.length) hl1
    have lB := readOf_length (n := other.length) hl2
    have hxl : (srt (distsOf one)).length < 64 := by rw [srt_length]; exact hd1
    have hyl : (srt (distsOf other)).length < 64 := by rw [srt_length]; exact hd2
    generalize srt (distsOf one) = xs at *
    generalize srt (distsOf other) = ys at *
    generalize readOf l1 one.length = A at *
    generalize readOf l2 other.length = B at *
    have hul := ust_len xs.reverse ([], ys)
    simp only [List.length_nil, List.length_reverse] at hul
    have hu1 : (missOf A B).length < 64 := by rw [← hm]; unfold uld; omega
    have hu2 : (unexOf A B).length < 64 := by rw [← hu]; unfold uld; omega
    refine RetR.ret (RetR_new (r := .list (il xs)) (New_fn (f := 109) rfl rfl rfl (Evs_cons (Ev_name rfl) Evs_nil) D1) rfl fun a₁ => ?_)
    refine RetR_new (r := .list (il ys)) (New_fn (f := 109) rfl rfl rfl (Evs_cons (Ev_name rfl) Evs_nil) D2) rfl fun a₂ => ?_
    refine RetR_cons (Nr1_freshC (hs := by rfl) (ys := il A) (New_fn (f := 104) rfl rfl rfl (Evs_cons (Ev_name rfl) (Evs_cons (Ev_bi (id := "len") rfl rfl rfl (Evs_cons (Ev_name rfl) Evs_nil) (len_il (by omega))) Evs_nil)) R1) rfl rfl) ?_
    refine RetR_cons (Nr1_freshC (hs := by rfl) (ys := il B) (New_fn (f := 104) rfl rfl rfl (Evs_cons (Ev_name rfl) (Evs_cons (Ev_bi (id := "len") rfl rfl rfl (Evs_cons (Ev_name rfl) Evs_nil) (len_il (by omega))) Evs_nil)) R2) rfl rfl) ?_
    have hsz : (64 : Nat) ≤ sizeLine := by decide
    have im : il (missOf A B) = (List.range 10).flatMap fun t => (List.range (A.getD (9 - t) 0 - B.getD (9 - t) 0).toNat).map fun _ => PV.int (9 + (t : Int) * (-1)) := by rw [missOf, il_flatMap]
    have iu : il (unexOf A B) = (List.range 10).flatMap fun t => (List.range (B.getD t 0 - A.getD t 0).toNat).map fun _ => PV.int (t : Int) := by rw [unexOf, il_flatMap]
    have get : ∀ (l : List Int) (i : Int), l.length = 10 → 0 ≤ i → i < 10 → (il l)[i.toNat]? = some (.int (l.getD i.toNat 0)) := fun l i hl h0 h1 => by
      have := il_get (ps := l) (i := i.toNat) (by omega)
      rw [show ((i.toNat : Nat) : Int).toNat = i.toNat by omega] at this
      exact this
    refine RetR_cons (Cm.assignR (ys := il (missOf A B)) (by
      rw [im]
      refine Cm_comp2 (ts := List.range 10) (g := fun (t : Nat) => PV.int (9 + (t : Int) * (-1))) (us := fun t => List.range (A.getD (9 - t) 0 - B.getD (9 - t) 0).toNat) (g1 := fun _ (i : Nat) => PV.int i) (f := fun t _ => PV.int (9 + (t : Int) * (-1)))
        (cl := [(Str.ofString "behind", L + 2), (Str.ofString "ahead", L + 1)]) ⟨rfl, rfl, by decide, by decide, rfl⟩ rfl rfl (by decide) ?_ ?_ ?_ ?_ ?_
      · exact (ItX_range3 (hst := by rfl) (a := 9) (b := -1) (c := -1) (N := 10) (Evs_cons Ev_int (Evs_cons (Ev_neg Ev_int) (Evs_cons (Ev_neg Ev_int) Evs_nil))) (by decide) (by decide) (by decide) (by decide) rfl).it
      · intro t ht C
        have ht' := List.mem_range.mp ht
        have e9 : ((9 : Int) + (t : Int) * (-1)).toNat = 9 - t := by omega
        have b1 := bA (9 - t); have b2 := bB (9 - t)
        refine (ItX_range1 (n := A.getD (9 - t) 0 - B.getD (9 - t) 0) (Ev_bin (Ev_itemL (Ev_name rfl) (Ev_name rfl) (by omega) ?_ (by simp [il]; omega)) (Ev_itemL (Ev_name rfl) (Ev_name rfl) (by omega) ?_ (by simp [il]; omega)) sub_i) (by omega) (by omega) rfl).d
        · rw [get A _ lA (by omega) (by omega), e9]
        · rw [get B _ lB (by omega) (by omega), e9]
      · intro t ht u hu C
        exact Ev_name rfl
      · intro t u; rfl
      · rw [← im]; simp only [il, List.length_map]; omega) rfl) ?_
    refine RetR_cons (Cm.assignR (ys := il (unexOf A B)) (by
      rw [iu]
      refine Cm_comp2 (ts := List.range 10) (g := fun (t : Nat) => PV.int (t : Int)) (us := fun t => List.range (B.getD t 0 - A.getD t 0).toNat) (g1 := fun _ (i : Nat) => PV.int i) (f := fun t _ => PV.int (t : Int))
        (cl := [(Str.ofString "behind", L + 2), (Str.ofString "ahead", L + 1)]) ⟨rfl, rfl, by decide, by decide, rfl⟩ rfl rfl (by decide) ?_ ?_ ?_ ?_ ?_
      · exact (ItX_range1 (n := (10 : Int)) Ev_int (by omega) (by omega) rfl).it
      · intro t ht C
        have ht' := List.mem_range.mp ht
        have e9 : ((t : Int)).toNat = t := by omega
        have b1 := bA t; have b2 := bB t
        refine (ItX_range1 (n := B.getD t 0 - A.getD t 0) (Ev_bin (Ev_itemL (Ev_name rfl) (Ev_name rfl) (by omega) ?_ (by simp [il]; omega)) (Ev_itemL (Ev_name rfl) (Ev_name rfl) (by omega) ?_ (by simp [il]; omega)) sub_i) (by omega) (by omega) rfl).d
        · rw [get B _ lB (by omega) (by omega), e9]
        · rw [get A _ lA (by omega) (by omega), e9]
      · intro t ht u hu C
        exact Ev_name rfl
      · intro t u; rfl
      · rw [← iu]; simp only [il, List.length_map]; omega) rfl) ?_
    refine RetR_unord rfl rfl rfl (by decide) rfl rfl (by omega) (by omega) (by decide) (by decide) ?_
    refine Ret_cons (Nx1_if_false (Ts_or_next (Ts_cmp (b := .type "tuple") (Ev_ty (id := "type") rfl rfl rfl (Evs_cons (Ev_name rfl) Evs_nil) (type_bi PT_tup (by decide))) (Ev_tyname rfl rfl rfl) (isnot_t (X := "tuple") (Y := "tuple"))) (Ts_or_next ?_ (Ts_or ?_ ?_))) Nx_nil) (Ret_return ?_)
    · have := ne_p (w := w) (k := 2) (ns := (uld xs ys).1) (ms := (uld xs ys).2) (ns' := missOf A B) (ms' := unexOf A B)
      rw [hm, hu] at this
      simp only [decide_true, Bool.and_self, Bool.not_true] at this
      refine Ts_cmp (a := .tup [.list (il (uld xs ys).1), .list (il (uld xs ys).2)]) (Ev_name rfl) (Ev_tuple (Evs_cons (Ev_name rfl) (Evs_cons (Ev_name rfl) Evs_nil))) (by rw [hm, hu]; exact this)
    · exact Ts_cmp (Ev_name rfl) (Ev_list (ps := []) Evs_nil) (ne_l (ns := []) (ms := []))
    · have := ne_l (w := w) (k := 2) (ns := (uld xs ys).2) (ms := unexOf A B)
      rw [hu] at this
      simp only [decide_true, Bool.not_true] at this
      exact Ts_cmp (a := .list (il (uld xs ys).2)) (Ev_name rfl) (Ev_name rfl) (by rw [hu]; exact this)
    · have e1 : (true : Bool) = ((decide ((uld xs ys).1 = []) && decide ((uld xs ys).2 = [])) == ((signsOf l1).toList == (signsOf l2).toList)) := by rw [he]; simp
      rw [e1]
      exact Ev_cmp (Ev_cmp (a := .tup [.list (il (uld xs ys).1), .list (il (uld xs ys).2)]) (Ev_name rfl) (Ev_tuple (ps := [.list (il []), .list (il [])]) (Evs_cons (Ev_list (ps := []) Evs_nil) (Evs_cons (Ev_list (ps := []) Evs_nil) Evs_nil))) eq_p) (Ev_cmp (Ev_name rfl) (Ev_name rfl) eq_y) eq_b
end Mine

end

/-! part CompC -/
section
open PySem PySem.W PySem.Calls PyProof.Rows
set_option linter.unusedVariables false
set_option maxRecDepth 100000
namespace Mine
section
variable {α : Type} {M : Model} {A : Around} {E : Value → Shared → Prop} {s : Shared}
theorem wpC_attempt {m : Sem α} {Q : Except Value α → Shared → Prop} (h : wpC M A m (fun a => Q (.ok a)) (fun e => Q (.error e)) s) :
    wpC M A m.attempt Q E s := fun Γ p hΓ => by rw [Sem.wp_attempt]; exact h Γ p hΓ
theorem wpC_noted {env : Env} {m : Sem α} {Q : α → Shared → Prop} (h : wpC M A m Q (notedBy M A env E) s) : wpC M A (m.onRaise fun x => do noteFrame x env; theTreesLotGoes x) Q E s :=
  wpC_onRaise (wpC_mono h (fun _ _ q => q) fun _ _ hx => .any (wpAny_bind (wpAny_mono hx (fun _ _ e => wpAny_theTreesLotGoes e) fun _ _ e => e)))
theorem codeC_loop {c : Code} {R : Result → Shared → Prop} (hl : holdless c = true) (hq : c.quiet = true) (I : Nat → Shared → Prop)
    (turn : ∀ n s, I n s → wpC M (A.under c) (M.den c)
      (fun fin s' => match fin with | .done f => R (.ok f) s' | .again c' => c' = c ∧ ∃ m, m < n ∧ I m s') (fun e s' => R (.error e) s') s)
    (n : Nat) (h : I n s) : codeC M A c R s := by
  induction n using Nat.strongRecOn generalizing s with
  | ind n ih =>
    refine codeC_of_tree hl (wpC_mono (turn n s h) (fun fin s' hf => ?_) fun _ _ h' => h')
    cases fin with
    | done f => exact hf
    | again c' => obtain ⟨rfl, m, hm, hI⟩ := hf; exact ⟨hq, ih m hm hI⟩
theorem wpC_standIf {c : Prop} [Decidable c] {pos : Pos} {k : PUnit → Sem α} {Q : α → Shared → Prop} (h : wpC M A (k ()) Q E s) :
    wpC M A (if c then (standAt pos >>= k) else k ()) Q E s := by
  split
  · exact wpC_step (wpAny_standAt h)
  · exact h
end
section
variable {M : Model} {A : Around} {E : Value → Shared → Prop} {s : Shared} {env : Env}
theorem wpC_comprehension_free {e : Expr} {scope : Scope} {pos : Pos} {newAcc first : Sem Value} {g : Comprehension} {gs : List Comprehension} {cl : List (Str × Addr)} {use : Option (Value → Sem Unit)}
    {Q : Value → Shared → Prop}
    (hcl : clausesOf e = g :: gs) (hs : ∀ x, foldedSetIterable g.iter env x = pure x) (hclos : closureFor scope env = pure cl)
    (hkind : scope.kind = .function) (hnames : ∀ x ∈ scope.names, x.2 = .local → scope.names.lookup x.1 = some .local)
    (h : wpAny M A first (fun x s₁ => wpAny M A (pyIter x) (fun it s₂ => wpAny M A newAcc (fun acc s₃ =>
      wpAny M A (newFunctionEnv scope env.globals cl [] env.qual none .none (some env)) (fun cenv s₄ =>
        codeC M A (.compStart e 0 it acc { cenv with scope := relabel scope env }) (compPost M A E use Q acc cenv.locals) s₄) E s₃) E s₂) E s₁) E s) :
    wpC M A (comprehension e scope env pos newAcc false first use) Q E s := by
  unfold comprehension
  rw [hclos, hcl]
  refine wpC_bind (wpC_mono (.any h) (fun x s₁ h₁ => wpC_step (wpAny_standAt (wpC_step (wpAny_of_eq (hs x) (wpC_bind (wpC_holding (wpC_mono (.any h₁) (fun it s₂ h₂ =>
    wpC_standIf (wpC_bind (wpC_mono (.any h₂) (fun acc s₃ h₃ => wpC_step (wpAny_pure (wpC_bind (wpC_mono (.any h₃) (fun cenv s₄ h₄ => ?_) fun _ _ h' => h')))) fun _ _ h' => h')))
      fun _ _ h' => h'))))))) fun _ _ h' => h')
  dsimp only
  have hv : ∀ x ∈ (scope.names.filter fun x => (x.2 == .local || x.2 == .cell) && x.1 != (".0" : Str)).reverse, x.2 = .local →
      Env.kindOf { cenv with scope := relabel scope env } x.1 = some .local := fun x hx hl => lookup_relabel_local (hnames x (List.mem_filter.mp (List.mem_reverse.mp hx)).1 hl)
  have hv' : ∀ x ∈ (scope.names.filter fun x => (x.2 == .local || x.2 == .cell) && x.1 != (".0" : Str)).reverse.drop 1 ++ (scope.names.filter fun x => (x.2 == .local || x.2 == .cell) && x.1 != (".0" : Str)).reverse.take 1,
      x.2 = .local → Env.kindOf { cenv with scope := relabel scope env } x.1 = some .local := fun x hx hl => by
    rcases List.mem_append.mp hx with h1 | h1
    · exact hv x (List.mem_of_mem_drop h1) hl
    · exact hv x (List.mem_of_mem_take h1) hl
  refine wpC_holding (wpC_bind (wpC_attempt (wpC_holding (wpC_run (hnb := by intro x; cases x) (codeC_mono h₄ fun r s' hr => ?_)))))
  cases r with
  | ok f =>
    cases use with
    | none =>
      obtain ⟨m, hn, hr⟩ := hr
      exact .any (wpAny_bind (wpAny_holding (wpAny_comp_letGo (cenv := { cenv with scope := relabel scope env }) hkind _ s' m hv hn fun h' m' _ hs' => wpAny_pure (hr h' hs'))))
    | some u =>
      refine .any (wpAny_bind (wpAny_rule (wpAny_bind (wpAny_holding (wpAny_mono hr (fun _ s'' hr' => ?_) fun _ _ h' => h')))))
      obtain ⟨m, hn, hr'⟩ := hr'
      exact wpAny_bind (wpAny_comp_letGo (cenv := { cenv with scope := relabel scope env }) hkind _ s'' m hv' hn fun h' m' _ hs' => wpAny_pure (hr' h' hs'))
  | error x =>
    have hr' : ∃ m, s'.heap.Ns cenv.locals m ∧ ∀ h', Heap.SameBut cenv.locals s'.heap h' → ∀ cenv' : Env, cenv'.locals = cenv.locals → wpAny M A (passOn "comprehension.variables-let-go" x cenv' : Sem Value) (fun _ _ => False) E { s' with heap := h' } := by cases use <;> exact hr
    obtain ⟨m, hn, hr⟩ := hr'
    exact .any (wpAny_bind (wpAny_holding (wpAny_comp_letGo (cenv := { cenv with scope := relabel scope env }) hkind _ s' m hv hn fun h' m' _ hs' => wpAny_mono (hr h' hs' _ rfl) (fun _ _ f => f.elim) fun _ _ y => y)))
end
/-- a statement that goes on, over clean contexts -/
def NxC1 (w : World) (k : Nat) (env : Env) (m : Mp) (st : Stmt) (m' : Mp) : Prop :=
  ∀ A h₀ s, Gd w k A env h₀ s.heap m → ∀ (Q : Flow → Shared → Prop) (E : Value → Shared → Prop), (∀ s', Ks A env s s' → Gd w k A env h₀ s'.heap m' → Q .next s') → wpC (Md w) A (exec st env) Q E s
theorem RetC_consC {w : World} {k : Nat} {env : Env} {m m' : Mp} {st : Stmt} {rest : List Stmt} {r : PV} (h : NxC1 w k env m st m') (hr : RetC w k env m' rest r) : RetC w k env m (st :: rest) r :=
  fun A h₀ s g Q E hQ => wpC_execs_cons (h A h₀ s g _ _ fun s' q g' => hr A h₀ s' g' _ _ fun v s'' q' rv => hQ v s'' (q.trans q') rv)
/-- an iterable that is a list -/
def ItL (w : World) (k : Nat) (env : Env) (m : Mp) (iter : Expr) (xs : List PV) : Prop :=
  ∀ A h₀ s, Gd w k A env h₀ s.heap m → ∀ (Q : Value → Shared → Prop) (E : Value → Shared → Prop),
    (∀ I s' fp wr P St, Kp A s s' → (∀ b ∈ wr, s.heap.get? b = none) → (∀ i h, St i h → ∃ l j, h.IsListIter I l j) → Itr w A h₀ s' I xs fp wr P St → Q (.ref I) s') →
    wpAny (Md w) A (eval iter env) (fun x s₁ => wpAny (Md w) A (pyIter x) Q E s₁) E s
section
variable {w : World} {k : Nat} {A : Around} {cenv : Env} {h₀ : Heap} {D I : Addr} {m : Mp} {α : Type} {ts : List α} {g : α → PV} {out : α → List PV} {e : Expr} {d : Nat} {pp : Pos} {tree : Value → Sem Fin}
  {s₀ s : Shared} {fp wr : List Addr} {P : Nat → Value → Prop} {St : Nat → Heap → Prop} {ys : List PV} {R : Result → Shared → Prop}

theorem comp_loopC
    (hT : compTurn e d (.ref I) (.ref D) cenv = (standAt pp >>= fun _ => pyNext (.ref I) >>= fun r => match r with | none => pure (.done .next) | some v => tree v))
    (hden : (Md w).den (.compLoop e d (.ref I) (.ref D) cenv) = (compTurn e d (.ref I) (.ref D) cenv).onRaise (fun x => do noteFrame x cenv; theTreesLotGoes x))
    (hhl : holdless (.compLoop e d (.ref I) (.ref D) cenv) = true) (hq : (Code.compLoop e d (.ref I) (.ref D) cenv).quiet = true) (hu : A.under (.compLoop e d (.ref I) (.ref D) cenv) = A)
    (it : Itr w A h₀ s₀ I (ts.map g) fp wr P St) (hD : D ∉ fp) {hq₀ : Heap} (hval : ∀ i v, P i v → ∃ x, (ts.map g)[i]? = some x ∧ Rep hq₀ x v)
    (turn : ∀ t ∈ ts, ∀ v s ys, (∃ i, St i s.heap) → CS w k A cenv h₀ D s m ys → ys.length + (out t).length ≤ sizeLine → Rep (s.heap.hide D) (g t) v → ∀ (Q : Fin → Shared → Prop) (E : Value → Shared → Prop),
      (∀ s', Kc A [cenv.locals, D] s s' → CS w k A cenv h₀ D s' m (ys ++ out t) → Q (.again (.compLoop e d (.ref I) (.ref D) cenv)) s') → wpC (Md w) A (tree v) Q E s)
    (hst : St 0 s.heap) (c₀ : CS w k A cenv h₀ D s m ys) (q₀ : ExtQ hq₀ (s.heap.hide D)) (hsz : ys.length + (ts.flatMap out).length ≤ sizeLine)
    (hR : ∀ s', CS w k A cenv h₀ D s' m (ys ++ ts.flatMap out) → Kc A (cenv.locals :: D :: wr) s s' → R (.ok .next) s') :
    codeC (Md w) A (.compLoop e d (.ref I) (.ref D) cenv) R s := by
  have hlen : (ts.map g).length = ts.length := by simp
  obtain ⟨Iv, mk, un⟩ : ∃ Iv : Nat → Shared → Prop, (∀ n s', (∃ i, i ≤ ts.length ∧ n = ts.length + 1 - i ∧ CS w k A cenv h₀ D s' m (ys ++ (ts.take i).flatMap out) ∧ St i s'.heap ∧ ExtQ hq₀ (s'.heap.hide D) ∧ Kc A (cenv.locals :: D :: wr) s s') → Iv n s') ∧ ∀ n s', Iv n s' → ∃ i, i ≤ ts.length ∧ n = ts.length + 1 - i ∧ CS w k A cenv h₀ D s' m (ys ++ (ts.take i).flatMap out) ∧ St i s'.heap ∧ ExtQ hq₀ (s'.heap.hide D) ∧ Kc A (cenv.locals :: D :: wr) s s' := ⟨fun n s' => ∃ i, i ≤ ts.length ∧ n = ts.length + 1 - i ∧ CS w k A cenv h₀ D s' m (ys ++ (ts.take i).flatMap out) ∧ St i s'.heap ∧ ExtQ hq₀ (s'.heap.hide D) ∧ Kc A (cenv.locals :: D :: wr) s s', fun _ _ h => h, fun _ _ h => h⟩
  refine codeC_loop hhl hq Iv (fun n s' h => ?_) (ts.length + 1) (mk _ _ ⟨0, Nat.zero_le _, rfl, by simpa using c₀, hst, q₀, .refl ..⟩)
  obtain ⟨i, hi, rfl, c, st, q, kc⟩ := un _ _ h
  rw [hu, hden]
  refine wpC_noted ?_
  rw [hT]
  refine wpC_step (wpAny_standAt (wpC_step ?_))
  by_cases hlt : i < ts.length
  · refine it.W.item i _ _ _ (by rw [hlen]; exact hlt) st fun v h' tk hP st' hk => ?_
    obtain ⟨x, hx, rx⟩ := hval i v hP
    have hti : ts[i]? = some ts[i] := List.getElem?_eq_getElem hlt
    rw [List.getElem?_map, hti] at hx
    have hx' : g ts[i] = x := Option.some.inj hx
    subst hx'
    have c1 : CS w k A cenv h₀ D { s' with heap := h', toks := tk } m (ys ++ (ts.take i).flatMap out) := c.item it.new (it.fld i _ st) hk
    have q1 : ExtQ hq₀ (h'.hide D) := fun a o ea da => by
      have e1 := q a o ea da
      refine hide_some (hk a o (fun ha => ?_) (Heap.of_hide e1)) (hide_ne_of e1)
      obtain ⟨vs, f⟩ := it.fld i _ st a ha o (Heap.of_hide e1)
      obtain ⟨_, _, da⟩ := da
      rw [da] at f; cases f
    have k1 : Kc A (cenv.locals :: D :: wr) s' { s' with heap := h', toks := tk } :=
      ⟨⟨_, _, rfl⟩, fun b o e _ l => hk b o (fun hb => l (by simp [hb])) e, fun b o e l => ⟨o.slots, hk b o (fun hb => l (by simp [hb])) e⟩⟩
    have htk : ts.take (i + 1) = ts.take i ++ [ts[i]] := by rw [List.take_add_one, hti]; rfl
    have hsum : ((ts.take (i + 1)).flatMap out).length ≤ (ts.flatMap out).length := by
      conv => rhs; rw [← List.take_append_drop (i + 1) ts, List.flatMap_append, List.length_append]
      omega
    refine turn ts[i] (List.getElem_mem hlt) v _ _ ⟨i + 1, st'⟩ c1 ?_ (Rep.mono q1 _ _ rx) _ _ fun s2 k2 c2 => ?_
    · rw [htk, List.flatMap_append, List.length_append] at hsum
      simp only [List.flatMap_cons, List.flatMap_nil, List.append_nil] at hsum
      rw [List.length_append]; omega
    · have c2' := c2
      rw [List.append_assoc] at c2'
      have hout : (ts.take i).flatMap out ++ out ts[i] = (ts.take (i + 1)).flatMap out := by rw [htk, List.flatMap_append]; simp
      rw [hout] at c2'
      obtain ⟨outer, hA, hf⟩ := c1.gd.base.frames
      obtain ⟨mv, ⟨oC, es, ep, eC, dC, _⟩, _⟩ := c1.gd.mem
      refine ⟨rfl, ts.length + 1 - (i + 1), by omega, mk _ _ ⟨i + 1, hlt, rfl, c2', it.W.frame _ _ _ st' fun b hb o eb => ?_, fun a o ea da => ?_, kc.trans (k1.trans (k2.mono fun z hz => by simp at hz; rcases hz with rfl | rfl <;> simp))⟩⟩
      · have nd := it.nod (i + 1) _ st' b hb o eb
        refine k2.up b o eb (fun hb' => ?_) fun hb' => ?_
        · obtain ⟨_, o', es', ep', e', d'⟩ := frame_dict hA hf hb'
          have := Heap.of_hide e'
          rw [show ({ s' with heap := h', toks := tk } : Shared).heap.get? b = _ from eb] at this; cases this
          exact nd _ _ d'
        · simp at hb'
          rcases hb' with rfl | rfl
          · have := Heap.of_hide eC
            rw [show ({ s' with heap := h', toks := tk } : Shared).heap.get? _ = _ from eb] at this; cases this
            exact nd _ _ dC
          · exact hD hb
      · have e1 := q1 a o ea da
        have hne := hide_ne_of e1
        refine hide_some (k2.up a o (Heap.of_hide e1) (fun hb' => ?_) fun hb' => ?_) hne
        · obtain ⟨_, o', es', ep', e', d'⟩ := frame_dict hA hf hb'
          rw [show (h'.hide D).get? a = _ from e1] at e'; cases e'
          obtain ⟨_, _, da⟩ := da
          rw [da] at d'; cases d'
        · simp at hb'
          rcases hb' with rfl | rfl
          · rw [show (h'.hide D).get? _ = _ from e1] at eC; cases eC
            obtain ⟨_, _, da⟩ := da
            rw [da] at dC; cases dC
          · exact hne rfl
  · have hin : i = ts.length := by omega
    subst hin
    refine it.W.done _ _ _ (by rw [hlen]; exact st) fun h' tk hk => ?_
    have c1 : CS w k A cenv h₀ D { s' with heap := h', toks := tk } m (ys ++ (ts.take ts.length).flatMap out) := c.item it.new (it.fld _ _ st) hk
    rw [List.take_length] at c1
    exact wpC_pure (hR _ c1 (kc.trans ⟨⟨_, _, rfl⟩, fun b o e _ l => hk b o (fun hb => l (by simp [hb])) e, fun b o e l => ⟨o.slots, hk b o (fun hb => l (by simp [hb])) e⟩⟩))
end
theorem comp_beginC {w : World} {A : Around} {R : Result → Shared → Prop} {s : Shared} {elt : Expr} {gens : List Comprehension} {scope : Scope} {pos : Pos} {d : Nat} {it acc : Value} {env : Env} {gg : Comprehension}
    (hg : gens[d]? = some gg) (ha : gg.is_async = 0)
    (h0 : codeC (Md w) A (.compLoop (.ListComp elt gens scope pos) d it acc env) R s)
    (h : ∀ E, wpAny (Md w) A (pyIter it) (fun it' s' => codeC (Md w) A (.compLoop (.ListComp elt gens scope pos) d it' acc env) R s') E s) :
    codeC (Md w) A (.compStart (.ListComp elt gens scope pos) d it acc env) R s := by
  refine codeC_of_tree rfl (.any ?_)
  show wpAny _ _ ((compStart (.ListComp elt gens scope pos) d it acc env).onRaise (fun x => do noteFrame x env; standAt theWindowsPlace)) _ _ s
  refine wpAny_notedAt ?_
  unfold compStart
  have hc : (clausesOf (.ListComp elt gens scope pos))[d]? = some gg := hg
  rw [hc]
  simp only [Option.elim, ha, bne_self_eq_false, Bool.false_eq_true, if_false]
  refine wpAny_bind (wpAny_askSetting (wpAny_ite ?_))
  split
  · first
      | exact wpAny_bind (wpAny_pure (wpAny_pure (And.intro rfl h0)))
      | exact wpAny_pure (And.intro rfl h0)
  · first
      | exact wpAny_bind (wpAny_rule (wpAny_bind (wpAny_standAt (wpAny_bind (wpAny_mono (h _) (fun it' s' h' => wpAny_pure (And.intro rfl h')) fun _ _ x => x)))))
      | (refine wpAny_bind (wpAny_rule ?_); show wpAny _ _ (standAt _ >>= _) _ _ s; exact wpAny_bind (wpAny_standAt (wpAny_bind (wpAny_mono (h _) (fun it' s' h' => wpAny_pure (And.intro rfl h')) fun _ _ x => x))))

section
variable {w : World} {k : Nat} {A : Around} {env : Env} {h₀ : Heap} {m : Mp} {s : Shared}
theorem ItL_list {e : Expr} {xs : List PV} (he : Ev w k env m e (.list xs)) : ItL w k env m e xs := by
  intro A h₀ s g Q E h
  refine he A h₀ s g _ _ fun v s₁ k₁ r => ?_
  simp only [Rep] at r
  obtain ⟨a, vs, nn, rfl, ea, rs⟩ := r
  refine list_goL (X := []) (h₀ := h₀) g.ok.hand ea rs rs (by simp) (g.kp k₁).base.keep fun I s' fp wr P St k₃ new own hD hv it => h I s' fp wr P St (k₁.trans k₃) (fun b hb => ?_) own it
  cases eb : s.heap.get? b with
  | none => rfl
  | some o => obtain ⟨sl, e'⟩ := k₁.fr b o eb; have := new b hb; rw [e'] at this; cases this
end
section
variable {w : World} {k : Nat} {env : Env} {m : Mp} {α : Type} {ts : List α} {g : α → PV} {out : α → List PV} {elt target iter : Expr} {ifs : List Expr} {rest : List Comprehension} {scope : Scope} {pos pp : Pos} {cl : List (Str × Addr)}
  {tree : Addr → Addr → Addr → Value → Sem Fin}

theorem comp_startC (sc : Sc env scope cl) (hit : ItL w k env m iter (ts.map g))
    (hT : ∀ I D C, compTurn (.ListComp elt (⟨target, iter, ifs, 0⟩ :: rest) scope pos) 0 (.ref I) (.ref D) (compEnvC scope cl C env) =
      (standAt pp >>= fun _ => pyNext (.ref I) >>= fun r => match r with | none => pure (.done .next) | some v => tree I D C v))
    (turn : ∀ A h₀ I D C, ∀ t ∈ ts, ∀ v s ys, (∃ l j, s.heap.IsListIter I l j) → CS w k A (compEnvC scope cl C env) h₀ D s (cap scope m) ys → ys.length + (out t).length ≤ sizeLine → Rep (s.heap.hide D) (g t) v → ∀ (Q : Fin → Shared → Prop) (E : Value → Shared → Prop),
      (∀ s', Kc A [C, D] s s' → CS w k A (compEnvC scope cl C env) h₀ D s' (cap scope m) (ys ++ out t) → Q (.again (.compLoop (.ListComp elt (⟨target, iter, ifs, 0⟩ :: rest) scope pos) 0 (.ref I) (.ref D) (compEnvC scope cl C env))) s') → wpC (Md w) A (tree I D C v) Q E s)
    (hsz : (ts.flatMap out).length ≤ sizeLine)
    {A : Around} {h₀ : Heap} {s : Shared} (gd : Gd w k A env h₀ s.heap m) {RR : Value → Addr → Result → Shared → Prop} {E : Value → Shared → Prop}
    (hR : ∀ D C s' vs n mC, Kp A s s' → s.heap.get? D = none → s.heap.get? C = none → C ≠ D → s'.heap.get? D = some (lobj vs n) → (∀ y ∈ ts.flatMap out, y.flat = true) → Reps s'.heap (ts.flatMap out) vs → s'.heap.Ns C mC → RR (.ref D) C (.ok .next) s') :
    wpAny (Md w) A (firstIter (⟨target, iter, ifs, 0⟩ :: rest) env) (fun x s₁ => wpAny (Md w) A (pyIter x) (fun it s₂ => wpAny (Md w) A (newList []) (fun acc s₃ =>
      wpAny (Md w) A (newFunctionEnv scope env.globals cl [] env.qual none .none (some env)) (fun cenv s₄ =>
        codeC (Md w) A (.compStart (.ListComp elt (⟨target, iter, ifs, 0⟩ :: rest) scope pos) 0 it acc { cenv with scope := relabel scope env }) (RR acc cenv.locals) s₄) E s₃) E s₂) E s₁) E s := by
  refine hit A h₀ s gd _ _ fun I s₂ fp wr P St kp new own it => ?_
  have g₂ := gd.kp kp
  refine wpAny_newObj_type (wpAny_newFunctionEnv sc.cell (by intro y hy; simp at hy) (fun h₁ hns₁ hsb₁ => ?_) sc.kind)
  dsimp only at hns₁ hsb₁ ⊢
  generalize hH2 : s₂.heap.push { cls := .type "list", dict := none, data := .seq ([] : List Value).toArray } = H2 at hns₁ hsb₁ ⊢
  have hC : H2.objs.size = s₂.heap.objs.size + 1 := by rw [← hH2, Heap.size_push]
  have hCD : H2.objs.size ≠ s₂.heap.objs.size := by rw [hC]; exact Nat.succ_ne_self _
  have below : ∀ b, b < s₂.heap.objs.size → b ≠ H2.objs.size ∧ b ≠ s₂.heap.objs.size := fun b hb => ⟨by rw [hC]; exact Nat.ne_of_lt (Nat.lt_succ_of_lt hb), Nat.ne_of_lt hb⟩
  have old : Ext s₂.heap h₁ := fun b o e => hsb₁.extBut b o (below b (Heap.lt_size e)).1 (Heap.get?_push_of_some _ (hH2 ▸ Heap.get?_push_of_some _ e))
  have oldh : Ext s₂.heap (h₁.hide s₂.heap.objs.size) := fun b o e => hide_some (old b o e) (below b (Heap.lt_size e)).2
  have hacc : h₁.get? s₂.heap.objs.size = some (lobj [] 0) := hsb₁.extBut _ _ (Ne.symm hCD) (Heap.get?_push_of_some _ (hH2 ▸ Heap.get?_push_size _ rfl))
  have fresh : ∀ a, s₂.heap.objs.size ≤ a → s₂.heap.get? a = none := fun a ha => by
    cases e : s₂.heap.get? a with
    | none => rfl
    | some o' => exact absurd (Heap.lt_size e) (Nat.not_lt.mpr ha)
  have freshS : ∀ a, s₂.heap.objs.size ≤ a → s.heap.get? a = none := fun a ha => by
    cases e : s.heap.get? a with
    | none => rfl
    | some o' => obtain ⟨sl, e'⟩ := kp.fr a o' e; rw [fresh a ha] at e'; cases e'
  have fresh₀ : ∀ a, s₂.heap.objs.size ≤ a → h₀.get? a = none := fun a ha => by
    cases e : h₀.get? a with
    | none => rfl
    | some o' => have := g₂.base.keep a o' e; rw [fresh a ha] at this; cases this
  have hCf : s₂.heap.objs.size ≤ H2.objs.size := by rw [hC]; exact Nat.le_succ _
  have sub := clOf_sub sc.cl (fun _ _ h => nomatch h)
  have gC : Gd w k A (compEnvC scope cl H2.objs.size env) h₀ (h₁.hide s₂.heap.objs.size) (cap scope m) := by
    obtain ⟨outer, hA, hf⟩ := g₂.base.frames
    obtain ⟨mv, nmv, rd⟩ := g₂.mem
    refine ⟨gd.ok, sc.kind, gd.glob, gd.bins, ⟨g₂.base.gl, g₂.base.keep.trans oldh, ⟨outer, hA, fun e he => ?_⟩, fresh₀ _ hCf, fun y c hm => ?_⟩, fun x y c e1 e2 => gd.apart x y c (sub _ _ (mem_of_lookup e1)) (sub _ _ (mem_of_lookup e2)), (fun x => List.lookup x ([] : List (Str × Value)).reverse), ?_, fun y p e => ?_⟩
    · obtain ⟨a, L, o, es, ep, e1, e2, e3, e4⟩ := hf e he
      exact ⟨a, L, o, es, ep, e1, e2, oldh _ _ e3, e4⟩
    · obtain ⟨c1, c2, u, c3⟩ := g₂.base.noC y c (mem_of_lookup (sub y c hm))
      exact ⟨c1, (below c c3.lt).1, u, c3.keeps oldh⟩
    · obtain ⟨o, es, ep, e1, r1⟩ := hns₁
      exact ⟨o, es, ep, hide_some e1 hCD, r1⟩
    · obtain ⟨e1, e2⟩ := cap_lookup e
      obtain ⟨v, r1, r2⟩ := rd y p e1
      refine ⟨v, Rep.mono oldh.q _ _ r1, .inr ?_⟩
      obtain ⟨f1, f2⟩ := sc.free' e2
      rcases r2 with ⟨a, b⟩ | ⟨a, c, b, d⟩
      · exact absurd a f1
      · obtain ⟨c', hc'⟩ := Option.isSome_iff_exists.mp (clOf_has (y := y) sc.cl (.inl e2))
        have hcc := sub y c' (mem_of_lookup hc')
        rw [b] at hcc; cases hcc
        refine ⟨?_, c, hc', d.keeps oldh⟩
        rcases relabel_free (env := env) e2 with q | q
        · exact .inl q
        · exact .inr ⟨q, f2⟩
  have loop : ∀ s₄ : Shared, s₄ = { s₂ with heap := h₁, toks := s₂.toks + ([] : List (Str × Value)).length } →
      codeC (Md w) A (.compLoop (.ListComp elt (⟨target, iter, ifs, 0⟩ :: rest) scope pos) 0 (.ref I) (.ref s₂.heap.objs.size) (compEnvC scope cl H2.objs.size env)) (RR (.ref s₂.heap.objs.size) H2.objs.size) s₄ := by
    rintro s₄ rfl
    refine comp_loopC (hT I s₂.heap.objs.size H2.objs.size) rfl rfl rfl (Around.under_of_weight rfl) it (fun hb => Nat.lt_irrefl _ (it.low _ hb)) it.val (fun t ht v s ys hi => turn A h₀ I s₂.heap.objs.size H2.objs.size t ht v s ys (let ⟨i, st⟩ := hi; own i _ st)) (it.W.frame _ _ _ it.st fun b hb o e => old b o e)
      (ys := []) ⟨gC, by simp, [], 0, hacc, Reps.nil⟩ oldh.q (by simpa using hsz) fun s' c kc => ?_
    obtain ⟨vs, n, e, rs⟩ := c.acc
    obtain ⟨mv, nn, _⟩ := c.gd.mem
    rw [List.nil_append] at rs
    refine hR _ _ s' vs n mv ?_ (freshS _ (Nat.le_refl _)) (freshS _ hCf) hCD e (by simpa using c.flat) rs (nn.keeps (ext_hide _ _))
    refine Kc.kp (kp.trans (.of_ext old)) kc fun q hq => ?_
    simp only [List.mem_cons] at hq
    rcases hq with rfl | rfl | hq
    · exact freshS _ hCf
    · exact freshS _ (Nat.le_refl _)
    · exact new q hq
  exact comp_beginC (gg := ⟨target, iter, ifs, 0⟩) rfl rfl (loop _ rfl) fun E' => it.W.self 0 _ _ _ (it.W.frame _ _ _ it.st fun b hb o e => old b o e) (loop _ rfl)

/-- a comprehension: what it makes -/
structure CmC (w : World) (k : Nat) (env : Env) (m : Mp) (elt : Expr) (gens : List Comprehension) (scope : Scope) (pos : Pos) (cl : List (Str × Addr)) (ys : List PV) : Prop where
  sc : Sc env scope cl
  run : ∀ (A : Around) (h₀ : Heap) (s : Shared), Gd w k A env h₀ s.heap m → ∀ (RR : Value → Addr → Result → Shared → Prop) (E : Value → Shared → Prop),
    (∀ D C s' vs n mC, Kp A s s' → s.heap.get? D = none → s.heap.get? C = none → C ≠ D → s'.heap.get? D = some (lobj vs n) → (∀ y ∈ ys, y.flat = true) → Reps s'.heap ys vs → s'.heap.Ns C mC → RR (.ref D) C (.ok .next) s') →
    wpAny (Md w) A (firstIter gens env) (fun x s₁ => wpAny (Md w) A (pyIter x) (fun it s₂ => wpAny (Md w) A (newList []) (fun acc s₃ =>
      wpAny (Md w) A (newFunctionEnv scope env.globals cl [] env.qual none .none (some env)) (fun cenv s₄ =>
        codeC (Md w) A (.compStart (.ListComp elt gens scope pos) 0 it acc { cenv with scope := relabel scope env }) (RR acc cenv.locals) s₄) E s₃) E s₂) E s₁) E s

theorem CmC_compG (sc : Sc env scope cl) (hit : ItL w k env m iter (ts.map g))
    (hT : ∀ I D C, compTurn (.ListComp elt (⟨target, iter, ifs, 0⟩ :: rest) scope pos) 0 (.ref I) (.ref D) (compEnvC scope cl C env) =
      (standAt pp >>= fun _ => pyNext (.ref I) >>= fun r => match r with | none => pure (.done .next) | some v => tree I D C v))
    (turn : ∀ A h₀ I D C, ∀ t ∈ ts, ∀ v s ys, (∃ l j, s.heap.IsListIter I l j) → CS w k A (compEnvC scope cl C env) h₀ D s (cap scope m) ys → ys.length + (out t).length ≤ sizeLine → Rep (s.heap.hide D) (g t) v → ∀ (Q : Fin → Shared → Prop) (E : Value → Shared → Prop),
      (∀ s', Kc A [C, D] s s' → CS w k A (compEnvC scope cl C env) h₀ D s' (cap scope m) (ys ++ out t) → Q (.again (.compLoop (.ListComp elt (⟨target, iter, ifs, 0⟩ :: rest) scope pos) 0 (.ref I) (.ref D) (compEnvC scope cl C env))) s') → wpC (Md w) A (tree I D C v) Q E s)
    (hsz : (ts.flatMap out).length ≤ sizeLine) :
    CmC w k env m elt (⟨target, iter, ifs, 0⟩ :: rest) scope pos cl (ts.flatMap out) := by
  exact ⟨sc, fun A h₀ s gd RR E hR => comp_startC sc hit hT turn hsz gd hR⟩

theorem CmC.ev {gg : Comprehension} {ys : List PV} (c : CmC w k env m elt (gg :: rest) scope pos cl ys) (ha : gg.is_async = 0 := by rfl) (hs : ∀ x, foldedSetIterable gg.iter env x = pure x := by intro _; rfl) :
    EvC w k env m (.ListComp elt (gg :: rest) scope pos) (.list ys) := by
  intro A h₀ s gd Q E hQ
  rw [eval_ListComp]
  have hf : firstAsync (gg :: rest) = false := by obtain ⟨a, b, c, d⟩ := gg; simp only at ha; subst ha; rfl
  rw [hf]
  refine wpC_comprehension_free (use := none) rfl hs (closureFor_of c.sc.cl) c.sc.kind c.sc.names (c.run A h₀ s gd _ _ fun D C s' vs n mC kp hD hC hCD e fl rs nC => ?_)
  refine ⟨mC, nC, fun h' sb => hQ _ _ ?_ ?_⟩
  · refine Kc.kp (X := [C]) kp ⟨⟨_, _, rfl⟩, fun b o e _ l => (sb.2 b fun q => l (by simp [q])).trans e, fun b o e l => ⟨o.slots, (sb.2 b fun q => l (by simp [q])).trans e⟩⟩ fun q hq => ?_
    simp at hq; subst hq; exact hC
  · simp only [Rep]
    exact ⟨D, vs, n, rfl, (sb.2 D (Ne.symm hCD)).trans e, rs.flat fl⟩

theorem CmC.assign {gg : Comprehension} {ys : List PV} {y : Str} {py spos : Pos} (c : CmC w k env m elt (gg :: rest) scope pos cl ys) (hy : env.kindOf y = some .local)
    (hsw : swapsWith (.ListComp elt (gg :: rest) scope pos) (some (.Name y py)) spos.line env = pure true := by rfl) (ha : gg.is_async = 0 := by rfl) (hs : ∀ x, foldedSetIterable gg.iter env x = pure x := by intro _; rfl) :
    NxC1 w k env m (.Assign [.Name y py] (.ListComp elt (gg :: rest) scope pos) spos) ((y, .list ys) :: m) := by
  intro A h₀ s gd Q E hQ
  rw [exec_Assign_Name_used _ _ _ _ hsw]
  refine wpC_step (wpAny_standAt (wpC_bind ?_))
  have hf : firstAsync (gg :: rest) = false := by obtain ⟨a, b, c, d⟩ := gg; simp only at ha; subst ha; rfl
  show wpC _ A (do let _ ← comprehension (.ListComp elt (gg :: rest) scope pos) scope env _ (newList []) (firstAsync (gg :: rest)) (firstIter (gg :: rest) env) (some (PySem.assign (.Name y py) env))) _ _ s
  rw [hf]
  refine wpC_bind (wpC_mono (wpC_comprehension_free (use := some (PySem.assign (.Name y py) env)) (Q := fun _ s' => Q .next s') rfl hs (closureFor_of c.sc.cl) c.sc.kind c.sc.names
    (c.run A h₀ s gd _ _ fun D C s' vs n mC kp hD hC hCD e fl rs nC => ?_)) (fun _ s' hq => wpC_pure (wpC_pure hq)) fun _ _ e => e)
  show wpAny _ A (PySem.assign (.Name y py) env (.ref D)) _ _ _
  have g' := gd.kp kp
  have hCL : C ≠ env.locals := fun q => by obtain ⟨mv, ⟨o, _, _, e, _⟩, _⟩ := gd.mem; rw [← q, hC] at e; cases e
  have hCc : ∀ x, (x, C) ∉ env.cells := fun x hm => by obtain ⟨_, _, v, o, e, _⟩ := gd.base.noC x C hm; rw [hC] at e; cases e
  have hCf : C ∉ frs A := fun hb => by
    obtain ⟨outer, hA, hf⟩ := gd.base.frames
    obtain ⟨_, o, _, _, e, _⟩ := frame_dict hA hf hb
    rw [hC] at e; cases e
  refine wpAny_assign_Name (g'.storeL (p := .list ys) (by simp only [Rep]; exact ⟨D, vs, n, rfl, e, rs⟩) hy fun s'' q g'' r'' => ?_)
  have nC'' : s''.heap.Ns C mC := by
    obtain ⟨o, es, ep, e1, e2, e3⟩ := nC
    obtain ⟨sl, e1'⟩ := q.fr C o e1 hCL hCc
    exact ⟨_, es, ep, e1', e2, e3⟩
  refine ⟨mC, nC'', fun h' sb => hQ _ ⟨?_, fun b o eb n1 n2 n3 => ?_, fun b o eb n2 n3 => ?_⟩ (g''.other (fun b o hb e => (sb.2 b hb).trans e) ?_ hCL hCc hCf ?_)⟩
  · obtain ⟨h1, t1, rfl⟩ := kp.same
    obtain ⟨h2, t2, rfl⟩ := q.same
    exact ⟨_, _, rfl⟩
  · have hbC : b ≠ C := fun z => by rw [z, hC] at eb; cases eb
    exact (sb.2 b hbC).trans (q.up b o (kp.up b o eb n1) n1 n2 n3)
  · have hbC : b ≠ C := fun z => by rw [z, hC] at eb; cases eb
    obtain ⟨sl, e1⟩ := kp.fr b o eb
    obtain ⟨sl2, e2⟩ := q.fr b _ e1 n2 n3
    exact ⟨sl2, (sb.2 b hbC).trans e2⟩
  · cases e0 : h₀.get? C with
    | none => rfl
    | some o => have := gd.base.keep C o e0; rw [hC] at this; cases this
  · intro o eo xs n' d
    obtain ⟨o', es, ep, e1, e2, e3⟩ := nC''
    rw [eo] at e1; cases e1
    rw [e2] at d; cases d

end
section
variable {w : World} {k : Nat} {env : Env} {m : Mp} {α : Type} {ts : List α} {g : α → PV} {elt iter : Expr} {scope : Scope} {pos px py : Pos} {cl : List (Str × Addr)} {x y : Str}
theorem CmC_comp {f : α → PV} (sc : Sc env scope cl) (hx : scope.names.lookup x = some .local) (hit : ItL w k env m iter (ts.map g))
    (he : ∀ t ∈ ts, ∀ C, EvC w k (compEnvC scope cl C env) ((x, g t) :: cap scope m) elt (f t)) (hf : ∀ t, (f t).flat = true)
    (hsz : ts.length ≤ sizeLine) :
    CmC w k env m elt [⟨.Name x px, iter, [], 0⟩] scope pos cl (ts.map f) := by
  rw [← flatMap_one f ts]
  refine CmC_compG (out := fun t => [f t]) sc hit (fun I D C => turn1_eq ..) (fun A h₀ I D C t htm v s ys hi cs hl r Q E h => ?_) ?_
  · refine wpC_step (wpAny_pure (wpC_step (wpAny_assign_Name (cs.store r (lookup_relabel_local hx) fun s1 k1 c1 => wpC_step (wpAny_pure ?_)))))
    simp only [if_true]
    refine wpC_bind (wpC_bind (he t htm C A h₀ s1 c1.gdx _ _ fun z s3 k3 ry => wpC_step ((c1.kp k3).push (hf t) ry (by simp at hl; omega) fun s4 k4 c4 => wpC_pure (wpC_pure ?_))))
    exact h s4 (k1.trans (k3.kc.trans k4)) (c4.drop (cap_none hx))
  · rw [flatMap_one, List.length_map]; exact hsz
theorem CmC_tup {f : α → PV} {ga gb : α → Int} {kt : Nat} {pt : Pos} (sc : Sc env scope cl) (hx : scope.names.lookup x = some .local) (hy : scope.names.lookup y = some .local) (hxy : (y == x) = false)
    (hit : ItL w k env m iter (ts.map fun t => .tup [.int (ga t), .int (gb t)]))
    (he : ∀ t ∈ ts, ∀ C, EvC w k (compEnvC scope cl C env) ((y, .int (gb t)) :: (x, .int (ga t)) :: cap scope m) elt (f t)) (hf : ∀ t, (f t).flat = true)
    (hsz : ts.length ≤ sizeLine) :
    CmC w k env m elt [⟨.Tuple [.Name x px, .Name y py] kt pt, iter, [], 0⟩] scope pos cl (ts.map f) := by
  rw [← flatMap_one f ts]
  refine CmC_compG (out := fun t => [f t]) sc hit (fun I D C => turn1_eq ..) (fun A h₀ I D C t htm v s ys hi cs hl r Q E h => ?_) ?_
  · obtain ⟨l, j, hi⟩ := hi
    simp only [Rep, Reps] at r
    obtain ⟨T, vs, n, rfl, eT, v1, _, rfl, ⟨t1, rfl⟩, v2, _, rfl, ⟨t2, rfl⟩, rfl⟩ := r
    refine wpC_step (wpAny_letOwnedTupleGo_listiter hi (wpC_step ?_))
    refine wpAny_assign_Tuple (items := #[.int (ga t) t1, .int (gb t) t2]) cs.gd.ok.hand ⟨_, Heap.of_hide eT, rfl, _, rfl⟩ rfl rfl fun h3 ext3 => ?_
    have k3 : Kp A s { s with heap := h3, toks := s.toks } := .of_ext fun b o e => ext3 b o (Nat.ne_of_lt (Heap.lt_size e)) e
    have c0 := cs.kp k3
    show wpAny _ A (holding [.int (gb t) t2] (PySem.assign (.Name x px) (compEnvC scope cl C env) (.int (ga t) t1)) >>= fun _ => assignInOrder [PySem.assign (.Name y py) (compEnvC scope cl C env)] [.int (gb t) t2]) _ _ _
    refine wpAny_bind (wpAny_holding (wpAny_assign_Name (c0.store (p := .int (ga t)) (by simp only [Rep]; exact ⟨_, rfl⟩) (lookup_relabel_local hx) fun s1 k1 c1 => ?_)))
    show wpAny _ A (holding [] (PySem.assign (.Name y py) (compEnvC scope cl C env) (.int (gb t) t2)) >>= fun _ => pure ()) _ _ _
    refine wpAny_bind (wpAny_holding (wpAny_assign_Name (c1.store (p := .int (gb t)) (by simp only [Rep]; exact ⟨_, rfl⟩) (lookup_relabel_local hy) fun s2 k2 c2 => wpAny_pure (wpC_step (wpAny_pure ?_)))))
    simp only [if_true]
    refine wpC_bind (wpC_bind (he t htm C A h₀ s2 c2.gdx _ _ fun z s4 k4 ry => wpC_step ((c2.kp k4).push (hf t) ry (by simp at hl; omega) fun s5 k5 c5 => wpC_pure (wpC_pure ?_))))
    have hym : ((x, PV.int (ga t)) :: cap scope m).lookup y = none := by rw [List.lookup_cons, hxy]; exact cap_none hy
    exact h s5 ((Kp.kc k3).trans (k1.trans (k2.trans (k4.kc.trans k5)))) ((c5.drop hym).drop (cap_none hx))
  · rw [flatMap_one, List.length_map]; exact hsz
end
end Mine

end

/-! part Fn18 -/
section
open PySem PySem.W PySem.Calls PyProof.Rows
set_option linter.unusedVariables false
set_option maxRecDepth 100000
namespace Mine
theorem reads_bools {h : Heap} {v : Value} {a b c : Bool} (r : Rep h (.list [.bool a, .bool b, .bool c]) v) : ∃ as, Reads h v (.list [.bool a, .bool b, .bool c]) as := by
  simp only [Rep] at r
  obtain ⟨x, vs, n, rfl, e, rs⟩ := r
  simp only [Reps, Rep] at rs
  obtain ⟨_, _, rfl, rfl, _, _, rfl, rfl, _, _, rfl, rfl, rfl⟩ := rs
  exact ⟨_, Reads.list e rfl rfl (.cons (.bool _) (.cons (.bool _) (.cons (.bool _) .nil)))⟩
theorem eq_trues {w : World} {k : Nat} : Cop w k .Eq (.list [.bool true, .bool true, .bool true]) (.list [.bool true, .bool true, .bool true]) (.bool true) := fun A s va vb cx ra rb Q E h => by
  obtain ⟨as, r1⟩ := reads_bools ra
  obtain ⟨bs, r2⟩ := reads_bools rb
  exact eq_dataH_same r1 r2 (by decide) (by decide) cx.ok.units (by decide) (by
    rw [show PySem.Spec.same (.list [.bool true, .bool true, .bool true]) (.list [.bool true, .bool true, .bool true]) = true by decide]
    exact h _ _ (.refl ..) (by simp only [Rep]))

structure RowOk (ps : List Int) : Prop where
  len : ps.length ≤ 20
  rng : ∀ p ∈ ps, 0 ≤ p ∧ p ≤ 9
  marks : ∀ d ∈ marksOf ps 10, d < 64
  oft : ∀ f ∈ often ps, 0 ≤ f ∧ f < 64
  writ : byteArr (outTo (prodOf ps) 20) = signsOf (often ps)
  dists : (distsOf ps).length < 64

structure ToldOk (one other : List Int) : Prop where
  hm : (uld (srt (distsOf one)) (srt (distsOf other))).1 = missOf (readOf (often one) one.length) (readOf (often other) other.length)
  hu : (uld (srt (distsOf one)) (srt (distsOf other))).2 = unexOf (readOf (often one) one.length) (readOf (often other) other.length)
  he : (decide ((uld (srt (distsOf one)) (srt (distsOf other))).1 = []) && decide ((uld (srt (distsOf one)) (srt (distsOf other))).2 = [])) = ((signsOf (often one)).toList == (signsOf (often other)).toList)

theorem often_length (ps : List Int) : (often ps).length = 20 := tally_length _
theorem told_ok {w : World} {one other : List Int} (h1 : RowOk one) (h2 : RowOk other) (h : ToldOk one other) :
    Fn w 3 114 [.list (il one), .list (il other), .bytes (signsOf (often one)), .bytes (signsOf (often other))] (.bool true) :=
  told_fn h1.dists h2.dists (by have := h1.len; omega) (by have := h2.len; omega) (often_length _) h1.oft (often_length _) h2.oft h.hm h.hu h.he

theorem three_lt : (3 : Nat) < 2 ^ 40 := by decide
theorem three_s : (3 : Nat) ≤ sizeLine := by decide
def rowsV (ts : List (List Int)) : List PV := ts.map fun t => .list (il t)
def writsV (ts : List (List Int)) : List PV := ts.map fun t => .bytes (signsOf (often t))

theorem right_fn {w : World} {a b c : List Int} (ha : RowOk a) (hb : RowOk b) (hc : RowOk c) (hab : often a = often b) (t1 : ToldOk a b) (t2 : ToldOk a c) (t3 : ToldOk c b) :
    FnC w 5 126 [.list (rowsV [a, b, c])] (.bool true) := by
  have hall : ∀ t ∈ [a, b, c], RowOk t := by
    intro t ht
    simp only [List.mem_cons, List.not_mem_nil, or_false] at ht
    rcases ht with rfl | rfl | rfl <;> assumption
  refine FnC_enter (names := [Str.ofString "rows"]) rfl rfl rfl rfl rfl rfl rfl rfl rfl ?_ rfl (by decide) rfl (by decide) ?_
  · intro vs h
    match vs, h with
    | [a], _ => rfl
  · intro L
    refine RetC_assignC (hs := by rfl) (p := .list (writsV [a, b, c])) (CmC.ev (CmC_comp (ts := [a, b, c]) (g := fun t => .list (il t)) (cl := []) ⟨rfl, rfl, by decide, by decide, rfl⟩ rfl (ItL_list (Ev_name rfl)) ?_ ?_ three_s)) rfl rfl ?_
    · intro t ht C
      have hr := hall t ht
      rw [← hr.writ]
      exact EvC_fn (f := 94) rfl rfl rfl (Evs_cons (Ev_name rfl) Evs_nil) (written_fn hr.marks)
    · intro t; rfl
    refine RetC_zip (hs := by intro _; rfl) (hst := by rfl) (hse := by rfl) (xs := rowsV [a, b, c]) (ys := writsV [a, b, c]) (fun i => [(Str.ofString "writings", .list (writsV [a, b, c])), (Str.ofString "rows", .list (rowsV [a, b, c]))])
      (Ev_name rfl) (Ev.c (Ev_name rfl)) rfl rfl rfl rfl ?_ ?_
    · intro T i p q hp hq
      have hpq : ∃ t ∈ [a, b, c], p = .list (il t) ∧ q = .bytes (signsOf (often t)) := by
        match i, hp, hq with
        | 0, hp, hq => exact ⟨a, by simp, (Option.some.inj hp).symm, (Option.some.inj hq).symm⟩
        | 1, hp, hq => exact ⟨b, by simp, (Option.some.inj hp).symm, (Option.some.inj hq).symm⟩
        | 2, hp, hq => exact ⟨c, by simp, (Option.some.inj hp).symm, (Option.some.inj hq).symm⟩
        | n + 3, hp, hq => cases hp
      obtain ⟨t, ht, rfl, rfl⟩ := hpq
      have hr := hall t ht
      refine Nr.sub (Nr_cons (Nr1_if (c := false) (Ts_or (Ts_cmp (b := .type "bytes") (Ev_ty (id := "type") rfl rfl rfl (Evs_cons (Ev_name rfl) Evs_nil) (type_bi PT_bytes (by decide))) (Ev_tyname rfl rfl rfl) (isnot_t (X := "bytes") (Y := "bytes"))) ?_) (fun h => by cases h) (fun _ => Nr_nil) rfl) Nr_nil) (sub_of fun p hp => ?_)
      · have := ne_y (w := w) (k := 4) (a := signsOf (often t)) (b := signsOf (often t))
        rw [show ((signsOf (often t)).toList != (signsOf (often t)).toList) = false by simp] at this
        exact Ts_cmp (Ev_name rfl) (Ev_fn (f := 99) rfl rfl rfl (Evs_cons (Ev_name rfl) Evs_nil) (fun A s vs cx => signs_fn hr.rng hr.len hr.oft A s vs (cx.le (by decide)))) this
      · simp only [List.mem_cons, List.not_mem_nil, or_false] at hp
        rcases hp with rfl | rfl <;> rfl
    · refine RetC_cons (Nx1_if_false (Ts_cmp (a := .bytes (signsOf (often a))) (b := .bytes (signsOf (often b))) (Ev_itemL (xs := writsV [a, b, c]) (Ev_name rfl) Ev_int (by decide) rfl three_lt) (Ev_itemL (xs := writsV [a, b, c]) (Ev_name rfl) Ev_int (by decide) rfl three_lt) ?_) Nx_nil) ?_
      · have := ne_y (w := w) (k := 4) (a := signsOf (often a)) (b := signsOf (often b))
        rw [show ((signsOf (often a)).toList != (signsOf (often b)).toList) = false by rw [hab]; simp] at this
        exact this
      refine RetC_consC (m' := [(Str.ofString "good", .list [.bool true, .bool true, .bool true]), (Str.ofString "writings", .list (writsV [a, b, c])), (Str.ofString "rows", .list (rowsV [a, b, c]))]) ?h ?_
      case h =>
        refine CmC.assign (cl := [(Str.ofString "writings", L + 2), (Str.ofString "rows", L + 1)]) ?h1 ?h2 ?h3 ?h4 ?h5
        case h2 => rfl
        case h3 => rfl
        case h4 => rfl
        case h5 => intro _; rfl
        refine CmC_tup (ts := [((0 : Int), (1 : Int)), (0, 2), (2, 1)]) (f := fun _ => .bool true) (ga := fun t : Int × Int => t.1) (gb := fun t : Int × Int => t.2) ⟨rfl, rfl, by decide, by decide, rfl⟩ rfl rfl (by decide) ?_ ?_ (fun _ => rfl) (by decide)
        · exact ItL_list (Ev_list (Evs_cons (Ev_tuple (Evs_cons Ev_int (Evs_cons Ev_int Evs_nil))) (Evs_cons (Ev_tuple (Evs_cons Ev_int (Evs_cons Ev_int Evs_nil))) (Evs_cons (Ev_tuple (Evs_cons Ev_int (Evs_cons Ev_int Evs_nil))) Evs_nil))))
        · intro t ht C
          refine Ev.c ?_
          simp only [List.mem_cons, List.not_mem_nil, or_false] at ht
          rcases ht with rfl | rfl | rfl
          · exact Ev_fn (f := 114) rfl rfl rfl (Evs_cons (Ev_itemL (xs := rowsV [a, b, c]) (p := .list (il a)) (Ev_name rfl) (Ev_name rfl) (by decide) rfl three_lt) (Evs_cons (Ev_itemL (xs := rowsV [a, b, c]) (p := .list (il b)) (Ev_name rfl) (Ev_name rfl) (by decide) rfl three_lt) (Evs_cons (Ev_itemL (xs := writsV [a, b, c]) (p := .bytes (signsOf (often a))) (Ev_name rfl) (Ev_name rfl) (by decide) rfl three_lt) (Evs_cons (Ev_itemL (xs := writsV [a, b, c]) (p := .bytes (signsOf (often b))) (Ev_name rfl) (Ev_name rfl) (by decide) rfl three_lt) Evs_nil)))) (fun A s vs cx => told_ok ha hb t1 A s vs (cx.le (by decide)))
          · exact Ev_fn (f := 114) rfl rfl rfl (Evs_cons (Ev_itemL (xs := rowsV [a, b, c]) (p := .list (il a)) (Ev_name rfl) (Ev_name rfl) (by decide) rfl three_lt) (Evs_cons (Ev_itemL (xs := rowsV [a, b, c]) (p := .list (il c)) (Ev_name rfl) (Ev_name rfl) (by decide) rfl three_lt) (Evs_cons (Ev_itemL (xs := writsV [a, b, c]) (p := .bytes (signsOf (often a))) (Ev_name rfl) (Ev_name rfl) (by decide) rfl three_lt) (Evs_cons (Ev_itemL (xs := writsV [a, b, c]) (p := .bytes (signsOf (often c))) (Ev_name rfl) (Ev_name rfl) (by decide) rfl three_lt) Evs_nil)))) (fun A s vs cx => told_ok ha hc t2 A s vs (cx.le (by decide)))
          · exact Ev_fn (f := 114) rfl rfl rfl (Evs_cons (Ev_itemL (xs := rowsV [a, b, c]) (p := .list (il c)) (Ev_name rfl) (Ev_name rfl) (by decide) rfl three_lt) (Evs_cons (Ev_itemL (xs := rowsV [a, b, c]) (p := .list (il b)) (Ev_name rfl) (Ev_name rfl) (by decide) rfl three_lt) (Evs_cons (Ev_itemL (xs := writsV [a, b, c]) (p := .bytes (signsOf (often c))) (Ev_name rfl) (Ev_name rfl) (by decide) rfl three_lt) (Evs_cons (Ev_itemL (xs := writsV [a, b, c]) (p := .bytes (signsOf (often b))) (Ev_name rfl) (Ev_name rfl) (by decide) rfl three_lt) Evs_nil)))) (fun A s vs cx => told_ok hc hb t3 A s vs (cx.le (by decide)))
      · exact Ret.c (Ret_return (Ev_cmp (Ev_name rfl) (Ev_list (Evs_cons Ev_bool (Evs_cons Ev_bool (Evs_cons Ev_bool Evs_nil)))) eq_trues))
end Mine

end

/-! part Fn19 -/
section
open PySem PySem.W PySem.Calls PyProof.Rows
set_option linter.unusedVariables false
set_option maxRecDepth 100000
namespace Mine
theorem EvC_and {w : World} {k : Nat} {env : Env} {m : Mp} {e1 e2 : Expr} {pos : Pos} {p : PV} (h1 : Ev w k env m e1 (.bool true)) (h2 : EvC w k env m e2 p) : EvC w k env m (.BoolOp .And [e1, e2] pos) p := fun A h₀ s g Q E h => by
  show wpC _ A (eval e1 env >>= fun v => standAt pos >>= fun _ => holding [v] (truthy v) >>= fun c => match BoolOp.And, c with
    | .And, false | .Or, true => pure v
    | _, _ => eval e2 env) Q E s
  refine wpC_step (h1 A h₀ s g _ _ fun v s₁ k₁ r => ?_)
  simp only [Rep] at r
  subst r
  refine wpC_step (wpAny_standAt (wpC_step (wpAny_holding (wpAny_truthy_bool ?_))))
  exact h2 A h₀ s₁ (g.kp k₁) _ _ fun u s₂ k₂ ru => h u s₂ (k₁.trans k₂) ru

def digs (x b : Int) : List Int := (List.range 3).map fun (s : Nat) => x / b ^ s % b
def placesOf (x : Int) (b : Nat) : List Int := ((List.range b).filter fun (t : Nat) => (digs x b).any (· == (t : Int))).map fun (t : Nat) => (t : Int)
def othersOf (sec : List Int) : List Int := ((List.range 6).filter fun (t : Nat) => (marksOf sec 6).reverse.getD t 0 == 1).map fun (t : Nat) => (t : Int)

def firstRow (d s : Int) : List Int := srt (sumsOf (placesOf d 5) (placesOf s 6))
def otherRow (d s : Int) : List Int := srt (sumsOf (placesOf d 5) (othersOf (placesOf s 6)))
def movedRow (d s f : Int) : List Int := srt (movedOf (firstRow d s) f)

structure LawOk (d s f : Int) : Prop where
  s1 : (sumsOf (placesOf d 5) (placesOf s 6)).length < 64
  s2 : (sumsOf (placesOf d 5) (othersOf (placesOf s 6))).length < 64
  m6 : ∀ n ∈ marksOf (placesOf s 6) 6, 0 ≤ n ∧ n < 256
  l0 : 0 < (firstRow d s).length
  l1 : (firstRow d s).length < 60
  ra : RowOk (firstRow d s)
  rb : RowOk (otherRow d s)
  rc : RowOk (movedRow d s f)
  hab : often (firstRow d s) = often (otherRow d s)
  t1 : ToldOk (firstRow d s) (otherRow d s)
  t2 : ToldOk (firstRow d s) (movedRow d s f)
  t3 : ToldOk (movedRow d s f) (otherRow d s)

theorem il_places (x : Int) (b : Nat) : il (placesOf x b) = ((List.range b).filter fun (t : Nat) => (digs x b).any (· == (t : Int))).map fun (t : Nat) => PV.int (t : Int) := by rw [placesOf, il_map]
theorem il_digs (x b : Int) : il (digs x b) = (List.range 3).map fun (s : Nat) => PV.int (x / b ^ s % b) := by rw [digs, il_map]
theorem il_others (sec : List Int) : il (othersOf sec) = ((List.range 6).filter fun (t : Nat) => (marksOf sec 6).reverse.getD t 0 == 1).map fun (t : Nat) => PV.int (t : Int) := by rw [othersOf, il_map]

theorem pow_small {b : Int} {t : Nat} (hb : b = 5 ∨ b = 6) (ht : t < 3) : 0 < b ^ t ∧ b ^ t < 1073741824 := by
  have : t = 0 ∨ t = 1 ∨ t = 2 := by omega
  rcases hb with rfl | rfl <;> rcases this with rfl | rfl | rfl <;> decide

theorem law_fn {w : World} {ns : List Int} (hl : ns.length ≤ 63) (H : ∀ d s f, LawOk d s f) : FnC w 6 131 [.list (il ns)] (.bool true) := by
  refine FnC_enter (names := [Str.ofString "script"]) rfl rfl rfl rfl rfl rfl rfl rfl rfl ?_ rfl (by decide) rfl (by decide) ?_
  · intro vs h
    match vs, h with
    | [a], _ => rfl
  · intro L
    have hsz : (64 : Nat) ≤ sizeLine := by decide
    refine RetC_cons (Nx1_assignC (hs := by rfl) (p := .int (105 + (pickNums ns (some 0) none (some 3)).sum)) (Ev_bin Ev_int (Ev_bi (id := "sum") rfl rfl rfl (Evs_cons (Ev_slice (ops := fun o i => [o, i]) (Ev_name rfl) (Part.some Ev_int) Part.none (Part.some Ev_int) (by decide) (by omega) (fun o i => rfl)) Evs_nil) sum_bi) add_i) rfl rfl) ?_
    refine RetC_cons (Nx1_assignC (hs := by rfl) (p := .int (192 + (pickNums ns (some 1) none (some 3)).sum)) (Ev_bin Ev_int (Ev_bi (id := "sum") rfl rfl rfl (Evs_cons (Ev_slice (ops := fun o i => [o, i]) (Ev_name rfl) (Part.some Ev_int) Part.none (Part.some Ev_int) (by decide) (by omega) (fun o i => rfl)) Evs_nil) sum_bi) add_i) rfl rfl) ?_
    refine RetC_cons (Nx1_assign (p := .int (70 + (pickNums ns (some 2) none (some 3)).sum)) (Ev_bin Ev_int (Ev_bi (id := "sum") rfl rfl rfl (Evs_cons (Ev_slice (ops := fun o i => [o, i]) (Ev_name rfl) (Part.some Ev_int) Part.none (Part.some Ev_int) (by decide) (by omega) (fun o i => rfl)) Evs_nil) sum_bi) add_i) rfl) ?_
    generalize 105 + (pickNums ns (some 0) none (some 3)).sum = d
    generalize 192 + (pickNums ns (some 1) none (some 3)).sum = s
    generalize 70 + (pickNums ns (some 2) none (some 3)).sum = f
    refine RetC_cons (Cm.assign (ys := il (placesOf d 5)) (cl := [(Str.ofString "draw", L + 1)]) ?_ ?_ ?_ ?_ ?_) ?_
    case _ => 
      rw [il_places d 5]
      refine Cm_compIf (g := fun (t : Nat) => PV.int t) ⟨rfl, rfl, by decide, by decide, rfl⟩ rfl (ItX_range1 (n := (5 : Int)) Ev_int (by omega) (by omega) rfl).it ?_ ?_ (fun _ => rfl) (by decide)
      · intro t ht C
        refine Ts_cmp (Ev_name rfl) (b := .list (il (digs d 5))) ?_ in_l
        rw [il_digs d 5]
        refine Cm.ev (Cm_comp (ts := List.range 3) (g := fun (t : Nat) => PV.int t) (cl := [(Str.ofString "draw", L + 1)]) ⟨rfl, rfl, by decide, by decide, rfl⟩ rfl ?_ ?_ ?_ ?_)
        · exact (ItX_range1 (n := (3 : Int)) Ev_int (by omega) (by omega) rfl).it
        · intro u hu C'
          have hu' := List.mem_range.mp hu
          have hp := pow_small (b := 5) (by decide) hu'
          refine Ev_bin (Ev_bin (Ev_name rfl) (Ev_bin Ev_int (Ev_name rfl) (pow_i (by omega) ?_)) (div_i hp.1 hp.2)) Ev_int (mod_i (by decide))
          have : Builtin.Int.intBits 5 = 3 := by decide
          rw [this]; omega
        · intro t; rfl
        · decide
      · intro t ht _ C
        exact Ev_name rfl
    case _ => rfl
    case _ => rfl
    case _ => rfl
    case _ => intro _; rfl
    refine RetC_cons (Cm.assign (ys := il (placesOf s 6)) (cl := [(Str.ofString "step", L + 2)]) ?_ ?_ ?_ ?_ ?_) ?_
    case _ => 
      rw [il_places s 6]
      refine Cm_compIf (g := fun (t : Nat) => PV.int t) ⟨rfl, rfl, by decide, by decide, rfl⟩ rfl (ItX_range1 (n := (6 : Int)) Ev_int (by omega) (by omega) rfl).it ?_ ?_ (fun _ => rfl) (by decide)
      · intro t ht C
        refine Ts_cmp (Ev_name rfl) (b := .list (il (digs s 6))) ?_ in_l
        rw [il_digs s 6]
        refine Cm.ev (Cm_comp (ts := List.range 3) (g := fun (t : Nat) => PV.int t) (cl := [(Str.ofString "step", L + 2)]) ⟨rfl, rfl, by decide, by decide, rfl⟩ rfl ?_ ?_ ?_ ?_)
        · exact (ItX_range1 (n := (3 : Int)) Ev_int (by omega) (by omega) rfl).it
        · intro u hu C'
          have hu' := List.mem_range.mp hu
          have hp := pow_small (b := 6) (by decide) hu'
          refine Ev_bin (Ev_bin (Ev_name rfl) (Ev_bin Ev_int (Ev_name rfl) (pow_i (by omega) ?_)) (div_i hp.1 hp.2)) Ev_int (mod_i (by decide))
          have : Builtin.Int.intBits 6 = 3 := by decide
          rw [this]; omega
        · intro t; rfl
        · decide
      · intro t ht _ C
        exact Ev_name rfl
    case _ => rfl
    case _ => rfl
    case _ => rfl
    case _ => intro _; rfl
    have O := H d s f
    have m6 := O.m6
    have hml := marksOf_length (placesOf s 6) 6
    refine RetC_assignC (hs := by rfl) (p := .list (il (marksOf (placesOf s 6) 6).reverse)) (EvC_fn (f := 84) rfl rfl rfl (Evs_cons (Ev_fn (f := 77) rfl rfl rfl (Evs_cons (Ev_name rfl) (Evs_cons Ev_int Evs_nil)) (fun A st vs cx => marks_fn (n := 6) (by decide) A st vs (cx.le (by decide)))) Evs_nil) ((turned_fn m6 (.inl hml)).le (by decide))) rfl rfl ?_
    refine RetC_cons (Cm.assign (ys := il (othersOf (placesOf s 6))) (cl := [(Str.ofString "mirrored", L + 3)]) ?_ ?_ ?_ ?_ ?_) ?_
    case _ =>
      rw [il_others]
      refine Cm_compIf (g := fun (t : Nat) => PV.int t) ⟨rfl, rfl, by decide, by decide, rfl⟩ rfl ?_ ?_ ?_ (fun _ => rfl) (by decide)
      · refine (ItX_range1 (n := (6 : Int)) ?_ (by omega) (by omega) rfl).it
        have h6 : (6 : Int) = (((marksOf (placesOf s 6) 6).reverse.length : Nat) : Int) := by simp [hml]
        rw [h6]
        exact Ev_bi (id := "len") rfl rfl rfl (Evs_cons (Ev_name rfl) Evs_nil) (len_il (by simp [hml]))
      · intro t ht C
        have ht' := List.mem_range.mp ht
        refine Ts_cmp (Ev_itemL (Ev_name rfl) (Ev_name rfl) (by omega) (il_get (by simp [hml]; omega)) (by simp [il, hml])) Ev_int eq_i
      · intro t ht _ C
        exact Ev_name rfl
    case _ => rfl
    case _ => rfl
    case _ => rfl
    case _ => intro _; rfl
    refine RetC_cons (Nx1_assign (p := .list (il (firstRow d s))) (Ev_fn (f := 89) rfl rfl rfl (Evs_cons (Ev_name rfl) (Evs_cons (Ev_name rfl) Evs_nil)) (fun A st vs cx => sums_fn O.s1 A st vs (cx.le (by decide)))) rfl) ?_
    refine RetC_return (EvC_and ?_ ?_)
    · have := ne_l (w := w) (k := 5) (ns := (marksOf (placesOf s 6) 6).reverse) (ms := [])
      rw [show (!decide ((marksOf (placesOf s 6) 6).reverse = [])) = true by
        rw [Bool.not_eq_true', decide_eq_false_iff_not]
        intro h
        have := congrArg List.length h
        simp [hml] at this] at this
      exact Ev_cmp (Ev_name rfl) (Ev_list (ps := []) Evs_nil) this
    · exact EvC_fn (f := 126) rfl rfl rfl (Evs_cons (Ev_list (ps := rowsV [firstRow d s, otherRow d s, movedRow d s f]) (Evs_cons (Ev_name rfl) (Evs_cons
        (Ev_fn (f := 89) rfl rfl rfl (Evs_cons (Ev_name rfl) (Evs_cons (Ev_name rfl) Evs_nil)) (fun A st vs cx => sums_fn O.s2 A st vs (cx.le (by decide)))) (Evs_cons
        (Ev_fn (f := 121) rfl rfl rfl (Evs_cons (Ev_name rfl) (Evs_cons (Ev_name rfl) Evs_nil)) (fun A st vs cx => moved_fn O.l0 O.l1 A st vs (cx.le (by decide)))) Evs_nil))) three_s) Evs_nil) (right_fn O.ra O.rb O.rc O.hab O.t1 O.t2 O.t3)
end Mine

end

/-! part Ent -/
section
open PySem PySem.W PySem.Calls PyProof.Rows
set_option linter.unusedVariables false
set_option maxRecDepth 100000
namespace Mine
theorem ints_of {R : WRecords} {P : Params} {h : Heap} : ∀ {xs : List WData} {vs : List Value}, WShape.hasItems R xs .int = true → WellAll P h vs xs → ∃ ns : List Int, xs = ns.map WData.int ∧ Reps h (il ns) vs
  | [], vs, _, r => by
    cases r
    exact ⟨[], rfl, Reps.nil⟩
  | x :: xs, vs, e, r => by
    simp only [WShape.hasItems, Bool.and_eq_true] at e
    obtain ⟨i, rfl⟩ := hasW_int e.1
    cases r with
    | cons r1 r2 =>
      obtain ⟨ns, rfl, rs⟩ := ints_of e.2 r2
      cases r1
      exact ⟨i :: ns, rfl, Reps.cons (by simp only [Rep]; exact ⟨_, rfl⟩) rs⟩

theorem entry (hlaw : ∀ (w : World) (ns : List Int), ns.length ≤ 63 → FnC w 6 131 [.list (il ns)] (.bool true)) : PySem.Challenge.rw_oy0007_01.Holds := by
  refine hd ?_
  intro w s₀ s₁ mg mb G Y a hmg hgens args vals as hpre hlay hrd hwl
  have KX : (K w).In s₁.heap := kIn_of Y
  obtain rfl : a = 131 := by
    have := mg_of KX G.T.g (n := Str.ofString "law") (v := .ref 131) rfl
    have h2 : mg (Str.ofString "law") = some (.ref a) := hmg
    rw [h2] at this
    injection this with h; injection h
  obtain ⟨hsh, hcond⟩ := pre_splitW hpre
  obtain ⟨d, r, rfl, h1, h2⟩ := hasAllW_cons hsh
  obtain rfl := hasAllW_nil h2
  obtain ⟨xs, rfl, h3⟩ := hasW_list h1
  have hlen : xs.length ≤ 63 := by
    w_cond hcond
    omega
  obtain ⟨v, vs', rfl, hw1, hw2⟩ := wellAll_cons_inv hwl
  cases hw2
  cases hw1 with
  | list e wl =>
    obtain ⟨ns, rfl, rs⟩ := ints_of h3 wl
    rw [List.length_map] at hlen
    have cx : Cx w 6 callerA s₁.heap := ⟨⟨rfl, by decide, by decide⟩, s₁.heap, ⟨KX, ⟨mb, G.T.b, G.T.builtins⟩, ⟨mg, G.T.g⟩, G.T.nolimit⟩, Ext.refl _, [], rfl, fun _ h => nomatch h⟩
    refine hlaw w ns hlen callerA s₁ _ cx (Reps.cons (by simp only [Rep]; exact ⟨_, _, _, rfl, e, rs⟩) Reps.nil) _ _ fun v s' k rv => ?_
    simp only [Rep] at rv
    subst rv
    obtain ⟨h', tk, rfl⟩ := k.same
    refine ⟨.inl ⟨_, .bool true, [], rfl, fun _ => rfl, ReadsW.bool true, ?_, fun _ => ⟨List.nodup_nil, fun _ hm => (nomatch hm)⟩⟩, OldK.of_keep fun b o e => k.up b o e (by simp [frs, callerA]), rfl, ?_⟩
    · wrow_post
    · show AllBare s₁.gens
      rw [hgens]
      exact AllBare.empty
end Mine

end

/-! part Pl1 -/
section
open PySem PySem.W PySem.Calls PyProof.Rows
set_option linter.unusedVariables false
set_option maxRecDepth 100000
/-! plain: sums, counts, figures of a number -/
namespace Mine
theorem snoc_ind {α : Type} {P : List α → Prop} (h0 : P []) (h1 : ∀ l x, P l → P (l ++ [x])) (l : List α) : P l := by
  have : ∀ r : List α, P r.reverse := by
    intro r
    induction r with
    | nil => exact h0
    | cons a r ih => rw [List.reverse_cons]; exact h1 _ _ ih
  have := this l.reverse
  rwa [List.reverse_reverse] at this

/-- sums of naturals -/
def sm {α : Type} (l : List α) (f : α → Nat) : Nat := (l.map f).sum
theorem sm_nil {α : Type} (f : α → Nat) : sm [] f = 0 := rfl
theorem sm_cons {α : Type} (a : α) (l : List α) (f : α → Nat) : sm (a :: l) f = f a + sm l f := by simp [sm]
theorem sm_append {α : Type} (l m : List α) (f : α → Nat) : sm (l ++ m) f = sm l f + sm m f := by simp [sm]
theorem sm_add {α : Type} (l : List α) (f g : α → Nat) : sm l (fun a => f a + g a) = sm l f + sm l g := by
  induction l with
  | nil => rfl
  | cons a l ih => rw [sm_cons, sm_cons, sm_cons, ih]; omega
theorem sm_zero {α : Type} (l : List α) : sm l (fun _ => 0) = 0 := by
  induction l with
  | nil => rfl
  | cons a l ih => rw [sm_cons, ih]
theorem sm_congr {α : Type} {l : List α} {f g : α → Nat} (h : ∀ a ∈ l, f a = g a) : sm l f = sm l g := by
  unfold sm; rw [List.map_congr_left h]
theorem sm_swap {α β : Type} (l : List α) (m : List β) (f : α → β → Nat) : sm l (fun a => sm m fun b => f a b) = sm m fun b => sm l fun a => f a b := by
  induction l with
  | nil => rw [sm_nil, show (fun b => sm [] fun a => f a b) = fun _ => 0 from rfl, sm_zero]
  | cons a l ih =>
    rw [sm_cons, ih, ← sm_add]
    exact sm_congr fun b _ => (sm_cons a l fun a => f a b).symm
theorem sm_le {α : Type} {l : List α} {f : α → Nat} {c : Nat} (h : ∀ a ∈ l, f a ≤ c) : sm l f ≤ l.length * c := by
  induction l with
  | nil => simp [sm]
  | cons a l ih =>
    rw [sm_cons, List.length_cons, Nat.add_mul, Nat.one_mul]
    have h1 := h a (by simp)
    have h2 := ih fun b hb => h b (by simp [hb])
    omega
theorem sm_map {α β : Type} (l : List α) (g : α → β) (f : β → Nat) : sm (l.map g) f = sm l fun a => f (g a) := by
  simp [sm, Function.comp_def]
theorem sm_perm {α : Type} {l m : List α} (h : l.Perm m) (f : α → Nat) : sm l f = sm m f := (h.map f).sum_nat

theorem count_sm (l : List Int) (x : Int) : l.count x = sm l fun a => if a = x then 1 else 0 := by
  induction l with
  | nil => rfl
  | cons a l ih =>
    rw [sm_cons, List.count_cons, ih]
    by_cases h : a = x <;> simp [h] <;> omega
theorem count_map_sm {α : Type} (l : List α) (g : α → Int) (x : Int) : (l.map g).count x = sm l fun a => if g a = x then 1 else 0 := by
  rw [count_sm, sm_map]
theorem count_flat {α : Type} (l : List α) (f : α → List Int) (x : Int) : (l.flatMap f).count x = sm l fun a => (f a).count x := by
  induction l with
  | nil => rfl
  | cons a l ih => rw [List.flatMap_cons, List.count_append, sm_cons, ih]
theorem ite_same {P Q : Prop} [Decidable P] [Decidable Q] (h : P ↔ Q) : (if P then 1 else 0 : Nat) = if Q then 1 else 0 := by
  by_cases p : P
  · rw [if_pos p, if_pos (h.mp p)]
  · rw [if_neg p, if_neg fun q => p (h.mpr q)]
theorem ite_sub (x b k : Int) : (if x - b = k then 1 else 0 : Nat) = if b = x - k then 1 else 0 := ite_same ⟨fun h => by omega, fun h => by omega⟩
theorem ite_sub2 (a x k : Int) : (if a - x = k then 1 else 0 : Nat) = if a = x - -k then 1 else 0 := ite_same ⟨fun h => by omega, fun h => by omega⟩
theorem ite_add (x y k : Int) : (if x + y = k then 1 else 0 : Nat) = if y = k - x then 1 else 0 := ite_same ⟨fun h => by omega, fun h => by omega⟩
theorem ite_ten (a b k : Int) : (if 10 + a - b = 10 + k then 1 else 0 : Nat) = if a - b = k then 1 else 0 := ite_same ⟨fun h => by omega, fun h => by omega⟩
theorem count_diffs (ps : List Int) (k : Int) : (diffs ps).count (10 + k) = sm ps fun a => sm ps fun b => if a - b = k then 1 else 0 := by
  unfold diffs
  rw [count_flat]
  refine sm_congr fun a _ => ?_
  rw [count_map_sm]
  exact sm_congr fun b _ => ite_ten a b k
theorem count_sums (a b : List Int) (k : Int) : (sumsOf a b).count k = sm a fun x => sm b fun y => if x + y = k then 1 else 0 := by
  unfold sumsOf
  rw [count_flat]
  exact sm_congr fun x _ => count_map_sm ..

/-- the counts -/
theorem marks_get (js : List Int) (n : Nat) {i : Nat} (h : i < n) : (marksOf js n).getD i 0 = (js.count (i : Int) : Int) := by
  unfold marksOf
  rw [List.getD, List.getElem?_map, List.getElem?_range h]
  rfl
theorem list_as {l : List Int} {n : Nat} (h : l.length = n) : l = (List.range n).map fun i => l.getD i 0 := by
  refine List.ext_getElem (by simp [h]) fun i h1 h2 => ?_
  simp [List.getD, List.getElem?_eq_getElem h1]
theorem marks_eq {l : List Int} {js : List Int} {n : Nat} (h : l.length = n) (hg : ∀ i, i < n → l.getD i 0 = (js.count (i : Int) : Int)) : l = marksOf js n := by
  rw [list_as h]
  unfold marksOf
  exact List.map_congr_left fun i hi => hg i (List.mem_range.mp hi)
theorem marks_snoc (js : List Int) {j : Int} {n : Nat} (h0 : 0 ≤ j) (h1 : j < n) : inc (marksOf js n) j = marksOf (js ++ [j]) n := by
  refine marks_eq (by rw [inc_length, marksOf_length]) fun i hi => ?_
  have hj : j.toNat < (marksOf js n).length := by rw [marksOf_length]; omega
  have hi' : i < (marksOf js n).length := by rw [marksOf_length]; exact hi
  unfold inc
  rw [List.getD, List.getElem?_set, List.count_append, List.count_singleton]
  by_cases h : j.toNat = i
  · subst h
    rw [if_pos rfl, if_pos hj, marks_get js n hi]
    have : ((j.toNat : Nat) : Int) = j := by omega
    rw [this]
    simp
  · rw [if_neg h]
    have e := marks_get js n hi
    rw [List.getD] at e
    rw [e]
    have : (j == (i : Int)) = false := by simp; omega
    rw [this]
    simp
theorem tally_marks {js : List Int} (h : ∀ j ∈ js, 0 ≤ j ∧ j < 20) : tally js = marksOf js 20 := by
  have gen : ∀ (js acc : List Int), (∀ j ∈ js, 0 ≤ j ∧ j < 20) → js.foldl inc (marksOf acc 20) = marksOf (acc ++ js) 20 := by
    intro js
    induction js with
    | nil => intro acc _; simp
    | cons j js ih =>
      intro acc h
      have hj := h j (by simp)
      rw [List.foldl_cons, marks_snoc acc hj.1 hj.2, ih _ fun x hx => h x (by simp [hx])]
      simp
  have := gen js [] h
  rw [List.nil_append] at this
  rw [← this]
  rfl

/-- the number of the counts -/
theorem num_range (n : Nat) (f : Nat → Int) : num ((List.range (n + 1)).map f) = num ((List.range n).map f) * 64 + f n := by
  rw [List.range_succ, List.map_append, List.map_singleton, num_snoc]
theorem num_add (n : Nat) (f g : Nat → Int) : num ((List.range n).map fun i => f i + g i) = num ((List.range n).map f) + num ((List.range n).map g) := by
  induction n with
  | zero => rfl
  | succ n ih => rw [num_range, num_range, num_range, ih]; omega
theorem num_zero (n : Nat) : num ((List.range n).map fun _ => (0 : Int)) = 0 := by
  induction n with
  | zero => rfl
  | succ n ih => rw [num_range, ih]; rfl
theorem num_ind {n e : Nat} (h : e < n) : num ((List.range n).map fun i => if i = e then (1 : Int) else 0) = 64 ^ (n - 1 - e) := by
  induction n with
  | zero => omega
  | succ n ih =>
    rw [num_range]
    by_cases he : e = n
    · subst he
      rw [List.map_congr_left (g := fun _ => (0 : Int)) fun i hi => if_neg (by have := List.mem_range.mp hi; omega), num_zero, if_pos rfl]
      rw [show e + 1 - 1 - e = 0 by omega]; rfl
    · rw [ih (by omega), if_neg (by omega), show n + 1 - 1 - e = (n - 1 - e) + 1 by omega, Int.pow_succ]; omega
theorem num_marks {n : Nat} {js : List Int} (h : ∀ j ∈ js, 0 ≤ j ∧ j < n) : num (marksOf js n) = (js.map fun e => (64 : Int) ^ (n - 1 - e.toNat)).sum := by
  induction js with
  | nil => exact num_zero n
  | cons e js ih =>
    have he := h e (by simp)
    have e1 : marksOf (e :: js) n = (List.range n).map fun (i : Nat) => (((js.count (i : Int) : Nat) : Int)) + (if i = e.toNat then (1 : Int) else 0) := by
      unfold marksOf
      refine List.map_congr_left fun i hi => ?_
      rw [List.count_cons]
      by_cases hc : i = e.toNat
      · have : (e == (i : Int)) = true := by simp; omega
        rw [this, if_pos rfl, if_pos hc]; simp
      · have : (e == (i : Int)) = false := by simp; omega
        rw [this, if_neg hc]; simp
    rw [e1, num_add, num_ind (by omega), List.map_cons, List.sum_cons, ← ih fun j hj => h j (by simp [hj])]
    rw [Int.add_comm]
    rfl

theorem marks_reverse {n : Nat} (hn : 0 < n) (js : List Int) : (marksOf js n).reverse = marksOf (js.map fun j => (n : Int) - 1 - j) n := by
  refine marks_eq (by rw [List.length_reverse, marksOf_length]) fun i hi => ?_
  have hl := marksOf_length js n
  rw [List.getD, List.getElem?_reverse (by omega), hl]
  have e := marks_get js n (i := n - 1 - i) (by omega)
  rw [List.getD] at e
  rw [e, count_map_sm, count_sm]
  congr 1
  exact sm_congr fun a _ => ite_same ⟨fun h => by omega, fun h => by omega⟩

/-- the product -/
theorem sum_mul {α β : Type} (l : List α) (m : List β) (f : α → Int) (g : β → Int) : (l.map f).sum * (m.map g).sum = (l.map fun a => (m.map fun b => f a * g b).sum).sum := by
  have one : ∀ (m : List β) (c : Int), c * (m.map g).sum = (m.map fun b => c * g b).sum := by
    intro m c
    induction m with
    | nil => simp
    | cons b m ih => rw [List.map_cons, List.sum_cons, Int.mul_add, ih, List.map_cons, List.sum_cons]
  induction l with
  | nil => simp
  | cons a l ih => rw [List.map_cons, List.sum_cons, Int.add_mul, ih, one, List.map_cons, List.sum_cons]
theorem sum_flat {α : Type} (l : List α) (f : α → List Int) : (l.flatMap f).sum = (l.map fun a => (f a).sum).sum := by
  induction l with
  | nil => rfl
  | cons a l ih => rw [List.flatMap_cons, List.sum_append, ih, List.map_cons, List.sum_cons]
theorem diffs_range {ps : List Int} (hp : ∀ p ∈ ps, 0 ≤ p ∧ p ≤ 9) : ∀ j ∈ diffs ps, 0 ≤ j ∧ j < 20 := by
  intro j hj
  simp only [diffs, List.mem_flatMap, List.mem_map] at hj
  obtain ⟨a, ha, b, hb, rfl⟩ := hj
  have := hp a ha; have := hp b hb
  omega
theorem often_marks {ps : List Int} (hp : ∀ p ∈ ps, 0 ≤ p ∧ p ≤ 9) : often ps = marksOf (diffs ps) 20 := tally_marks (diffs_range hp)
theorem exp_ok : ∀ x y : Fin 10, 10 - 1 - ((x.val : Nat) : Int).toNat + (10 - 1 - (((10 : Nat) : Int) - 1 - ((y.val : Nat) : Int)).toNat) = 20 - 1 - (10 + ((x.val : Nat) : Int) - ((y.val : Nat) : Int)).toNat := by decide +kernel
theorem num_often {ps : List Int} (hp : ∀ p ∈ ps, 0 ≤ p ∧ p ≤ 9) : num (often ps) = num (marksOf ps 10) * num (marksOf ps 10).reverse := by
  rw [often_marks hp, num_marks (diffs_range hp), marks_reverse (by decide), num_marks (n := 10) fun j hj => by have := hp j hj; omega, num_marks (n := 10) fun j hj => by
    obtain ⟨p, hq, rfl⟩ := List.mem_map.mp hj
    have := hp p hq; omega]
  rw [List.map_map, sum_mul]
  unfold diffs
  rw [List.map_flatMap, sum_flat]
  congr 1
  refine List.map_congr_left fun a ha => ?_
  rw [List.map_map]
  congr 1
  refine List.map_congr_left fun b hb => ?_
  have h1 := hp a ha
  have h2 := hp b hb
  simp only [Function.comp]
  rw [← Int.pow_add]
  have e := exp_ok ⟨a.toNat, by omega⟩ ⟨b.toNat, by omega⟩
  simp only [Int.toNat_of_nonneg h1.1, Int.toNat_of_nonneg h2.1] at e
  rw [e]
theorem num_digit {l : List Int} (h : ∀ d ∈ l, 0 ≤ d ∧ d < 64) {n : Nat} (hn : n ≤ l.length) {j : Nat} (hj : j < n) : num (l.take n) / 64 ^ (n - 1 - j) % 64 = l.getD j 0 := by
  induction n with
  | zero => omega
  | succ n ih =>
    rw [num_take (by omega)]
    have hd : 0 ≤ l.getD n 0 ∧ l.getD n 0 < 64 := by
      refine h _ ?_
      rw [List.getD, List.getElem?_eq_getElem (by omega), Option.getD_some]
      exact List.getElem_mem _
    by_cases e : j = n
    · subst e
      rw [show j + 1 - 1 - j = 0 by omega, Int.pow_zero, Int.ediv_one]
      omega
    · have := ih (by omega) (by omega)
      rw [show n + 1 - 1 - j = (n - 1 - j) + 1 by omega, Int.pow_succ, Int.mul_comm ((64 : Int) ^ (n - 1 - j)) 64, ← Int.ediv_ediv_of_nonneg (show (0 : Int) ≤ 64 by decide)]
      rw [show (num (l.take n) * 64 + l.getD n 0) / 64 = num (l.take n) by omega]
      exact this

theorem writ_of {ps : List Int} (hp : ∀ p ∈ ps, 0 ≤ p ∧ p ≤ 9) (hm : ∀ d ∈ marksOf ps 10, d < 64) (ho : ∀ f ∈ often ps, 0 ≤ f ∧ f < 64) : byteArr (outTo (prodOf ps) 20) = signsOf (often ps) := by
  have hl : (often ps).length = 20 := often_length ps
  have hP : ((prodOf ps : Nat) : Int) = num (often ps) := by rw [(prodOf_spec hm).1, num_often hp]
  have hd : ∀ j, j < 20 → digAt (prodOf ps) j = ((often ps).getD j 0).toNat := fun j hj => by
    have := num_digit ho (n := 20) (by omega) hj
    rw [List.take_of_length_le (by omega), ← hP] at this
    rw [← this]
    unfold digAt
    have e : ((prodOf ps / 64 ^ (19 - j) % 64 : Nat) : Int) = ((prodOf ps : Nat) : Int) / 64 ^ (20 - 1 - j) % 64 := by push_cast; rfl
    rw [← e]; rfl
  unfold byteArr outTo signsOf
  conv => rhs; rw [list_as hl]
  rw [List.map_map, List.map_map]
  congr 1
  refine List.map_congr_left fun j hj => ?_
  simp only [Function.comp]
  rw [hd j (List.mem_range.mp hj)]
  rfl
end Mine

end

/-! part Pl2 -/
section
open PySem PySem.W PySem.Calls PyProof.Rows
set_option linter.unusedVariables false
set_option maxRecDepth 100000
/-! plain: the distances and the writing -/
namespace Mine
theorem dists_snoc (ps : List Int) (x : Int) : distsOf (ps ++ [x]) = distsOf ps ++ ps.map fun a => x - a := by
  unfold distsOf
  rw [List.length_append, List.length_singleton, List.range_succ, List.flatMap_append, List.flatMap_singleton]
  have g : ∀ i, i < ps.length → (ps ++ [x]).getD i 0 = ps.getD i 0 := fun i hi => by
    rw [List.getD, List.getD, List.getElem?_append_left hi]
  congr 1
  · unfold List.flatMap
    congr 1
    refine List.map_congr_left fun b hb => List.map_congr_left fun a ha => ?_
    have hb := List.mem_range.mp hb
    have ha := List.mem_range.mp ha
    rw [g b hb, g a (by omega)]
  · have e1 : (ps ++ [x]).getD ps.length 0 = x := by simp [List.getD]
    conv => rhs; rw [list_as (l := ps) rfl]
    rw [List.map_map]
    refine List.map_congr_left fun a ha => ?_
    rw [e1, g a (List.mem_range.mp ha)]
    rfl
theorem count_add (ps : List Int) (x k : Int) : (ps.map fun a => x - a).count k = ps.count (x - k) := by
  rw [count_map_sm, count_sm]
  exact sm_congr fun a _ => ite_sub x a k
/-- the pairs of two points, by distance -/
theorem diffs_dists (ps : List Int) (k : Int) : (diffs ps).count (10 + k) = (distsOf ps).count k + (distsOf ps).count (-k) + (if k = 0 then ps.length else 0) := by
  refine snoc_ind (P := fun ps => (diffs ps).count (10 + k) = (distsOf ps).count k + (distsOf ps).count (-k) + (if k = 0 then ps.length else 0)) ?_ ?_ ps
  · by_cases h : k = 0 <;> simp [h, diffs, distsOf]
  · intro ps x ih
    rw [count_diffs] at ih ⊢
    rw [dists_snoc, List.count_append, List.count_append, count_add, count_add, sm_append, sm_cons, sm_nil]
    have e1 : (sm ps fun a => sm (ps ++ [x]) fun b => if a - b = k then 1 else 0) = (sm ps fun a => sm ps fun b => if a - b = k then 1 else 0) + ps.count (x - -k) := by
      rw [count_sm, ← sm_add]
      refine sm_congr fun a _ => ?_
      rw [sm_append, sm_cons, sm_nil]
      congr 1
      exact ite_sub2 a x k
    have e2 : (sm (ps ++ [x]) fun b => if x - b = k then 1 else 0) = ps.count (x - k) + (if k = 0 then 1 else 0) := by
      rw [sm_append, sm_cons, sm_nil, count_sm]
      congr 1
      · exact sm_congr fun b _ => ite_sub x b k
      · rw [Int.sub_self, Nat.add_zero]; exact ite_same eq_comm
    rw [e1, e2, ih, List.length_append, List.length_singleton]
    by_cases h : k = 0
    · subst h; simp; omega
    · simp only [if_neg h]; omega
theorem dists_mem {ps : List Int} {d : Int} (h : d ∈ distsOf ps) : ∃ a b, a < b ∧ ∃ hb : b < ps.length, ∃ ha : a < ps.length, d = ps[b] - ps[a] := by
  simp only [distsOf, List.mem_flatMap, List.mem_map, List.mem_range] at h
  obtain ⟨b, hb, a, ha, rfl⟩ := h
  refine ⟨a, b, ha, hb, by omega, ?_⟩
  rw [List.getD, List.getD, List.getElem?_eq_getElem hb, List.getElem?_eq_getElem (show a < ps.length by omega)]
  rfl
theorem dists_len (ps : List Int) : (distsOf ps).length * 2 = ps.length * (ps.length - 1) := by
  refine snoc_ind (P := fun ps => (distsOf ps).length * 2 = ps.length * (ps.length - 1)) (by simp [distsOf]) (fun ps x ih => ?_) ps
  rw [dists_snoc, List.length_append, List.length_map, List.length_append, List.length_singleton]
  cases h : ps.length with
  | zero => rw [h] at ih; omega
  | succ n =>
    rw [h] at ih
    simp only [Nat.add_sub_cancel] at ih ⊢
    have e1 : (n + 1 + 1) * (n + 1) = (n + 1) * n + 2 * (n + 1) := by rw [Nat.mul_comm (n + 1 + 1), ← Nat.mul_comm (n + 1) 2, ← Nat.mul_add]
    omega

/-- a row: sorted points from 0 to 9 -/
structure Row (ps : List Int) : Prop where
  rng : ∀ p ∈ ps, 0 ≤ p ∧ p ≤ 9
  up : ps.Pairwise (· ≤ ·)
theorem Row.dist {ps : List Int} (r : Row ps) : ∀ d ∈ distsOf ps, 0 ≤ d ∧ d ≤ 9 := by
  intro d hd
  obtain ⟨a, b, hab, hb, ha, rfl⟩ := dists_mem hd
  have h1 := List.pairwise_iff_getElem.mp r.up a b ha hb hab
  have h2 := r.rng _ (List.getElem_mem ha)
  have h3 := r.rng _ (List.getElem_mem hb)
  omega
theorem Row.neg {ps : List Int} (r : Row ps) {k : Int} (h : k < 0) : (distsOf ps).count k = 0 :=
  List.count_eq_zero.mpr fun hm => by have := r.dist k hm; omega
theorem Row.often0 {ps : List Int} (r : Row ps) : (often ps).getD 10 0 = 2 * ((distsOf ps).count 0 : Int) + ps.length := by
  rw [often_marks r.rng, marks_get _ _ (by decide)]
  have := diffs_dists ps 0
  simp only [Int.add_zero, Int.neg_zero, if_true] at this
  rw [show (((10 : Nat) : Int)) = 10 from rfl, this]
  omega
theorem Row.oftenK {ps : List Int} (r : Row ps) {k : Nat} (h0 : 0 < k) (h : k < 10) : (often ps).getD (10 + k) 0 = ((distsOf ps).count (k : Int) : Int) := by
  rw [often_marks r.rng, marks_get _ _ (by omega)]
  have := diffs_dists ps k
  rw [r.neg (k := -(k : Int)) (by omega), if_neg (by omega)] at this
  rw [show ((10 + k : Nat) : Int) = 10 + (k : Int) by omega, this]
  omega
theorem Row.read {ps : List Int} (r : Row ps) : readOf (often ps) ps.length = marksOf (distsOf ps) 10 := by
  have hl := often_length ps
  refine marks_eq (readOf_length hl) fun i hi => ?_
  unfold readOf
  cases i with
  | zero =>
    show ((often ps).getD 10 0 - ps.length) / 2 = _
    rw [r.often0]
    show _ = ((distsOf ps).count 0 : Int)
    omega
  | succ i =>
    rw [List.singleton_append, List.getD_cons_succ, List.getD, List.getElem?_drop]
    have := r.oftenK (k := i + 1) (by omega) hi
    rw [List.getD, show 10 + (i + 1) = 11 + i by omega] at this
    exact this

/-- the difference of two sorted lists -/
theorem ustep_pos {m r : List Int} {i : Int} (h : i ∈ r) : ustep (m, r) i = (m, r.erase i) := if_pos h
theorem ustep_neg {m r : List Int} {i : Int} (h : i ∉ r) : ustep (m, r) i = (m ++ [i], r) := if_neg h
theorem ust_spec (l : List Int) : ∀ (m r : List Int) (k : Int), (l.foldl ustep (m, r)).1.count k = m.count k + (l.count k - r.count k) ∧ (l.foldl ustep (m, r)).2.count k = r.count k - l.count k := by
  induction l with
  | nil => intro m r k; rw [List.count_nil, Nat.zero_sub]; exact ⟨rfl, rfl⟩
  | cons i l ih =>
    intro m r k
    rw [List.foldl_cons]
    by_cases hi : i ∈ r
    · rw [ustep_pos hi, (ih m (r.erase i) k).1, (ih m (r.erase i) k).2]
      by_cases hk : i = k
      · subst hk
        have hp : 0 < r.count i := List.count_pos_iff.mpr hi
        rw [List.count_erase_self, List.count_cons_self]
        omega
      · rw [List.count_erase_of_ne (Ne.symm hk), List.count_cons_of_ne hk]
        exact ⟨rfl, rfl⟩
    · rw [ustep_neg hi, (ih (m ++ [i]) r k).1, (ih (m ++ [i]) r k).2, List.count_append]
      by_cases hk : i = k
      · subst hk
        rw [List.count_eq_zero.mpr hi, List.count_cons_self, List.count_cons_self, List.count_nil]
        omega
      · rw [List.count_cons_of_ne hk, List.count_cons_of_ne hk, List.count_nil]
        exact ⟨rfl, rfl⟩
theorem ust_sub (l : List Int) : ∀ (m r : List Int), (∃ z, z.Sublist l ∧ (l.foldl ustep (m, r)).1 = m ++ z) ∧ (l.foldl ustep (m, r)).2.Sublist r := by
  induction l with
  | nil => intro m r; exact ⟨⟨[], .slnil, by simp⟩, List.Sublist.refl _⟩
  | cons i l ih =>
    intro m r
    rw [List.foldl_cons]
    by_cases hi : i ∈ r
    · rw [ustep_pos hi]
      obtain ⟨⟨z, h1, h2⟩, h3⟩ := ih m (r.erase i)
      exact ⟨⟨z, h1.cons _, h2⟩, h3.trans List.erase_sublist⟩
    · rw [ustep_neg hi]
      obtain ⟨⟨z, h1, h2⟩, h3⟩ := ih (m ++ [i]) r
      exact ⟨⟨i :: z, h1.cons_cons _, by rw [h2]; simp⟩, h3⟩
theorem uld_count (X Y : List Int) (k : Int) : (uld X Y).1.count k = X.count k - Y.count k ∧ (uld X Y).2.count k = Y.count k - X.count k := by
  have := ust_spec X.reverse [] Y k
  unfold uld
  rw [List.count_reverse] at this
  simpa using this
theorem uld_up {X Y : List Int} (hX : X.Pairwise (· ≤ ·)) (hY : Y.Pairwise (· ≤ ·)) : (uld X Y).1.Pairwise (fun a b => b ≤ a) ∧ (uld X Y).2.Pairwise (· ≤ ·) := by
  obtain ⟨⟨z, h1, h2⟩, h3⟩ := ust_sub X.reverse [] Y
  refine ⟨?_, hY.sublist h3⟩
  unfold uld
  rw [h2, List.nil_append]
  exact (List.pairwise_reverse.mpr hX).sublist h1
theorem map_rep (n : Nat) (c : Int) : ((List.range n).map fun _ => c) = List.replicate n c := by rw [List.map_const', List.length_range]
theorem sm_pick {n k c : Nat} (h : k < n) : (sm (List.range n) fun t => if t = k then c else 0) = c := by
  induction n with
  | zero => omega
  | succ n ih =>
    rw [List.range_succ, sm_append, sm_cons, sm_nil]
    by_cases e : n = k
    · subst e
      rw [sm_congr (g := fun _ => 0) fun t ht => if_neg (Nat.ne_of_lt (List.mem_range.mp ht)), sm_zero, if_pos rfl, Nat.zero_add]
      rfl
    · rw [ih (Nat.lt_of_le_of_ne (Nat.le_of_lt_succ h) (Ne.symm e)), if_neg e]
      rfl
theorem miss_count (A B : List Int) (k : Nat) (hk : k < 10) : (missOf A B).count (k : Int) = (A.getD k 0 - B.getD k 0).toNat := by
  unfold missOf
  rw [count_flat]
  have : ∀ t ∈ List.range 10, ((List.range (A.getD (9 - t) 0 - B.getD (9 - t) 0).toNat).map fun _ => (9 + (t : Int) * (-1))).count (k : Int) = if t = 9 - k then (A.getD k 0 - B.getD k 0).toNat else 0 := by
    intro t ht
    have ht := List.mem_range.mp ht
    rw [map_rep, List.count_replicate]
    by_cases h : t = 9 - k
    · subst h
      rw [show 9 - (9 - k) = k by omega, if_pos rfl, if_pos (by simp; omega)]
    · rw [if_neg h, if_neg (by simp; omega)]
  rw [sm_congr this]
  exact sm_pick (by omega)
theorem unex_count (A B : List Int) (k : Nat) (hk : k < 10) : (unexOf A B).count (k : Int) = (B.getD k 0 - A.getD k 0).toNat := by
  unfold unexOf
  rw [count_flat]
  have : ∀ t ∈ List.range 10, ((List.range (B.getD t 0 - A.getD t 0).toNat).map fun _ => (t : Int)).count (k : Int) = if t = k then (B.getD k 0 - A.getD k 0).toNat else 0 := by
    intro t ht
    rw [map_rep, List.count_replicate]
    by_cases h : t = k
    · subst h
      rw [if_pos rfl, if_pos (by simp)]
    · rw [if_neg h, if_neg (by simp; omega)]
  rw [sm_congr this]
  exact sm_pick hk
theorem miss_mem {A B : List Int} {d : Int} (h : d ∈ missOf A B) : 0 ≤ d ∧ d ≤ 9 := by
  simp only [missOf, List.mem_flatMap, List.mem_map, List.mem_range] at h
  obtain ⟨t, ht, _, _, rfl⟩ := h
  omega
theorem unex_mem {A B : List Int} {d : Int} (h : d ∈ unexOf A B) : 0 ≤ d ∧ d ≤ 9 := by
  simp only [unexOf, List.mem_flatMap, List.mem_map, List.mem_range] at h
  obtain ⟨t, ht, _, _, rfl⟩ := h
  omega
theorem miss_down (A B : List Int) : (missOf A B).Pairwise (fun a b => b ≤ a) := by
  unfold missOf
  rw [List.pairwise_flatMap]
  refine ⟨fun t _ => by rw [map_rep]; exact List.pairwise_replicate.mpr (by omega), List.pairwise_lt_range.imp fun {a b} hab x hx y hy => ?_⟩
  simp only [List.mem_map] at hx hy
  obtain ⟨_, _, rfl⟩ := hx
  obtain ⟨_, _, rfl⟩ := hy
  omega
theorem unex_up (A B : List Int) : (unexOf A B).Pairwise (· ≤ ·) := by
  unfold unexOf
  rw [List.pairwise_flatMap]
  refine ⟨fun t _ => by rw [map_rep]; exact List.pairwise_replicate.mpr (by omega), List.pairwise_lt_range.imp fun {a b} hab x hx y hy => ?_⟩
  simp only [List.mem_map] at hx hy
  obtain ⟨_, _, rfl⟩ := hx
  obtain ⟨_, _, rfl⟩ := hy
  omega
theorem falling_uniq {a b : List Int} (p : a.Perm b) (h1 : a.Pairwise (fun x y => y ≤ x)) (h2 : b.Pairwise (fun x y => y ≤ x)) : a = b :=
  List.Perm.eq_of_pairwise (fun a b _ _ h1 h2 => by omega) h1 h2 p
theorem uld_is {X Y : List Int} (hX : X.Pairwise (· ≤ ·)) (hY : Y.Pairwise (· ≤ ·)) (rX : ∀ d ∈ X, 0 ≤ d ∧ d ≤ 9) (rY : ∀ d ∈ Y, 0 ≤ d ∧ d ≤ 9) :
    (uld X Y).1 = missOf (marksOf X 10) (marksOf Y 10) ∧ (uld X Y).2 = unexOf (marksOf X 10) (marksOf Y 10) := by
  obtain ⟨u1, u2⟩ := uld_up hX hY
  have out : ∀ {l : List Int} {k : Int}, (∀ d ∈ l, 0 ≤ d ∧ d ≤ 9) → ¬(0 ≤ k ∧ k ≤ 9) → l.count k = 0 := fun {l k} h hk => List.count_eq_zero.mpr fun hm => hk (h k hm)
  constructor
  · refine falling_uniq (List.perm_iff_count.mpr fun k => ?_) u1 (miss_down ..)
    rw [(uld_count X Y k).1]
    by_cases hk : 0 ≤ k ∧ k ≤ 9
    · have e : k = ((k.toNat : Nat) : Int) := by omega
      rw [e, miss_count _ _ _ (by omega), marks_get _ _ (by omega), marks_get _ _ (by omega)]
      omega
    · rw [out rX hk, out (fun d hd => miss_mem hd) hk]; omega
  · refine sorted_uniq (List.perm_iff_count.mpr fun k => ?_) u2 (unex_up ..)
    rw [(uld_count X Y k).2]
    by_cases hk : 0 ≤ k ∧ k ≤ 9
    · have e : k = ((k.toNat : Nat) : Int) := by omega
      rw [e, unex_count _ _ _ (by omega), marks_get _ _ (by omega), marks_get _ _ (by omega)]
      omega
    · rw [out rY hk, out (fun d hd => unex_mem hd) hk]; omega
end Mine

end

/-! part Pl3 -/
section
open PySem PySem.W PySem.Calls PyProof.Rows
set_option linter.unusedVariables false
set_option maxRecDepth 100000
/-! plain: what two rows' writings tell -/
namespace Mine
theorem letter_back : ∀ i : Fin 64, (letters.cps.toList.map Nat.toUInt8).idxOf ((letters.cps.toList.getD i.val 0).toUInt8) = i.val := by decide +kernel
theorem signs_inj {l₁ l₂ : List Int} (h1 : ∀ f ∈ l₁, 0 ≤ f ∧ f < 64) (h2 : ∀ f ∈ l₂, 0 ≤ f ∧ f < 64) (h : (signsOf l₁).toList = (signsOf l₂).toList) : l₁ = l₂ := by
  have back : ∀ {l : List Int}, (∀ f ∈ l, 0 ≤ f ∧ f < 64) → ((signsOf l).toList.map fun u => (((letters.cps.toList.map Nat.toUInt8).idxOf u : Nat) : Int)) = l := by
    intro l hl
    unfold signsOf
    rw [List.toList_toArray, List.map_map]
    conv => rhs; rw [← List.map_id l]
    refine List.map_congr_left fun f hf => ?_
    have hf := hl f hf
    have := letter_back ⟨f.toNat, by omega⟩
    simp only [Function.comp, id]
    simp only at this
    rw [this]; omega
  rw [← back h1, ← back h2, h]
theorem marks_perm {l m : List Int} (h : l.Perm m) (n : Nat) : marksOf l n = marksOf m n := by
  unfold marksOf
  exact List.map_congr_left fun i _ => by rw [h.count_eq]
theorem often_of_diffs {a b : List Int} (ra : Row a) (rb : Row b) (h : ∀ k : Int, (diffs a).count (10 + k) = (diffs b).count (10 + k)) : often a = often b := by
  rw [often_marks ra.rng, often_marks rb.rng]
  unfold marksOf
  refine List.map_congr_left fun i _ => ?_
  have := h ((i : Int) - 10)
  rw [show (10 : Int) + ((i : Int) - 10) = i by omega] at this
  rw [this]
theorem dists_of_often {a b : List Int} (ra : Row a) (rb : Row b) (hl : a.length = b.length) (h : often a = often b) (k : Int) : (distsOf a).count k = (distsOf b).count k := by
  have out : ∀ {l : List Int}, Row l → ¬(0 ≤ k ∧ k ≤ 9) → (distsOf l).count k = 0 := fun r hk => List.count_eq_zero.mpr fun hm => hk (r.dist k hm)
  by_cases hk : 0 ≤ k ∧ k ≤ 9
  · by_cases h0 : k = 0
    · subst h0
      have e1 := ra.often0
      have e2 := rb.often0
      rw [h] at e1
      omega
    · have e : k = ((k.toNat : Nat) : Int) := by omega
      have e1 := ra.oftenK (k := k.toNat) (by omega) (by omega)
      have e2 := rb.oftenK (k := k.toNat) (by omega) (by omega)
      rw [h, e2] at e1
      rw [e]; omega
  · rw [out ra hk, out rb hk]
theorem nil_of_count {l : List Int} (h : ∀ k, l.count k = 0) : l = [] := by
  cases l with
  | nil => rfl
  | cons a l => have := h a; simp at this
theorem told_of {a b : List Int} (ra : Row a) (rb : Row b) (hl : a.length = b.length) (oa : ∀ f ∈ often a, 0 ≤ f ∧ f < 64) (ob : ∀ f ∈ often b, 0 ≤ f ∧ f < 64) : ToldOk a b := by
  have pX := srt_perm (distsOf a)
  have pY := srt_perm (distsOf b)
  obtain ⟨u1, u2⟩ := uld_is (srt_sorted (distsOf a)) (srt_sorted (distsOf b)) (fun d hd => ra.dist d (pX.mem_iff.mp hd)) (fun d hd => rb.dist d (pY.mem_iff.mp hd))
  rw [marks_perm pX, marks_perm pY, ← ra.read, ← rb.read] at u1 u2
  refine ⟨u1, u2, ?_⟩
  rw [Bool.eq_iff_iff]
  simp only [Bool.and_eq_true, decide_eq_true_eq, beq_iff_eq]
  have cnt := fun k => uld_count (srt (distsOf a)) (srt (distsOf b)) k
  constructor
  · rintro ⟨e1, e2⟩
    have hc : ∀ k, (distsOf a).count k = (distsOf b).count k := fun k => by
      have := cnt k
      rw [e1, e2, pX.count_eq, pY.count_eq] at this
      simp only [List.count_nil] at this
      omega
    have : often a = often b := often_of_diffs ra rb fun k => by rw [diffs_dists, diffs_dists, hc, hc, hl]
    rw [this]
  · intro h
    have ho := signs_inj oa ob h
    have hc := dists_of_often ra rb hl ho
    constructor
    · exact nil_of_count fun k => by
        have := (cnt k).1
        rw [pX.count_eq, pY.count_eq, hc k] at this
        omega
    · exact nil_of_count fun k => by
        have := (cnt k).2
        rw [pX.count_eq, pY.count_eq, hc k] at this
        omega

/-- a good row: few points at a place -/
structure Fine (ps : List Int) : Prop where
  row : Row ps
  len : ps.length ≤ 9
  few : ∀ k, ps.count k ≤ 4
theorem Fine.oft {ps : List Int} (r : Fine ps) : ∀ f ∈ often ps, 0 ≤ f ∧ f < 64 := by
  intro f hf
  rw [often_marks r.row.rng] at hf
  simp only [marksOf, List.mem_map, List.mem_range] at hf
  obtain ⟨i, hi, rfl⟩ := hf
  have e := count_diffs ps ((i : Int) - 10)
  rw [show (10 : Int) + ((i : Int) - 10) = i by omega] at e
  have h1 : (sm ps fun a => sm ps fun b => if a - b = (i : Int) - 10 then 1 else 0) ≤ ps.length * 4 := sm_le fun a _ => by
    have : (sm ps fun b => if a - b = (i : Int) - 10 then 1 else 0) = ps.count (a - ((i : Int) - 10)) := by
      rw [count_sm]
      exact sm_congr fun b _ => ite_sub a b ((i : Int) - 10)
    rw [this]; exact r.few _
  have := r.len
  omega
theorem Fine.marks {ps : List Int} (r : Fine ps) : ∀ d ∈ marksOf ps 10, d < 64 := by
  intro d hd
  simp only [marksOf, List.mem_map, List.mem_range] at hd
  obtain ⟨i, _, rfl⟩ := hd
  have := r.few (i : Int)
  omega
theorem Fine.ok {ps : List Int} (r : Fine ps) : RowOk ps := by
  refine ⟨by have := r.len; omega, r.row.rng, r.marks, r.oft, writ_of r.row.rng r.marks r.oft, ?_⟩
  have := dists_len ps
  have h2 : ps.length * (ps.length - 1) ≤ 9 * 8 := Nat.mul_le_mul r.len (by have := r.len; omega)
  omega
theorem Fine.told {a b : List Int} (ra : Fine a) (rb : Fine b) (hl : a.length = b.length) : ToldOk a b := told_of ra.row rb.row hl ra.oft rb.oft
end Mine

end

/-! part Pl4 -/
section
open PySem PySem.W PySem.Calls PyProof.Rows
set_option linter.unusedVariables false
set_option maxRecDepth 100000
/-! plain: the rows that the law builds -/
namespace Mine
/-- places: apart, from 0 on, one to three -/
structure Plc (b : Nat) (P : List Int) : Prop where
  nd : P.Nodup
  rng : ∀ p ∈ P, 0 ≤ p ∧ p < b
  len : P.length ≤ 3
  ne : 0 < P.length
theorem cast_nodup {l : List Nat} (h : l.Nodup) : (l.map fun (t : Nat) => (t : Int)).Nodup := by
  rw [List.nodup_iff_pairwise_ne] at h ⊢
  exact h.map _ fun a b hab q => hab (by omega)
theorem places_ok (x : Int) {b : Nat} (hb : 0 < b) : Plc b (placesOf x b) := by
  have hm : ∀ p, p ∈ placesOf x b ↔ ∃ t : Nat, t < b ∧ (∃ d ∈ digs x b, d = (t : Int)) ∧ (t : Int) = p := fun p => by
    simp only [placesOf, List.mem_map, List.mem_filter, List.mem_range, List.any_eq_true, beq_iff_eq]
    constructor
    · rintro ⟨t, ⟨h1, h2⟩, h3⟩; exact ⟨t, h1, h2, h3⟩
    · rintro ⟨t, h1, h2, h3⟩; exact ⟨t, ⟨h1, h2⟩, h3⟩
  have nd : (placesOf x b).Nodup := cast_nodup (List.nodup_range.sublist List.filter_sublist)
  refine ⟨nd, fun p hp => ?_, ?_, ?_⟩
  · obtain ⟨t, h1, _, rfl⟩ := (hm p).mp hp
    omega
  · have := nd.length_le_of_subset (l₂ := digs x b) fun p hp => by
      obtain ⟨t, _, ⟨d, hd, rfl⟩, rfl⟩ := (hm p).mp hp
      exact hd
    simpa [digs] using this
  · refine List.length_pos_of_mem (a := x % b) ((hm _).mpr ⟨(x % b).toNat, ?_, ⟨x % b, ?_, ?_⟩, ?_⟩)
    · have := Int.emod_lt_of_pos x (show (0 : Int) < b by omega)
      have := Int.emod_nonneg x (show (b : Int) ≠ 0 by omega)
      omega
    · simp only [digs, List.mem_map, List.mem_range]
      exact ⟨0, by decide, by simp⟩
    · have := Int.emod_nonneg x (show (b : Int) ≠ 0 by omega)
      omega
    · have := Int.emod_nonneg x (show (b : Int) ≠ 0 by omega)
      omega
theorem mir_nodup {Q : List Int} (h : Q.Nodup) : (Q.map fun q => ((6 : Nat) : Int) - 1 - q).Nodup := by
  rw [List.nodup_iff_pairwise_ne] at h ⊢
  exact h.map _ fun a b hab q => hab (by omega)
theorem others_perm {Q : List Int} (h : Plc 6 Q) : (othersOf Q).Perm (Q.map fun q => ((6 : Nat) : Int) - 1 - q) := by
  refine (List.perm_ext_iff_of_nodup (cast_nodup (List.nodup_range.sublist List.filter_sublist)) (mir_nodup h.nd)).mpr fun p => ?_
  have hM := mir_nodup h.nd
  simp only [List.mem_map, List.mem_filter, List.mem_range]
  constructor
  · rintro ⟨t, ⟨ht, e⟩, rfl⟩
    rw [marks_reverse (by decide), marks_get _ _ ht] at e
    have : 0 < (Q.map fun q => ((6 : Nat) : Int) - 1 - q).count (t : Int) := by
      simp only [beq_iff_eq] at e
      omega
    exact List.mem_map.mp (List.count_pos_iff.mp this)
  · rintro ⟨q, hq, rfl⟩
    have hr := h.rng q hq
    refine ⟨(((6 : Nat) : Int) - 1 - q).toNat, ⟨by omega, ?_⟩, by omega⟩
    rw [marks_reverse (by decide), marks_get _ _ (by omega)]
    have e : (((((6 : Nat) : Int) - 1 - q).toNat : Nat) : Int) = ((6 : Nat) : Int) - 1 - q := by omega
    rw [e, hM.count, if_pos (List.mem_map.mpr ⟨q, hq, rfl⟩)]
    rfl
theorem others_ok {Q : List Int} (h : Plc 6 Q) : Plc 6 (othersOf Q) := by
  have p := others_perm h
  refine ⟨p.symm.nodup (mir_nodup h.nd), fun x hx => ?_, ?_, ?_⟩
  · obtain ⟨q, hq, rfl⟩ := List.mem_map.mp (p.mem_iff.mp hx)
    have := h.rng q hq
    omega
  · rw [p.length_eq, List.length_map]; exact h.len
  · rw [p.length_eq, List.length_map]; exact h.ne
theorem others_len {Q : List Int} (h : Plc 6 Q) : (othersOf Q).length = Q.length := by rw [(others_perm h).length_eq, List.length_map]

theorem sums_len (P Q : List Int) : (sumsOf P Q).length = P.length * Q.length := by
  unfold sumsOf
  induction P with
  | nil => simp
  | cons x P ih => rw [List.flatMap_cons, List.length_append, ih, List.length_map, List.length_cons, Nat.add_mul]; omega
theorem sums_fine {P Q : List Int} (hP : Plc 5 P) (hQ : Plc 6 Q) : (sumsOf P Q).length ≤ 9 ∧ 0 < (sumsOf P Q).length ∧ (∀ p ∈ sumsOf P Q, 0 ≤ p ∧ p ≤ 9) ∧ ∀ k, (sumsOf P Q).count k ≤ 3 := by
  refine ⟨?_, ?_, fun p hp => ?_, fun k => ?_⟩
  · rw [sums_len]; exact Nat.mul_le_mul hP.len hQ.len
  · rw [sums_len]; exact Nat.mul_pos hP.ne hQ.ne
  · simp only [sumsOf, List.mem_flatMap, List.mem_map] at hp
    obtain ⟨x, hx, y, hy, rfl⟩ := hp
    have := hP.rng x hx; have := hQ.rng y hy
    omega
  · rw [count_sums]
    refine Nat.le_trans (sm_le (c := 1) fun x _ => ?_) (by have := hP.len; omega)
    have e : (sm Q fun y => if x + y = k then 1 else 0) = Q.count (k - x) := by
      rw [count_sm]
      exact sm_congr fun y _ => ite_add x y k
    rw [e]; exact List.nodup_iff_count.mp hQ.nd _
theorem row_fine {l : List Int} (h1 : l.length ≤ 9) (h2 : ∀ p ∈ l, 0 ≤ p ∧ p ≤ 9) (h3 : ∀ k, l.count k ≤ 4) : Fine (srt l) := by
  have p := srt_perm l
  exact ⟨⟨fun x hx => h2 x (p.mem_iff.mp hx), srt_sorted l⟩, by rw [p.length_eq]; exact h1, fun k => by rw [p.count_eq]; exact h3 k⟩

/-- the mirror keeps the distances -/
theorem sm_flat (P Q : List Int) (f : Int → Nat) : sm (sumsOf P Q) f = sm P fun x => sm Q fun y => f (x + y) := by
  unfold sumsOf
  induction P with
  | nil => rfl
  | cons x P ih => rw [List.flatMap_cons, sm_append, ih, sm_map, sm_cons]
theorem diffs_rows {l P Q : List Int} (p : l.Perm (sumsOf P Q)) (k : Int) :
    (diffs l).count (10 + k) = sm P fun x => sm Q fun y => sm P fun x' => sm Q fun y' => if x + y - (x' + y') = k then 1 else 0 := by
  rw [count_diffs, sm_perm p, sm_flat]
  refine sm_congr fun x _ => sm_congr fun y _ => ?_
  rw [sm_perm p, sm_flat]
theorem mirror (P Q : List Int) {O : List Int} (hO : O.Perm (Q.map fun q => ((6 : Nat) : Int) - 1 - q)) (k : Int) :
    (sm P fun x => sm O fun y => sm P fun x' => sm O fun y' => if x + y - (x' + y') = k then 1 else 0) = sm P fun x => sm Q fun y => sm P fun x' => sm Q fun y' => if x + y - (x' + y') = k then 1 else 0 := by
  refine sm_congr fun x _ => ?_
  rw [sm_perm hO, sm_map]
  have e : ∀ y : Int, (sm P fun x' => sm O fun y' => if x + (((6 : Nat) : Int) - 1 - y) - (x' + y') = k then 1 else 0) = sm P fun x' => sm Q fun y' => if x + y' - (x' + y) = k then 1 else 0 := fun y => by
    refine sm_congr fun x' _ => ?_
    rw [sm_perm hO, sm_map]
    exact sm_congr fun y' _ => ite_same ⟨fun h => by omega, fun h => by omega⟩
  rw [sm_congr fun y _ => e y]
  rw [sm_swap Q P, sm_congr fun x' _ => sm_swap Q Q fun y y' => if x + y' - (x' + y) = k then 1 else 0]
  rw [← sm_swap Q P]

theorem moved_fine {A : List Int} (f : Int) (hA : ∀ p ∈ A, 0 ≤ p ∧ p ≤ 9) (h0 : 0 < A.length) (h1 : A.length ≤ 9) (h3 : ∀ k, A.count k ≤ 3) : (movedOf A f).length = A.length ∧ Fine (srt (movedOf A f)) := by
  have hm0 : 0 ≤ f % (A.length : Int) := Int.emod_nonneg _ (by omega)
  have hm1 : f % (A.length : Int) < A.length := Int.emod_lt_of_pos _ (by omega)
  have hl : (movedOf A f).length = A.length := by
    simp only [movedOf, List.length_append, List.length_take, List.length_drop, List.length_singleton]
    omega
  have hs : (A.take (f % A.length).toNat ++ A.drop ((f % A.length).toNat + 1)).Sublist A := by
    conv => rhs; rw [← List.take_append_drop (f % A.length).toNat A]
    refine List.Sublist.append (List.Sublist.refl _) ?_
    rw [show A.drop ((f % A.length).toNat + 1) = (A.drop (f % A.length).toNat).drop 1 by rw [List.drop_drop]]
    exact List.drop_sublist _ _
  refine ⟨hl, row_fine (by omega) (fun p hp => ?_) fun k => ?_⟩
  · unfold movedOf at hp
    rcases List.mem_append.mp hp with h | h
    · exact hA p (hs.subset h)
    · rw [List.mem_singleton] at h
      omega
  · unfold movedOf
    rw [List.count_append]
    have h4 := hs.count_le k
    have h5 := h3 k
    have h6 := List.count_le_length (a := k) (l := [f / A.length % 10])
    rw [List.length_singleton] at h6
    omega

theorem law_ok (d s f : Int) : LawOk d s f := by
  have hP := places_ok d (b := 5) (by decide)
  have hQ := places_ok s (b := 6) (by decide)
  have hO := others_ok hQ
  obtain ⟨a1, a2, a3, a4⟩ := sums_fine hP hQ
  obtain ⟨b1, b2, b3, b4⟩ := sums_fine hP hO
  have pA := srt_perm (sumsOf (placesOf d 5) (placesOf s 6))
  have pB := srt_perm (sumsOf (placesOf d 5) (othersOf (placesOf s 6)))
  have fA : Fine (firstRow d s) := row_fine a1 a3 fun k => Nat.le_succ_of_le (a4 k)
  have fB : Fine (otherRow d s) := row_fine b1 b3 fun k => Nat.le_succ_of_le (b4 k)
  have lA : (firstRow d s).length = (sumsOf (placesOf d 5) (placesOf s 6)).length := pA.length_eq
  have lB : (otherRow d s).length = (firstRow d s).length := by
    rw [lA, sums_len, ← others_len hQ, ← sums_len]; exact pB.length_eq
  obtain ⟨lC, fC⟩ := moved_fine (A := firstRow d s) f fA.row.rng (by omega) fA.len fun k => by
    have : (firstRow d s).count k = _ := pA.count_eq k
    rw [this]; exact a4 k
  have lC' : (movedRow d s f).length = (firstRow d s).length := (srt_perm _).length_eq.trans lC
  refine ⟨by omega, by omega, fun n hn => ?_, by omega, by omega, fA.ok, fB.ok, fC.ok, ?_, fA.told fB lB.symm, fA.told fC lC'.symm, Fine.told fC fB (lC'.trans lB.symm)⟩
  · simp only [marksOf, List.mem_map, List.mem_range] at hn
    obtain ⟨i, _, rfl⟩ := hn
    have := List.count_le_length (a := (i : Int)) (l := placesOf s 6)
    have := hQ.len
    omega
  · exact often_of_diffs fA.row fB.row fun k => (diffs_rows pA k).trans ((mirror _ _ (others_perm hQ) k).symm.trans (diffs_rows pB k).symm)
end Mine

end

open PySem PySem.W in
theorem PySem.Challenge.cw_oy0007_01_holds : PySem.Challenge.rw_oy0007_01.Holds := by
  exact Mine.entry fun w ns h => Mine.law_fn h Mine.law_ok
