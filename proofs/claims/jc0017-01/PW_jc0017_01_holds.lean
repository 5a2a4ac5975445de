import PyProof.Rows.All
import Wide.All
import OpenK.AllK
import Wide.FinOn
import PySem.Challenge.RW_jc0017_01
open PySem PySem.W PySem.Spec PySem.Calls PyProof.Rows
set_option Elab.async false
set_option rowWalk.seconds 0
namespace Mine
/-- the codes in which a bytearray may be held -/
noncomputable def holders : List String := ["bytearray.__contains__", "bytearray.__mod__", "bytearray.__rmod__", "_struct.pack_into.held", "bytearray.find.held"] ++ Builtin.Bytes.decodersThatHold
noncomputable def okCode : Code → Bool
  | .builtin id _ => !holders.contains id
  | _ => true
noncomputable def Clear (l : List (Code × Pos)) : Prop := ∀ x ∈ l, okCode x.1 = true
/-- as wpAny, where no decoder stands on the stack -/
noncomputable def wpC {α : Type} (M : Model) (A : Around) (t : Sem α) (Q : α → Shared → Prop) (E : Value → Shared → Prop) (s : Shared) : Prop :=
  ∀ Γ p, Γ.In A → Clear ((Γ.code, p) :: Γ.below) → Sem.wp M Γ t (fun a _ s' => Q a s') (fun e _ s' => E e s') p s
noncomputable def codeC (M : Model) (A : Around) (c : Code) (R : Result → Shared → Prop) (s : Shared) : Prop :=
  ∀ Γ p, Γ.code = c → Γ.Below A → Clear Γ.below → wpCode M Γ R p s
section
variable {α β : Type} {M : Model} {A : Around} {E : Value → Shared → Prop} {s : Shared}
theorem wpC.of {t : Sem α} {Q : α → Shared → Prop} (h : wpAny M A t Q E s) : wpC M A t Q E s := fun Γ p hΓ _ => h Γ p hΓ
theorem codeC.of {c : Code} {R : Result → Shared → Prop} (h : codeAny M A c R s) : codeC M A c R s := fun Γ p hc hΓ _ => h Γ p hc hΓ
theorem Clear.at {c : Code} {p p' : Pos} {l : List (Code × Pos)} (h : Clear ((c, p) :: l)) : Clear ((c, p') :: l) := fun x hx => by
  rcases List.mem_cons.mp hx with rfl | hx
  · exact h (c, p) (.head _)
  · exact h x (.tail _ hx)
theorem wpC_bind {m : Sem α} {f : α → Sem β} {Q : β → Shared → Prop} (h : wpC M A m (fun a s' => wpC M A (f a) Q E s') E s) : wpC M A (m >>= f) Q E s := fun Γ p hΓ hC => by
  rw [Sem.wp_bind']
  exact Sem.wp_mono M Γ m (fun a p' s' h' => h' Γ p' hΓ hC.at) (fun _ _ _ h' => h') p s (h Γ p hΓ hC)
theorem wpC_mono {t : Sem α} {Q Q' : α → Shared → Prop} {E' : Value → Shared → Prop} (h : wpC M A t Q E s) (hQ : ∀ a s, Q a s → Q' a s) (hE : ∀ e s, E e s → E' e s) : wpC M A t Q' E' s :=
  fun Γ p hΓ hC => Sem.wp_mono M Γ t (fun a _ s => hQ a s) (fun e _ s => hE e s) p s (h Γ p hΓ hC)
theorem wpC_holding {vs : List Value} {m : Sem α} {Q : α → Shared → Prop} (h : wpC M A m Q E s) : wpC M A (holding vs m) Q E s :=
  fun Γ p hΓ hC => by rw [Sem.wp_holding]; exact h Γ p hΓ hC
theorem codeC_of_tree {c : Code} {R : Result → Shared → Prop} (hc : okCode c = true)
    (h : wpC M (A.under c) (M.den c) (fun fin s' => match fin with | .done f => R (.ok f) s' | .again c' => c'.quiet = true ∧ codeC M A c' R s') (fun e s' => R (.error e) s') s) : codeC M A c R s := fun Γ p e hΓ hC => by
  rw [wpCode_iff_wp, e]
  refine Sem.wp_mono M Γ _ (fun fin p' s' h' => ?_) (fun _ _ _ h' => h') p s (h Γ p (e ▸ hΓ.in) (fun x hx => ?_))
  · cases fin with
    | done f => exact h'
    | again c' => exact ⟨h'.1, h'.2 (Γ.goto c') p' rfl (hΓ.goto c') hC⟩
  · rcases List.mem_cons.mp hx with rfl | hx
    · show okCode Γ.code = true
      rw [e]; exact hc
    · exact hC x hx
theorem codeC_mono {c : Code} {R R' : Result → Shared → Prop} (h : codeC M A c R s) (hR : ∀ r s, R r s → R' r s) : codeC M A c R' s :=
  fun Γ p hc hΓ hC => wpCode_mono hR (h Γ p hc hΓ hC)
theorem wpC_runValue {c : Code} {Q : Value → Shared → Prop} (hc : codeC M A c (fun r s' => match r with | .ok (.ret v) => Q v s' | .ok _ => False | .error e => E e s') s) : wpC M A (runValue c) Q E s :=
  fun Γ p hΓ hC => by rw [Sem.wp_runValue]; exact hc _ p rfl (hΓ.enter c none p (by intro x; cases x)) hC
theorem wpC_call {f : Value} {pos : List Value} {kw : List (Str × Value)} {Q : Value → Shared → Prop}
    (hc : codeC M A (.call f ⟨pos, kw⟩) (fun r s' => match r with | .ok (.ret v) => Q v s' | .ok _ => False | .error e => E e s') s) : wpC M A (call f pos kw) Q E s := wpC_runValue hc
end
section
variable {prog : Program} {w : World}
/-- a thread of the claim's caller ends, where no decoder stands on the stack -/
theorem endsC {t : Sem Fin} {s : Shared} {R : Result → Shared → Prop} (hreg : s.asleep)
    (h : wpC (model prog w) callerA t (fun fin s' => ∃ f, fin = .done f ∧ (R (.ok f) s' ∧ leftWithCleanup s'.gens = false)) (fun e s' => R (.error e) s' ∧ leftWithCleanup s'.gens = false) s) :
    ∃ n r s' s'', runN (denote table) prog w n s ⟨t, .builtin "claim.caller" {}, default, []⟩ = .halted (outcomeOf r) s' ∧
      schedN (denote table) prog w n (.single s ⟨t, .builtin "claim.caller" {}, default, []⟩) = .halted (outcomeOf r) s' ∧ s'.forget = s''.forget ∧ R r s'' := by
  have hc : Clear ((Code.builtin "claim.caller" {}, (default : Pos)) :: []) := fun x hx => by
    rw [List.mem_singleton.mp hx]; decide +kernel
  obtain ⟨n, r, s₁, s₂, a, b, c, d⟩ := wp_halts_full (M := model prog w) (R := R) (c := .builtin "claim.caller" {}) (p := default) hreg
    (Sem.wp_mono _ _ t (fun fin p' s' h' => by obtain ⟨f, rfl, hf⟩ := h'; exact hf) (fun _ _ _ h' => h') default s (h _ default caller_in hc))
  exact ⟨n, r, s₂, s₁, b, a, c, d⟩
end
section
open PySem.Spec
variable {r : RowW} {q : Program} {loose defs kps : List Str} {writes : Bool} {Xt : Shared → Bool} {XP : (Str → Option Value) → Heap → Prop} {α : Type} {Yf : Shared → α} {Ya : World → α} {YP : World → Heap → Prop} {N : Nat}
/-- what is asked of the walk: as the head's own, but with wpC -/
noncomputable abbrev WalkC (q : Program) (loose : List Str) (XP : (Str → Option Value) → Heap → Prop) (YP : World → Heap → Prop) (r : RowW) (d : DefRec) (kwd : List (Str × Expr)) : Prop :=
  ∀ (w : World) (s₀ s₁ : Shared) (mg mb : Str → Option Value), Ground q loose r.records XP w s₀ mg mb s₁.heap → YP w s₁.heap → ∀ (a : Addr) (o : Obj) (pm cd doc dV kV : Value), s₁.heap.get? a = some o →
    o.data = .func { docDef d.name d.params d.body d.scope pm cd doc with defaults := dV, kwdefaults := kV } → s₁.heap.CodeRec cd d.name → Dflts mg s₁.heap d.params kwd dV kV → mg d.name = some (.ref a) → s₁.gens = #[] →
    ∀ (args : List WData) (vals : List Value) (as : List Addr), r.claim.pre args = true → WData.layableAll args = true → ReadsAllW r.records (classAt s₀.heap) s₁.heap vals args as → WellAll w.params s₁.heap vals args → (∀ a ∈ as, (a == sysModules) = false) →
      wpC (model r.prog w) callerA (PySem.call (.ref a) vals) (fun v s' => GoodWG r.claim (classAt s₀.heap) (ExcName.means s₀.heap) args s₁ (.ok (.ret v)) s')
        (fun e s' => GoodWG r.claim (classAt s₀.heap) (ExcName.means s₀.heap) args s₁ (.error e) s') s₁
noncomputable def callTree (name : Str) (vs : List Value) : Sem Fin := do
  match ← nsGet mainNs name with
  | some f => do ret (← PySem.call f vs)
  | none => unsupported "claim.caller:no-such-global"
theorem callTreeC {prog : Program} {w : World} {s : Shared} {mg : Str → Option Value} {name : Str} {f : Value} {vs : List Value} {Q : Fin → Shared → Prop} {E : Value → Shared → Prop} (hg : s.heap.Ns mainGlobals mg) (hf : mg name = some f)
    (h : wpC (model prog w) callerA (PySem.call f vs) (fun v s' => Q (.done (.ret v)) s') E s) : wpC (model prog w) callerA (callTree name vs) Q E s := by
  unfold callTree
  refine wpC_bind (wpC.of (wpAny_nsGet hg ?_))
  rw [hf]
  exact wpC_bind (wpC_mono h (fun _ _ x => wpC.of (wpAny_pure x)) fun _ _ x => x)
/-- the call of a laid script, from a state behind the top -/
theorem callFromC {c : ClaimW} {tree : List Value → Sem Fin} {w : World} {s : Shared} {free : Addr → Prop} {gens : Prop} {kept : Heap → Prop} (hz : s.asleep) (hgens : s.gens = #[])
    (hspec : ∀ args, c.pre args = true → WData.layableAll args = true → ∀ ord : List DictEntry → List DictEntry, (∀ l, (ord l).Perm l) →
      ∃ vs s₁, layAllW c.records (classAt s.heap) w.params ord args s = some (vs, s₁) ∧
        wpC (model c.prog w) callerA (tree vs) (fun fin s' => ∃ f, fin = .done f ∧ (c.Ends s args vs s₁ (.ok f) s' ∧ s'.os = s.os ∧ AllBare s'.gens ∧ kept s'.heap))
          (fun e s' => c.Ends s args vs s₁ (.error e) s' ∧ s'.os = s.os ∧ AllBare s'.gens ∧ kept s'.heap) s₁) :
    c.CallFrom (fun vs => ⟨tree vs, .builtin "claim.caller" {}, default, []⟩) w free gens kept s := by
  intro args hpre hlay ord hord
  obtain ⟨vs, s₁, hlaid, hcode⟩ := hspec args hpre hlay ord hord
  have hal := layAllW_rest _ _ _ hlaid
  obtain ⟨k, r, s', s'', hrun, hsched, hfo, hcase, hos, hkp⟩ := endsC (R := fun r s' => c.Ends s args vs s₁ r s' ∧ s'.os = s.os ∧ kept s'.heap) (Shared.asleep_of_life hal.2.2.2 hz)
    (wpC_mono hcode (fun fin s' ⟨f, e, h1, h2, h3, h4⟩ => ⟨f, e, ⟨h1, h2, h4⟩, leftWithCleanup_false_of_bare h3⟩) fun e s' ⟨h1, h2, h3, h4⟩ => ⟨⟨h1, h2, h4⟩, leftWithCleanup_false_of_bare h3⟩)
  obtain ⟨eh, _, _, eo, _⟩ := Shared.forget_eq hfo
  have hcase := hcase.congr eh
  rw [← eh] at hkp
  rw [← eo] at hos
  have hlife : s'.heap.life = s.heap.life := (runN_life _ _ _ hrun).trans hal.2.2.2
  refine ⟨vs, s₁, hlaid, k, _, s', hsched, ?_, (fun _ i x hx => by rw [hgens] at hx; simp at hx), hkp, by rw [hlife], Shared.rest_eq hos⟩
  rcases hcase with ⟨v, rfl, d1, d2, d3, d4, d5⟩ | ⟨e, ob, cls, rfl, d1, d2, d3, d4, d5⟩
  · exact .inl ⟨v, rfl, d1, d2, d3, fun b o y _ => d4 b o y, d5⟩
  · exact .inr ⟨e, ob, cls, rfl, d1, d2, d3, d4, fun b o y _ => d5 b o y⟩
end
namespace PySem.W
open PySem.Spec
/-- the head's last step, for a walk under wpC (the kit's word for the head finds it by its name) -/
theorem holds_open {r : OpenRow} {q : Program} {loose : List Str} {Xt : Shared → Bool} {XP : (Str → Option Value) → Heap → Prop} {α : Type} {Yf : Shared → α} {Ya : World → α} {YP : World → Heap → Prop} {d : DefRec} {kwd : List (Str × Expr)} {N : Nat}
    (left : LeftO r.prog q loose Xt Yf Ya N) (hY : ∀ w s, Yf s = Ya w → YP w s.heap) (hYk : ∀ w h h', YP w h → (∀ b o, h.get? b = some o → h'.get? b = some o) → YP w h')
    (hX : ∀ s, Xt s = true → XP (s.heap.nsMap mainGlobals) s.heap) (hXk : ∀ mg h h', XP mg h → (∀ b o, h.get? b = some o → h'.get? b = some o) → XP mg h')
    (hdef : defOf q r.name = some (d, kwd)) (hp : r.prog.theDef r.name = some (d.params, d.body, d.scope)) (hk : kwWritten? d.params.kwonlyargs d.params.kw_defaults = some kwd) (hRf : ∀ s, Xt s = true → RecFacts r.records s.heap) (hwr : (!r.writes || r.records.isEmpty) = true)
    (k1 : r.wellSaid = true) (ok : (chainsOk q && opensWell r.prog && (frees r.toRowW && r.within.isEmpty)) = true) (hb : r.prog.bare) (hw : r.toRowW.promised)
    (call : WalkC q loose XP YP r.toRowW d kwd) : r.Holds := by
  refine ⟨k1, hw, ?_⟩
  obtain ⟨ok, k5⟩ := Bool.and_eq_true_iff.mp ok
  obtain ⟨hch, o1⟩ := Bool.and_eq_true_iff.mp ok
  obtain ⟨k5, k6⟩ := Bool.and_eq_true_iff.mp k5
  obtain ⟨hsame, hu, ha, hap, hm⟩ := frees_parts k5
  refine ⟨⟨hb, o1, by show r.toRowW.makers.map _ = []; rw [hm]; rfl⟩, hw.witness, fun w => ⟨(left.behind hX hch w).1, fun s' hs' => ?_⟩⟩
  obtain ⟨s₀, hf, hg0, s, hT, hz, hgens, hg, G00, y⟩ := (left.behind (XP := fun mg h => XP mg h ∧ RecFacts r.records h) (fun s hs => ⟨hX s hs, hRf s hs⟩) hch w).2 s' hs'
  have G0 : Ground q loose [] XP w s (s.heap.nsMap mainGlobals) (s.heap.nsMap builtinsNs) s.heap := ⟨G00.T, G00.B, G00.D, G00.TE, G00.TD, G00.W, G00.X.1, G00.cls, G00.has, G00.apart, G00.once, G00.K⟩
  have RF := G00.X.2
  refine ⟨s₀, hf, hg0, s, hT, (fun n hn => ?_), RF.1, RF.2.1, ?_⟩
  · obtain rfl : n = r.name := by split at hn <;> simp_all
    exact pinned_of_view hg G0 hdef hp hk
  have hgens : s.gens = #[] := Array.eq_empty_of_size_eq_zero (beq_iff_eq.mp hgens)
  have G : Ground q loose r.records XP w s _ _ s.heap := RF.ground G0
  refine callFromC (c := r.toRowW.claim) (tree := callTree r.name) hz hgens fun args hpre hlay ord hord => ?_
  obtain ⟨⟨vs, s₁⟩, hlaid⟩ := Option.isSome_iff_exists.mp (layAllW_isSome (P := w.params) (ord := ord) G.has args r.toRowW.args s (pre_splitW hpre).1)
  have keeps := layAllW_keeps _ _ _ hlaid
  have hal := layAllW_rest _ _ _ hlaid
  obtain ⟨as, hrd, hin, hold⟩ := reads_layAllW hord _ _ _ hlaid hlay s₁.heap (fun _ _ e => e)
  have L : Laid r.records w s s₁ args vs as := ⟨⟨ord, hord, hlaid⟩, hrd, hin, hold, keeps, hal.1.trans hgens, hal.2.2.1⟩
  have G₁ := G.keeps hXk keeps
  obtain ⟨a, o, pm, cd, doc, dV, kV, h1, h2, h3, h4, h5⟩ := G₁.fn hdef
  have h := call w s s₁ _ _ G₁ (hYk _ _ _ (hY w s y) keeps) a o pm cd doc dV kV h2 h3 h4 h5 (defOf_name hdef ▸ h1) L.gens args vs as hpre hlay L.reads L.well (L.low G.low)
  have hi := ident_freeW hu ha hap
  have hwi : r.toRowW.claim.within = [] := List.isEmpty_iff.mp k6
  refine ⟨vs, s₁, hlaid, callTreeC G₁.T.g h1 (wpC_mono h (fun v s' g => ⟨_, rfl, ?_⟩) fun e s' g => ?_)⟩
  · have z := g.laid (c := r.toRowW.claim) hsame hwi hi L
    exact ⟨z.1, z.2.1, z.2.2, fun q => ⟨namesKept_of hT hg _ keeps g.2.1.old, noTable hwr q⟩⟩
  · have z := g.laid (c := r.toRowW.claim) hsame hwi hi L
    exact ⟨z.1, z.2.1, z.2.2, fun q => ⟨namesKept_of hT hg _ keeps g.2.1.old, noTable hwr q⟩⟩
end PySem.W

section
/-- the text without the lines that only name a module -/
noncomputable def view : Program := { PySem.Challenge.pw_jc0017_01 with main := { PySem.Challenge.pw_jc0017_01.main with body := PySem.Challenge.pw_jc0017_01.main.body.filter fun st => match st with | .Assign _ _ _ => false | _ => true } }
set_option maxRecDepth 100000 in
/-- the head with its looks, but for the run of the top, the promise and the walk -/
theorem top_head {d : DefRec} {kwd : List (Str × Expr)} (H : Hook) (hl : LeftO (OpenLaw.row PySem.Challenge.rw_jc0017_01).prog view [] (fun s => xlAt view [] s && recOk (RowW.records (OpenRow.toRowW (OpenLaw.row PySem.Challenge.rw_jc0017_01))) s) (Hook.obs H) (Hook.val H) 2262)
    (hdef : defOf view (OpenLaw.row PySem.Challenge.rw_jc0017_01).name = some (d, kwd)) (hp : (OpenLaw.row PySem.Challenge.rw_jc0017_01).prog.theDef (OpenLaw.row PySem.Challenge.rw_jc0017_01).name = some (d.params, d.body, d.scope)) (hk : kwWritten? d.params.kwonlyargs d.params.kw_defaults = some kwd)
    (hs : (OpenLaw.row PySem.Challenge.rw_jc0017_01).wellSaid = true) (hw : (OpenLaw.row PySem.Challenge.rw_jc0017_01).toRowW.promised) (hc : WalkC view [] (XL view []) (Hook.says H) (OpenLaw.row PySem.Challenge.rw_jc0017_01).toRowW d kwd) : (OpenLaw.row PySem.Challenge.rw_jc0017_01).Holds :=
  PySem.W.holds_open (N := 2262) hl (Hook.of H) (Hook.keeps H) (fun s e => xl_of s (Bool.and_eq_true_iff.mp e).1) XL.keeps hdef hp hk (fun s e => recFacts_of (Bool.and_eq_true_iff.mp e).2) (by rfl) hs (by decide +kernel) ⟨rfl, rfl, rfl, rfl, rfl, by decide +kernel⟩ hw hc
set_option maxRecDepth 100000 in
set_option maxHeartbeats 8000000 in
/-- the look at the law, part by part -/
theorem law_said : PySem.Challenge.rw_jc0017_01.wellSaid = true := by
  unfold OpenLaw.wellSaid
  unfold OpenRow.wellSaid
  unfold OpenRow.partSaid
  unfold looksOpen
  repeat' (with_reducible refine look_both ?_ ?_)
  all_goals (
    (try rw [PySem.W.Fast.te8326940854005059898])
    (try rw [PySem.W.Fast.te17119622794617984870])
    (try rw [PySem.W.Fast.te8377067652309620493])
    (try rw [PySem.W.Fast.te11788848310118352699])
    (try rw [PySem.W.Fast.te12862048085361865435])
    (try rw [PySem.W.Fast.te18344453789297297638])
    (try rw [PySem.W.Fast.te9807087744658564304])
    (try rw [PySem.W.Fast.te5923862056798008813])
    (try rw [PySem.W.Fast.te13343964577679436407])
    (try rw [PySem.W.Fast.te17691160309236699985])
    (try rw [PySem.W.Fast.te14412699480532031325])
    (try rw [PySem.W.Fast.te10501279942588096481])
    (try rw [PySem.W.Fast.te8179353310426384613])
    (try rw [PySem.W.Fast.te9558739934217749035])
    (try rw [PySem.W.Fast.te16286561074155671207])
    (try rw [PySem.W.Fast.te6984425678791042302])
    (try rw [PySem.W.Fast.te12879404354523853263])
    (try rw [PySem.W.Fast.te482687673346738481])
    (try rw [PySem.W.Fast.te10792542408131684335])
    (try rw [PySem.W.Fast.te12749700546528644094])
    (try rw [PySem.W.Fast.te2357444279172408678])
    (try rw [PySem.W.Fast.te13582783067957832011])
    (try rw [PySem.W.Fast.te17868728402115742887])
    decide +kernel)
local macro_rules | `(tactic| o_law) => `(tactic| (refine holds_law law_said fun said => ?_))
local macro_rules | `(tactic| o_head $H) => `(tactic| (refine top_head $H (by intro w; unfold openEnds topFrom fencedOpening; rw [PySem.W.Fast.te14364793385576792824, PySem.W.Fast.te14082659384304107361, PySem.W.Fast.te10274390034422433532, PySem.W.Fast.te5923862056798008813, PySem.W.Fast.te1435165496053646825, PySem.W.Fast.te14289696077712309145, PySem.W.Fast.te4187177175401517315]; kernel_rfl) (by rfl) (by rfl) (by rfl) (by assumption) ?hw ?hc))
set_option maxRecDepth 100000 in
set_option maxHeartbeats 8000000 in
open_top hd for PySem.Challenge.rw_jc0017_01
end
section
theorem room0 {a n R : Nat} (h : a + n < R) : a < R := Nat.lt_of_le_of_lt (Nat.le_add_right a n) h
theorem small_len {n : Nat} (h : n ≤ 1000) : Builtin.Range.small 0 (n : Int) 1 = true := small_one (by decide) (by decide) (by omega) (by omega)
theorem room_le {a k n R : Nat} (h : a + n < R) (hk : k ≤ n) : a + k < R := Nat.lt_of_le_of_lt (Nat.add_le_add_left hk a) h
/-- every old object stands as it stood -/
noncomputable abbrev Keeps (h h' : Heap) : Prop := ∀ b o, h.get? b = some o → h'.get? b = some o
noncomputable abbrev arr (dp un : Nat) (fr : Option (List Env)) (gd : Option (List Code)) : Around := { handled := none, depth := dp, frames := fr, guards := gd, units := un }

/-- a contract: the call of f with vs, from a heap with pre, comes back with post -/
noncomputable def Tells (prog : Program) (w : World) (p : Program) (loose : List Str) (mean : ExcName → Option Value) (mg mb : Str → Option Value) (f : Addr) (vs : List Value) (d u : Nat) (pre : Heap → Prop) (post : Heap → Heap → Value → Prop) : Prop :=
  ∀ (dp un : Nat) (fr : Option (List Env)) (gd : Option (List Code)) (s : Shared) (Q E : Value → Shared → Prop),
    (hd.heap_1 w.params).In s.heap → Top p loose mean mg mb s.heap → dp + d < recursionLimit → un + u < cLine → pre s.heap →
    (∀ v h' tk', Keeps s.heap h' → post s.heap h' v → Q v { s with heap := h', toks := tk' }) →
    wpAny (model prog w) (arr dp un fr gd) (call (.ref f) vs) Q E s

section
variable {prog : Program} {w : World} {A : Around} {s : Shared} {K : Frag} {L : Addr} {h₀ h h' : Heap} {m mg mb : Str → Option Value} {p : Program} {loose : List Str} {mean : ExcName → Option Value} {news : List (Addr × Obj)}
theorem kept_fr (F : Fr h₀ L h m) (k : Keeps h h') : Fr h₀ L h' m := F.keeps k
theorem kept_news (N : News h₀ L h news) (k : Keeps h h') : News h₀ L h' news := fun p hp => ⟨k _ _ (N p hp).1, (N p hp).2⟩
theorem news_add {a : Addr} {o : Obj} (F : Fr h₀ L h m) (hf : h.get? a = none) (ho : h'.get? a = some o) (N : News h₀ L h' news) : News h₀ L h' ((a, o) :: news) := fun p hp => by
  rcases List.mem_cons.mp hp with rfl | hp
  · refine ⟨ho, fun e => ?_, ?_⟩
    · obtain ⟨oL, _, _, hL, _⟩ := F.ns
      rw [← e, hf] at hL; cases hL
    · cases q : h₀.get? a with
      | none => rfl
      | some o' => rw [F.keep _ _ q] at hf; cases hf
  · exact N p hp
theorem news_ne {a : Addr} (N : News h₀ L h news) (hf : h.get? a = none) : ∀ p ∈ news, p.1 ≠ a := fun p hp e => by
  have := (N p hp).1; rw [e, hf] at this; cases this

theorem Tells.use {f : Addr} {vs : List Value} {d u : Nat} {pre : Heap → Prop} {post : Heap → Heap → Value → Prop} (C : Tells prog w p loose mean mg mb f vs d u pre post) {dp un : Nat} {fr : Option (List Env)} {gd : Option (List Code)} {Q E : Value → Shared → Prop}
    (F : Fr h₀ L s.heap m) (X : (hd.heap_1 w.params).In h₀) (T : Top p loose mean mg mb h₀) (hd : dp + d < recursionLimit) (hu : un + u < cLine) (hp : pre s.heap)
    (h : ∀ v h' tk', Keeps s.heap h' → Fr h₀ L h' m → post s.heap h' v → Q v { s with heap := h', toks := tk' }) :
    wpAny (model prog w) (arr dp un fr gd) (call (.ref f) vs) Q E s :=
  C dp un fr gd s Q E (X.keeps F.keep) (T.keeps F.keep) hd hu hp fun v h' tk' k q => h v h' tk' k (F.keeps k) q

/-- entering a plain def with nothing of the ledger handed on: what stands here is the ground there -/
theorem enter {R : Result → Shared → Prop} {name qual : Str} {params : Arguments} {body : List Stmt} {scope : Scope} {dV kV doc pm cdv ct oc : Value} {an od : Option Addr} {osl : Array (Option Value)} {f : Addr} {args : Args} {binds : List (Str × Value)}
    (X : K.In s.heap) (T : Top p loose mean mg mb s.heap)
    (ho : K.lookup f = some ⟨oc, od, .func (fnOf name qual params body scope dV kV doc pm an cdv ct), osl⟩) (hcd : codeIn K cdv qual = true) (hroom : A.depth < recursionLimit)
    (hbind : BindsTo s (fnOf name qual params body scope dV kV doc pm an cdv ct) args binds) (hloc : ∀ y ∈ binds, scope.names.lookup y.1 = some .local)
    (h : ∀ L' h₁, Fr s.heap L' h₁ (fun y => binds.reverse.lookup y) → News s.heap L' h₁ [] →
      wpAny (model prog w) (A.deeper (envOf qual scope L' f cdv)) (execs body (envOf qual scope L' f cdv))
        (fun fl s' => R (.ok (.ret (match fl with | .ret v => v | _ => .none))) s')
        (fun e s' => wpAny (model prog w) (A.deeper (envOf qual scope L' f cdv)) (leaving (envOf qual scope L' f cdv) e) (fun _ s'' => R (.error e) s'') (fun e' s'' => R (.error e') s'') s')
        { s with heap := h₁, toks := s.toks + binds.length })
    (hco : scope.isCoroutine = false) (hgen : scope.isGenerator = false) (hk : scope.kind = .function)
    (hcell : ∀ x ∈ scope.names, x.2 ≠ .cell) : codeAny (model prog w) A (.call (.ref f) args) R s := by
  refine codeAny_call_def (fd := fnX name qual params body scope [] dV kV doc pm an cdv ct) (body := body) (binds := binds) hroom (X _ _ ho) rfl T.nolimit (codeRec_of X hcd) rfl hbind hcell hloc (fun h₁ hns hk₁ => ?_) hco hgen hk
  exact h s.heap.objs.size h₁ ⟨hns, fun b o e => hk₁ b o e, Nat.le_refl _⟩ News.nil

theorem groundN {R : Result → Shared → Prop} (F : Fr h₀ L s.heap m) (N : News h₀ L s.heap news) :
    Fr h₀ L (hideAll s.heap (news.map (·.1))) m ∧ h₀.StaysIn (hideAll s.heap (news.map (·.1))) ∧ ∀ v s', LeaveK h₀ L m (hideAll s.heap (news.map (·.1))) R v s' → R (.ok (.ret v)) s' := by
  have nm : ∀ b o, h₀.get? b = some o → b ∉ news.map (·.1) := fun b o e q => by
    obtain ⟨p, hp, rfl⟩ := List.mem_map.mp q
    rw [(N p hp).2.2] at e; cases e
  have st : h₀.StaysIn (hideAll s.heap (news.map (·.1))) := fun b o e => hideAll_get _ (F.keep b o e) (nm b o e)
  obtain ⟨oL, es, ep, hL, hLd, hLk, hLf⟩ := F.ns
  have nL : L ∉ news.map (·.1) := fun q => by
    obtain ⟨p, hp, e⟩ := List.mem_map.mp q
    exact (N p hp).2.1 e
  have hLg := hideAll_get (news.map (·.1)) hL nL
  refine ⟨⟨⟨oL, es, ep, hLg, hLd, hLk, hLf⟩, st, F.above⟩, st, fun v s' hl => ?_⟩
  obtain ⟨L', m', news', F', N', k⟩ := hl
  refine k ⟨⟨oL, es, ep, F'.keep L oL hLg, hLd, hLk, hLf⟩, fun b o e => F'.keep b o (st b o e), F.above⟩ fun p hp => ⟨(N' p hp).1, fun q => ?_, ?_⟩
  · have := (N' p hp).2.2; rw [q, hLg] at this; cases this
  · cases q : h₀.get? p.1 with
    | none => rfl
    | some o => have := (N' p hp).2.2; rw [st _ _ q] at this; cases this
/-- entering a plain def, the ledger handed on -/
theorem enterK {R : Result → Shared → Prop} {name qual : Str} {params : Arguments} {body : List Stmt} {scope : Scope} {dV kV doc pm cdv ct oc : Value} {an od : Option Addr} {osl : Array (Option Value)} {f : Addr} {args : Args} {binds : List (Str × Value)}
    (F : Fr h₀ L s.heap m) (X₀ : K.In h₀) (N : News h₀ L s.heap news) (T : Top p loose mean mg mb h₀)
    (ho : K.lookup f = some ⟨oc, od, .func (fnOf name qual params body scope dV kV doc pm an cdv ct), osl⟩) (hcd : codeIn K cdv qual = true) (hroom : A.depth < recursionLimit)
    (hbind : BindsTo s (fnOf name qual params body scope dV kV doc pm an cdv ct) args binds) (hloc : ∀ y ∈ binds, scope.names.lookup y.1 = some .local)
    (h : ∀ g L' h₁, Fr h₀ L g m → Fr g L' h₁ (fun y => binds.reverse.lookup y) → News g L' h₁ news → K.In g → Top p loose mean mg mb g →
      wpAny (model prog w) (A.deeper (envOf qual scope L' f cdv)) (execs body (envOf qual scope L' f cdv))
        (fun fl s' => LeaveK h₀ L m g R (match fl with | .ret v => v | _ => .none) s')
        (fun e s' => wpAny (model prog w) (A.deeper (envOf qual scope L' f cdv)) (leaving (envOf qual scope L' f cdv) e) (fun _ s'' => R (.error e) s'') (fun e' s'' => R (.error e') s'') s')
        { s with heap := h₁, toks := s.toks + binds.length })
    (hco : scope.isCoroutine = false) (hgen : scope.isGenerator = false) (hk : scope.kind = .function)
    (hcell : ∀ x ∈ scope.names, x.2 ≠ .cell) : codeAny (model prog w) A (.call (.ref f) args) R s := by
  obtain ⟨FG, st, lv⟩ := groundN (R := R) F N
  refine codeAny_call_def (fd := fnX name qual params body scope [] dV kV doc pm an cdv ct) (body := body) (binds := binds) hroom ((X₀.keeps F.keep) _ _ ho) rfl (T.nolimit.keeps F.keep) (codeRec_of (X₀.keeps F.keep) hcd) rfl hbind hcell hloc (fun h₁ hns hk₁ => ?_) hco hgen hk
  exact wpAny_mono (h _ s.heap.objs.size h₁ FG ⟨hns, fun b o e => hk₁ b o (of_hideAll _ e), Nat.le_of_eq (hideAll_size _ _)⟩
    (fun p hp => ⟨hk₁ _ _ (N p hp).1, Nat.ne_of_lt (Heap.lt_size (N p hp).1), hideAll_none _ (List.mem_map_of_mem hp)⟩) (X₀.keeps st) (T.keeps st)) (fun fl s' hl => lv _ _ hl) fun _ _ y => y
end
/-- a dict from ints to ints, in this order -/
noncomputable def ODict (prog : Program) (w : World) (o : Obj) (c : List (Int × Int)) : Prop := ∃ kvs, o.IsDictOf (PySem.intKind prog w) kvs ∧ PyProof.V.FlatPairs PyData.int kvs (kdfD c)
/-- a profile entry: four ints and a table; both objects made since h₀ -/
inductive IsProf (prog : Program) (w : World) (h₀ h : Heap) (v : Value) (cc nc tt ct : Int) (c : List (Int × Int)) : Prop
  | mk (t d : Addr) (od : Obj) (t1 t2 t3 t4 : Tok) (hv : v = .ref t) (ht : h.get? t = some { cls := .type "tuple", data := .seq [Value.int cc t1, Value.int nc t2, Value.int tt t3, Value.int ct t4, Value.ref d].toArray }) (hd : h.get? d = some od) (ho : ODict prog w od c) (lo : (d == sysModules) = false) (ft : h₀.get? t = none) (fd : h₀.get? d = none) (ne : t ≠ d) : IsProf prog w h₀ h v cc nc tt ct c
theorem IsProf.of_news {prog : Program} {w : World} {h₀ h : Heap} {L t d : Addr} {news : List (Addr × Obj)} {od : Obj} {t1 t2 t3 t4 : Tok} {cc nc tt ct cc' nc' tt' ct' : Int} {kvs : List (Int × Value)} {D : List (PyData × PyData)} {c : List (Int × Int)}
    (N : News h₀ L h news) (ht : (t, { cls := .type "tuple", data := .seq [Value.int cc' t1, Value.int nc' t2, Value.int tt' t3, Value.int ct' t4, Value.ref d].toArray }) ∈ news) (hm : (d, od) ∈ news)
    (hd : od.IsDictOf (PySem.intKind prog w) kvs) (hf : PyProof.V.FlatPairs PyData.int kvs D) (hD : D = kdfD c) (lo : (d == sysModules) = false) (ne : t ≠ d) (e1 : cc' = cc) (e2 : nc' = nc) (e3 : tt' = tt) (e4 : ct' = ct) : IsProf prog w h₀ h (.ref t) cc nc tt ct c := by
  subst e1 e2 e3 e4 hD
  exact ⟨t, d, od, t1, t2, t3, t4, rfl, N.get ht, N.get hm, ⟨kvs, hd, hf⟩, lo, N.fresh ht, N.fresh hm, ne⟩

end
section
/-- the end of a turn: the iterator stands, the rest is J -/
inductive StepEnd (h₀ : Heap) (L it : Addr) (o : Obj) (J : (Str → Option Value) → List (Addr × Obj) → Prop) (s₁ : Shared) (f : Flow) (s₂ : Shared) : Prop
  | mk (p0 : (f = .next ∨ f = .cont)) (h' : Heap) (tk' : Nat) (m' : Str → Option Value) (news₂ : List (Addr × Obj)) (q0 : s₂ = { s₁ with heap := h', toks := tk' }) (q1 : Fr h₀ L h' m') (q2 : News h₀ L h' ((it, o) :: news₂)) (q3 : (∀ p ∈ news₂, p.1 ≠ it)) (q4 : J m' news₂) : StepEnd h₀ L it o J s₁ f s₂
section
variable {prog : Program} {w : World} {A : Around} {E : Value → Shared → Prop} {s : Shared} {env : Env} {h₀ : Heap}
theorem StepEnd.intro {L it : Addr} {o : Obj} {J : (Str → Option Value) → List (Addr × Obj) → Prop} {s₁ : Shared} {h' : Heap} {tk' : Nat} {m' : Str → Option Value} {news₁ news₂ : List (Addr × Obj)}
    (F : Fr h₀ L h' m') (N : News h₀ L h' news₁) (hi : (it, o) ∈ news₁) (hs : ∀ p ∈ news₂, p ∈ news₁) (hn : ∀ p ∈ news₂, p.1 ≠ it) (hJ : J m' news₂) : StepEnd h₀ L it o J s₁ .next { s₁ with heap := h', toks := tk' } :=
  ⟨.inl rfl, h', tk', m', news₂, rfl, F, fun p hp => by rcases List.mem_cons.mp hp with rfl | hp; exact N _ hi; exact N _ (hs p hp), hn, hJ⟩

section
variable {K : Type} [DecidableEq K] {knd : KeyKind prog w K}
theorem code_items {R : Result → Shared → Prop} {xk xv : Str} {pk pv pt : Pos} {x1} {body : List Stmt} {it d : Addr} {kvs : List (K × Value)} {ep : Nat} {m : Str → Option Value} {news : List (Addr × Obj)}
    (hh : A.handled = none) (hxk : env.kindOf xk = some .local) (hxv : env.kindOf xv = some .local)
    (hp : (env.scope.kind == .class || (env.scope.kind == .module && env.locals != env.globals)) = false)
    (hiL : it ≠ env.locals) (hi0 : h₀.get? it = none) (hdL : d ≠ env.locals) (hdi : d ≠ it)
    (hit : IsItemIter s.heap it d 0 kvs.length ep .none .none) (hm : h₀.DictAt knd d kvs ep) (F : Fr h₀ env.locals s.heap m) (N : News h₀ env.locals s.heap news) (hni : ∀ p ∈ news, p.1 ≠ it)
    (J : Nat → (Str → Option Value) → List (Addr × Obj) → Prop) (h0 : J 0 m news)
    (step : ∀ i k v key m₁ news₁ h tk o, kvs[i]? = some (k, v) → knd.is k key = true → (∀ p ∈ news₁, p.1 ≠ it) → J i m₁ news₁ →
      Fr h₀ env.locals h (fun y => if y = xv then some v else if y = xk then some key else m₁ y) → News h₀ env.locals h ((it, o) :: news₁) →
      wpAny (model prog w) A (execs body env) (StepEnd h₀ env.locals it o (J (i + 1)) { s with heap := h, toks := tk }) (notedBy (model prog w) A env fun e s' => R (.error e) s') { s with heap := h, toks := tk })
    (hR : ∀ h' tk m' news', Fr h₀ env.locals h' m' → News h₀ env.locals h' news' → J kvs.length m' news' → R (.ok .next) { s with heap := h', toks := tk }) :
    codeAny (model prog w) A (.forLoop (.Tuple [.Name xk pk, .Name xv pv] x1 pt) (.ref it) body [] env) R s := by
  refine codeAny_forLoop_any
    (fun n s' => ∃ h' tk m' news' i ok ov, s' = { s with heap := h', toks := tk } ∧ IsItemIter h' it d i kvs.length ep ok ov ∧ Fr h₀ env.locals h' m' ∧ News h₀ env.locals h' news' ∧ (∀ p ∈ news', p.1 ≠ it) ∧ J i m' news' ∧ i ≤ kvs.length ∧
      n = kvs.length + 1 - i) ?_ (kvs.length + 1)
    ⟨s.heap, s.toks, m, news, 0, .none, .none, rfl, hit, F, N, hni, h0, Nat.zero_le _, rfl⟩
  rintro n s' ⟨H, tk, m', news', i, ok, ov, rfl, hit', F', N', hni', hJ, hi, rfl⟩
  have old : ∀ b o, h₀.get? b = some o → b ≠ it := fun b o e q => by rw [q, hi0] at e; cases e
  have next : ∀ h₁ : Heap, (∀ b o, b ≠ it → H.get? b = some o → h₁.get? b = some o) → Fr h₀ env.locals h₁ m' ∧ News h₀ env.locals h₁ news' := fun h₁ hk₁ =>
    ⟨⟨F'.ns.at' fun o e => hk₁ _ o (Ne.symm hiL) e, fun b o e => hk₁ b o (old b o e) (F'.keep b o e), F'.above⟩, fun p hp => ⟨hk₁ _ _ (hni' p hp) (N' p hp).1, (N' p hp).2⟩⟩
  have hm' : H.DictAt knd d kvs ep := hm.at fun o e => F'.keep d o e
  cases hv : kvs[i]? with
  | none =>
    have hsz : i = kvs.length := Nat.le_antisymm hi (by simpa using hv)
    refine wpAny_pyNext_items_end hh hit' hm' hv fun h₁ he₁ => wpAny_execs_nil ?_
    obtain ⟨F₁, N₁⟩ := next h₁ he₁
    exact hR h₁ tk m' news' F₁ N₁ (hsz ▸ hJ)
  | some kv =>
    obtain ⟨k, v⟩ := kv
    have hlt : i < kvs.length := (List.getElem?_eq_some_iff.mp hv).1
    have hiH : it < H.objs.size := Heap.lt_size hit'
    have hLH : env.locals < H.objs.size := F'.ns.lt
    have hdH : d < H.objs.size := hm'.lt_size
    refine wpAny_pyNext_items_item hit' hm' hv fun key h₁ hkey heo ht₁ hz₁ hk₁ => ?_
    refine wpAny_letOwnedTupleGo_items heo fun h₂ he₂ hs₂ => ?_
    replace hs₂ : Heap.SameBut it h₁ h₂ := hs₂
    have ht₂ : h₂.IsTuple H.objs.size #[key, v] := ⟨_, (hs₂.2 _ (Nat.ne_of_gt hiH)).trans ht₁, rfl, _, rfl⟩
    have hz₂ : h₂.objs.size = H.objs.size + 1 := hs₂.1.trans hz₁
    refine wpAny_assign_Tuple hh ht₂ rfl rfl fun h₃ hx₃ => ?_
    replace hx₃ : Heap.ExtBut h₂.objs.size h₂ h₃ := hx₃
    have old₃ : ∀ b o, b < H.objs.size → h₂.get? b = some o → h₃.get? b = some o := fun b o hb x => hx₃ b o (by rw [hz₂]; exact Nat.ne_of_lt (Nat.lt_succ_of_lt hb)) x
    have up₃ : ∀ b o, b ≠ it → H.get? b = some o → h₃.get? b = some o := fun b o hb x => old₃ b o (Heap.lt_size x) ((hs₂.2 b hb).trans (hk₁ b o hb x))
    obtain ⟨F₃, N₃⟩ := next h₃ up₃
    show wpAny _ _ (do holding [v] (assign (.Name xk pk) env key); do holding [] (assign (.Name xv pv) env v); pure ()) _ _ _
    refine wpAny_bind (wpAny_holding (wpAny_assign_Name (wpAny_storeName_local hxk F₃.ns (fun h₄ hn₄ hs₄ => ?_) hp)))
    have F₄ := F₃.set hn₄ hs₄
    have N₄ := N₃.set hs₄
    refine wpAny_bind (wpAny_holding (wpAny_assign_Name (wpAny_storeName_local hxv hn₄ (fun h₅ hn₅ hs₅ => wpAny_pure ?_) hp)))
    have F₅ := F₄.set hn₅ hs₅
    have N₅ := N₄.set hs₅
    replace hs₄ : Heap.SameBut env.locals h₃ h₄ := hs₄
    replace hs₅ : Heap.SameBut env.locals h₄ h₅ := hs₅
    obtain ⟨oI, hoI⟩ : ∃ oI, h₂.get? it = some oI ∧ ∀ h' : Heap, h'.get? it = some oI → IsItemIter h' it d (i + 1) kvs.length ep key v := ⟨_, he₂, fun _ e => e⟩
    have hI₅ : h₅.get? it = some oI := (hs₅.2 it hiL).trans ((hs₄.2 it hiL).trans (old₃ it _ hiH hoI.1))
    refine wpAny_mono (step i k v key m' news' h₅ _ oI hv hkey hni' hJ F₅ (fun p hp => ?_)) (fun f s₃ h₆ => ?_) fun _ _ x => x
    · rcases List.mem_cons.mp hp with rfl | hp
      · exact ⟨hI₅, hiL, hi0⟩
      · exact N₅ p hp
    · obtain ⟨hf, h₆, tk₆, m₂, news₂, rfl, F₆, N₆, hn₆, hJ₆⟩ := h₆
      have fin : ∃ n', n' < kvs.length + 1 - i ∧ ∃ h' tk m' news' j ok ov, ({ s with heap := h₆, toks := tk₆ } : Shared) = { s with heap := h', toks := tk } ∧ IsItemIter h' it d j kvs.length ep ok ov ∧ Fr h₀ env.locals h' m' ∧ News h₀ env.locals h' news' ∧ (∀ p ∈ news', p.1 ≠ it) ∧ J j m' news' ∧ j ≤ kvs.length ∧
          n' = kvs.length + 1 - j := ⟨kvs.length + 1 - (i + 1), by omega, h₆, tk₆, m₂, news₂, i + 1, key, v, rfl, hoI.2 _ (N₆ _ (.head _)).1, F₆, fun p hp => N₆ p (.tail _ hp), hn₆, hJ₆, hlt, rfl⟩
      rcases hf with rfl | rfl
      · exact fin
      · exact fin

theorem for_items {Q : Flow → Shared → Prop} {xk xv : Str} {pk pv pt pos apos cpos : Pos} {x1} {o : Expr} {body : List Stmt} {d : Addr} {kvs : List (K × Value)} {m : Str → Option Value} {news : List (Addr × Obj)}
    (hh : A.handled = none) (hxk : env.kindOf xk = some .local) (hxv : env.kindOf xv = some .local)
    (hp : (env.scope.kind == .class || (env.scope.kind == .module && env.locals != env.globals)) = false)
    (hdS : (d == sysModules) = false) (hd : h₀.DictOf knd d kvs) (F : Fr h₀ env.locals s.heap m) (N : News h₀ env.locals s.heap news)
    (hbase : attributeBase o "items" env (eval o env) = eval o env) (hline : (apos.endLine == cpos.line) = true)
    (ho : ∀ Q', Q' (.ref d) s → wpAny (model prog w) A (eval o env) Q' E s)
    (J : Nat → (Str → Option Value) → List (Addr × Obj) → Prop) (h0 : J 0 m news)
    (step : ∀ i k v key m₁ news₁ h tk it o, kvs[i]? = some (k, v) → knd.is k key = true → (∀ p ∈ news₁, p.1 ≠ it) → J i m₁ news₁ →
      Fr h₀ env.locals h (fun y => if y = xv then some v else if y = xk then some key else m₁ y) → News h₀ env.locals h ((it, o) :: news₁) →
      wpAny (model prog w) A (execs body env) (StepEnd h₀ env.locals it o (J (i + 1)) { s with heap := h, toks := tk }) E { s with heap := h, toks := tk })
    (done : ∀ h' tk m' news', Fr h₀ env.locals h' m' → News h₀ env.locals h' news' → J kvs.length m' news' → Q .next { s with heap := h', toks := tk })
    (hs : ∀ x, foldedSetIterable (.Call (.Attribute o "items" apos) [] [] cpos) env x = pure x := by intro _; rfl)
    (hE : PassesOwn (model prog w) A env E := by passes_own) :
    wpAny (model prog w) A (exec (.For (.Tuple [.Name xk pk, .Name xv pv] x1 pt) (.Call (.Attribute o "items" apos) [] [] cpos) body [] pos) env) Q E s := by
  obtain ⟨o₁, es, ep, e1, e2⟩ := id hd
  have hdd : s.heap.DictOf knd d kvs := hd.keep F.keep
  have hda : h₀.DictAt knd d kvs ep := ⟨o₁, es, e1, e2⟩
  have hm : s.heap.DictAt knd d kvs ep := hda.at fun o e => F.keep d o e
  refine wpAny_For (wpAny_Call_items hdS hdd hbase hline ho ?_) hs
  have hlt : ∀ b o, s.heap.get? b = some o → b < s.heap.objs.size := fun b o e => Heap.lt_size e
  refine wpAny_pyIter_items (knd := knd) (d := d) (kvs := kvs) (ep := ep) ⟨_, Heap.get?_push_size _ rfl, rfl, rfl⟩ (hm.push _) ?_
  have hsz : (s.heap.push { cls := .type "dict_items", data := .fields #[.ref d] }).objs.size = s.heap.objs.size + 1 := Heap.size_push ..
  have hnew : ∀ b, s.heap.objs.size ≤ b → h₀.get? b = none := fun b hb => Heap.get?_none_of_le (Nat.le_trans (Nat.le_of_lt (Nat.lt_of_le_of_lt F.above F.ns.lt)) hb)
  refine code_items (knd := knd) (R := fun r s' => match r with | .ok f => Q f s' | .error e => cameBackBy (model prog w) A env E e s') hh hxk hxv hp ?_ (hnew _ ?_) ?_ ?_
    (Heap.get?_push_size _ rfl) hda ((F.push _).push _) (kept_news N fun b o e => Heap.get?_push_of_some _ (Heap.get?_push_of_some _ e)) ?_ J h0 (by intros; exact wpAny_passesOwn hE (by apply step <;> assumption)) done
  · show (s.heap.push _).objs.size ≠ env.locals
    rw [hsz]; exact Nat.ne_of_gt (Nat.lt_succ_of_lt F.ns.lt)
  · show s.heap.objs.size ≤ (s.heap.push _).objs.size
    rw [hsz]; exact Nat.le_succ _
  · exact Nat.ne_of_lt (Nat.lt_of_lt_of_le (Heap.lt_size e1) F.above)
  · show d ≠ (s.heap.push _).objs.size
    rw [hsz]; exact Nat.ne_of_lt (Nat.lt_succ_of_lt hm.lt_size)
  · intro p hp
    show p.1 ≠ (s.heap.push _).objs.size
    rw [hsz]; exact Nat.ne_of_lt (Nat.lt_succ_of_lt (Heap.lt_size (N p hp).1))
end
end
theorem map_is {p q a b : Str} {va vb : Value} {m m₀ : Str → Option Value} (hab : b ≠ a) (h1 : m a = some va) (h2 : m b = some vb) (h3 : ∀ y, y ≠ p → y ≠ q → y ≠ a → y ≠ b → m y = m₀ y) :
    ∀ y, y ≠ p → y ≠ q → m y = if y = a then some va else if y = b then some vb else m₀ y := fun y e1 e2 => by
  by_cases e3 : y = a
  · rw [if_pos e3, e3, h1]
  · by_cases e4 : y = b
    · rw [if_neg e3, if_pos e4, e4, h2]
    · rw [if_neg e3, if_neg e4]; exact h3 y e1 e2 e3 e4
/-- where the ways of a statement meet -/
inductive IfDone (h₀ : Heap) (L : Addr) (m : Str → Option Value) (J : List (Addr × Obj) → Prop) (s : Shared) (f : Flow) (s' : Shared) : Prop
  | mk (p0 : f = .next) (h' : Heap) (tk' : Nat) (news : List (Addr × Obj)) (q0 : s' = { s with heap := h', toks := tk' }) (q1 : Fr h₀ L h' m) (q2 : News h₀ L h' news) (q3 : J news) : IfDone h₀ L m J s f s'
theorem IfDone.intro {h₀ : Heap} {L : Addr} {m : Str → Option Value} {J : List (Addr × Obj) → Prop} {s : Shared} {h' : Heap} {tk' : Nat} {news : List (Addr × Obj)} (F : Fr h₀ L h' m) (N : News h₀ L h' news) (hJ : J news) : IfDone h₀ L m J s .next { s with heap := h', toks := tk' } :=
  ⟨rfl, h', tk', news, rfl, F, N, hJ⟩
/-- how a turn of a loop may end -/
noncomputable def StepV (h₀ : Heap) (L it : Addr) (o : Obj) (J : (Str → Option Value) → List (Addr × Obj) → Prop) (Q : Flow → Shared → Prop) (s₁ : Shared) (f : Flow) (s₂ : Shared) : Prop := match f with
  | .ret v => Q (.ret v) s₂
  | .brk => Q .next s₂
  | _ => StepEnd h₀ L it o J s₁ .next s₂
section
variable {prog : Program} {w : World} {A : Around} {E : Value → Shared → Prop} {s : Shared} {env : Env} {h₀ : Heap} {x : Str} {body : List Stmt} {Q : Flow → Shared → Prop}
theorem loop_at_one {I : Addr} {fp wr : List Addr} {n : Nat} {P : Nat → Value → Prop} {St : Nat → Heap → Prop} {m₀ : Str → Option Value} {news : List (Addr × Obj)} (J : Nat → (Str → Option Value) → List (Addr × Obj) → Prop)
    (W : Walks prog w A I fp wr n P St) (hIf : I ∈ fp) (hfp : ∀ b ∈ fp, b = I ∨ ∃ q, h₀.get? b = some q) (hI0 : h₀.get? I = none) (hob : ∀ i h, St i h → ∃ o, h.get? I = some o)
    (hLf : env.locals ∉ fp) (hwr : wr = [I]) (hnw : ∀ p ∈ news, p.1 ≠ I) (hst : St 0 s.heap) (F : Fr h₀ env.locals s.heap m₀) (N : News h₀ env.locals s.heap news) (hj : J 0 m₀ news)
    (step : ∀ i v m₁ news₁ h tk o, i < n → P i v → (∀ p ∈ news₁, p.1 ≠ I) → J i m₁ news₁ → Fr h₀ env.locals h (fun y => if y = x then some v else m₁ y) → News h₀ env.locals h ((I, o) :: news₁) →
      wpAny (model prog w) A (execs body env) (StepV h₀ env.locals I o (J (i + 1)) Q { s with heap := h, toks := tk }) E { s with heap := h, toks := tk })
    (done : ∀ m₁ news₁ h tk, J n m₁ news₁ → Fr h₀ env.locals h m₁ → News h₀ env.locals h news₁ → Q .next { s with heap := h, toks := tk }) :
    LoopAtV prog w A h₀ env x body Q E (.ref I) s := by
  subst hwr
  refine ⟨I, fp, [I], n, P, St, m₀, news, J, rfl, W, hLf, (fun b hb => by rw [List.mem_singleton.mp hb]; exact hI0), (fun p hp hb => hnw p hp (List.mem_singleton.mp hb)), hst, F, N, hj, ?_, ?_⟩
  · rintro i v m₁ news₁ s₁ own ⟨hh', tk', rfl⟩ hin hP hJ hoff hown _ hall hst' F₁ N₁
    obtain ⟨o, ho⟩ := hob _ _ hst'
    have hio : (I, o) ∈ own := hall I hIf hI0 o ho
    have hone := own_one hown hfp ho N₁
    refine wpAny_mono (step i v m₁ news₁ hh' tk' o hin hP (fun p hp e => hoff p hp (List.mem_singleton.mpr e)) hJ F₁ (news_one hio N₁)) (fun f s₂ p => ?_) fun _ _ e => e
    have fin : StepEnd h₀ env.locals I o (J (i + 1)) { s with heap := hh', toks := tk' } .next s₂ → LoopStepU h₀ env.locals [I] own (J (i + 1)) { s with heap := hh', toks := tk' } .next s₂ := by
      rintro ⟨_, h', tk, m', news', e, F', N', hn, hm⟩
      refine ⟨rfl, h', tk, m', news', e, F', fun p hp => ?_, (fun p hp hb => hn p hp (List.mem_singleton.mp hb)), hm⟩
      rcases List.mem_append.mp hp with h | h
      · rw [hone p h]; exact N' _ (.head _)
      · exact N' _ (.tail _ h)
    cases f with
    | ret v => exact .ret p
    | brk => exact .brk p
    | next => exact .next (fin p)
    | cont => exact .cont (fin p)
  · rintro h' tk m' news' F' N' _ hJ
    exact done m' news' h' tk hJ F' N'

theorem iter_range {r : Addr} {a₀ b₀ : Int} {t₀ u₀ v₀ : Tok} {n : Nat} {m₀ : Str → Option Value} {news : List (Addr × Obj)} (J : Nat → (Str → Option Value) → List (Addr × Obj) → Prop)
    (hh : A.handled = none) (hr : IsRange s.heap r a₀ b₀ 1 t₀ u₀ v₀) (hsmall : Builtin.Range.small a₀ b₀ 1 = true) (hn : Builtin.Range.rangeSize a₀ b₀ 1 = (n : Int)) (F : Fr h₀ env.locals s.heap m₀) (N : News h₀ env.locals s.heap news) (hj : J 0 m₀ news)
    (step : ∀ i t m₁ news₁ h tk it o, i < n → (∀ p ∈ news₁, p.1 ≠ it) → J i m₁ news₁ → Fr h₀ env.locals h (fun y => if y = x then some (.int (a₀ + (i : Int)) t) else m₁ y) → News h₀ env.locals h ((it, o) :: news₁) →
      wpAny (model prog w) A (execs body env) (StepV h₀ env.locals it o (J (i + 1)) Q { s with heap := h, toks := tk }) E { s with heap := h, toks := tk })
    (done : ∀ m₁ news₁ h tk, J n m₁ news₁ → Fr h₀ env.locals h m₁ → News h₀ env.locals h news₁ → Q .next { s with heap := h, toks := tk }) :
    wpAny (model prog w) A (pyIter (.ref r)) (fun it s₂ => LoopAtV prog w A h₀ env x body Q E it s₂) E s := by
  refine wpAny_pyIter_range hr hsmall ?_
  have W : Walks prog w A s.heap.objs.size [s.heap.objs.size] [s.heap.objs.size] n (fun i v => i < n ∧ ∃ t, v = .int (a₀ + i * 1) t)
      (fun i h => IsRangeIter h s.heap.objs.size (a₀ + (i : Nat) * 1) ((n : Int) - (i : Nat)) 1) := (Walks.range hh _ a₀ 1 n).bound
  refine loop_at_one J W (List.mem_singleton.mpr rfl) (fun b hb => .inl (List.mem_singleton.mp hb)) (next_is_new F) (fun i h st => ⟨_, st⟩) ?_ rfl (fun p hp e => ?_) (by show IsRangeIter _ _ _ _ _; rw [hn]; simpa using Heap.get?_push_size _ rfl) (F.push _) (fun p hp => ⟨Heap.get?_push_of_some _ (N p hp).1, (N p hp).2⟩) hj ?_ ?_
  · intro hm
    exact absurd F.ns.lt ((List.mem_singleton.mp hm) ▸ Nat.lt_irrefl _)
  · exact absurd (Heap.lt_size (N p hp).1) (e ▸ Nat.lt_irrefl _)
  · rintro i v m₁ news₁ h tk o hi ⟨_, t, rfl⟩ hoff hJ F₁ N₁
    rw [Int.mul_one] at F₁
    exact step i t m₁ news₁ h tk _ o hi hoff hJ F₁ N₁
  · exact done

theorem iter_vals {l : Addr} {vs : List Value} {m₀ : Str → Option Value} {news : List (Addr × Obj)} (J : Nat → (Str → Option Value) → List (Addr × Obj) → Prop)
    (hh : A.handled = none) (hl : h₀.IsList l vs.toArray) (F : Fr h₀ env.locals s.heap m₀) (N : News h₀ env.locals s.heap news) (hj : J 0 m₀ news)
    (step : ∀ i v m₁ news₁ h tk it o, vs[i]? = some v → (∀ p ∈ news₁, p.1 ≠ it) → J i m₁ news₁ → Fr h₀ env.locals h (fun y => if y = x then some v else m₁ y) → News h₀ env.locals h ((it, o) :: news₁) →
      wpAny (model prog w) A (execs body env) (StepV h₀ env.locals it o (J (i + 1)) Q { s with heap := h, toks := tk }) E { s with heap := h, toks := tk })
    (done : ∀ m₁ news₁ h tk, J vs.length m₁ news₁ → Fr h₀ env.locals h m₁ → News h₀ env.locals h news₁ → Q .next { s with heap := h, toks := tk }) :
    wpAny (model prog w) A (pyIter (.ref l)) (fun it s₂ => LoopAtV prog w A h₀ env x body Q E it s₂) E s := by
  have hls : s.heap.IsList l vs.toArray := hl.at fun o e => F.keep l o e
  obtain ⟨ol, hol, _⟩ := id hl
  have hlt : l < h₀.objs.size := Heap.lt_size hol
  have hne : l ≠ s.heap.objs.size := Nat.ne_of_lt (Nat.lt_trans (Nat.lt_of_lt_of_le hlt F.above) F.ns.lt)
  refine wpAny_pyIter_list hls ?_
  have W := Walks.list (prog := prog) (w := w) hh s.heap.objs.size l hne vs.toArray
  refine loop_at_one J (n := vs.toArray.size) W (List.mem_cons.mpr (.inl rfl)) ?_ (next_is_new F) ?_ ?_ rfl (fun p hp e => ?_) ⟨⟨_, Heap.get?_push_size _ rfl, rfl, rfl⟩, hls.at fun o e => Heap.get?_push_of_some _ e⟩ (F.push _) (fun p hp => ⟨Heap.get?_push_of_some _ (N p hp).1, (N p hp).2⟩) hj ?_ ?_
  · intro b hb
    rcases List.mem_cons.mp hb with e | hb
    · exact .inl e
    · exact .inr ⟨ol, by rw [List.mem_singleton.mp hb]; exact hol⟩
  · rintro i h ⟨⟨o, ho, _⟩, _⟩
    exact ⟨o, ho⟩
  · intro hm
    rcases List.mem_cons.mp hm with e | hm
    · exact absurd F.ns.lt (e ▸ Nat.lt_irrefl _)
    · exact absurd (Nat.lt_of_lt_of_le hlt F.above) ((List.mem_singleton.mp hm) ▸ Nat.lt_irrefl _)
  · exact absurd (Heap.lt_size (N p hp).1) (e ▸ Nat.lt_irrefl _)
  · intro i v m₁ news₁ h tk o hi hP hoff hJ F₁ N₁
    exact step i v m₁ news₁ h tk _ o (by simpa using hP) hoff hJ F₁ N₁
  · simpa using done
end

end
set_option maxRecDepth 100000 in
theorem warm : (PySem.Challenge.rw_jc0017_01, hd.heap_1) = (PySem.Challenge.rw_jc0017_01, hd.heap_1) := by k_fill; rfl
/-- enter a def by its text -/
local macro_rules | `(tactic| ktr_rel) => `(tactic| first
  | (refine' enter ?k1 ?k2 ?k6 ?k7 ?k8 ?k9 ?kB ?_ ?c2 ?c3 ?c4 ?c5; (case k1 | k2 => k_asm); (case k6 | k7 => k_is); (case k8 => first | exact room0 (by assumption) | ktr_room); (case k9 => first | exact BindsTo.of_eq rfl | exact binds_K (by k_in) rfl (by k_is) rfl rfl rfl | fail "j_enter: no rule for these arguments"); (case c5 => decide); (case kB => exact locs rfl); (case c2 | c3 | c4 => exact rfl); k_whole; intro L' h' F' N'; (try dsimp only); (try k_fold))
  | (refine' enterK ?k1 ?k2 ?k3 ?k4 ?k6 ?k7 ?k8 ?k9 ?kB ?_ ?c2 ?c3 ?c4 ?c5; (case k1 | k2 | k3 | k4 => k_asm); (case k6 | k7 => k_is); (case k8 => first | exact room0 (by assumption) | ktr_room); (case k9 => first | exact BindsTo.of_eq rfl | exact binds_K (by k_in) rfl (by k_is) rfl rfl rfl | fail "j_enter: no rule for these arguments"); (case c5 => decide); (case kB => exact locs rfl); (case c2 | c3 | c4 => exact rfl); k_whole; intro g' L' h' FG' F' N' X' T'; (try dsimp only); (try k_fold)))
/-- one step, but for a loop, a call of the text's own, a comprehension or another thing that is taken by hand -/
local macro_rules | `(tactic| tb_rel) => `(tactic| (
  (fail_if_success with_reducible first
    | show wpAny _ _ (exec (Stmt.For _ _ _ _ _) _) _ _ _
    | show wpAny _ _ (exec (Stmt.While _ _ _ _) _) _ _ _
    | show wpAny _ _ (call (Value.ref _) _ _) _ _ _
    | show wpAny _ _ (eval (Expr.ListComp _ _ _ _) _) _ _ _
    | show wpAny _ _ (eval (Expr.DictComp _ _ _ _ _) _) _ _ _
    | show wpAny _ _ (eval (Expr.Lambda _ _ _ _) _) _ _ _
    | show wpAny _ _ (pyIter (Value.ref _)) _ _ _
    | show wpAny _ _ (eval (Expr.Dict (_ :: _) _ _) _) _ _ _);
  first | ((with_reducible show wpAny _ _ (exec _ _) _ _ _); k_fold) | (k_unfold; (try dsimp only)) | (k_end; wrow_close) | walk1 | (dsimp only; walk1)))
/-- the walk -/
local macro_rules | `(tactic| ktr_unf) => `(tactic| repeat' tb_rel)
/-- the walk, up to a field of an object too -/
local macro_rules | `(tactic| tb_start) => `(tactic| repeat' ((fail_if_success (with_reducible show wpAny _ _ (getAttr (Value.ref _) _ _) _ _ _)); (fail_if_success (with_reducible show wpAny _ _ (getMethod (Value.ref _) _ _) _ _ _)); (fail_if_success (with_reducible show wpAny _ _ (truthy (Value.ref _)) _ _ _)); tb_rel))
section
section
variable {prog : Program} {w : World} {A : Around} {s : Shared} {K : Frag} {L : Addr} {h₀ g h h' : Heap} {m mg mb : Str → Option Value} {news : List (Addr × Obj)} {p : Program} {loose : List Str} {mean : ExcName → Option Value}
/-- entering a plain def, a part of the heap laid aside as the ledger -/
theorem enterH {R : Result → Shared → Prop} {name qual : Str} {params : Arguments} {body : List Stmt} {scope : Scope} {dV kV doc pm cdv ct oc : Value} {an od : Option Addr} {osl : Array (Option Value)} {f : Addr} {args : Args} {binds : List (Str × Value)}
    (k0 : Keeps h₀ s.heap) (X₀ : K.In h₀) (T : Top p loose mean mg mb h₀) (hn : ∀ p ∈ news, s.heap.get? p.1 = some p.2 ∧ h₀.get? p.1 = none)
    (ho : K.lookup f = some ⟨oc, od, .func (fnOf name qual params body scope dV kV doc pm an cdv ct), osl⟩) (hcd : codeIn K cdv qual = true) (hroom : A.depth < recursionLimit)
    (hbind : BindsTo s (fnOf name qual params body scope dV kV doc pm an cdv ct) args binds) (hloc : ∀ y ∈ binds, scope.names.lookup y.1 = some .local)
    (h : ∀ g L' h₁, Keeps h₀ g → Keeps g s.heap → (∀ b o, (∀ p ∈ news, p.1 ≠ b) → s.heap.get? b = some o → g.get? b = some o) → Fr g L' h₁ (fun y => binds.reverse.lookup y) → News g L' h₁ news → K.In g → Top p loose mean mg mb g → (∀ p ∈ news, p.1 < L') →
      wpAny (model prog w) (A.deeper (envOf qual scope L' f cdv)) (execs body (envOf qual scope L' f cdv))
        (fun fl s' => R (.ok (.ret (match fl with | .ret v => v | _ => .none))) s')
        (fun e s' => wpAny (model prog w) (A.deeper (envOf qual scope L' f cdv)) (leaving (envOf qual scope L' f cdv) e) (fun _ s'' => R (.error e) s'') (fun e' s'' => R (.error e') s'') s')
        { s with heap := h₁, toks := s.toks + binds.length })
    (hco : scope.isCoroutine = false) (hgen : scope.isGenerator = false) (hk : scope.kind = .function)
    (hcell : ∀ x ∈ scope.names, x.2 ≠ .cell) : codeAny (model prog w) A (.call (.ref f) args) R s := by
  have st : Keeps h₀ (hideAll s.heap (news.map (·.1))) := fun b o e => hideAll_get _ (k0 b o e) (fun q => by
    obtain ⟨p, hp, rfl⟩ := List.mem_map.mp q
    rw [(hn p hp).2] at e; cases e)
  refine codeAny_call_def (fd := fnX name qual params body scope [] dV kV doc pm an cdv ct) (body := body) (binds := binds) hroom ((X₀.keeps k0) _ _ ho) rfl (T.nolimit.keeps k0) (codeRec_of (X₀.keeps k0) hcd) rfl hbind hcell hloc (fun h₁ hns hk₁ => ?_) hco hgen hk
  exact h (hideAll s.heap (news.map (·.1))) s.heap.objs.size h₁ st (fun b o e => of_hideAll _ e) (fun b o hb e => hideAll_get _ e (fun q => by obtain ⟨p, hp, e⟩ := List.mem_map.mp q; exact hb p hp e)) ⟨hns, fun b o e => hk₁ b o (of_hideAll _ e), Nat.le_of_eq (hideAll_size _ _)⟩
    (fun p hp => ⟨hk₁ _ _ (hn p hp).1, Nat.ne_of_lt (Heap.lt_size (hn p hp).1), hideAll_none _ (List.mem_map_of_mem hp)⟩) (X₀.keeps st) (T.keeps st) (fun p hp => Heap.lt_size (hn p hp).1)
end
section
variable {prog : Program} {w : World} {p : Program} {loose : List Str} {mean : ExcName → Option Value} {mg mb : Str → Option Value}
set_option maxRecDepth 100000 in
set_option maxHeartbeats 8000000 in
theorem cmp_call {g : Heap} {L x dx D2 D3 ta tb : Addr} {m : Str → Option Value} {news : List (Addr × Obj)} {s : Shared} {Q E : Value → Shared → Prop} {dp un : Nat} {fr : Option (List Env)} {gd : Option (List Code)} {way a1 a2 b1 b2 : Int} {tk1 tw u1 u2 u3 u4 : Tok} {es : List DictEntry} {ne : Nat}
    (F : Fr g L s.heap m) (N : News g L s.heap news) (m1 : (x, instObj 45 dx) ∈ news) (m2 : (dx, W.dictOf es ne) ∈ news) (hes : getL (Str.ofString "comp_select_list") es = some (some (.ref D2))) (m3 : (D2, ({ cls := .type "tuple", data := .seq #[Value.ref D3] } : Obj)) ∈ news)
    (m4 : (D3, ({ cls := .type "tuple", data := .seq #[Value.int 1 tk1, Value.int way tw] } : Obj)) ∈ news) (m5 : (ta, ({ cls := .type "tuple", data := .seq #[Value.int a1 u1, Value.int a2 u2] } : Obj)) ∈ news) (m6 : (tb, ({ cls := .type "tuple", data := .seq #[Value.int b1 u3, Value.int b2 u4] } : Obj)) ∈ news)
    (X : (hd.heap_1 w.params).In g) (T : Top p loose mean mg mb g) (hway : -3 ≤ way ∧ way ≤ 3) (hd : dp + 3 < recursionLimit) (hu : un + 40 < cLine)
    (r1 : ∀ h' tk' t, Fr g L h' m → News g L h' news → a2 < b2 → Q (.int (-way) t) { s with heap := h', toks := tk' }) (r2 : ∀ h' tk' t, Fr g L h' m → News g L h' news → b2 < a2 → Q (.int way t) { s with heap := h', toks := tk' }) (r3 : ∀ h' tk' t, Fr g L h' m → News g L h' news → a2 = b2 → Q (.int 0 t) { s with heap := h', toks := tk' }) :
    wpAny (model prog w) (arr dp un fr gd) (call (.ref 42) [.ref x, .ref ta, .ref tb]) Q E s := by
  refine wpAny_call ?_
  k_dflt (refine' enterH (news := [(x, instObj 45 dx), (dx, W.dictOf es ne), (D2, ({ cls := .type "tuple", data := .seq #[Value.ref D3] } : Obj)), (D3, ({ cls := .type "tuple", data := .seq #[Value.int 1 tk1, Value.int way tw] } : Obj)), (ta, ({ cls := .type "tuple", data := .seq #[Value.int a1 u1, Value.int a2 u2] } : Obj)), (tb, ({ cls := .type "tuple", data := .seq #[Value.int b1 u3, Value.int b2 u4] } : Obj))]) F.keep X T ?kn ?k6 ?k7 ?k8 ?k9 ?kB ?_ ?c2 ?c3 ?c4 ?c5; (case kn => (intro q hq; have hm : q ∈ news := (by simp only [List.mem_cons, List.not_mem_nil, or_false] at hq; rcases hq with h | h | h | h | h | h <;> subst h <;> assumption); exact ⟨(N q hm).1, (N q hm).2.2⟩)); (case k6 => k_is); (case k7 => k_is); (case k8 => first | exact room0 (by assumption) | ktr_room); (case k9 => exact BindsTo.of_eq rfl); (case kB => exact locs rfl); (case c2 => exact rfl); (case c3 => exact rfl); (case c4 => exact rfl); (case c5 => decide); intro g1 L1 h1 kg kg' kn F1 N1 X' T' l1; (try k_lt l1); (try dsimp only); (try k_fold))
  have kp : ∀ {h2 : Heap} {L2 : Addr} {m2 : Str → Option Value} {n2 : List (Addr × Obj)}, Fr g1 L2 h2 m2 → News g1 L2 h2 n2 → (∀ q ∈ [(x, instObj 45 dx), (dx, W.dictOf es ne), (D2, ({ cls := .type "tuple", data := .seq #[Value.ref D3] } : Obj)), (D3, ({ cls := .type "tuple", data := .seq #[Value.int 1 tk1, Value.int way tw] } : Obj)), (ta, ({ cls := .type "tuple", data := .seq #[Value.int a1 u1, Value.int a2 u2] } : Obj)), (tb, ({ cls := .type "tuple", data := .seq #[Value.int b1 u3, Value.int b2 u4] } : Obj))], q ∈ n2) → Keeps s.heap h2 := fun F2 N2 hs b o e => by
    by_cases hb : ∃ q ∈ [(x, instObj 45 dx), (dx, W.dictOf es ne), (D2, ({ cls := .type "tuple", data := .seq #[Value.ref D3] } : Obj)), (D3, ({ cls := .type "tuple", data := .seq #[Value.int 1 tk1, Value.int way tw] } : Obj)), (ta, ({ cls := .type "tuple", data := .seq #[Value.int a1 u1, Value.int a2 u2] } : Obj)), (tb, ({ cls := .type "tuple", data := .seq #[Value.int b1 u3, Value.int b2 u4] } : Obj))], q.1 = b
    · obtain ⟨q, hq, rfl⟩ := hb
      have hm : q ∈ news := by simp only [List.mem_cons, List.not_mem_nil, or_false] at hq; rcases hq with h | h | h | h | h | h <;> subst h <;> assumption
      rw [(N q hm).1] at e
      cases e
      exact (N2 q (hs q hq)).1
    · exact F2.keep _ _ (kn b o (fun q hq e2 => hb ⟨q, hq, e2⟩) e)
  ktr_unf
  (rename Fr _ _ _ _ => lF'); (with_unfolding_all refine' For_turns lF' ?_); k_whole
  tb_start
  k_dflt (refine' get_own (C := 45) ?F X' ?I ?hg ?hh ?ha ?hn hes rfl ?_; (case F => k_asm); (case I => exact InstAt.of_news (by k_asm) (by k_mem) (by k_mem)); (case hg => k_is); (case hh => k_is); (case ha => k_is); (case hn => k_is); k_whole)
  ktr_unf
  all_goals walk1
  all_goals ktr_unf
  · rename Fr g1 L1 _ _ => F5
    rename News g1 L1 _ _ => N5
    have k := kp F5 N5 (fun q hq => .tail _ hq)
    exact r1 _ _ _ (F.keeps k) (kept_news N k) (by assumption)
  · rename Fr g1 L1 _ _ => F5
    rename News g1 L1 _ _ => N5
    have k := kp F5 N5 (fun q hq => .tail _ hq)
    exact r2 _ _ _ (F.keeps k) (kept_news N k) (by assumption)
  · rename Fr g1 _ _ _ => F5
    rename News g1 _ _ _ => N5
    have k := kp F5 N5 (fun q hq => hq)
    exact r3 _ _ _ (F.keeps k) (kept_news N k) (Int.le_antisymm (Int.not_lt.mp (by assumption)) (Int.not_lt.mp (by assumption)))
end

end
section
noncomputable def addOne (a : List (Int × Int)) (p : Int × Int) : List (Int × Int) := kdfPut a p.1 (kdfLook a p.1 0 + p.2)
noncomputable def copyC (t : List (Int × Int)) : List (Int × Int) := t.foldl (fun a p => kdfPut a p.1 p.2) []
/-- the tables added up, key by key -/
noncomputable def addC (t s : List (Int × Int)) : List (Int × Int) := s.foldl addOne (copyC t)
theorem flat_at {kvs : List (Int × Value)} {c : List (Int × Int)} (hf : PyProof.V.FlatPairs PyData.int kvs (kdfD c)) {j : Nat} {k : Int} {v : Value} (hx : kvs[j]? = some (k, v)) : ∃ (x : Int) (t : Tok), c[j]? = some (k, x) ∧ v = Value.int x t := by
  obtain ⟨dv, hd, hfl⟩ := hf.at hx
  have hd' : (c[j]?).map (fun p => (PyData.int p.1, PyData.int p.2)) = some (PyData.int k, dv) := by rw [← List.getElem?_map]; exact hd
  cases hcj : c[j]? with
  | none => rw [hcj] at hd'; cases hd'
  | some p =>
    rw [hcj] at hd'
    have e2 : PyData.int p.2 = dv := congrArg Prod.snd (Option.some.inj hd')
    have e1 : PyData.int p.1 = PyData.int k := congrArg Prod.fst (Option.some.inj hd')
    rw [← e2] at hfl
    obtain ⟨t, rfl⟩ := PyProof.V.Flat.int_inv hfl
    exact ⟨p.2, t, by rw [← PyData.int.inj e1], rfl⟩
theorem foldl_len {f : List (Int × Int) → Int × Int → List (Int × Int)} (hf : ∀ a p, (f a p).length ≤ a.length + 1) : ∀ (l : List (Int × Int)) (a : List (Int × Int)), (l.foldl f a).length ≤ a.length + l.length
  | [], a => by simp
  | p :: l, a => by
    rw [List.foldl_cons]
    have := foldl_len hf l (f a p)
    have := hf a p
    rw [List.length_cons]; omega

theorem two_names {a b : Str} {va vb : Value} {m₁ m₀ : Str → Option Value} (hm : ∀ y, y ≠ a → y ≠ b → m₁ y = m₀ y) :
    (fun y => if y = a then some va else if y = b then some vb else m₁ y) = fun y => if y = a then some va else if y = b then some vb else m₀ y := by
  funext y
  by_cases h1 : y = a
  · simp only [if_pos h1]
  · by_cases h2 : y = b
    · simp only [if_neg h1, if_pos h2]
    · simp only [if_neg h1, if_neg h2]; exact hm y h1 h2
theorem two_left {a b : Str} {m₁ m₀ : Str → Option Value} (hm : ∀ y, y ≠ a → y ≠ b → m₁ y = m₀ y) :
    m₁ = fun y => if y = a then m₁ a else if y = b then m₁ b else m₀ y := by
  funext y
  by_cases h1 : y = a
  · subst h1; simp
  · by_cases h2 : y = b
    · subst h2; simp [h1]
    · simp only [if_neg h1, if_neg h2]; exact hm y h1 h2
theorem take_foldl {α : Type} {f : α → Int × Int → α} {a : α} {c : List (Int × Int)} {i : Nat} {p : Int × Int} (h : c[i]? = some p) : (c.take (i + 1)).foldl f a = f ((c.take i).foldl f a) p := by
  rw [List.take_add_one, h]; simp
theorem getItem_has {prog : Program} {w : World} {A : Around} {s : Shared} {E : Value → Shared → Prop} {h₀ : Heap} {L d : Addr} {news : List (Addr × Obj)} {o : Obj} {kvs : List (Int × Value)} {c : List (Int × Int)} {k : Int} {tk : Tok} {Q : Value → Shared → Prop}
    (N : News h₀ L s.heap news) (hm : (d, o) ∈ news) (hd : o.IsDictOf (PySem.intKind prog w) kvs) (hf : PyProof.V.FlatPairs PyData.int kvs (kdfD c)) (hk : kdfHas c k = true) (h : ∀ t, Q (.int (kdfLook c k 0) t) { s with toks := s.toks + 1 }) :
    wpAny (model prog w) A (getItem (.ref d) (.int k tk)) Q E s := by
  obtain ⟨v, hv, hfl⟩ := hf.of_lookup PyProof.V.same_int (kdfD_item hk)
  obtain ⟨t, rfl⟩ := PyProof.V.Flat.int_inv hfl
  exact wpAny_getItem_of (intKind_is _ _ _ _) (kda_dict N hm hd).mapOf hv (h t)
theorem look_none {c : List (Int × Int)} {k : Int} (h : kdfHas c k = false) : kdfLook c k 0 = 0 := by
  unfold kdfLook kdfHas at *
  rw [List.any_eq_false] at h
  rw [List.find?_eq_none.mpr (by simpa using h)]; rfl
theorem put_len (a : List (Int × Int)) (p : Int × Int) : (kdfPut a p.1 p.2).length ≤ a.length + 1 := kdfPut_len _ _ _

section
variable {prog : Program} {w : World} {p : Program} {loose : List Str} {mean : ExcName → Option Value} {mg mb : Str → Option Value}
set_option maxRecDepth 100000 in
set_option maxHeartbeats 8000000 in
theorem tells_callers (dt ds : Addr) (ct cs : List (Int × Int)) (lt : ct.length ≤ 1000) (ls : cs.length ≤ 1000) :
    Tells prog w p loose mean mg mb 63 [.ref dt, .ref ds] 2 20 (fun h => IntTab prog w h dt (kdfD ct) ∧ IntTab prog w h ds (kdfD cs))
      (fun h h' v => ∃ d od, v = .ref d ∧ h'.get? d = some od ∧ ODict prog w od (addC ct cs) ∧ (d == sysModules) = false ∧ h.get? d = none) := by
  unfold Tells
  rintro dp un fr gd s Q E X T hd hu ⟨⟨lot, kvt, hDt, hft⟩, ⟨los, kvs, hDs, hfs⟩⟩ ret
  have elt : kvt.length = ct.length := by rw [← hft.length, kdfD_length]
  have els : kvs.length = cs.length := by rw [← hfs.length, kdfD_length]
  refine wpAny_call ?_
  k_dflt ktr_rel
  ktr_unf
  rename Fr _ _ _ _ => F1
  rename News _ _ _ _ => N1'
  rename (_ == sysModules) = false => lo1'
  rename Obj.IsDictOf _ _ _ => hd1'
  rename PyProof.V.FlatPairs _ _ _ => hf1'
  obtain ⟨d1, o1, F1, N1, lo1, hd1, hf1⟩ : ∃ d1 o1, Fr s.heap _ _ (fun y => if y = Str.ofString "new_callers" then some (.ref d1) else List.lookup y [(Str.ofString "source", Value.ref ds), (Str.ofString "target", Value.ref dt)]) ∧ News s.heap _ _ [(d1, o1)] ∧ (d1 == sysModules) = false ∧ o1.IsDictOf (PySem.intKind prog w) [] ∧ PyProof.V.FlatPairs PyData.int [] [] := ⟨_, _, F1, N1', lo1', hd1', hf1'⟩
  let m₀ : Str → Option Value := fun y => if y = Str.ofString "new_callers" then some (.ref d1) else List.lookup y [(Str.ofString "source", Value.ref ds), (Str.ofString "target", Value.ref dt)]
  have F1' : Fr s.heap _ _ m₀ := F1
  refine for_items (knd := PySem.intKind prog w) (kvs := kvt) (d := dt) (h₀ := s.heap) (m := m₀) (news := [(d1, o1)]) (by rfl) (by rfl) (by rfl) (by rfl) lot hDt F1' N1 (by rfl) (by rfl) ?ho
    (fun i m news => (∀ y, y ≠ Str.ofString "caller" → y ≠ Str.ofString "func" → m y = m₀ y) ∧ ∃ o, news = [(d1, o)] ∧ ODict prog w o ((ct.take i).foldl (fun a p => kdfPut a p.1 p.2) [])) ?h0 ?step ?done (by intro _; rfl)
  case ho => intro Q' hQ'; exact ld F1' (by rfl) hQ'
  case h0 => exact ⟨fun _ _ _ => rfl, o1, rfl, [], hd1, hf1⟩
  case step =>
    rintro i k v key m₁ news₁ h tk it o hkv hkey hoff ⟨hm, o2, rfl, kv2, hd2, hf2⟩ F2 N2
    obtain ⟨x, tx, hcx, rfl⟩ := flat_at hft hkv
    obtain ⟨tkey, rfl⟩ := Value.isInt_shape hkey
    rw [two_names hm] at F2
    have hne : d1 ≠ it := hoff (d1, o2) (.head _)
    ktr_unf
    refine kdf_setItem F2 N2 (UpdF.tail hne.symm (UpdF.head fun _ h => nomatch h)) hd2 hf2 ?_ fun h' o' kvs' F3 N3 hd3 hf3 => ?_
    · have := foldl_len put_len (ct.take i) []
      have h2 := List.length_take_le' i ct
      simp only [List.length_nil] at this; omega
    · ktr_unf
      refine StepEnd.intro F3 N3 (.head _) (news₂ := [(d1, o')]) (fun q hq => .tail _ hq) (fun q hq => by rw [List.mem_singleton.mp hq]; exact hne) ⟨fun y h1 h2 => ?_, o', rfl, kvs', hd3, ?_⟩
      · simp only [if_neg h1, if_neg h2]
      · rw [take_foldl hcx]; exact hf3
  case done =>
    rintro h4 tk4 m4 news4 F4 N4 ⟨hm, o2, rfl, kv2, hd2, hf2⟩
    rw [elt, List.take_length] at hf2
    rw [two_left hm] at F4
    clear hm F1 N1 F1'
    ktr_unf
    let m₂ : Str → Option Value := fun y => if y = Str.ofString "caller" then m4 (Str.ofString "caller") else if y = Str.ofString "func" then m4 (Str.ofString "func") else m₀ y
    have F4' : Fr s.heap _ _ m₂ := F4
    have lc : (copyC ct).length ≤ ct.length := by have := foldl_len put_len ct []; simp only [List.length_nil] at this; show (List.foldl (fun a p => kdfPut a p.1 p.2) [] ct).length ≤ _; omega
    have ladd : ∀ a p, (addOne a p).length ≤ a.length + 1 := fun a p => kdfPut_len _ _ _
    refine for_items (knd := PySem.intKind prog w) (kvs := kvs) (d := ds) (h₀ := s.heap) (m := m₂) (news := [(d1, o2)]) (by rfl) (by rfl) (by rfl) (by rfl) los hDs F4' N4 (by rfl) (by rfl) ?ho
      (fun i m news => (∀ y, y ≠ Str.ofString "caller" → y ≠ Str.ofString "func" → m y = m₀ y) ∧ ∃ o, news = [(d1, o)] ∧ ODict prog w o ((cs.take i).foldl addOne (copyC ct))) ?h0 ?step ?done (by intro _; rfl)
    case ho => intro Q' hQ'; exact ld F4' (by rfl) hQ'
    case h0 => exact ⟨fun y h1 h2 => by simp only [m₂, if_neg h1, if_neg h2], o2, rfl, kv2, hd2, hf2⟩
    case done =>
      rintro h5 tk5 m5 news5 F5 N5 ⟨hm, o3, rfl, kv3, hd3, hf3⟩
      rw [els, List.take_length] at hf3
      rw [two_left hm] at F5
      clear hm F4 N4 F4'
      ktr_unf
      exact ret _ _ _ F5.keep ⟨d1, o3, rfl, N5.get (.head _), ⟨kv3, hd3, hf3⟩, lo1, N5.fresh (.head _)⟩
    case step =>
      rintro i k v key m₁ news₁ h tk it o hkv hkey hoff ⟨hm, o3, rfl, kv3, hd3, hf3⟩ F5 N5
      obtain ⟨x, tx, hcx, rfl⟩ := flat_at hfs hkv
      obtain ⟨tkey, rfl⟩ := Value.isInt_shape hkey
      rw [two_names hm] at F5
      have hne : d1 ≠ it := hoff (d1, o3) (.head _)
      have l2 := List.length_take_le' i cs
      have l3 := foldl_len ladd (cs.take i) (copyC ct)
      ktr_unf
      · refine getItem_has N5 (.tail _ (.head _)) hd3 hf3 (by assumption) fun t => ?_
        ktr_unf
        refine kdf_setItem F5 N5 (UpdF.tail hne.symm (UpdF.head fun _ h => nomatch h)) hd3 hf3 (by omega) fun h' o' kvs' F3 N3 hd4 hf4 => ?_
        ktr_unf
        refine StepEnd.intro F3 N3 (.head _) (news₂ := [(d1, o')]) (fun q hq => .tail _ hq) (fun q hq => by rw [List.mem_singleton.mp hq]; exact hne) ⟨fun y h1 h2 => ?_, o', rfl, kvs', hd4, ?_⟩
        · simp only [if_neg h1, if_neg h2]
        · rw [take_foldl hcx]; exact hf4
      · refine kdf_setItem F5 N5 (UpdF.tail hne.symm (UpdF.head fun _ h => nomatch h)) hd3 hf3 (by omega) fun h' o' kvs' F3 N3 hd4 hf4 => ?_
        ktr_unf
        refine StepEnd.intro F3 N3 (.head _) (news₂ := [(d1, o')]) (fun q hq => .tail _ hq) (fun q hq => by rw [List.mem_singleton.mp hq]; exact hne) ⟨fun y h1 h2 => ?_, o', rfl, kvs', hd4, ?_⟩
        · simp only [if_neg h1, if_neg h2]
        · rw [take_foldl hcx]; show PyProof.V.FlatPairs _ _ (kdfD (kdfPut _ _ _)); rw [look_none (by assumption), Int.zero_add]; exact hf4
end

end
section
section
variable {prog : Program} {w : World} {p : Program} {loose : List Str} {mean : ExcName → Option Value} {mg mb : Str → Option Value}
theorem IsProf.tup {h₀ h : Heap} {v : Value} {cc nc tt ct : Int} {c : List (Int × Int)} (x : IsProf prog w h₀ h v cc nc tt ct c) :
    ∃ (t d : Addr) (t1 t2 t3 t4 : Tok), v = .ref t ∧ IsTup h t [Value.int cc t1, Value.int nc t2, Value.int tt t3, Value.int ct t4, Value.ref d].toArray ∧ IntTab prog w h d (kdfD c) := by
  obtain ⟨t, d, od, t1, t2, t3, t4, rfl, ht, hd, ⟨kvs, h1, h2⟩, lo, _⟩ := x
  exact ⟨t, d, t1, t2, t3, t4, rfl, ⟨_, ht, rfl, _, rfl⟩, TabAt.ofObj lo hd h1 h2⟩
theorem IsProf.any {h₀ h : Heap} {v : Value} {cc nc tt ct : Int} {c : List (Int × Int)} (x : IsProf prog w h₀ h v cc nc tt ct c) : IsProf prog w {} h v cc nc tt ct c := by
  obtain ⟨t, d, od, t1, t2, t3, t4, rfl, ht, hd, ho, lo, _, _, ne⟩ := x
  exact ⟨t, d, od, t1, t2, t3, t4, rfl, ht, hd, ho, lo, rfl, rfl, ne⟩
theorem IsProf.keeps {h₀ h h' : Heap} {v : Value} {cc nc tt ct : Int} {c : List (Int × Int)} (x : IsProf prog w h₀ h v cc nc tt ct c) (k : Keeps h h') : IsProf prog w h₀ h' v cc nc tt ct c := by
  obtain ⟨t, d, od, t1, t2, t3, t4, rfl, ht, hd, r1, r2, r3, r4, r5⟩ := x
  exact ⟨t, d, od, t1, t2, t3, t4, rfl, k _ _ ht, k _ _ hd, r1, r2, r3, r4, r5⟩
theorem IsProf.isRef {h₀ h : Heap} {v : Value} {cc nc tt ct : Int} {c : List (Int × Int)} (x : IsProf prog w h₀ h v cc nc tt ct c) : ∃ t, v = .ref t := by
  obtain ⟨t, d, od, t1, t2, t3, t4, rfl, _⟩ := x
  exact ⟨t, rfl⟩
/-- what a call hands back goes onto the ledger -/
theorem IsProf.led {h h' h₀ : Heap} {L : Addr} {m : Str → Option Value} {news : List (Addr × Obj)} {v : Value} {cc nc tt ct : Int} {c : List (Int × Int)} (x : IsProf prog w h h' v cc nc tt ct c) (F : Fr h₀ L h m) (N : News h₀ L h' news) :
    ∃ (t d : Addr) (od : Obj) (t1 t2 t3 t4 : Tok), v = .ref t ∧ News h₀ L h' ((t, { cls := .type "tuple", data := .seq [Value.int cc t1, Value.int nc t2, Value.int tt t3, Value.int ct t4, Value.ref d].toArray }) :: (d, od) :: news) ∧ ODict prog w od c ∧ (d == sysModules) = false ∧ t ≠ d ∧ h.get? t = none ∧ h.get? d = none := by
  obtain ⟨t, d, od, t1, t2, t3, t4, rfl, ht, hd, ho, lo, f1, f2, ne⟩ := x
  exact ⟨t, d, od, t1, t2, t3, t4, rfl, news_add F f1 ht (news_add F f2 hd N), ho, lo, ne, f1, f2⟩
theorem IsProf.ledC {h h' h₀ : Heap} {L : Addr} {m : Str → Option Value} {news : List (Addr × Obj)} {v : Value} {cc nc tt ct : Int} {c : List (Int × Int)} (x : IsProf prog w h h' v cc nc tt ct c) (F : Fr h₀ L h m) (N : News h₀ L h' news) (C : Prop)
    (k : ∀ (t d : Addr) (od : Obj) (t1 t2 t3 t4 : Tok), v = .ref t → News h₀ L h' ((t, { cls := .type "tuple", data := .seq [Value.int cc t1, Value.int nc t2, Value.int tt t3, Value.int ct t4, Value.ref d].toArray }) :: (d, od) :: news) → ODict prog w od c → (d == sysModules) = false → t ≠ d → h.get? t = none → h.get? d = none → C) : C := by
  obtain ⟨t, d, od, t1, t2, t3, t4, rfl, ht, hd, ho, lo, f1, f2, ne⟩ := x
  exact k t d od t1 t2 t3 t4 rfl (news_add F f1 ht (news_add F f2 hd N)) ho lo ne f1 f2
set_option maxRecDepth 100000 in
set_option maxHeartbeats 8000000 in
theorem tells_stats (v1 v2 : Value) (a1 a2 a3 a4 b1 b2 b3 b4 : Int) (ca cb : List (Int × Int)) (la : ca.length ≤ 1000) (lb : cb.length ≤ 1000) :
    Tells prog w p loose mean mg mb 56 [v1, v2] 4 40 (fun h => IsProf prog w {} h v1 a1 a2 a3 a4 ca ∧ IsProf prog w {} h v2 b1 b2 b3 b4 cb)
      (fun h h' v => IsProf prog w h h' v (b1 + a1) (b2 + a2) (b3 + a3) (b4 + a4) (addC ca cb)) := by
  unfold Tells
  rintro dp un fr gd s Q E X T hd hu ⟨hp1, hp2⟩ ret
  obtain ⟨ta, da, s1, s2, s3, s4, rfl, hta, hda⟩ := hp1.tup
  obtain ⟨tb, db, u1, u2, u3, u4, rfl, htb, hdb⟩ := hp2.tup
  refine wpAny_call ?_
  k_dflt ktr_rel
  ktr_unf
  refine (tells_callers da db ca cb la lb).use (by assumption) X T (by show dp + 1 + 2 < _; exact room_le (k := 3) (by assumption) (by decide)) (by show un + 3 + 20 < _; exact room_le (k := 23) (by assumption) (by decide)) ⟨hda.keep (Fr.keep (by assumption)), hdb.keep (Fr.keep (by assumption))⟩ ?_
  rintro v h2 tk2 k2 F2 ⟨d, od, rfl, hod, ⟨kvs, hd1, hf1⟩, lo, hfresh⟩
  have N2 : News s.heap _ h2 [(d, od)] := news_add (by assumption) hfresh hod News.nil
  ktr_unf
  refine ret _ _ _ (Fr.keep (by assumption)) ?_
  exact IsProf.of_news (by assumption) (.head _) (.tail _ (.head _)) hd1 hf1 rfl lo (by k_ne) rfl rfl rfl rfl
end

end
section
section
variable {prog : Program} {w : World} {p : Program} {loose : List Str} {mean : ExcName → Option Value} {mg mb : Str → Option Value}
set_option maxRecDepth 100000 in
set_option maxHeartbeats 8000000 in
theorem tells_deed (way place : Int) (t1 t2 : Tok) (h1 : -3 ≤ way ∧ way ≤ 3) (h2 : 0 ≤ place ∧ place < 100) :
    Tells prog w p loose mean mg mb 136 [.int way t1, .int place t2] 2 20 (fun _ => True)
      (fun h h' v => IsProf prog w h h' v way (if way < 0 then 1 else 0) (way * place) (way * place * place) [(place, way)]) := by
  unfold Tells
  intro dp un fr gd s Q E X T hd hu hpre ret
  refine wpAny_call ?_
  k_dflt ktr_rel
  ktr_unf
  all_goals (
    k_dflt (refine' kdn_eval (knd := PySem.intKind _ _) ?F ?N ?b ?a ?l ?e ?n ?_; (case F => k_asm); (case N => k_asm); (case b => exact Top.nolimit (by k_asm)); (case a => rfl); (case l => rfl); (case e => exact List.cons_ne_nil _ _); (case n => exact Nat.le_of_ble_eq_true rfl)); intro d' h' o' F' N' l1 lo' hd'; (try k_lt l1)
    ktr_unf)
  all_goals (
    refine ret _ _ _ (Fr.keep (by k_asm)) ?_
    refine IsProf.of_news (by k_asm) (by k_mem) (by k_mem) (by assumption) (by assumption) (by rfl) (by assumption) (by k_ne) (by rfl) (by simp_all) (by rfl) (by rfl))
end

end
section
/-- a profile as plain data -/
noncomputable abbrev Prof := Int × Int × Int × Int × List (Int × Int)
noncomputable def deedP (way place : Int) : Prof := (way, if way < 0 then 1 else 0, way * place, way * place * place, [(place, way)])
/-- add_func_stats(target, source) -/
noncomputable def addP (t s : Prof) : Prof := (s.1 + t.1, s.2.1 + t.2.1, s.2.2.1 + t.2.2.1, s.2.2.2.1 + t.2.2.2.1, addC t.2.2.2.2 s.2.2.2.2)
noncomputable def IsP (prog : Program) (w : World) (h₀ h : Heap) (v : Value) (P : Prof) : Prop := IsProf prog w h₀ h v P.1 P.2.1 P.2.2.1 P.2.2.2.1 P.2.2.2.2
theorem addOne_len (a : List (Int × Int)) (p : Int × Int) : (addOne a p).length ≤ a.length + 1 := kdfPut_len _ _ _
theorem copyC_len (c : List (Int × Int)) : (copyC c).length ≤ c.length := by
  have := foldl_len put_len c []
  simp only [List.length_nil] at this
  show (List.foldl (fun a p => kdfPut a p.1 p.2) [] c).length ≤ _
  omega
theorem addC_len (a b : List (Int × Int)) : (addC a b).length ≤ a.length + b.length := by
  have := foldl_len addOne_len b (copyC a)
  have := copyC_len a
  unfold addC; omega

end
section
/-- one box of the carrier's way -/
noncomputable def carStep (room : Int) (a : Int × Prof) (i : Int) (b : Int) : Int × Prof :=
  if b = 1 then (if a.1 < room then (a.1 + 1, addP a.2 (deedP (-1) i)) else a) else if 0 < a.1 then (a.1 - 1, addP (deedP 1 i) a.2) else a
noncomputable def carLoop (room : Int) (row : List Int) : Nat → Int × Prof
  | 0 => (0, (0, 0, 0, 0, []))
  | n + 1 => carStep room (carLoop room row n) n (row.getD n 0)
theorem one_of_two {a b : Str} {va : Value} {m₁ m₀ : Str → Option Value} (hm : ∀ y, y ≠ a → y ≠ b → m₁ y = m₀ y) :
    (fun y => if y = a then some va else m₁ y) = fun y => if y = a then some va else if y = b then m₁ b else m₀ y := by
  funext y
  by_cases h1 : y = a
  · simp only [if_pos h1]
  · by_cases h2 : y = b
    · subst h2; simp [h1]
    · simp only [if_neg h1, if_neg h2]; exact hm y h1 h2
theorem carLoop_len (room : Int) (row : List Int) : ∀ n, (carLoop room row n).2.2.2.2.2.length ≤ n
  | 0 => Nat.le_refl _
  | n + 1 => by
    have ih := carLoop_len room row n
    show (carStep room (carLoop room row n) n (row.getD n 0)).2.2.2.2.2.length ≤ _
    unfold carStep
    split
    · split
      · have := addC_len (carLoop room row n).2.2.2.2.2 [((n : Int), -1)]
        show (addC _ [((n : Int), -1)]).length ≤ _
        simp only [List.length_cons, List.length_nil] at this; omega
      · omega
    · split
      · have := addC_len [((n : Int), 1)] (carLoop room row n).2.2.2.2.2
        show (addC [((n : Int), 1)] _).length ≤ _
        simp only [List.length_cons, List.length_nil] at this; omega
      · omega
theorem carLoop_held (room : Int) (hr : 0 ≤ room) (row : List Int) : ∀ n, 0 ≤ (carLoop room row n).1 ∧ (carLoop room row n).1 ≤ room
  | 0 => ⟨Int.le_refl _, hr⟩
  | n + 1 => by
    have ih := carLoop_held room hr row n
    show 0 ≤ (carStep room (carLoop room row n) n (row.getD n 0)).1 ∧ (carStep room (carLoop room row n) n (row.getD n 0)).1 ≤ room
    unfold carStep
    split <;> split <;> (try dsimp only) <;> omega
section
variable {prog : Program} {w : World} {p : Program} {loose : List Str} {mean : ExcName → Option Value} {mg mb : Str → Option Value}
set_option maxRecDepth 100000 in
set_option maxHeartbeats 8000000 in
theorem tells_carrier (l : Addr) (vs : List Value) (row : List Int) (room way : Int) (tr tw : Tok) (hi : IntsAre vs row) (hlen : row.length ≤ 40) (hroom : 1 ≤ room ∧ room ≤ 3) (hway : -3 ≤ way ∧ way ≤ 3 ∧ way ≠ 0) :
    Tells prog w p loose mean mg mb 143 [.ref l, .int room tr, .int way tw] 8 80 (fun h => h.IsList l vs.toArray)
      (fun h h' v => IsP prog w h h' v (carLoop room row row.length).2) := by
  unfold Tells
  rintro dp un fr gd s Q E X T hd hu hl ret
  refine wpAny_call ?_
  k_dflt ktr_rel
  ktr_unf
  k_dflt (refine' call_cls ?k1 ?k2 ?k3 ?k4 ?k5 ?k6 ?_; (case k1 => k_asm); (case k2 => k_asm); (case k3 => k_asm); (case k4 => k_is); (case k5 => k_is); (case k6 => k_is); k_whole; intro x' d' h' F' N' l1 l2; (try k_lt l1); (try k_lt2 l2); (try k_sweep))
  k_dflt ktr_rel
  ktr_unf
  refine For_invV s.heap (by rfl) (by rfl) ?_
  ktr_unf
  rename_i d0 _ o0 lo0 _ _ hi0 fi0 _ t0 _ _ _ _ _ h9 tk9 ta ua va hR F10 N10 hk10
  obtain ⟨base, hb, N11⟩ : ∃ base, base = _ ∧ News s.heap _ h9 ((t0, _) :: (d0, o0) :: base) := ⟨_, rfl, N10⟩
  let m₀ : Str → Option Value := fun y => if y = Str.ofString "order" then some (.ref x') else List.lookup y [(Str.ofString "way", Value.int way tw), (Str.ofString "room", Value.int room tr), (Str.ofString "row", Value.ref l)]
  refine iter_range (n := row.length) (fun i m news => ∀ C : Prop, (∀ (th t1 t2 t3 t4 : Tok) (t d : Addr) (od : Obj),
      (∀ y, y ≠ Str.ofString "place" → y ≠ Str.ofString "told" → m y = if y = Str.ofString "deeds" then some (.ref t) else if y = Str.ofString "held" then some (.int (carLoop room row i).1 th) else m₀ y) →
      ODict prog w od (carLoop room row i).2.2.2.2.2 → (d == sysModules) = false → t ≠ d →
      news = (t, { cls := .type "tuple", data := .seq [Value.int (carLoop room row i).2.1 t1, Value.int (carLoop room row i).2.2.1 t2, Value.int (carLoop room row i).2.2.2.1 t3, Value.int (carLoop room row i).2.2.2.2.1 t4, Value.ref d].toArray }) :: (d, od) :: base → C) → C)
    (by rfl) hR ?hs ?hn F10 N11 ?h0 ?step ?done
  case hs => exact small_len (Nat.le_trans (by assumption) (by decide))
  case hn => exact rangeSize_nat _ _
  case h0 => exact fun C k => k _ _ _ _ _ t0 d0 o0 (fun y h1 h2 => by by_cases h3 : y = Str.ofString "deeds" <;> by_cases h4 : y = Str.ofString "held" <;> simp only [h3, h4, if_true, if_false, m₀] <;> (try rfl)) ⟨[], hi0, fi0⟩ lo0 (by k_ne) rfl
  case done =>
    intro m₁ news₁ h tk hJ F11 N12
    refine hJ _ fun th t1 t2 t3 t4 t d od hm hod lod htd hnw => ?_
    obtain ⟨kv, hd1, hf1⟩ := hod
    subst hnw
    subst hb
    have e : m₁ = fun y => if y = Str.ofString "place" then m₁ y else if y = Str.ofString "told" then m₁ y else if y = Str.ofString "deeds" then some (.ref t) else if y = Str.ofString "held" then some (.int (carLoop room row row.length).1 th) else m₀ y := by
      funext y
      by_cases h1 : y = Str.ofString "place"
      · simp only [if_pos h1]
      · by_cases h2 : y = Str.ofString "told"
        · simp only [if_neg h1, if_pos h2]
        · simp only [if_neg h1, if_neg h2]; exact hm y h1 h2
    rw [e] at F11
    ktr_unf
    exact ret _ _ _ F11.keep (IsProf.of_news N12 (by k_mem) (by k_mem) hd1 hf1 rfl lod htd rfl rfl rfl rfl)
  case step =>
    intro i t m₁ news₁ h tk it o hin hoff hJ F11 N12
    refine hJ _ fun th t1 t2 t3 t4 t d od hm hod lod htd hnw => ?_
    obtain ⟨kv, hd1, hf1⟩ := hod
    subst hnw
    subst hb
    rw [one_of_two hm] at F11
    simp only [Int.zero_add] at F11
    obtain ⟨tb, hvb⟩ := hi.get i (row.getD i 0) (by simp [hin])
    have hheld := carLoop_held room (by omega) row i
    ktr_unf
    all_goals (rename Fr s.heap _ _ _ => F11)
    all_goals (rename News s.heap _ _ _ => N12)
    all_goals (refine cmp_call F11 N12 (x := x') (by k_mem) (by k_mem) (by k_dflt k_get) (by k_mem) (by k_mem) (by k_mem) (by k_mem) X T ⟨hway.1, hway.2.1⟩ (by show dp + 1 + 3 < _; exact room_le (k := 4) (by assumption) (by decide)) (by show un + 3 + 40 < _; exact room_le (k := 43) (by assumption) (by decide)) ?_ ?_ ?_)
    all_goals (intro h12 tk12 t12 F12 N13 hcmp)
    all_goals clear F11 N12
    all_goals (try (exfalso; omega))
    all_goals ktr_unf
    all_goals (try (exfalso; omega))
    · have hb1 : row.getD i 0 = 1 := by simpa using (by assumption : row.getD (Int.toNat ↑i) 0 = 1)
      have hlt : (carLoop room row i).1 < room := by assumption
      have e1 : carLoop room row (i + 1) = ((carLoop room row i).1 + 1, addP (carLoop room row i).2 (deedP (-1) i)) := by
        show carStep room (carLoop room row i) i (row.getD i 0) = _
        unfold carStep; rw [if_pos hb1, if_pos hlt]
      rename News s.heap _ _ _ => N13
      rename Fr s.heap _ _ _ => F13
      have hp1 : IsP prog w s.heap _ (.ref t) (carLoop room row i).2 := IsProf.of_news N13 (by k_mem) (by k_mem) hd1 hf1 rfl lod htd rfl rfl rfl rfl
      refine (tells_deed (-1) i _ _ (by omega) (by omega)).use F13 X T (by show dp + 1 + 2 < _; exact room_le (k := 3) (by assumption) (by decide)) (by show un + 3 + 20 < _; exact room_le (k := 23) (by assumption) (by decide)) trivial ?_
      rintro v h2 tk2 k2 F2 hp2
      obtain ⟨t5, rfl⟩ := hp2.isRef
      have hl1 := carLoop_len room row i
      ktr_unf
      refine (tells_stats (.ref t) (.ref t5) _ _ _ _ _ _ _ _ _ _ (by first | omega | (simp; done)) (by first | omega | (simp; done))).use F2 X T (by show dp + 1 + 4 < _; exact room_le (k := 5) (by assumption) (by decide)) (by show un + 3 + 40 < _; exact room_le (k := 43) (by assumption) (by decide)) ⟨(hp1.keeps k2).any, hp2.any⟩ ?_
      rintro v h3 tk3 k3 F3 hp3
      refine hp3.ledC F2 (kept_news (kept_news N13 k2) k3) _ fun t6 d6 od6 s1 s2 s3 s4 hvL N6 ho6 lo6 ne6 f1 f2 => ?_
      subst hvL
      have g1 : it ≠ t6 := news_ne (kept_news N13 k2) f1 (it, o) (by k_mem)
      have g2 : it ≠ d6 := news_ne (kept_news N13 k2) f2 (it, o) (by k_mem)
      ktr_unf
      rename News s.heap _ _ _ => N14
      rename Fr s.heap _ _ _ => F14
      refine StepEnd.intro F14 N14 (by k_mem) (fun q hq => ?_) (fun q hq => ?_) (fun C k => k _ s1 s2 s3 s4 t6 d6 od6 (by rw [e1]; exact map_is (by decide) rfl rfl (fun y h1 h2 h3 h4 => by simp only [h1, h2, h3, h4, if_false])) (by rw [e1]; exact ho6) lo6 ne6 (by rw [e1]))
      · (simp only [List.mem_cons, List.not_mem_nil, or_false] at hq); (rcases hq with rfl | rfl | rfl | rfl | rfl | rfl) <;> k_mem
      · (simp only [List.mem_cons, List.not_mem_nil, or_false] at hq); (rcases hq with rfl | rfl | rfl | rfl | rfl | rfl) <;> first | exact Ne.symm g1 | exact Ne.symm g2 | exact hoff _ (by k_mem)
    · have hb1 : row.getD i 0 = 1 := by simpa using (by assumption : row.getD (Int.toNat ↑i) 0 = 1)
      have hlt : ¬ (carLoop room row i).1 < room := by rw [hcmp]; exact Int.lt_irrefl _
      have e1 : carLoop room row (i + 1) = carLoop room row i := by
        show carStep room (carLoop room row i) i (row.getD i 0) = _
        unfold carStep; rw [if_pos hb1, if_neg hlt]
      have g1 : it ≠ t := Ne.symm (hoff (t, _) (.head _))
      have g2 : it ≠ d := Ne.symm (hoff (d, _) (.tail _ (.head _)))
      rename News s.heap _ _ _ => N14
      rename Fr s.heap _ _ _ => F14
      refine StepEnd.intro F14 N14 (by k_mem) (fun q hq => ?_) (fun q hq => ?_) (fun C k => k _ t1 t2 t3 t4 t d od (by rw [e1]; exact map_is (by decide) rfl rfl (fun y h1 h2 h3 h4 => by simp only [h1, h2, h3, h4, if_false])) (by rw [e1]; exact ⟨kv, hd1, hf1⟩) lod htd (by rw [e1]))
      · (simp only [List.mem_cons, List.not_mem_nil, or_false] at hq); (rcases hq with rfl | rfl | rfl | rfl | rfl | rfl) <;> k_mem
      · (simp only [List.mem_cons, List.not_mem_nil, or_false] at hq); (rcases hq with rfl | rfl | rfl | rfl | rfl | rfl) <;> first | exact Ne.symm g1 | exact Ne.symm g2 | exact hoff _ (by k_mem)
    · have hb1 : ¬ row.getD i 0 = 1 := by simpa using (by assumption : row.getD (Int.toNat ↑i) 0 ≠ 1)
      have hlt : 0 < (carLoop room row i).1 := by assumption
      have e1 : carLoop room row (i + 1) = ((carLoop room row i).1 - 1, addP (deedP 1 i) (carLoop room row i).2) := by
        show carStep room (carLoop room row i) i (row.getD i 0) = _
        unfold carStep; rw [if_neg hb1, if_pos hlt]
      rename News s.heap _ _ _ => N13
      rename Fr s.heap _ _ _ => F13
      have hp1 : IsP prog w s.heap _ (.ref t) (carLoop room row i).2 := IsProf.of_news N13 (by k_mem) (by k_mem) hd1 hf1 rfl lod htd rfl rfl rfl rfl
      refine (tells_deed (1) i _ _ (by omega) (by omega)).use F13 X T (by show dp + 1 + 2 < _; exact room_le (k := 3) (by assumption) (by decide)) (by show un + 3 + 20 < _; exact room_le (k := 23) (by assumption) (by decide)) trivial ?_
      rintro v h2 tk2 k2 F2 hp2
      obtain ⟨t5, rfl⟩ := hp2.isRef
      have hl1 := carLoop_len room row i
      ktr_unf
      refine (tells_stats (.ref t5) (.ref t) _ _ _ _ _ _ _ _ _ _ (by first | omega | (simp; done)) (by first | omega | (simp; done))).use F2 X T (by show dp + 1 + 4 < _; exact room_le (k := 5) (by assumption) (by decide)) (by show un + 3 + 40 < _; exact room_le (k := 43) (by assumption) (by decide)) ⟨hp2.any, (hp1.keeps k2).any⟩ ?_
      rintro v h3 tk3 k3 F3 hp3
      refine hp3.ledC F2 (kept_news (kept_news N13 k2) k3) _ fun t6 d6 od6 s1 s2 s3 s4 hvL N6 ho6 lo6 ne6 f1 f2 => ?_
      subst hvL
      have g1 : it ≠ t6 := news_ne (kept_news N13 k2) f1 (it, o) (by k_mem)
      have g2 : it ≠ d6 := news_ne (kept_news N13 k2) f2 (it, o) (by k_mem)
      ktr_unf
      rename News s.heap _ _ _ => N14
      rename Fr s.heap _ _ _ => F14
      refine StepEnd.intro F14 N14 (by k_mem) (fun q hq => ?_) (fun q hq => ?_) (fun C k => k _ s1 s2 s3 s4 t6 d6 od6 (by rw [e1]; exact map_is (by decide) rfl rfl (fun y h1 h2 h3 h4 => by simp only [h1, h2, h3, h4, if_false])) (by rw [e1]; exact ho6) lo6 ne6 (by rw [e1]))
      · (simp only [List.mem_cons, List.not_mem_nil, or_false] at hq); (rcases hq with rfl | rfl | rfl | rfl | rfl | rfl) <;> k_mem
      · (simp only [List.mem_cons, List.not_mem_nil, or_false] at hq); (rcases hq with rfl | rfl | rfl | rfl | rfl | rfl) <;> first | exact Ne.symm g1 | exact Ne.symm g2 | exact hoff _ (by k_mem)
    · have hb1 : ¬ row.getD i 0 = 1 := by simpa using (by assumption : row.getD (Int.toNat ↑i) 0 ≠ 1)
      have hlt : ¬ 0 < (carLoop room row i).1 := by rw [hcmp]; exact Int.lt_irrefl _
      have e1 : carLoop room row (i + 1) = carLoop room row i := by
        show carStep room (carLoop room row i) i (row.getD i 0) = _
        unfold carStep; rw [if_neg hb1, if_neg hlt]
      have g1 : it ≠ t := Ne.symm (hoff (t, _) (.head _))
      have g2 : it ≠ d := Ne.symm (hoff (d, _) (.tail _ (.head _)))
      rename News s.heap _ _ _ => N14
      rename Fr s.heap _ _ _ => F14
      refine StepEnd.intro F14 N14 (by k_mem) (fun q hq => ?_) (fun q hq => ?_) (fun C k => k _ t1 t2 t3 t4 t d od (by rw [e1]; exact map_is (by decide) rfl rfl (fun y h1 h2 h3 h4 => by simp only [h1, h2, h3, h4, if_false])) (by rw [e1]; exact ⟨kv, hd1, hf1⟩) lod htd (by rw [e1]))
      · (simp only [List.mem_cons, List.not_mem_nil, or_false] at hq); (rcases hq with rfl | rfl | rfl | rfl | rfl | rfl) <;> k_mem
      · (simp only [List.mem_cons, List.not_mem_nil, or_false] at hq); (rcases hq with rfl | rfl | rfl | rfl | rfl | rfl) <;> first | exact Ne.symm g1 | exact Ne.symm g2 | exact hoff _ (by k_mem)
end

end
section
section
variable {prog : Program} {w : World} {A : Around} {E : Value → Shared → Prop} {s : Shared} {K : Frag} {x C L : Addr} {ox : Obj} {od : Option Obj} {name : Str} {h₀ : Heap} {m mg mb : Str → Option Value} {news : List (Addr × Obj)} {p : Program} {loose : List Str} {mean : ExcName → Option Value}
/-- a method's name that the object's own dict bears: the own value -/
theorem method_shadow {f : Addr} {pl : Sem Bool} {Q : Value × List Value → Shared → Prop} (X : K.In s.heap) (I : W.InstAt s.heap x ox C od) (hg : plainGet K C name = true)
    (hf : findIn K (.ref C) name = some (some (.ref f))) (ht : isFn K (.ref f) = true) (hs : shadowIn od name = some true)
    (h : wpAny (model prog w) A (getAttr (.ref x) name) (fun v => Q (v, [])) E s) :
    wpAny (model prog w) A (getMethod (.ref x) name pl) Q E s := by
  have hcan := PySem.F.canon_object_ga
  obtain ⟨hga, hk⟩ := plainGet_of hg
  have u : wpAny (model prog w) A (do return (← getAttr (.ref x) name, ([] : List Value))) Q E s := wpAny_bind (wpAny_mono h (fun _ _ z => wpAny_pure z) fun _ _ z => z)
  unfold getMethod specialOf
  refine wpAny_bind (wpAny_bind (I.type.here ((looks_findIn X hga).here ?_)))
  dsimp only
  rw [hcan, if_neg (by decide)]
  refine wpAny_bind (wpAny_bind (I.type.here ((looks_findIn X hk).here ?_)))
  refine wpAny_bind (wpAny_bind (I.type.here ((looks_findIn X hf).here (wpAny_bind ((looks_typeIn X (beq_iff_eq.mp ht)).here ?_)))))
  rw [if_neg (by decide +kernel)]
  refine wpAny_bind (wpAny_loadPart I.at_ ?_)
  have hd := I.dict
  cases od with
  | none => cases hs
  | some o =>
    cases e : ox.dict with
    | none => rw [e] at hd; exact hd.elim
    | some dx =>
      rw [e] at hd
      obtain ⟨r, a, b⟩ := Option.map_eq_some_iff.mp hs
      refine wpAny_bind (wpAny_bind (wpAny_loadPart hd ?_))
      rw [nsLook_of a]
      refine wpAny_pure ?_
      rw [b]
      exact u
/-- entering a def some of whose names are captured -/
theorem enterC {R : Result → Shared → Prop} {name qual : Str} {params : Arguments} {body : List Stmt} {scope : Scope} {dV kV doc pm cdv ct oc : Value} {an oda : Option Addr} {osl : Array (Option Value)} {f : Addr} {args : Args} {binds : List (Str × Value)}
    (k0 : Keeps h₀ s.heap) (X₀ : K.In h₀) (T : Top p loose mean mg mb h₀) (hn : ∀ p ∈ news, s.heap.get? p.1 = some p.2 ∧ h₀.get? p.1 = none)
    (ho : K.lookup f = some ⟨oc, oda, .func (fnOf name qual params body scope dV kV doc pm an cdv ct), osl⟩) (hcd : codeIn K cdv qual = true) (hroom : A.depth < recursionLimit)
    (hbind : BindsTo s (fnOf name qual params body scope dV kV doc pm an cdv ct) args binds) (hkind : (binds.all fun y => scope.names.lookup y.1 == some .local || scope.names.lookup y.1 == some .cell) = true)
    (hnd : ((cellsFrom 0 scope.names []).map (·.1)).Nodup)
    (h : ∀ g L' h₁ tk cells, Keeps h₀ g → Keeps g s.heap → (∀ b o, (∀ p ∈ news, p.1 ≠ b) → s.heap.get? b = some o → g.get? b = some o) → Fr g L' h₁ (bindL (envOfC qual scope L' f cdv).kindOf binds fun _ => none) → News g L' h₁ (cells ++ news) →
      CellsAre (bindC (envOfC qual scope L' f cdv).kindOf binds fun _ => none) (cellsFrom (L' + 1) scope.names []) cells → K.In g → Top p loose mean mg mb g → (∀ p ∈ news, p.1 < L') →
      wpAny (model prog w) (A.deeper (envOfC qual scope L' f cdv)) (execs body (envOfC qual scope L' f cdv))
        (fun fl s' => R (.ok (.ret (match fl with | .ret v => v | _ => .none))) s')
        (fun e s' => wpAny (model prog w) (A.deeper (envOfC qual scope L' f cdv)) (leaving (envOfC qual scope L' f cdv) e) (fun _ s'' => R (.error e) s'') (fun e' s'' => R (.error e') s'') s')
        { s with heap := h₁, toks := tk })
    (hco : scope.isCoroutine = false) (hgen : scope.isGenerator = false) (hk : scope.kind = .function) : codeAny (model prog w) A (.call (.ref f) args) R s := by
  have st : Keeps h₀ (hideAll s.heap (news.map (·.1))) := fun b o e => hideAll_get _ (k0 b o e) (fun q => by
    obtain ⟨p, hp, rfl⟩ := List.mem_map.mp q
    rw [(hn p hp).2] at e; cases e)
  refine codeAny_call_function hroom ((X₀.keeps k0) _ _ ho) rfl hco hgen rfl (codeRec_of (X₀.keeps k0) hcd) (hbind _ _ _ _ ?_)
  refine wpAny_newFunctionEnv_cells hk (kindsX hkind _) fun env' he s' x => ?_
  subst he
  refine ⟨(T.nolimit.keeps k0).keeps x.toInCall.keep, codeAny_func ?_⟩
  obtain ⟨h₁, tk, rfl, _⟩ := x.done
  have hk₁ := x.toInCall.keep
  obtain ⟨cells, NC, Y⟩ := Cl.news (h₀ := s.heap) (Nat.le_refl _) fun n c hm => ⟨x.cell n c (lookup_of_mem_nodup (cellsFrom_names scope.names 0 (s.heap.objs.size + 1) [] [] rfl ▸ hnd) hm), x.above n c hm⟩
  refine h (hideAll s.heap (news.map (·.1))) s.heap.objs.size h₁ tk cells st (fun b o e => of_hideAll _ e) (fun b o hb e => hideAll_get _ e (fun q => by obtain ⟨p, hp, e⟩ := List.mem_map.mp q; exact hb p hp e)) ⟨x.toInCall.ns, fun b o e => hk₁ b o (of_hideAll _ e), Nat.le_of_eq (hideAll_size _ _)⟩ (fun p hp => ?_) Y (X₀.keeps st) (T.keeps st) (fun p hp => Heap.lt_size (hn p hp).1)
  rcases List.mem_append.mp hp with hp | hp
  · refine ⟨(NC p hp).1, (NC p hp).2.1, ?_⟩
    cases q : (hideAll s.heap (news.map (·.1))).get? p.1 with
    | none => rfl
    | some o => have := of_hideAll _ q; rw [(NC p hp).2.2] at this; cases this
  · exact ⟨hk₁ _ _ (hn p hp).1, Nat.ne_of_lt (Heap.lt_size (hn p hp).1), hideAll_none _ (List.mem_map_of_mem hp)⟩
/-- entering a lambda, a part of the heap laid aside as the ledger -/
theorem enterL {R : Result → Shared → Prop} {name qual : Str} {params : Arguments} {body : Expr} {scope : Scope} {cl : List (Str × Addr)} {pm ctv : Value} {c' : Addr} {f : Addr} {args : Args} {binds : List (Str × Value)}
    (k0 : Keeps h₀ s.heap) (X₀ : K.In h₀) (T : Top p loose mean mg mb h₀) (hn : ∀ p ∈ news, s.heap.get? p.1 = some p.2 ∧ h₀.get? p.1 = none)
    (ho : (f, kla_obj name qual params body scope cl pm c' ctv) ∈ news) (hcd : s.heap.CodeRec (.ref c') qual) (hroom : A.depth < recursionLimit)
    (hbind : bindArgs (kla_fn name qual params body scope cl pm (.ref c') ctv) args = pure binds) (hloc : ∀ y ∈ binds, scope.names.lookup y.1 = some .local)
    (h : ∀ g L' h₁, Keeps h₀ g → Keeps g s.heap → (∀ b o, (∀ p ∈ news, p.1 ≠ b) → s.heap.get? b = some o → g.get? b = some o) → Fr g L' h₁ (fun y => binds.reverse.lookup y) → News g L' h₁ news → K.In g → Top p loose mean mg mb g →
      wpAny (model prog w) (A.deeper (envX qual scope L' f (.ref c') cl)) (eval body (envX qual scope L' f (.ref c') cl))
        (fun v s' => R (.ok (.ret v)) s')
        (fun e s' => wpAny (model prog w) (A.deeper (envX qual scope L' f (.ref c') cl)) (leaving (envX qual scope L' f (.ref c') cl) e) (fun _ s'' => R (.error e) s'') (fun e' s'' => R (.error e') s'') s')
        { s with heap := h₁, toks := s.toks + binds.length })
    (hco : scope.isCoroutine = false) (hgen : scope.isGenerator = false) (hk : scope.kind = .function)
    (hcell : ∀ x ∈ scope.names, x.2 ≠ .cell) : codeAny (model prog w) A (.call (.ref f) args) R s := by
  have st : Keeps h₀ (hideAll s.heap (news.map (·.1))) := fun b o e => hideAll_get _ (k0 b o e) (fun q => by
    obtain ⟨p, hp, rfl⟩ := List.mem_map.mp q
    rw [(hn p hp).2] at e; cases e)
  refine kla_callFunE hroom (hn _ ho).1 rfl hco hgen rfl hcd ?_
  rw [hbind]
  refine wpAny_pure (wpAny_newFunctionEnv hcell hloc (fun h₁ hns hsb => ⟨((T.nolimit).keeps k0).fresh _ hsb, ?_⟩) hk)
  show codeAny _ _ (.expr body (envX qual scope s.heap.objs.size f (.ref c') cl)) _ _
  have hk₁ : ∀ b o, s.heap.get? b = some o → h₁.get? b = some o := fun b o e => hsb.extBut b o (Nat.ne_of_lt (Heap.lt_size e)) (Heap.get?_push_of_some _ e)
  exact kla_codeExpr (h (hideAll s.heap (news.map (·.1))) s.heap.objs.size h₁ st (fun b o e => of_hideAll _ e) (fun b o hb e => hideAll_get _ e (fun q => by obtain ⟨p, hp, e⟩ := List.mem_map.mp q; exact hb p hp e)) ⟨hns, fun b o e => hk₁ b o (of_hideAll _ e), Nat.le_of_eq (hideAll_size _ _)⟩
    (fun p hp => ⟨hk₁ _ _ (hn p hp).1, Nat.ne_of_lt (Heap.lt_size (hn p hp).1), hideAll_none _ (List.mem_map_of_mem hp)⟩) (X₀.keeps st) (T.keeps st))
/-- the table of the rule's code: empty, or it bears the lambda's code z -/
noncomputable def TabS (ps : Array Value) (pos : Pos) (qual : Str) (z : Addr) (oz : Obj) : Prop :=
  ps = #[] ∨ (ps = #[rawInt pos.line, rawInt pos.col, .ref z] ∧ ∃ vs t, oz.data = .fields vs ∧ vs[1]? = some (.str qual t))
theorem updF_front {P z : Addr} {o oz : Obj} {front : List (Addr × Obj)} (hP : ∀ q ∈ front, q.1 ≠ P) (hzP : z ≠ P) : UpdF P o (front ++ [(P, o), (z, oz)]) (fun o' => front ++ [(P, o'), (z, oz)]) := by
  induction front with
  | nil => exact .head fun q hq => by rw [List.mem_singleton.mp hq]; exact hzP
  | cons q r ih => exact .tail (hP q (.head _)) (ih fun q hq => hP q (.tail _ hq))
theorem kla_both {M : Model} {a c P z : Addr} {oz : Obj} {cn : Str} {cs : Scope} {ccd : Value} {cl clos : List (Str × Addr)} {front : List (Addr × Obj)} {name qual : Str} {params : Arguments} {body : Expr} {scope : Scope} {ps : Array Value} {pos : Pos} {firstLine : Nat} {Q : Value → Shared → Prop}
    (F : Fr h₀ L s.heap m) (N : News h₀ L s.heap (front ++ [(P, tabObj ps), (z, oz)])) (T : Top p loose mean mg mb h₀) (C : CodeHd h₀ c P) (hcd : ccd = .ref c) (hP : ∀ q ∈ front, q.1 ≠ P) (hz : ∀ q ∈ front, q.1 ≠ z) (hzP : z ≠ P) (TS : TabS ps pos qual z oz)
    (hcl : closureFor scope (envX cn cs L a ccd cl) = pure clos)
    (h : ∀ f c' oc vs t ctv h' tk, Fr h₀ L h' m → News h₀ L h' ((f, kla_obj name qual params body scope clos ((mg "__name__").getD .none) c' ctv) :: (c', oc) :: (P, tabObj #[rawInt pos.line, rawInt pos.col, .ref c']) :: (front ++ [(z, oz)])) →
      oc.data = .fields vs → vs[1]? = some (.str qual t) → (∀ q ∈ front, q.1 ≠ c') → (∀ q ∈ front, q.1 < f) → f ≠ c' → P ≠ f → P ≠ c' → z ≠ f → (c' ≠ z ∨ (c' = z ∧ oc = oz)) → Q (.ref f) { s with heap := h', toks := tk }) :
    wpAny M A (makeFunction name qual params (.expr body) scope (envX cn cs L a ccd cl) [] [] [] pos firstLine) Q E s := by
  rcases TS with rfl | ⟨rfl, vs, t, e1, e2⟩
  · have U := updF_front (o := tabObj #[]) (z := z) (oz := oz) hP hzP
    refine kla_nest F N T C hcd U trivial rfl hcl fun f c' oc vs t ctv h' tk F' N' d1 d2 l1 l2 => ?_
    have lP := l1 (P, tabObj #[]) (by simp)
    refine h f c' oc vs t ctv h' tk F' (fun q hq => N' q ?_) d1 d2 (fun q hq => Nat.ne_of_lt (l1 q (by simp [hq]))) (fun q hq => Nat.lt_trans (l1 q (by simp [hq])) l2) (Nat.ne_of_gt l2) (Nat.ne_of_lt (Nat.lt_trans lP l2)) (Nat.ne_of_lt lP) (Nat.ne_of_lt (Nat.lt_trans (l1 (z, oz) (by simp)) l2)) (.inl (Nat.ne_of_gt (l1 (z, oz) (by simp))))
    simp only [List.mem_cons, List.mem_append] at hq ⊢
    rcases hq with hq | hq | hq | hq | hq
    · exact .inl hq
    · exact .inr (.inl hq)
    · exact .inr (.inr (.inr (.inl hq)))
    · exact .inr (.inr (.inl hq))
    · exact .inr (.inr (.inr (.inr hq)))
  · refine kla_hit (ps := #[rawInt pos.line, rawInt pos.col, .ref z]) (c' := z) F N T C hcd (by simp) ?_ ?_ hcl fun f ctv h' tk F' N' l1 => ?_
    · simp [TriplesOk, rawInt]
    · simp [codeAmong, rawInt]
    have lP := l1 (P, tabObj #[rawInt pos.line, rawInt pos.col, .ref z]) (by simp)
    have lz := l1 (z, oz) (by simp)
    refine h f z oz vs t ctv h' tk F' (fun q hq => N' q ?_) e1 e2 hz (fun q hq => l1 q (by simp [hq])) (Nat.ne_of_gt lz) (Nat.ne_of_lt lP) (Ne.symm hzP) (Nat.ne_of_lt lz) (.inr ⟨rfl, rfl⟩)
    simp only [List.mem_cons, List.mem_append] at hq ⊢
    rcases hq with hq | hq | hq | hq | hq
    · exact .inl hq
    · exact .inr (.inr (.inr (.inl hq)))
    · exact .inr (.inr (.inl hq))
    · exact .inr (.inl hq)
    · exact .inr (.inr (.inr hq))
end
/-- what a rule says of a ball -/
noncomputable def lamV (place size : Int) (fs : List Int) (ball : Int) : Int := if ball < place ∧ place ∉ fs then size - place else 0
/-- how the function f answers, wherever the objects R stand -/
noncomputable def LamOk (prog : Program) (w : World) (p : Program) (loose : List Str) (mean : ExcName → Option Value) (mg mb : Str → Option Value) (R : List (Addr × Obj)) (f : Addr) (place size : Int) (fl : Addr) : Prop :=
  ∀ (dp un : Nat) (fr : Option (List Env)) (gd : Option (List Code)) (s : Shared) (Q E : Value → Shared → Prop) (h₀ : Heap) (ball : Int) (t : Tok) (items : List Value) (fs : List Int),
    Keeps h₀ s.heap → (hd.heap_1 w.params).In h₀ → Top p loose mean mg mb h₀ → (∀ q ∈ R, s.heap.get? q.1 = some q.2 ∧ h₀.get? q.1 = none ∧ q.1 ≠ fl) → s.heap.IsList fl items.toArray → IntsAre items fs → fs.length ≤ 1000 →
    dp + 2 < recursionLimit → un + 20 < cLine →
    (∀ v h' tk', Keeps s.heap h' → (∃ t', v = .int (lamV place size fs ball) t') → Q v { s with heap := h', toks := tk' }) →
    wpAny (model prog w) (arr dp un fr gd) (call (.ref f) [.int ball t]) Q E s
/-- a rule: an object whose own dict bears the two names -/
inductive RuleR (prog : Program) (w : World) (p : Program) (loose : List Str) (mean : ExcName → Option Value) (mg mb : Str → Option Value) (R : List (Addr × Obj)) (v : Value) (place size : Int) (fl : Addr) (vd : Value) : Prop
  | mk (x dx : Addr) (es : List DictEntry) (n : Nat) (f : Addr) (fo : Obj) (fd : FuncData) (q0 : v = .ref x) (q1 : (x, instObj 101 dx) ∈ R) (q2 : (dx, W.dictOf es n) ∈ R) (q3 : (f, fo) ∈ R) (q4 : fo.cls = .type "function") (q5 : fo.data = .func fd) (q6 : getL (Str.ofString "applies_to") es = some (some (.ref f))) (q7 : getL (Str.ofString "allowance") es = some (some vd)) (q8 : handedIn vd = true) (q9 : LamOk prog w p loose mean mg mb R f place size fl) : RuleR prog w p loose mean mg mb R v place size fl vd
section
variable {prog : Program} {w : World} {p : Program} {loose : List Str} {mean : ExcName → Option Value} {mg mb : Str → Option Value}
theorem keep_split {s₀ g h : Heap} {L : Addr} {m : Str → Option Value} {R R' : List (Addr × Obj)} (kn : ∀ b o, (∀ q ∈ R, q.1 ≠ b) → s₀.get? b = some o → g.get? b = some o) (F : Fr g L h m) (N : News g L h R') (hs : ∀ q ∈ R, q ∈ R') (hR : ∀ q ∈ R, s₀.get? q.1 = some q.2) : Keeps s₀ h := fun b o e => by
  by_cases hb : ∃ q ∈ R, q.1 = b
  · obtain ⟨q, hq, rfl⟩ := hb
    have e1 := hR q hq
    rw [e] at e1
    rw [Option.some.inj e1]
    exact (N q (hs q hq)).1
  · exact F.keep b o (kn b o (fun q hq e => hb ⟨q, hq, e⟩) e)
theorem int_end {a b : Int} {t : Tok} (h : a = b) : ∃ t', Value.int a t = Value.int b t' := ⟨t, by rw [h]⟩
noncomputable def lamPos : Pos := ⟨147, 22, 147, 94⟩
noncomputable def lamQual : Str := Str.ofString "_law_rule" ++ ".<locals>." ++ "<lambda>"
set_option maxRecDepth 100000 in
set_option maxHeartbeats 8000000 in
theorem tells_rule (place size : Int) (t1 t2 : Tok) (fl : Addr) (vd : Value) (hvd : handedIn vd = true) (dp un : Nat) (fr : Option (List Env)) (gd : Option (List Code)) (s : Shared) (Q E : Value → Shared → Prop) (h₀ : Heap) (ps : Array Value) (z : Addr) (oz : Obj)
    (k0 : Keeps h₀ s.heap) (X : (hd.heap_1 w.params).In h₀) (T : Top p loose mean mg mb h₀) (hp : h₀.get? 145 = none) (hP : s.heap.get? 145 = some (tabObj ps)) (hz0 : h₀.get? z = none) (hz : s.heap.get? z = some oz) (hz145 : z ≠ 145) (TS : TabS ps lamPos lamQual z oz)
    (hd : dp + 4 < recursionLimit) (hu : un + 40 < cLine)
    (ret : ∀ v h' tk' R c oc, (∀ b o, b ≠ 145 → s.heap.get? b = some o → h'.get? b = some o) → h'.get? 145 = some (tabObj #[rawInt lamPos.line, rawInt lamPos.col, .ref c]) → TabS #[rawInt lamPos.line, rawInt lamPos.col, .ref c] lamPos lamQual c oc → (c, oc) ∈ R → c ≠ 145 →
      RuleR prog w p loose mean mg mb R v place size fl vd → (∀ q ∈ R, h'.get? q.1 = some q.2 ∧ (s.heap.get? q.1 = none ∨ q = (z, oz))) → Q v { s with heap := h', toks := tk' }) :
    wpAny (model prog w) (arr dp un fr gd) (call (.ref 150) [.int place t1, .int size t2, .ref fl, vd]) Q E s := by
  have C0 : CodeHd h₀ 149 145 := codeHd_of_K X (by kernel_rfl)
  refine wpAny_call ?_
  k_dflt (refine' enterC (news := [(145, tabObj ps), (z, oz)]) k0 X T ?kn ?k6 ?k7 ?k8 ?k9 ?kB ?kD ?_ ?c2 ?c3 ?c4; (case kn => (intro q hq; simp only [List.mem_cons, List.not_mem_nil, or_false] at hq; rcases hq with rfl | rfl; exact ⟨hP, hp⟩; exact ⟨hz, hz0⟩)); (case k6 => k_is); (case k7 => k_is); (case k8 => first | exact room0 (by assumption) | ktr_room); (case k9 => exact BindsTo.of_eq rfl); (case kB => exact rfl); (case kD => decide +kernel); (case c2 => exact rfl); (case c3 => exact rfl); (case c4 => exact rfl); intro g L' h' tk' cells' kg kg' kn F' N' Y' X' T' l1; (try k_lt l1); k_cells Y'; (try simp only [List.cons_append, List.nil_append] at N'); (try dsimp only); (try k_fold))
  ktr_unf
  have C1 : CodeHd g 149 145 := C0.keeps kg
  k_dflt (refine' call_cls ?k1 ?k2 ?k3 ?k4 ?k5 ?k6 ?_; (case k1 => k_asm); (case k2 => k_asm); (case k3 => k_asm); (case k4 => k_is); (case k5 => k_is); (case k6 => k_is); k_whole; intro x1 d1 h1 F' N' l1 l2; (try k_lt l1); (try k_lt2 l2); (try k_sweep))
  k_dflt ktr_rel
  ktr_unf
  k_dflt (refine kla_eval rfl ?_)
  rename News g _ _ _ => N2
  rename Fr g _ _ _ => F2
  refine kla_both F2 (by exact N2 : News g L' _ ([_, _, _, _, _, _, _] ++ [_, _])) T' C1 rfl ?hP ?hz hz145 TS rfl ?_
  case hP => (intro q hq; simp only [List.mem_cons, List.not_mem_nil, or_false] at hq; rcases hq with rfl | rfl | rfl | rfl | rfl | rfl | rfl <;> k_ne)
  case hz => (intro q hq; simp only [List.mem_cons, List.not_mem_nil, or_false] at hq; rcases hq with rfl | rfl | rfl | rfl | rfl | rfl | rfl <;> k_ne)
  intro f1 c1 oc1 vs1 tc1 ctv1 h3 tk3 F3 N3 dc1 dc2 hc hlt hfc hPf hPc hzf hcz
  have hd1c : @Ne Nat d1 c1 := hc (d1, _) (by k_mem)
  have hd1f : @LT.lt Nat _ d1 f1 := hlt (d1, _) (by k_mem)
  ktr_unf
  rename News g _ _ _ => N4
  rename Fr g _ _ _ => F4
  obtain ⟨front, fo, hfr, hfo, hz6, hP6, N5⟩ : ∃ (front : List (Addr × Obj)) (fo : Obj), front = _ ∧ fo = _ ∧ (∀ q ∈ front, @Ne Nat q.1 z) ∧ (∀ q ∈ front, @Ne Nat q.1 145) ∧ News g L' _ ((f1, fo) :: (c1, oc1) :: (145, tabObj #[rawInt lamPos.line, rawInt lamPos.col, .ref c1]) :: (front ++ [(z, oz)])) := by
    refine ⟨_, _, rfl, rfl, ?_, ?_, (by exact N4 : News g L' _ (_ :: _ :: _ :: ([_, _, _, _, _, _, _] ++ [_])))⟩
    · (intro q hq; simp only [List.mem_cons, List.not_mem_nil, or_false] at hq; rcases hq with rfl | rfl | rfl | rfl | rfl | rfl | rfl <;> k_ne)
    · (intro q hq; simp only [List.mem_cons, List.not_mem_nil, or_false] at hq; rcases hq with rfl | rfl | rfl | rfl | rfl | rfl | rfl <;> k_ne)
  have hmem : ∀ q ∈ (f1, fo) :: (c1, oc1) :: front, q ∈ (f1, fo) :: (c1, oc1) :: (145, tabObj #[rawInt lamPos.line, rawInt lamPos.col, .ref c1]) :: (front ++ [(z, oz)]) := fun q hq => by
    rcases List.mem_cons.mp hq with rfl | hq
    · exact .head _
    · rcases List.mem_cons.mp hq with rfl | hq
      · exact .tail _ (.head _)
      · exact .tail _ (.tail _ (.tail _ (List.mem_append_left _ hq)))
  have lam : LamOk prog w p loose mean mg mb ((f1, fo) :: (c1, oc1) :: front) f1 place size fl := by
    intro dp2 un2 fr2 gd2 s2 Q2 E2 h02 ball t items fs k2 X2 T2 hn2 hl2 hi2 hlen2 hd2 hu2 ret2
    have hcr : s2.heap.CodeRec (.ref c1) _ := ⟨c1, oc1, vs1, tc1, rfl, (hn2 (c1, oc1) (by k_mem)).1, dc1, dc2⟩
    subst hfo
    refine wpAny_call ?_
    k_dflt (refine' enterL (news := (f1, _) :: (c1, oc1) :: front) (f := f1) k2 X2 T2 (fun q hq => ⟨(hn2 q hq).1, (hn2 q hq).2.1⟩) ?k6 hcr ?k8 ?k9 ?kB ?_ ?c2 ?c3 ?c4 ?c5; (case k6 => k_mem); (case k8 => first | exact room0 (by assumption) | ktr_room); (case k9 => exact rfl); (case kB => exact locs rfl); (case c2 => exact rfl); (case c3 => exact rfl); (case c4 => exact rfl); (case c5 => decide); intro g2 L2 h2 kg2 kg2' kn2 F2 N2 X2' T2'; (try dsimp only); (try k_fold))
    have hlg : g2.IsList fl items.toArray := by
      obtain ⟨o, ho, r⟩ := hl2
      exact ⟨o, kn2 _ _ (fun q hq => (hn2 q hq).2.2) ho, r⟩
    have N2' := And.intro trivial N2
    rw [hfr] at N2
    ktr_unf
    all_goals refine ret2 _ _ _ (keep_split kn2 (by assumption) N2'.2 (fun q hq => hq) fun q hq => (hn2 q hq).1) (int_end ?_)
    · have hb : ball < place := by assumption
      have hf : (fs.any fun x => x == place) = true := by assumption
      unfold lamV
      rw [if_neg]
      rintro ⟨_, hn⟩
      obtain ⟨x, hx, e⟩ := List.any_eq_true.mp hf
      exact hn (beq_iff_eq.mp e ▸ hx)
    · have hb : ball < place := by assumption
      have hf : (fs.any fun x => x == place) = false := by assumption
      have hn : place ∉ fs := fun hx => by
        rw [List.any_eq_false] at hf
        exact hf _ hx (by simp)
      unfold lamV
      rw [if_pos ⟨hb, hn⟩]
    · unfold lamV
      rw [if_neg (fun h => absurd h.1 (by assumption))]
  show Q (.ref x1) _
  have hrule : RuleR prog w p loose mean mg mb ((f1, fo) :: (c1, oc1) :: front) (.ref x1) place size fl vd := by
    refine' ⟨x1, d1, ?es, ?n, f1, fo, ?fd, rfl, ?m1, ?m2, .head _, ?o1, ?o2, ?g1, ?g2, hvd, lam⟩
    case m1 => rw [hfr]; k_mem
    case m2 => rw [hfr]; k_mem
    case o1 => rw [hfo]
    case o2 => rw [hfo]
    case g1 => k_dflt k_get
    case g2 => k_dflt k_get
  refine ret (.ref x1) _ _ ((f1, fo) :: (c1, oc1) :: front) c1 oc1 (fun b o hb e => ?_) (N5.get (.tail _ (.tail _ (.head _)))) (.inr ⟨rfl, vs1, tc1, dc1, dc2⟩) (by k_mem) (Ne.symm hPc) hrule fun q hq => ?_
  · by_cases hbz : b = z
    · subst hbz
      rw [hz] at e
      rw [← Option.some.inj e]
      exact N5.get (by simp)
    · refine F4.keep b o (kn b o (fun q hq hqb => ?_) e)
      simp only [List.mem_cons, List.not_mem_nil, or_false] at hq
      rcases hq with rfl | rfl
      · exact hb hqb.symm
      · exact hbz hqb.symm
  · refine ⟨N5.get (hmem q hq), ?_⟩
    have old : q.1 ≠ 145 → q.1 ≠ z → s.heap.get? q.1 = none := fun n1 n2 => by
      cases e : s.heap.get? q.1 with
      | none => rfl
      | some o =>
        have e2 := kn q.1 o (fun r hr hrb => by
          simp only [List.mem_cons, List.not_mem_nil, or_false] at hr
          rcases hr with rfl | rfl
          · exact n1 hrb.symm
          · exact n2 hrb.symm) e
        have e3 := N5.fresh (hmem q hq)
        rw [e2] at e3; cases e3
    rcases List.mem_cons.mp hq with rfl | hq'
    · exact .inl (old (Ne.symm hPf) (Ne.symm hzf))
    · rcases List.mem_cons.mp hq' with rfl | hq'
      · rcases hcz with hcz | ⟨rfl, rfl⟩
        · exact .inl (old (Ne.symm hPc) hcz)
        · exact .inr rfl
      · exact .inl (old (hP6 q hq') (hz6 q hq'))
end

end
section
/-- what an allowance may be: True, False, a place -/
inductive Vd where
  | tt
  | ff
  | at (i : Int)
noncomputable def VdIs : Value → Vd → Prop
  | .bool true, .tt => True
  | .bool false, .ff => True
  | .int i _, .at j => i = j
  | _, _ => False
noncomputable def Vd.truth : Vd → Bool
  | .tt => true
  | .ff => false
  | .at i => decide (i ≠ 0)
noncomputable def allowStep (size : Int) (fs : List Int) (ball : Int) (a : Int × Vd) (r : Int × Vd) : Int × Vd :=
  if lamV r.1 size fs ball ≠ 0 then (if a.1 < lamV r.1 size fs ball then (lamV r.1 size fs ball, r.2) else if lamV r.1 size fs ball = a.1 ∧ a.2.truth = false then (a.1, r.2) else a) else a
noncomputable def allowF (size : Int) (fs : List Int) (rs : List (Int × Vd)) (ball : Int) : Int × Vd := rs.foldl (allowStep size fs ball) (-1, .tt)
section
variable {prog : Program} {w : World} {p : Program} {loose : List Str} {mean : ExcName → Option Value} {mg mb : Str → Option Value}
/-- the rules of a record, all over one part of the heap -/
noncomputable def RulesIn (prog : Program) (w : World) (p : Program) (loose : List Str) (mean : ExcName → Option Value) (mg mb : Str → Option Value) (R : List (Addr × Obj)) (size : Int) (fl : Addr) (vs : List Value) (rs : List (Int × Vd)) : Prop :=
  vs.length = rs.length ∧ ∀ (i : Nat) (v : Value), vs[i]? = some v → ∃ (pl : Int) (vd : Vd) (va : Value), rs[i]? = some (pl, vd) ∧ VdIs va vd ∧ RuleR prog w p loose mean mg mb R v pl size fl va ∧ -1000 ≤ pl ∧ pl ≤ 1000
theorem two_set {a b : Str} {va : Value} {m₁ m₀ : Str → Option Value} (hm : ∀ y, y ≠ a → y ≠ b → m₁ y = m₀ y) :
    (fun y => if y = a then some va else m₁ y) = fun y => if y = a then some va else if y = b then m₁ b else m₀ y := by
  funext y
  by_cases h1 : y = a
  · simp only [if_pos h1]
  · by_cases h2 : y = b
    · subst h2; simp [h1]
    · simp only [if_neg h1, if_neg h2]; exact hm y h1 h2
theorem findObj_ownF {K : Frag} {C : Addr} {od : Obj} {name : Str} {a g v : Value} (hh : hasDictIn K C = true) (ha : findIn K (.ref C) name = some (some a)) (hg : specialIn K a "__get__" = some (some g)) (ht : takesIn K a = some false) (hl : lookIn name od = some (some v)) :
    findObj K C (some od) name = some (.value v) := by
  obtain ⟨cd, hc, hd⟩ := any_some hh
  unfold findObj
  rw [hc, Option.bind_some, ha, Option.bind_some]
  have ho : W.ownOf cd (some od) name = some (some v) := by unfold W.ownOf; rw [if_pos hd]; exact hl
  simp [hg, ht, ho]
theorem get_ownF {K : Frag} {A : Around} {E : Value → Shared → Prop} {s : Shared} {x C : Addr} {ox : Obj} {name : Str} {a g v : Value} {es : List DictEntry} {n : Nat} {expr : Bool} {Q : Value → Shared → Prop} (X : K.In s.heap) (I : W.InstAt s.heap x ox C (some (W.dictOf es n))) (hp : plainGet K C name = true) (hh : hasDictIn K C = true)
    (ha : findIn K (.ref C) name = some (some a)) (hg : specialIn K a "__get__" = some (some g)) (ht : takesIn K a = some false) (hl : getL name es = some (some v)) (hv : handedIn v = true) (h : Q v { s with toks := s.toks + 1 }) :
    wpAny (model prog w) A (getAttr (.ref x) name expr) Q E s :=
  get_value X I (plainGet_of hp).1 (findObj_ownF hh ha hg ht hl) hv h
theorem VdIs.truthy {A : Around} {E : Value → Shared → Prop} {Q : Bool → Shared → Prop} {s : Shared} {v : Value} {d : Vd} (h : VdIs v d) (q : Q d.truth s) : wpAny (model prog w) A (PySem.truthy v) Q E s := by
  cases d with
  | tt => cases v with
    | bool b => cases b with
      | true => exact wpAny_truthy_bool q
      | false => exact h.elim
    | _ => exact h.elim
  | ff => cases v with
    | bool b => cases b with
      | false => exact wpAny_truthy_bool q
      | true => exact h.elim
    | _ => exact h.elim
  | «at» i => cases v with
    | int j t =>
      obtain rfl : j = i := h
      refine truthy_int ?_
      have e : (j != 0) = (Vd.at j).truth := by
        show (!(j == 0)) = decide (j ≠ 0)
        by_cases hj : j = 0 <;> simp [hj]
      rw [e]; exact q
    | bool b => cases b <;> exact h.elim
    | _ => exact h.elim
theorem lamV_bound {pl size ball : Int} {fs : List Int} (h1 : -1000 ≤ pl ∧ pl ≤ 1000) (h2 : 0 ≤ size ∧ size ≤ 1000) : -2000 ≤ lamV pl size fs ball ∧ lamV pl size fs ball ≤ 2000 := by
  unfold lamV; split <;> omega
set_option maxRecDepth 100000 in
set_option maxHeartbeats 8000000 in
theorem tells_allow (rx dx rl fl : Addr) (es : List DictEntry) (n : Nat) (vs : List Value) (rs : List (Int × Vd)) (R : List (Addr × Obj)) (size ball : Int) (t : Tok) (items : List Value) (fs : List Int) (dp un : Nat) (fr : Option (List Env)) (gd : Option (List Code)) (s : Shared) (Q E : Value → Shared → Prop) (h₀ : Heap)
    (k0 : Keeps h₀ s.heap) (X0 : (hd.heap_1 w.params).In h₀) (T0 : Top p loose mean mg mb h₀)
    (hx : s.heap.get? rx = some (instObj 101 dx)) (hdx : s.heap.get? dx = some (W.dictOf es n)) (hes : getL (Str.ofString "rulelines") es = some (some (.ref rl))) (hrl : s.heap.IsList rl vs.toArray)
    (hR : ∀ q ∈ R, s.heap.get? q.1 = some q.2 ∧ h₀.get? q.1 = none ∧ q.1 ≠ fl) (hru : RulesIn prog w p loose mean mg mb R size fl vs rs) (hfl : s.heap.IsList fl items.toArray) (hfi : IntsAre items fs) (hfs : fs.length ≤ 1000) (hsz : 0 ≤ size ∧ size ≤ 1000) (hba : -1000 ≤ ball ∧ ball ≤ 1000)
    (hd : dp + 5 < recursionLimit) (hu : un + 60 < cLine)
    (ret : ∀ v h' tk', Keeps s.heap h' → VdIs v (allowF size fs rs ball).2 → Q v { s with heap := h', toks := tk' }) :
    wpAny (model prog w) (arr dp un fr gd) (call (.ref 98) [.ref rx, .int ball t]) Q E s := by
  have X := X0.keeps k0
  have T := T0.keeps k0
  refine wpAny_call ?_
  k_dflt ktr_rel
  ktr_unf
  refine For_invV s.heap (by rfl) (by rfl) ?_
  tb_start
  k_dflt (refine' get_own (C := 101) ?F X ?I ?hg ?hh ?ha ?hn hes rfl ?_; (case F => k_asm); (case I => exact ⟨Fr.keep (by k_asm) _ _ hx, rfl, rfl, Fr.keep (by k_asm) _ _ hdx⟩); (case hg => k_is); (case hh => k_is); (case ha => k_is); (case hn => k_is); k_whole)
  tb_start
  rename Fr s.heap _ _ _ => F1
  rename News s.heap _ _ _ => N1
  let m₀ : Str → Option Value := fun y => List.lookup y [(Str.ofString "filename", Value.int ball t), (Str.ofString "self", Value.ref rx)]
  refine iter_vals (fun i m news => ∃ (bt : Tok) (av : Value), (∀ y, y ≠ Str.ofString "line" → y ≠ Str.ofString "m" → m y = if y = Str.ofString "allowance" then some av else if y = Str.ofString "best_match" then some (.int ((rs.take i).foldl (allowStep size fs ball) (-1, .tt)).1 bt) else m₀ y) ∧
      VdIs av ((rs.take i).foldl (allowStep size fs ball) (-1, .tt)).2 ∧ news = [])
    (by rfl) hrl F1 N1 ?h0 ?step ?done
  case h0 => exact ⟨_, _, fun y h1 h2 => rfl, trivial, rfl⟩
  case done =>
    rintro m₁ news₁ h tk ⟨bt, av, hm, hav, rfl⟩ F2 N2
    rw [hru.1, List.take_length] at hav
    have e : m₁ = fun y => if y = Str.ofString "line" then m₁ y else if y = Str.ofString "m" then m₁ y else if y = Str.ofString "allowance" then some av else if y = Str.ofString "best_match" then some (.int ((rs.take vs.length).foldl (allowStep size fs ball) (-1, .tt)).1 bt) else m₀ y := by
      funext y
      by_cases h1 : y = Str.ofString "line"
      · simp only [if_pos h1]
      · by_cases h2 : y = Str.ofString "m"
        · simp only [if_neg h1, if_pos h2]
        · simp only [if_neg h1, if_neg h2]; exact hm y h1 h2
    rw [e] at F2
    ktr_unf
    exact ret _ _ _ F2.keep hav
  case step =>
    rintro i v m₁ news₁ h tk it o hv hoff ⟨bt, av, hm, hav, rfl⟩ F2 N2
    obtain ⟨pl, vd, va, hri, hvd, ⟨x, dxr, esr, nr, f, fo, fd, rfl, mx, md, mf, fo1, fo2, ga, gl, hha, lam⟩, hpl⟩ := hru.2 i v hv
    rw [two_set hm] at F2
    have e1 : (rs.take (i + 1)).foldl (allowStep size fs ball) (-1, .tt) = allowStep size fs ball ((rs.take i).foldl (allowStep size fs ball) (-1, .tt)) (pl, vd) := by
      rw [List.take_add_one, hri]; simp
    generalize hb : (rs.take i).foldl (allowStep size fs ball) (-1, .tt) = B at *
    tb_start
    have hFn : FnAt f h := by
      obtain ⟨oc, od, dat, sl⟩ := fo
      obtain rfl : dat = _ := fo2
      exact ⟨oc, od, fd, sl, F2.keep _ _ (hR _ mf).1⟩
    have I : W.InstAt h x (instObj 101 dxr) 101 (some (W.dictOf esr nr)) := ⟨F2.keep _ _ (hR _ mx).1, rfl, rfl, F2.keep _ _ (hR _ md).1⟩
    have hsh : shadowIn (some (W.dictOf esr nr)) (Str.ofString "applies_to") = some true := by
      show Option.map _ (getL _ _) = _; rw [ga]; rfl
    k_dflt (refine' method_shadow (C := 101) (X.keeps F2.keep) I ?hg ?hf ?ht hsh ?_; (case hg => k_is); (case hf => k_is); (case ht => k_is))
    k_dflt (refine' get_ownF (C := 101) (X.keeps F2.keep) I ?hg ?hh ?hf ?hs ?ht ga rfl ?_; (case hg => k_is); (case hh => k_is); (case hf => k_is); (case hs => k_is); (case ht => k_is); k_whole)
    dsimp only
    refine callWith_F hFn ?_
    tb_start
    · exact hFn
    refine lam _ _ _ _ _ _ _ h₀ ball t items fs (fun b o e => F2.keep b o (k0 b o e)) X0 T0 (fun q hq => ⟨F2.keep _ _ (hR q hq).1, (hR q hq).2⟩) (hfl.at fun o e => F2.keep _ o e) hfi hfs (by show dp + 1 + 2 < _; exact room_le (k := 3) (by assumption) (by decide)) (by show un + 3 + 20 < _; exact room_le (k := 23) (by assumption) (by decide)) ?_
    rintro v h2 tk2 k2 ⟨t2, rfl⟩
    have F3 := F2.keeps k2
    have N3 := kept_news N2 k2
    clear F2 N2
    tb_start
    · have c1 : lamV pl size fs ball ≠ 0 := by assumption
      have c2 : B.1 < lamV pl size fs ball := by assumption
      rename Fr s.heap _ _ _ => F4
      have I2 : W.InstAt _ x (instObj 101 dxr) 101 (some (W.dictOf esr nr)) := ⟨F4.keep _ _ (hR _ mx).1, rfl, rfl, F4.keep _ _ (hR _ md).1⟩
      k_dflt (refine' get_ownF (C := 101) (X.keeps F4.keep) I2 ?hg ?hh ?hf ?hs ?ht gl hha ?_; (case hg => k_is); (case hh => k_is); (case hf => k_is); (case hs => k_is); (case ht => k_is); k_whole)
      tb_start
      rename Fr s.heap _ _ _ => F5
      rename News s.heap _ _ _ => N5
      have e2 : allowStep size fs ball B (pl, vd) = (lamV pl size fs ball, vd) := by unfold allowStep; rw [if_pos c1, if_pos c2]
      refine StepEnd.intro F5 N5 (.head _) (news₂ := []) (fun _ h => nomatch h) (fun _ h => nomatch h) ⟨_, va, by rw [e1, e2]; exact map_is (by decide) rfl rfl (fun y h1 h2 h3 h4 => by simp only [h1, h2, h3, h4, if_false]), by rw [e1, e2]; exact hvd, rfl⟩
    · have c1 : lamV pl size fs ball ≠ 0 := by assumption
      have c2 : ¬ B.1 < lamV pl size fs ball := by assumption
      have c3 : lamV pl size fs ball = B.1 := by assumption
      refine hav.truthy ?_
      cases hB : B.2.truth with
      | true =>
        tb_start
        rename Fr s.heap _ _ _ => F5
        rename News s.heap _ _ _ => N5
        have e2 : allowStep size fs ball B (pl, vd) = B := by unfold allowStep; rw [if_pos c1, if_neg c2, if_neg (fun h => by rw [hB] at h; cases h.2)]
        refine StepEnd.intro F5 N5 (.head _) (news₂ := []) (fun _ h => nomatch h) (fun _ h => nomatch h) ⟨_, av, by rw [e1, e2]; exact map_is (by decide) rfl rfl (fun y h1 h2 h3 h4 => by simp only [h1, h2, h3, h4, if_false]), by rw [e1, e2]; exact hav, rfl⟩
      | false =>
        tb_start
        rename Fr s.heap _ _ _ => F4
        have I2 : W.InstAt _ x (instObj 101 dxr) 101 (some (W.dictOf esr nr)) := ⟨F4.keep _ _ (hR _ mx).1, rfl, rfl, F4.keep _ _ (hR _ md).1⟩
        k_dflt (refine' get_ownF (C := 101) (X.keeps F4.keep) I2 ?hg ?hh ?hf ?hs ?ht gl hha ?_; (case hg => k_is); (case hh => k_is); (case hf => k_is); (case hs => k_is); (case ht => k_is); k_whole)
        tb_start
        rename Fr s.heap _ _ _ => F5
        rename News s.heap _ _ _ => N5
        have e2 : allowStep size fs ball B (pl, vd) = (B.1, vd) := by unfold allowStep; rw [if_pos c1, if_neg c2, if_pos ⟨c3, hB⟩]
        refine StepEnd.intro F5 N5 (.head _) (news₂ := []) (fun _ h => nomatch h) (fun _ h => nomatch h) ⟨_, va, by rw [e1, e2]; exact map_is (by decide) rfl rfl (fun y h1 h2 h3 h4 => by simp only [h1, h2, h3, h4, if_false]), by rw [e1, e2]; exact hvd, rfl⟩
    · have c1 : lamV pl size fs ball ≠ 0 := by assumption
      have c2 : ¬ B.1 < lamV pl size fs ball := by assumption
      have c3 : lamV pl size fs ball ≠ B.1 := by assumption
      rename Fr s.heap _ _ _ => F5
      rename News s.heap _ _ _ => N5
      have e2 : allowStep size fs ball B (pl, vd) = B := by unfold allowStep; rw [if_pos c1, if_neg c2, if_neg (fun h => c3 h.1)]
      refine StepEnd.intro F5 N5 (.head _) (news₂ := []) (fun _ h => nomatch h) (fun _ h => nomatch h) ⟨_, av, by rw [e1, e2]; exact map_is (by decide) rfl rfl (fun y h1 h2 h3 h4 => by simp only [h1, h2, h3, h4, if_false]), by rw [e1, e2]; exact hav, rfl⟩
    · have c1 : lamV pl size fs ball = 0 := by assumption
      rename Fr s.heap _ _ _ => F5
      rename News s.heap _ _ _ => N5
      have e2 : allowStep size fs ball B (pl, vd) = B := by unfold allowStep; rw [if_neg (fun h => h c1)]
      refine StepEnd.intro F5 N5 (.head _) (news₂ := []) (fun _ h => nomatch h) (fun _ h => nomatch h) ⟨_, av, by rw [e1, e2]; exact map_is (by decide) rfl rfl (fun y h1 h2 h3 h4 => by simp only [h1, h2, h3, h4, if_false]), by rw [e1, e2]; exact hav, rfl⟩
end

end
section
noncomputable def cellStep (a : Int × Int) (i : Nat) (b : Int) : Int × Int := if (i : Int).fmod 2 = 0 then (a.1 + b, a.2) else (a.1, a.2 + b)
noncomputable def cellLoop (ns : List Int) : Nat → Int × Int
  | 0 => (22, 334)
  | n + 1 => cellStep (cellLoop ns n) n (ns.getD n 0)
theorem one_name {a : Str} {va : Value} {m₁ m₀ : Str → Option Value} (hm : ∀ y, y ≠ a → m₁ y = m₀ y) :
    (fun y => if y = a then some va else m₁ y) = fun y => if y = a then some va else m₀ y := by
  funext y
  by_cases h1 : y = a
  · rw [if_pos h1, if_pos h1]
  · rw [if_neg h1, if_neg h1]; exact hm y h1
theorem one_left {a : Str} {m₁ m₀ : Str → Option Value} (hm : ∀ y, y ≠ a → m₁ y = m₀ y) : m₁ = fun y => if y = a then m₁ y else m₀ y := by
  funext y
  by_cases h1 : y = a
  · rw [if_pos h1]
  · rw [if_neg h1]; exact hm y h1
theorem ints_append_one {vs : List Value} {ns : List Int} (h : IntsAre vs ns) (k : Int) (t : Tok) : IntsAre (vs ++ [Value.int k t]) (ns ++ [k]) := by
  induction h with
  | nil => exact .cons _ _ .nil
  | cons n t' _ ih => exact .cons _ _ ih
section
variable {prog : Program} {w : World} {p : Program} {loose : List Str} {mean : ExcName → Option Value} {mg mb : Str → Option Value}
set_option maxRecDepth 100000 in
set_option maxHeartbeats 8000000 in
theorem tells_cells (l : Addr) (vs : List Value) (ns : List Int) (hi : IntsAre vs ns) (hlen : ns.length ≤ 16777216) :
    Tells prog w p loose mean mg mb 119 [.ref l] 6 40 (fun h => h.IsList l vs.toArray)
      (fun h h' v => ∃ c t0 t1 n, v = .ref c ∧ h'.get? c = some (W.listOf [Value.int (cellLoop ns ns.length).1 t0, Value.int (cellLoop ns ns.length).2 t1].toArray n) ∧ h.get? c = none) := by
  unfold Tells
  rintro dp un fr gd s Q E X T hd hu hl ret
  refine wpAny_call ?_
  k_dflt ktr_rel
  ktr_unf
  rename Fr s.heap _ _ _ => F1
  rename News s.heap _ _ _ => N1
  refine For_invV s.heap (by rfl) (by rfl) ?_
  ktr_unf
  rename IsRange _ _ _ _ _ _ _ _ => hR
  rename Fr s.heap _ _ _ => F3
  rename News s.heap _ _ _ => N3
  obtain ⟨c, n0, c0, c1, F4, N4⟩ : ∃ c n0 c0 c1, Fr s.heap _ _ (fun y => if y = Str.ofString "cells" then some (.ref c) else List.lookup y [(Str.ofString "script", Value.ref l)]) ∧ News s.heap _ _ [(c, W.listOf [Value.int 22 c0, Value.int 334 c1].toArray n0)] := ⟨_, _, _, _, F3, N3⟩
  clear F3 N3
  refine iter_range (n := ns.length) (fun i m news => ∀ C : Prop, (∀ t0 t1 n, (∀ y, y ≠ Str.ofString "place" → m y = if y = Str.ofString "cells" then some (.ref c) else List.lookup y [(Str.ofString "script", Value.ref l)]) →
      news = [(c, W.listOf [Value.int (cellLoop ns i).1 t0, Value.int (cellLoop ns i).2 t1].toArray n)] → C) → C)
    (by rfl) hR (small_one (by omega) (by omega) (by omega) (by omega)) (rangeSize_nat _ _) F4 N4 (fun C k => k _ _ _ (fun _ _ => rfl) rfl) ?step ?done
  case done =>
    intro m₁ news₁ h tk hJ F5 N5
    refine hJ _ fun t0 t1 n hm e => ?_
    subst e
    rw [one_left hm] at F5
    ktr_unf
    exact ret _ _ _ F5.keep ⟨c, t0, t1, _, rfl, N5.get (by k_mem), N5.fresh (by k_mem : (c, _) ∈ _)⟩
  case step =>
    intro i t m₁ news₁ h tk it o hin hoff hJ F5 N5
    refine hJ _ fun t0 t1 n hm e => ?_
    subst e
    rw [one_name hm, Int.zero_add] at F5
    obtain ⟨tb, hvb⟩ := hi.get i (ns.getD i 0) (by simp [hin])
    ktr_unf
    rename Fr s.heap _ _ _ => F6
    rename News s.heap _ _ _ => N6
    have hc : c ≠ it := hoff (c, _) (by k_mem)
    rcases (show (i : Int).fmod 2 = 0 ∨ (i : Int).fmod 2 = 1 by rw [Int.fmod_eq_emod_of_nonneg _ (by decide)]; omega) with e | e
    · have ec : cellLoop ns (i + 1) = ((cellLoop ns i).1 + ns.getD i 0, (cellLoop ns i).2) := by
        show cellStep _ _ _ = _
        unfold cellStep; rw [if_pos e]
      refine ki_set (q := [Value.int ((cellLoop ns i).1 + ns.getD i 0) _, Value.int (cellLoop ns i).2 t1]) F6 N6 (by rw [e]; decide) (by rw [e]; decide) (by rw [e]; rfl) (Upd.tail (Ne.symm hc) (Upd.head (by intro _ h; cases h))) ?_
      intro h7 F7 N7
      ktr_unf
      exact StepEnd.intro F7 N7 (.head _) (fun q hq => .tail _ hq) (fun q hq => by rw [List.mem_singleton.mp hq]; exact hc) fun C k => k _ _ _ (fun y hy => if_neg hy) (by rw [ec])
    · have ec : cellLoop ns (i + 1) = ((cellLoop ns i).1, (cellLoop ns i).2 + ns.getD i 0) := by
        show cellStep _ _ _ = _
        unfold cellStep; rw [if_neg (by rw [e]; decide)]
      refine ki_set (q := [Value.int (cellLoop ns i).1 t0, Value.int ((cellLoop ns i).2 + ns.getD i 0) _]) F6 N6 (by rw [e]; decide) (by rw [e]; decide) (by rw [e]; rfl) (Upd.tail (Ne.symm hc) (Upd.head (by intro _ h; cases h))) ?_
      intro h7 F7 N7
      ktr_unf
      exact StepEnd.intro F7 N7 (.head _) (fun q hq => .tail _ hq) (fun q hq => by rw [List.mem_singleton.mp hq]; exact hc) fun C k => k _ _ _ (fun y hy => if_neg hy) (by rw [ec])
end

end
section
/-- the rules that a place brings -/
noncomputable def rulesAt (row : List Int) (i : Nat) : List (Int × Vd) := if row.getD i 0 = 0 then (if (i : Int) % 3 = 0 then [((i : Int), Vd.at i), ((i : Int), Vd.ff)] else [((i : Int), Vd.at i)]) else []
noncomputable def rulesTo (row : List Int) : Nat → List (Int × Vd)
  | 0 => []
  | n + 1 => rulesTo row n ++ rulesAt row n
noncomputable def rulesOf (row : List Int) (backward : Bool) : List (Int × Vd) := if backward then (rulesTo row row.length).reverse else rulesTo row row.length
/-- the robots' way: the boxes filled and the deeds -/
noncomputable def robStep (size : Int) (rs : List (Int × Vd)) (a : Option (List Int × Prof)) (i : Int) (b : Int) : Option (List Int × Prof) :=
  match a with
  | none => none
  | some (fs, P) => if b = 1 then (match (allowF size fs rs i).2 with
      | .at k => if 0 ≤ k ∧ k < 100 then some (fs ++ [k], addP (addP P (deedP (-1) i)) (deedP 1 k)) else none
      | _ => none) else some (fs, P)
noncomputable def robLoop (rs : List (Int × Vd)) (row : List Int) : Nat → Option (List Int × Prof)
  | 0 => some ([], (0, 0, 0, 0, []))
  | n + 1 => robStep row.length rs (robLoop rs row n) n (row.getD n 0)
theorem rulesTo_len (row : List Int) : ∀ n, (rulesTo row n).length ≤ 2 * n
  | 0 => Nat.le_refl _
  | n + 1 => by
    have ih := rulesTo_len row n
    show (rulesTo row n ++ rulesAt row n).length ≤ _
    have : (rulesAt row n).length ≤ 2 := by unfold rulesAt; split <;> (try split) <;> simp
    rw [List.length_append]; omega
theorem rulesTo_lt (row : List Int) : ∀ n, ∀ r ∈ rulesTo row n, 0 ≤ r.1 ∧ r.1 < n
  | 0, r, h => by simp [rulesTo] at h
  | n + 1, r, h => by
    rcases List.mem_append.mp (show r ∈ rulesTo row n ++ rulesAt row n from h) with h | h
    · have := rulesTo_lt row n r h; omega
    · have e : r.1 = n := by
        unfold rulesAt at h
        split at h
        · split at h
          · simp only [List.mem_cons, List.not_mem_nil, or_false] at h
            rcases h with rfl | rfl <;> rfl
          · rw [List.mem_singleton.mp h]
        · simp at h
      omega
theorem rulesOf_lt {row : List Int} {b : Bool} : ∀ r ∈ rulesOf row b, 0 ≤ r.1 ∧ r.1 < row.length := fun r h => by
  unfold rulesOf at h
  split at h
  · exact rulesTo_lt _ _ r (List.mem_reverse.mp h)
  · exact rulesTo_lt _ _ r h
theorem allow_beyond {size ball : Int} {fs : List Int} {rs : List (Int × Vd)} (h : ∀ r ∈ rs, r.1 ≤ ball) : allowF size fs rs ball = (-1, .tt) := by
  unfold allowF
  generalize ((-1 : Int), Vd.tt) = a
  induction rs generalizing a with
  | nil => rfl
  | cons r t ih =>
    rw [List.foldl_cons]
    have e : allowStep size fs ball a r = a := by
      unfold allowStep lamV
      have := h r (.head _)
      rw [if_neg (show ¬ (ball < r.1 ∧ r.1 ∉ fs) from fun q => by omega)]
      simp
    rw [e]; exact ih (fun q hq => h q (.tail _ hq)) a
theorem VdIs.is_tt {v : Value} (h : VdIs v .tt) : v = .bool true := by
  cases v with
  | bool b => cases b with
    | true => rfl
    | false => exact h.elim
  | _ => exact h.elim
theorem VdIs.is_at {v : Value} {k : Int} (h : VdIs v (.at k)) : ∃ t, v = .int k t := by
  cases v with
  | int j t => obtain rfl : j = k := h; exact ⟨t, rfl⟩
  | bool b => cases b <;> exact h.elim
  | _ => exact h.elim
theorem robLoop_some {rs : List (Int × Vd)} {row : List Int} : ∀ {n i : Nat}, i ≤ n → (robLoop rs row n).isSome = true → (robLoop rs row i).isSome = true
  | 0, i, h, e => by rw [Nat.le_zero.mp h]; exact e
  | n + 1, i, h, e => by
    by_cases hi : i = n + 1
    · rw [hi]; exact e
    · refine robLoop_some (n := n) (by omega) ?_
      cases hn : robLoop rs row n with
      | some a => rfl
      | none =>
        have : robLoop rs row (n + 1) = none := by show robStep _ _ (robLoop rs row n) _ _ = none; rw [hn]; rfl
        rw [this] at e; cases e
section
variable {prog : Program} {w : World} {A : Around} {s : Shared} {K : Frag} {L : Addr} {h₀ g h h' : Heap} {m mg mb : Str → Option Value} {news : List (Addr × Obj)} {p : Program} {loose : List Str} {mean : ExcName → Option Value}
/-- all stands but one object -/
theorem fr_but {P : Addr} (F : Fr g L h m) (k : ∀ b o, b ≠ P → h.get? b = some o → h'.get? b = some o) (hP : g.get? P = none) (hL : L ≠ P) : Fr g L h' m := by
  obtain ⟨oL, es, ep, hL', r⟩ := F.ns
  exact ⟨⟨oL, es, ep, k _ _ hL hL', r⟩, fun b o e => k b o (fun q => by rw [q, hP] at e; cases e) (F.keep b o e), F.above⟩
theorem news_but {P : Addr} (N : News g L h news) (k : ∀ b o, b ≠ P → h.get? b = some o → h'.get? b = some o) (hP : ∀ q ∈ news, q.1 ≠ P) : News g L h' news := fun q hq => ⟨k _ _ (hP q hq) (N q hq).1, (N q hq).2⟩
theorem news_app {a b : List (Addr × Obj)} (x : News g L h a) (y : News g L h b) : News g L h (a ++ b) := fun q hq => (List.mem_append.mp hq).elim (x q) (y q)
theorem RuleR.mono {R R' : List (Addr × Obj)} {v : Value} {place size : Int} {fl : Addr} {vd : Value} (r : RuleR prog w p loose mean mg mb R v place size fl vd) (hs : ∀ q ∈ R, q ∈ R') : RuleR prog w p loose mean mg mb R' v place size fl vd := by
  obtain ⟨x, dx, es, n, f, fo, fd, e, m1, m2, m3, o1, o2, g1, g2, hv, lam⟩ := r
  exact ⟨x, dx, es, n, f, fo, fd, e, hs _ m1, hs _ m2, hs _ m3, o1, o2, g1, g2, hv, fun dp un fr gd s Q E h0 ball t items fs k X T hn => lam dp un fr gd s Q E h0 ball t items fs k X T fun q hq => hn q (hs q hq)⟩
end
section
variable {prog : Program} {w : World} {p : Program} {loose : List Str} {mean : ExcName → Option Value} {mg mb : Str → Option Value}
theorem rob_rule {g : Heap} {L z fl : Addr} {m : Str → Option Value} {front R : List (Addr × Obj)} {ps : Array Value} {oz : Obj} {place size : Int} {t1 t2 : Tok} {vd : Value} {dp un : Nat} {fr : Option (List Env)} {gd : Option (List Code)} {s : Shared} {Q E : Value → Shared → Prop}
    (F : Fr g L s.heap m) (N : News g L s.heap (front ++ (145, tabObj ps) :: (z, oz) :: R)) (X : (hd.heap_1 w.params).In g) (T : Top p loose mean mg mb g) (hf : ∀ q ∈ front, q.1 ≠ 145) (hR : ∀ q ∈ R, q.1 ≠ 145) (TS : TabS ps lamPos lamQual z oz) (hz : z ≠ 145) (hvd : handedIn vd = true) (hd : dp + 4 < recursionLimit) (hu : un + 40 < cLine)
    (h : ∀ v h' tk' R1 ps1 c oc, Fr g L h' m → News g L h' (front ++ (145, tabObj ps1) :: (c, oc) :: (R ++ R1)) → TabS ps1 lamPos lamQual c oc → c ≠ 145 → (s.heap.get? c = none ∨ (c, oc) = (z, oz)) → RuleR prog w p loose mean mg mb (R ++ R1) v place size fl vd →
      (∀ q ∈ R1, q.1 ≠ 145 ∧ (s.heap.get? q.1 = none ∨ q = (z, oz))) → Q v { s with heap := h', toks := tk' }) :
    wpAny (model prog w) (arr dp un fr gd) (call (.ref 150) [.int place t1, .int size t2, .ref fl, vd]) Q E s := by
  have m1 : (145, tabObj ps) ∈ front ++ (145, tabObj ps) :: (z, oz) :: R := by simp
  have m2 : (z, oz) ∈ front ++ (145, tabObj ps) :: (z, oz) :: R := by simp
  refine tells_rule place size t1 t2 fl vd hvd dp un fr gd s Q E g ps z oz F.keep X T (N.fresh m1) (N.get m1) (N.fresh m2) (N.get m2) hz TS hd hu fun v h' tk' R1 c oc hk h145 TS' hc hc145 hru hR1 => ?_
  have F' := fr_but F hk (N.fresh m1) (Ne.symm (N _ m1).2.1)
  have q145 : ∀ q ∈ R1, q.1 ≠ 145 := fun q hq e => by
    rcases (hR1 q hq).2 with e2 | e2
    · rw [e, N.get m1] at e2; cases e2
    · exact hz (by rw [e2] at e; exact e)
  have NR1 : News g L h' R1 := fun q hq => by
    rcases (hR1 q hq).2 with e2 | e2
    · have := news_add (h := s.heap) F e2 (hR1 q hq).1 (News.nil : News g L h' [])
      exact this _ (.head _)
    · rw [e2]; exact ⟨hk _ _ hz (N.get m2), (N _ m2).2⟩
  refine h v h' tk' R1 _ c oc F' (fun q hq => ?_) TS' hc145 ((hR1 _ hc).2) (hru.mono fun q hq => List.mem_append_right _ hq) fun q hq => ⟨q145 q hq, (hR1 q hq).2⟩
  rcases List.mem_append.mp hq with hq | hq
  · exact ⟨hk _ _ (hf q hq) (N q (List.mem_append_left _ hq)).1, (N q (List.mem_append_left _ hq)).2⟩
  · rcases List.mem_cons.mp hq with rfl | hq
    · exact ⟨h145, (N _ m1).2⟩
    · rcases List.mem_cons.mp hq with rfl | hq
      · exact NR1 _ hc
      · rcases List.mem_append.mp hq with hq | hq
        · have hm : q ∈ front ++ (145, tabObj ps) :: (z, oz) :: R := by simp [hq]
          exact ⟨hk _ _ (hR q hq) (N q hm).1, (N q hm).2⟩
        · exact NR1 q hq
theorem RulesIn.snoc {R R' : List (Addr × Obj)} {size : Int} {fl : Addr} {vs : List Value} {rs : List (Int × Vd)} {v va : Value} {pl : Int} {vd : Vd} (x : RulesIn prog w p loose mean mg mb R size fl vs rs) (hs : ∀ q ∈ R, q ∈ R') (r : RuleR prog w p loose mean mg mb R' v pl size fl va) (hv : VdIs va vd) (hb : -1000 ≤ pl ∧ pl ≤ 1000) :
    RulesIn prog w p loose mean mg mb R' size fl (vs ++ [v]) (rs ++ [(pl, vd)]) := by
  refine ⟨by simp [x.1], fun i u hu => ?_⟩
  rcases Nat.lt_or_ge i vs.length with hi | hi
  · rw [List.getElem?_append_left hi] at hu
    obtain ⟨pl', vd', va', e1, e2, e3, e4⟩ := x.2 i u hu
    exact ⟨pl', vd', va', by rw [List.getElem?_append_left (by rw [← x.1]; exact hi)]; exact e1, e2, e3.mono hs, e4⟩
  · have hl : i = vs.length := by
      have h1 : i < (vs ++ [v]).length := (List.getElem?_eq_some_iff.mp hu).1
      rw [List.length_append, List.length_singleton] at h1; omega
    subst hl
    have e : u = v := by simpa using hu.symm
    subst e
    exact ⟨pl, vd, va, by rw [x.1]; simp, hv, r, hb⟩
theorem RulesIn.reverse {R : List (Addr × Obj)} {size : Int} {fl : Addr} {vs : List Value} {rs : List (Int × Vd)} (x : RulesIn prog w p loose mean mg mb R size fl vs rs) : RulesIn prog w p loose mean mg mb R size fl vs.reverse rs.reverse := by
  refine ⟨by simp [x.1], fun i u hu => ?_⟩
  have hi : i < vs.length := by have := (List.getElem?_eq_some_iff.mp hu).1; rwa [List.length_reverse] at this
  rw [List.getElem?_reverse hi] at hu
  rw [List.getElem?_reverse (by rw [← x.1]; exact hi), ← x.1]
  exact x.2 _ u hu
/-- what is new lies apart -/
theorem rob_apart {g h : Heap} {L a z' c : Addr} {oa oz' oc : Obj} {news : List (Addr × Obj)} (N : News g L h news) (ha : (a, oa) ∈ news) (hz : z' ≠ a) (hc : h.get? c = none ∨ (c, oc) = (z', oz')) : c ≠ a := by
  rcases hc with hc | hc
  · intro e; rw [e, N.get ha] at hc; cases hc
  · obtain ⟨rfl, rfl⟩ := Prod.mk.inj hc; exact hz
set_option maxRecDepth 100000 in
set_option maxHeartbeats 8000000 in
theorem tells_robots (l : Addr) (vs : List Value) (row : List Int) (backward : Bool) (fsE : List Int) (P : Prof) (hi : IntsAre vs row) (hlen : row.length ≤ 40) (hrob : robLoop (rulesOf row backward) row row.length = some (fsE, P))
    (dp un : Nat) (fr : Option (List Env)) (gd : Option (List Code)) (s : Shared) (Q E : Value → Shared → Prop) (h₀ : Heap) (ps : Array Value) (z : Addr) (oz : Obj)
    (k0 : Keeps h₀ s.heap) (X : (hd.heap_1 w.params).In h₀) (T : Top p loose mean mg mb h₀) (hp : h₀.get? 145 = none) (hP : s.heap.get? 145 = some (tabObj ps)) (hz0 : h₀.get? z = none) (hz : s.heap.get? z = some oz) (hz145 : z ≠ 145) (TS : TabS ps lamPos lamQual z oz)
    (hl : s.heap.IsList l vs.toArray) (hlz : l ≠ z) (hd : dp + 10 < recursionLimit) (hu : un + 100 < cLine)
    (ret : ∀ v h' tk' ps' c oc, (∀ b o, b ≠ 145 → s.heap.get? b = some o → h'.get? b = some o) → h'.get? 145 = some (tabObj ps') → TabS ps' lamPos lamQual c oc → h'.get? c = some oc → c ≠ 145 → (s.heap.get? c = none ∨ (c, oc) = (z, oz)) → IsP prog w s.heap h' v P → Q v { s with heap := h', toks := tk' }) :
    wpAny (model prog w) (arr dp un fr gd) (call (.ref 157) [.ref l, .bool backward]) Q E s := by
  refine wpAny_call ?_
  k_dflt (refine' enterH (news := [(145, tabObj ps), (z, oz)]) k0 X T ?kn ?k6 ?k7 ?k8 ?k9 ?kB ?_ ?c2 ?c3 ?c4 ?c5; (case kn => (intro q hq; simp only [List.mem_cons, List.not_mem_nil, or_false] at hq; rcases hq with rfl | rfl; exact ⟨hP, hp⟩; exact ⟨hz, hz0⟩)); (case k6 => k_is); (case k7 => k_is); (case k8 => first | exact room0 (by assumption) | ktr_room); (case k9 => exact BindsTo.of_eq rfl); (case kB => exact locs rfl); (case c2 => exact rfl); (case c3 => exact rfl); (case c4 => exact rfl); (case c5 => decide); intro g L1 h1 kg kg' kn F1 N1 X' T' l1; (try k_lt l1); (try dsimp only); (try k_fold))
  have hlg : g.IsList l vs.toArray := by
    obtain ⟨o, ho, r⟩ := hl
    refine ⟨o, kn _ _ (fun q hq => ?_) ho, r⟩
    simp only [List.mem_cons, List.not_mem_nil, or_false] at hq
    rcases hq with rfl | rfl
    · intro e
      have e : 145 = l := e
      rw [← e, hP] at ho; cases ho; exact absurd r.1 (by simp)
    · exact Ne.symm hlz
  ktr_unf
  k_dflt (refine' call_cls ?k1 ?k2 ?k3 ?k4 ?k5 ?k6 ?_; (case k1 => k_asm); (case k2 => k_asm); (case k3 => k_asm); (case k4 => k_is); (case k5 => k_is); (case k6 => k_is); k_whole; intro x1 d1 h1 F' N' l1 l2; (try k_lt l1); (try k_lt2 l2); (try k_sweep))
  k_dflt ktr_rel
  ktr_unf
  rename News g _ _ _ => N2
  rename Fr g _ _ _ => F2
  obtain ⟨rl, fl, tsz, es, nn, n1, n2, hes, hes2, hrl, hF, hN, e1, e2, e3, e4, e5, e6, e7, e8⟩ : ∃ (rl fl : Addr) (tsz : Tok) (es : List DictEntry) (nn n1 n2 : Nat), getL (Str.ofString "rulelines") es = some (some (.ref rl)) ∧ getL (Str.ofString "allowance") es = some none ∧ rl ≠ fl ∧
      Fr g L1 _ (fun y => if y = Str.ofString "record" then some (.ref x1) else if y = Str.ofString "filled" then some (.ref fl) else if y = Str.ofString "size" then some (.int row.length tsz) else List.lookup y [(Str.ofString "backward", Value.bool backward), (Str.ofString "row", Value.ref l)]) ∧
      News g L1 _ [(x1, instObj 101 d1), (d1, W.dictOf es nn), (rl, W.listOf ([] : List Value).toArray n1), (fl, W.listOf ([] : List Value).toArray n2), (145, tabObj ps), (z, oz), (z, oz)] ∧ x1 ≠ rl ∧ d1 ≠ rl ∧ 145 ≠ rl ∧ z ≠ rl ∧ x1 ≠ fl ∧ d1 ≠ fl ∧ 145 ≠ fl ∧ z ≠ fl := by
    refine' ⟨?rl, ?fl, ?tsz, ?es, ?nn, ?n1, ?n2, ?hes, ?hes2, ?hrl, F2, cb_drop N2 ?sub, ?_, ?_, ?_, ?_, ?_, ?_, ?_, ?_⟩
    case sub =>
      refine List.forall_mem_cons.mpr ⟨by k_mem, List.forall_mem_cons.mpr ⟨by k_mem, List.forall_mem_cons.mpr ⟨?r1, List.forall_mem_cons.mpr ⟨?r2, List.forall_mem_cons.mpr ⟨by k_mem, List.forall_mem_cons.mpr ⟨by k_mem, List.forall_mem_cons.mpr ⟨by k_mem, fun _ h => nomatch h⟩⟩⟩⟩⟩⟩⟩
      case r1 => exact .head _
      case r2 => k_mem
    case hes => k_dflt k_get
    case hes2 => k_dflt k_get
    all_goals k_ne
  clear F2 N2
  let m₀ : Str → Option Value := fun y => if y = Str.ofString "record" then some (.ref x1) else if y = Str.ofString "filled" then some (.ref fl) else if y = Str.ofString "size" then some (.int row.length tsz) else List.lookup y [(Str.ofString "backward", Value.bool backward), (Str.ofString "row", Value.ref l)]
  refine For_invV g (by rfl) (by rfl) ?_
  ktr_unf
  rename IsRange _ _ _ _ _ _ _ _ => hR
  rename Fr g _ _ _ => F3
  rename News g _ _ _ => N3
  refine iter_range (n := row.length) (fun i m news => ∀ C : Prop, (∀ (ps' : Array Value) (z' : Addr) (oz' : Obj) (R : List (Addr × Obj)) (vs' : List Value) (n1 : Nat), (∀ y, y ≠ Str.ofString "place" → m y = m₀ y) → TabS ps' lamPos lamQual z' oz' → z' ≠ 145 → z' ≠ rl → z' ≠ fl → (s.heap.get? z' = none ∨ (z', oz') = (z, oz)) →
      RulesIn prog w p loose mean mg mb R row.length fl vs' (rulesTo row i) → (∀ q ∈ R, q.1 ≠ rl ∧ q.1 ≠ fl ∧ q.1 ≠ 145) → (z, oz) ∈ R →
      news = (x1, instObj 101 d1) :: (d1, W.dictOf es nn) :: (rl, W.listOf vs'.toArray n1) :: (fl, W.listOf ([] : List Value).toArray n2) :: (145, tabObj ps') :: (z', oz') :: R → C) → C)
    (by rfl) hR (small_len (Nat.le_trans (by assumption) (by decide))) (rangeSize_nat _ _) F3 N3 ?h0 ?step ?done
  case h0 => exact (fun C kk => kk ps z oz ([(z, oz)]) [] n1 (fun y h => rfl) TS hz145 e4 e8 (.inr rfl) ⟨rfl, fun _ _ h => by simp at h⟩ (fun q h => by rw [List.mem_singleton.mp h]; exact ⟨e4, e8, hz145⟩) (.head _) rfl)
  case done =>
    intro m₁ news₁ h tk hJ F4 N4
    refine hJ _ fun ps' z' oz' R vs' n1 hm TS' hz' hzr hzf hzs hru hoR hzR hnw => ?_
    subst hnw
    have e : m₁ = fun y => if y = Str.ofString "place" then m₁ y else m₀ y := by
      funext y
      by_cases h1 : y = Str.ofString "place"
      · simp only [if_pos h1]
      · simp only [if_neg h1]; exact hm y h1
    rw [e] at F4
    repeat' ((fail_if_success (with_reducible show wpAny _ _ (exec (Stmt.If _ _ _ _) _) _ _ _)); tb_rel)
    refine wpAny_mono (Q := IfDone g L1 (fun y => if y = Str.ofString "place" then m₁ y else m₀ y) (fun news => ∃ (vsB : List Value) (nB : Nat), news = (x1, instObj 101 d1) :: (d1, W.dictOf es nn) :: (rl, W.listOf vsB.toArray nB) :: (fl, W.listOf ([] : List Value).toArray n2) :: (145, tabObj ps') :: (z', oz') :: R ∧
      RulesIn prog w p loose mean mg mb R row.length fl vsB (rulesOf row backward)) s) ?rev ?rest fun _ _ e => e
    case rev =>
      ktr_unf
      · have hb : backward = true := by assumption
        k_dflt (refine' get_own (C := 101) ?F X' ?I ?hg ?hh ?ha ?hn hes rfl ?_; (case F => k_asm); (case I => exact InstAt.of_news (by k_asm) (by k_mem) (by k_mem)); (case hg => k_is); (case hh => k_is); (case ha => k_is); (case hn => k_is); k_whole)
        ktr_unf
        refine kl_reverse (its := vs'.toArray) (l := vs'.reverse) F4 N4 (by simp) (Upd.tail e1 (Upd.tail e2 (Upd.head ?u))) ?sz ?_
        case sz => rw [sizeLine_eq]; have := hru.1; have := rulesTo_len row row.length; simp only [List.size_toArray]; omega
        case u =>
          intro q hq
          simp only [List.mem_cons] at hq
          rcases hq with rfl | rfl | rfl | hq
          · exact Ne.symm hrl
          · exact e3
          · exact hzr
          · exact (hoR q hq).1
        intro h7 F7 N7
        ktr_unf
        refine IfDone.intro F7 N7 ⟨vs'.reverse, _, rfl, ?_⟩
        unfold rulesOf; rw [if_pos hb]; exact hru.reverse
      · have hb : backward = false := by assumption
        refine IfDone.intro F4 N4 ⟨vs', _, rfl, ?_⟩
        unfold rulesOf; rw [if_neg (by rw [hb]; decide)]; exact hru
    case rest =>
      rintro f s' ⟨rfl, h5, tk5, _, rfl, F5, N5, vsB, nB, rfl, hruB⟩
      clear F4 N4 hru
      ktr_unf
      k_dflt (refine' method_inst (C := 101) ?F X' ?I ?hg ?hf ?ht hes2 ?_; (case F => k_asm); (case I => exact InstAt.of_news (by k_asm) (by k_mem) (by k_mem)); (case hg => k_is); (case hf => k_is); (case ht => k_is); k_whole)
      ktr_unf
      refine tells_allow x1 d1 rl fl es nn vsB (rulesOf row backward) R row.length row.length _ [] [] _ _ _ _ _ _ _ g F5.keep X' T' (N5.get (by k_mem)) (N5.get (by k_mem)) hes ⟨_, N5.get (by k_mem : (rl, _) ∈ _), rfl, _, rfl⟩ (fun q hq => ⟨(N5 q (by simp [hq])).1, (N5 q (by simp [hq])).2.2, (hoR q hq).2.1⟩) hruB ⟨_, N5.get (by k_mem : (fl, _) ∈ _), rfl, _, rfl⟩ .nil (by simp) (by omega) (by omega) (by show dp + 1 + 5 < _; exact room_le (k := 6) (by assumption) (by decide)) (by show un + 3 + 60 < _; exact room_le (k := 63) (by assumption) (by decide)) ?_
      intro v h6 tk6 k6 hv6
      rw [allow_beyond fun r hr => by have := rulesOf_lt r hr; omega] at hv6
      obtain rfl := VdIs.is_tt hv6
      have F6 := F5.keeps k6
      have N6 : News g L1 _ ((x1, instObj 101 d1) :: (d1, W.dictOf es nn) :: (rl, W.listOf vsB.toArray nB) :: (fl, W.listOf ([] : List Value).toArray n2) :: (145, tabObj ps') :: (z', oz') :: (z, oz) :: R) :=
        fun q hq => kept_news N5 k6 q (by simp only [List.mem_cons] at hq ⊢; rcases hq with h | h | h | h | h | h | h | h <;> first | (simp [h]; done) | (subst h; simp [hzR]))
      clear F5 N5
      ktr_unf
      rename Fr g _ _ _ => F7'
      rename News g _ _ _ => N7'
      rename (_ == sysModules) = false => lo0'
      rename Obj.IsDictOf _ _ _ => hd0'
      rename PyProof.V.FlatPairs _ _ _ => hf0'
      let mB : Str → Option Value := fun y => if y = Str.ofString "place" then m₁ y else m₀ y
      obtain ⟨t0, d0, od0, a1, a2, a3, a4, F7, N7, lo0, hd0, hf0, ne0, tf0, df0, t145, d145, tz0, dz0⟩ : ∃ (t0 d0 : Addr) (od0 : Obj) (a1 a2 a3 a4 : Tok), Fr g L1 _ (fun y => if y = Str.ofString "deeds" then some (.ref t0) else mB y) ∧
          News g L1 _ ((t0, { cls := .type "tuple", data := .seq [Value.int 0 a1, Value.int 0 a2, Value.int 0 a3, Value.int 0 a4, Value.ref d0].toArray }) :: (d0, od0) :: (x1, instObj 101 d1) :: (d1, W.dictOf es nn) :: (rl, W.listOf vsB.toArray nB) :: (fl, W.listOf ([] : List Value).toArray n2) :: (145, tabObj ps') :: (z', oz') :: R) ∧
          (d0 == sysModules) = false ∧ od0.IsDictOf (PySem.intKind prog w) [] ∧ PyProof.V.FlatPairs PyData.int [] [] ∧ t0 ≠ d0 ∧ t0 ≠ fl ∧ d0 ≠ fl ∧ t0 ≠ 145 ∧ d0 ≠ 145 ∧ t0 ≠ z ∧ d0 ≠ z := ⟨_, _, _, _, _, _, _, F7', cb_drop N7' (fun q hq => by simp only [List.mem_cons] at hq; rcases hq with rfl | rfl | rfl | rfl | rfl | rfl | rfl | rfl | hq <;> first | k_mem | simp [hq]), lo0', hd0', hf0', by k_ne, by k_ne, by k_ne, by k_ne, by k_ne, by k_ne, by k_ne⟩
      clear F7' N7' lo0' hd0' hf0'
      refine For_invV g (by rfl) (by rfl) ?_
      ktr_unf
      rename IsRange _ _ _ _ _ _ _ _ => hR2
      rename Fr g _ _ _ => F8
      rename News g _ _ _ => N8
      refine iter_range (n := row.length) (fun i m news => ∀ C : Prop, (∀ (items : List Value) (fs : List Int) (P : Prof) (nf : Nat) (t d : Addr) (od : Obj) (t1 t2 t3 t4 : Tok), robLoop (rulesOf row backward) row i = some (fs, P) →
          (∀ y, y ≠ Str.ofString "ball" → y ≠ Str.ofString "box" → m y = if y = Str.ofString "deeds" then some (.ref t) else mB y) → IntsAre items fs → fs.length ≤ i → ODict prog w od P.2.2.2.2 → (d == sysModules) = false → t ≠ d → t ≠ fl → d ≠ fl → P.2.2.2.2.length ≤ 2 * i → (t ≠ 145 ∧ d ≠ 145 ∧ t ≠ z ∧ d ≠ z) →
          news = (t, { cls := .type "tuple", data := .seq [Value.int P.1 t1, Value.int P.2.1 t2, Value.int P.2.2.1 t3, Value.int P.2.2.2.1 t4, Value.ref d].toArray }) :: (d, od) :: (x1, instObj 101 d1) :: (d1, W.dictOf es nn) :: (rl, W.listOf vsB.toArray nB) :: (fl, W.listOf items.toArray nf) :: (145, tabObj ps') :: (z', oz') :: R → C) → C)
        (by rfl) hR2 (small_len (Nat.le_trans (by assumption) (by decide))) (rangeSize_nat _ _) F8 N8 ?h0 ?step2 ?done2
      case h0 => exact (fun C kk => kk [] [] ((0, 0, 0, 0, [])) n2 t0 d0 od0 a1 a2 a3 a4 rfl (fun y h1 h2 => rfl) .nil (Nat.le_refl _) ⟨[], hd0, hf0⟩ lo0 ne0 tf0 df0 (Nat.le_refl _) ⟨t145, d145, tz0, dz0⟩ rfl)
      case done2 =>
        intro m₂ news₂ h8 tk8 hJ F9 N9
        refine hJ _ fun items fs P' nf t d od t1 t2 t3 t4 hro hm2 hit hfl hod lod htd htf hdf hpl hqs hnw => ?_
        obtain ⟨kv, hd2, hf2⟩ := hod
        obtain ⟨hq1, hq2, hq3, hq4⟩ := hqs
        subst hnw
        rw [hrob] at hro
        obtain ⟨rfl, rfl⟩ := Prod.mk.inj (Option.some.inj hro)
        have e : m₂ = fun y => if y = Str.ofString "deeds" then some (.ref t) else if y = Str.ofString "ball" then m₂ y else if y = Str.ofString "box" then m₂ y else mB y := by
          funext y
          by_cases h1 : y = Str.ofString "ball"
          · subst h1
            rw [if_neg (by decide), if_pos rfl]
          · by_cases h2 : y = Str.ofString "box"
            · subst h2
              rw [if_neg (by decide), if_neg h1, if_pos rfl]
            · simp only [if_neg h1, if_neg h2]; exact hm2 y h1 h2
        rw [e] at F9
        ktr_unf
        have hfr : ∀ a, g.get? a = none → a ≠ 145 → a ≠ z → s.heap.get? a = none := fun a h1 h2 h3 => by
          cases q : s.heap.get? a with
          | none => rfl
          | some o5 =>
            rw [kn a o5 (fun r hr hrc => by
              simp only [List.mem_cons, List.not_mem_nil, or_false] at hr
              rcases hr with rfl | rfl
              · exact h2 hrc.symm
              · exact h3 hrc.symm) q] at h1
            cases h1
        refine ret _ _ _ ps' z' oz' (fun b o hb q => ?_) (N9.get (by k_mem)) TS' (N9.get (by k_mem)) hz' hzs ⟨t, d, od, t1, t2, t3, t4, rfl, N9.get (by k_mem), N9.get (by k_mem), ⟨kv, hd2, hf2⟩, lod, hfr _ (N9.fresh (by k_mem : (t, _) ∈ _)) hq1 hq3, hfr _ (N9.fresh (by k_mem : (d, _) ∈ _)) hq2 hq4, htd⟩
        by_cases hbz : b = z
        · subst hbz
          rw [hz] at q
          obtain rfl := Option.some.inj q
          exact N9.get (by simp [hzR])
        · exact F9.keep _ _ (kn b o (fun r hr hrc => by
            simp only [List.mem_cons, List.not_mem_nil, or_false] at hr
            rcases hr with rfl | rfl
            · exact hb hrc.symm
            · exact hbz hrc.symm) q)
      case step2 =>
        intro i t m₂ news₂ h8 tk8 it o hin hoff2 hJ F9 N9
        refine hJ _ fun items fs P' nf tt d od t1 t2 t3 t4 hro hm2 hit hfl hod lod htd htf hdf hpl hqs hnw => ?_
        obtain ⟨kv, hd2, hf2⟩ := hod
        obtain ⟨hq1, hq2, hq3, hq4⟩ := hqs
        subst hnw
        rw [two_set hm2] at F9
        simp only [Int.zero_add] at F9
        obtain ⟨tb, hvb⟩ := hi.get i (row.getD i 0) (by simp [hin])
        have hnext := robLoop_some (show i + 1 ≤ row.length from hin) (by rw [hrob]; rfl)
        have i145 : it ≠ 145 := Ne.symm (hoff2 (145, _) (by k_mem))
        have ifl : it ≠ fl := Ne.symm (hoff2 (fl, _) (by k_mem))
        tb_start
        · have hb1 : row.getD i 0 = 1 := by simpa using (by assumption : row.getD (Int.toNat ↑i) 0 = 1)
          obtain ⟨k, hk1, hk2, hk3⟩ : ∃ k, (allowF row.length fs (rulesOf row backward) i).2 = .at k ∧ (0 ≤ k ∧ k < 100) ∧ robLoop (rulesOf row backward) row (i + 1) = some (fs ++ [k], addP (addP P' (deedP (-1) i)) (deedP 1 k)) := by
            have e : robLoop (rulesOf row backward) row (i + 1) = robStep row.length (rulesOf row backward) (some (fs, P')) i (row.getD i 0) := by rw [← hro]; rfl
            rw [e] at hnext ⊢
            unfold robStep at hnext ⊢
            dsimp only at hnext ⊢
            rw [if_pos hb1] at hnext ⊢
            cases hA : (allowF row.length fs (rulesOf row backward) i).2 with
            | «at» k =>
              rw [hA] at hnext
              dsimp only at hnext ⊢
              by_cases hk : 0 ≤ k ∧ k < 100
              · rw [if_pos hk]; exact ⟨k, rfl, hk, rfl⟩
              · rw [if_neg hk] at hnext; cases hnext
            | tt => rw [hA] at hnext; cases hnext
            | ff => rw [hA] at hnext; cases hnext
          k_dflt (refine' method_inst (C := 101) ?F X' ?I ?hg ?hf ?ht hes2 ?_; (case F => k_asm); (case I => exact InstAt.of_news (by k_asm) (by k_mem) (by k_mem)); (case hg => k_is); (case hf => k_is); (case ht => k_is); k_whole)
          ktr_unf
          refine tells_allow x1 d1 rl fl es nn vsB (rulesOf row backward) R row.length i _ items fs _ _ _ _ _ _ _ g F9.keep X' T' (N9.get (by k_mem)) (N9.get (by k_mem)) hes ⟨_, N9.get (by k_mem : (rl, _) ∈ _), rfl, _, rfl⟩ (fun q hq => ⟨(N9 q (by simp [hq])).1, (N9 q (by simp [hq])).2.2, (hoR q hq).2.1⟩) hruB ⟨_, N9.get (by k_mem : (fl, _) ∈ _), rfl, _, rfl⟩ hit (by omega) (by omega) (by omega) (by show dp + 1 + 5 < _; exact room_le (k := 6) (by assumption) (by decide)) (by show un + 3 + 60 < _; exact room_le (k := 63) (by assumption) (by decide)) ?_
          intro v ha tka ka hva
          rw [hk1] at hva
          obtain ⟨tv, rfl⟩ := VdIs.is_at hva
          have F10 := F9.keeps ka
          have N10 := kept_news N9 ka
          clear F9 N9
          ktr_unf
          rename Fr g _ _ _ => F11
          rename News g _ _ _ => N11
          have x1f : x1 ≠ fl := e5
          refine append_K (its := items.toArray) (n := nf) F11 N11 (Upd.tail ifl (Upd.tail ?ut (Upd.tail ?ud (Upd.tail e5 (Upd.tail e6 (Upd.tail hrl (Upd.head ?uu))))))) ?_ ?usz
          case ut => exact htf
          case ud => exact hdf
          case uu =>
            intro q hq
            simp only [List.mem_cons] at hq
            rcases hq with rfl | rfl | hq
            · exact e7
            · exact hzf
            · exact (hoR q hq).2.1
          case usz => rw [sizeLine_eq]; have := hit.length; simp only [List.size_toArray]; omega
          intro hb Fb Nb
          rw [List.push_toArray] at Nb
          ktr_unf
          have hp1 : IsP prog w g hb (.ref tt) P' := IsProf.of_news Nb (by k_mem) (by k_mem) hd2 hf2 rfl lod htd rfl rfl rfl rfl
          refine (tells_deed (-1) i _ _ (by omega) (by omega)).use Fb X' T' (by show dp + 1 + 2 < _; exact room_le (k := 3) (by assumption) (by decide)) (by show un + 3 + 20 < _; exact room_le (k := 23) (by assumption) (by decide)) trivial ?_
          rintro v h2 tk2 k2 F2 hp2
          obtain ⟨t5, rfl⟩ := hp2.isRef
          ktr_unf
          refine (tells_stats (.ref tt) (.ref t5) _ _ _ _ _ _ _ _ _ _ (by omega) (by simp)).use F2 X' T' (by show dp + 1 + 4 < _; exact room_le (k := 5) (by assumption) (by decide)) (by show un + 3 + 40 < _; exact room_le (k := 43) (by assumption) (by decide)) ⟨(hp1.keeps k2).any, hp2.any⟩ ?_
          rintro v h3 tk3 k3 F3 hp3
          refine hp3.ledC F2 (kept_news (kept_news Nb k2) k3) _ fun t6 d6 od6 s1 s2 s3 s4 hvL Nc hoN lo6 ne6 f1 f2 => ?_
          subst hvL
          obtain ⟨kv6, hd6, hf6⟩ := hoN
          have hlc : (addP P' (deedP (-1) i)).2.2.2.2.length ≤ 2 * i + 1 := by
            have := addC_len P'.2.2.2.2 (deedP (-1) i).2.2.2.2
            show (addC P'.2.2.2.2 (deedP (-1) i).2.2.2.2).length ≤ _
            have h1 : (deedP (-1) i).2.2.2.2.length = 1 := rfl
            omega
          clear hp2 Nb Fb
          ktr_unf
          rename Fr g _ _ _ => F4
          rename News g _ _ _ => N4
          refine (tells_deed 1 k _ _ (by omega) (by omega)).use F4 X' T' (by show dp + 1 + 2 < _; exact room_le (k := 3) (by assumption) (by decide)) (by show un + 3 + 20 < _; exact room_le (k := 23) (by assumption) (by decide)) trivial ?_
          rintro v h5 tk5 k5 F5 hp5
          obtain ⟨t7, rfl⟩ := hp5.isRef
          ktr_unf
          have hp4 : IsP prog w g _ (.ref t6) (addP P' (deedP (-1) i)) := IsProf.of_news N4 (by k_mem) (by k_mem) hd6 hf6 rfl lo6 ne6 rfl rfl rfl rfl
          refine (tells_stats (.ref t6) (.ref t7) _ _ _ _ _ _ _ _ _ _ (by omega) (by simp)).use F5 X' T' (by show dp + 1 + 4 < _; exact room_le (k := 5) (by assumption) (by decide)) (by show un + 3 + 40 < _; exact room_le (k := 43) (by assumption) (by decide)) ⟨(hp4.keeps k5).any, hp5.any⟩ ?_
          rintro v h6 tk6 k6 F6 hp6
          refine hp6.ledC F5 (kept_news (kept_news N4 k5) k6) _ fun t8 d8 od8 u1 u2 u3 u4 hvL N8' ho8 lo8 ne8 g1 g2 => ?_
          subst hvL
          have Nk := kept_news N4 k5
          have i8 : it ≠ t8 := news_ne Nk g1 (it, o) (by k_mem)
          have j8 : it ≠ d8 := news_ne Nk g2 (it, o) (by k_mem)
          have f8 : fl ≠ t8 := news_ne Nk g1 (fl, _) (by k_mem)
          have y8 : fl ≠ d8 := news_ne Nk g2 (fl, _) (by k_mem)
          have q1 : 145 ≠ t8 := news_ne Nk g1 (145, tabObj ps') (by k_mem)
          have q2 : 145 ≠ d8 := news_ne Nk g2 (145, tabObj ps') (by k_mem)
          have q3 : z ≠ t8 := news_ne Nk g1 (z, oz) (by simp [hzR])
          have q4 : z ≠ d8 := news_ne Nk g2 (z, oz) (by simp [hzR])
          ktr_unf
          rename Fr g _ _ _ => Fe
          rename News g _ _ _ => Ne'
          refine StepEnd.intro Fe Ne' (by k_mem) (news₂ := (t8, _) :: (d8, od8) :: (x1, instObj 101 d1) :: (d1, W.dictOf es nn) :: (rl, W.listOf vsB.toArray nB) :: (fl, W.listOf (items ++ [Value.int k tv]).toArray (nf + 1)) :: (145, tabObj ps') :: (z', oz') :: R) (fun q hq => ?sub2) ?off3
            (fun C kk => kk (items ++ [Value.int k tv]) (fs ++ [k]) (addP (addP P' (deedP (-1) i)) (deedP 1 k)) (nf + 1) t8 d8 od8 u1 u2 u3 u4 hk3 ?mp (ints_append_one hit k tv) (by simp; omega) ho8 lo8 ne8 (Ne.symm f8) (Ne.symm y8) ?ln ⟨Ne.symm q1, Ne.symm q2, Ne.symm q3, Ne.symm q4⟩ rfl)
          case sub2 =>
            simp only [List.mem_cons] at hq
            rcases hq with rfl | rfl | rfl | rfl | rfl | rfl | rfl | rfl | hq <;> first | k_mem | simp [hq]
          case off3 =>
            intro q hq
            simp only [List.mem_cons] at hq
            rcases hq with rfl | rfl | rfl | rfl | rfl | rfl | rfl | rfl | hq
            · exact Ne.symm i8
            · exact Ne.symm j8
            · exact hoff2 (x1, instObj 101 d1) (by k_mem)
            · exact hoff2 (d1, W.dictOf es nn) (by k_mem)
            · exact hoff2 (rl, W.listOf vsB.toArray nB) (by k_mem)
            · exact Ne.symm ifl
            · exact Ne.symm i145
            · exact hoff2 (z', oz') (by k_mem)
            · exact hoff2 q (by simp [hq])
          case mp =>
            intro y h1 h2
            by_cases h3 : y = Str.ofString "deeds"
            · simp only [if_pos h3]
            · simp only [if_neg h1, if_neg h2, if_neg h3]
          case ln =>
            have := addC_len (addP P' (deedP (-1) i)).2.2.2.2 (deedP 1 k).2.2.2.2
            have h1 : (deedP 1 k).2.2.2.2.length = 1 := rfl
            have h2 : (addP P' (deedP (-1) i)).2.2.2.2.length ≤ 2 * i + 1 := hlc
            show (addC (addP P' (deedP (-1) i)).2.2.2.2 (deedP 1 k).2.2.2.2).length ≤ _
            omega
        · have hb1 : ¬ row.getD i 0 = 1 := by simpa using (by assumption : row.getD (Int.toNat ↑i) 0 ≠ 1)
          have hro' : robLoop (rulesOf row backward) row (i + 1) = some (fs, P') := by
            have e : robLoop (rulesOf row backward) row (i + 1) = robStep row.length (rulesOf row backward) (some (fs, P')) i (row.getD i 0) := by rw [← hro]; rfl
            rw [e]; unfold robStep; dsimp only; rw [if_neg hb1]
          rename News g _ _ _ => N5
          rename Fr g _ _ _ => F5
          refine StepEnd.intro F5 N5 (.head _) (news₂ := (tt, _) :: (d, od) :: (x1, instObj 101 d1) :: (d1, W.dictOf es nn) :: (rl, W.listOf vsB.toArray nB) :: (fl, W.listOf items.toArray nf) :: (145, tabObj ps') :: (z', oz') :: R) (fun q hq => .tail _ hq) hoff2
            (fun C kk => kk items fs P' nf tt d od t1 t2 t3 t4 hro' ?mp3 hit (by omega) ⟨kv, hd2, hf2⟩ lod htd htf hdf (by omega) ⟨hq1, hq2, hq3, hq4⟩ rfl)
          case mp3 =>
            intro y h1 h2
            by_cases h3 : y = Str.ofString "deeds"
            · simp only [if_neg h1, if_neg h2, if_pos h3]
            · simp only [if_neg h1, if_neg h2, if_neg h3]
  case step =>
    intro i t m₁ news₁ h tk it o hin hoff hJ F4 N4
    refine hJ _ fun ps' z' oz' R vs' n1 hm TS' hz' hzr hzf hzs hru hoR hzR hnw => ?_
    subst hnw
    have e : (fun y => if y = Str.ofString "place" then some (Value.int (0 + (i : Int)) t) else m₁ y) = fun y => if y = Str.ofString "place" then some (Value.int (i : Int) t) else m₀ y := by
      funext y
      rw [Int.zero_add]
      by_cases h1 : y = Str.ofString "place"
      · simp only [if_pos h1]
      · simp only [if_neg h1]; exact hm y h1
    rw [e] at F4
    obtain ⟨tb, hvb⟩ := hi.get i (row.getD i 0) (by simp [hin])
    have i145 : it ≠ 145 := Ne.symm (hoff (145, _) (by k_mem))
    have irl : it ≠ rl := Ne.symm (hoff (rl, _) (by k_mem))
    have ifl : it ≠ fl := Ne.symm (hoff (fl, _) (by k_mem))
    ktr_unf
    · have hb0 : row.getD i 0 = 0 := by simpa using (by assumption : row.getD (Int.toNat ↑i) 0 = 0)
      k_dflt (refine' get_own (C := 101) ?F X' ?I ?hg ?hh ?ha ?hn hes rfl ?_; (case F => k_asm); (case I => exact InstAt.of_news (by k_asm) (by k_mem) (by k_mem)); (case hg => k_is); (case hh => k_is); (case ha => k_is); (case hn => k_is); k_whole)
      ktr_unf
      rename News g _ _ _ => N5
      rename Fr g _ _ _ => F5
      refine' rob_rule (front := [?q1, ?q2, ?q3, ?q4, ?q5]) (vd := .int (i : Int) t) ?F ?N X' T' ?hf (fun q hq => (hoR q hq).2.2) TS' hz' rfl (by show dp + 1 + 4 < _; exact room_le (k := 5) (by assumption) (by decide)) (by show un + 3 + 40 < _; exact room_le (k := 43) (by assumption) (by decide)) ?_
      case F => exact F5
      case N => exact N5
      case hf => (intro q hq; simp only [List.mem_cons, List.not_mem_nil, or_false] at hq; rcases hq with rfl | rfl | rfl | rfl | rfl <;> first | k_ne | exact Ne.symm e3 | exact Ne.symm e7 | exact i145)
      intro v h6 tk6 R1 ps1 c1 oc1 F6 N6 TS6 hc6 hcz6 hru6 hR6
      simp only [List.cons_append, List.nil_append] at N6
      have cr : c1 ≠ rl := rob_apart (a := rl) N5 (by k_mem) hzr hcz6
      have cf : c1 ≠ fl := rob_apart (a := fl) N5 (by k_mem) hzf hcz6
      have ci : c1 ≠ it := rob_apart (a := it) N5 (by k_mem) (hoff (z', oz') (by k_mem)) hcz6
      have cz : s.heap.get? c1 = none ∨ (c1, oc1) = (z, oz) := by
        rcases hcz6 with e | e
        · refine .inl ?_
          cases q : s.heap.get? c1 with
          | none => rfl
          | some o5 =>
            have := F5.keep _ _ (kn c1 o5 (fun r hr hrc => by
              simp only [List.mem_cons, List.not_mem_nil, or_false] at hr
              rcases hr with rfl | rfl
              · exact hc6 hrc.symm
              · have e9 := N5.get (by simp [hzR] : (z, oz) ∈ _)
                have hrc : z = c1 := hrc
                rw [hrc, e] at e9; cases e9) q)
            rw [e] at this; cases this
        · obtain ⟨rfl, rfl⟩ := Prod.mk.inj e; exact hzs
      have hoR6 : ∀ q ∈ R ++ R1, q.1 ≠ rl ∧ q.1 ≠ fl ∧ q.1 ≠ 145 := fun q hq => by
        rcases List.mem_append.mp hq with hq | hq
        · exact hoR q hq
        · exact ⟨rob_apart (a := rl) N5 (by k_mem) hzr (hR6 q hq).2, rob_apart (a := fl) N5 (by k_mem) hzf (hR6 q hq).2, (hR6 q hq).1⟩
      have hiR6 : ∀ q ∈ R ++ R1, q.1 ≠ it := fun q hq => by
        rcases List.mem_append.mp hq with hq | hq
        · exact hoff q (by simp [hq])
        · exact rob_apart (a := it) N5 (by k_mem) (hoff (z', oz') (by k_mem)) (hR6 q hq).2
      ktr_unf
      refine append_K (its := vs'.toArray) (n := n1) F6 N6 (Upd.tail irl (Upd.tail e1 (Upd.tail e2 (Upd.head ?u)))) ?_ ?sz
      case sz => rw [sizeLine_eq]; have := hru.1; have := rulesTo_len row i; simp only [List.size_toArray]; omega
      case u =>
        intro q hq
        simp only [List.mem_cons] at hq
        rcases hq with rfl | rfl | rfl | hq
        · exact Ne.symm hrl
        · exact e3
        · exact cr
        · exact (hoR6 q hq).1
      intro h7 F7 N7
      rw [List.push_toArray] at N7
      have hru7 := hru.snoc (fun q hq => List.mem_append_left R1 hq) hru6 (vd := Vd.at i) rfl (by omega)
      ktr_unf
      · have hm3 : (i : Int) % 3 = 0 := by have : (i : Int).fmod 3 = 0 := by assumption
                                           rw [Int.fmod_eq_emod_of_nonneg _ (by omega)] at this; exact this
        have er : rulesTo row (i + 1) = (rulesTo row i ++ [((i : Int), Vd.at i)]) ++ [((i : Int), Vd.ff)] := by
          show rulesTo row i ++ rulesAt row i = _
          unfold rulesAt; rw [if_pos hb0, if_pos hm3]; simp
        k_dflt (refine' get_own (C := 101) ?F X' ?I ?hg ?hh ?ha ?hn hes rfl ?_; (case F => k_asm); (case I => exact InstAt.of_news (by k_asm) (by k_mem) (by k_mem)); (case hg => k_is); (case hh => k_is); (case ha => k_is); (case hn => k_is); k_whole)
        ktr_unf
        have N8 := N7
        have F8 := F7
        refine' rob_rule (front := [?r1, ?r2, ?r3, ?r4, ?r5]) (vd := .bool false) ?F ?N X' T' ?hf (fun q hq => (hoR6 q hq).2.2) TS6 hc6 rfl (by show dp + 1 + 4 < _; exact room_le (k := 5) (by assumption) (by decide)) (by show un + 3 + 40 < _; exact room_le (k := 43) (by assumption) (by decide)) ?_
        case F => exact F8
        case N => exact N8
        case hf => (intro q hq; simp only [List.mem_cons, List.not_mem_nil, or_false] at hq; rcases hq with rfl | rfl | rfl | rfl | rfl <;> first | k_ne | exact Ne.symm e3 | exact Ne.symm e7 | exact i145)
        intro v9 h9 tk9 R2 ps2 c2 oc2 F9 N9 TS9 hc9 hcz9 hru9 hR9
        simp only [List.cons_append, List.nil_append] at N9
        have cr2 : c2 ≠ rl := rob_apart (a := rl) N8 (by k_mem) cr hcz9
        have cf2 : c2 ≠ fl := rob_apart (a := fl) N8 (by k_mem) cf hcz9
        have ci2 : c2 ≠ it := rob_apart (a := it) N8 (by k_mem) ci hcz9
        have cz2 : s.heap.get? c2 = none ∨ (c2, oc2) = (z, oz) := by
          rcases hcz9 with e | e
          · refine .inl ?_
            cases q : s.heap.get? c2 with
            | none => rfl
            | some o5 =>
              have := F8.keep _ _ (kn c2 o5 (fun r hr hrc => by
                simp only [List.mem_cons, List.not_mem_nil, or_false] at hr
                rcases hr with rfl | rfl
                · exact hc9 hrc.symm
                · have e9 := N8.get (by simp [hzR] : (z, oz) ∈ _)
                  have hrc : z = c2 := hrc
                  rw [hrc, e] at e9; cases e9) q)
              rw [e] at this; cases this
          · obtain ⟨rfl, rfl⟩ := Prod.mk.inj e; exact cz
        have hoR9 : ∀ q ∈ R ++ R1 ++ R2, q.1 ≠ rl ∧ q.1 ≠ fl ∧ q.1 ≠ 145 := fun q hq => by
          rcases List.mem_append.mp hq with hq | hq
          · exact hoR6 q hq
          · exact ⟨rob_apart (a := rl) N8 (by k_mem) cr (hR9 q hq).2, rob_apart (a := fl) N8 (by k_mem) cf (hR9 q hq).2, (hR9 q hq).1⟩
        have hiR9 : ∀ q ∈ R ++ R1 ++ R2, q.1 ≠ it := fun q hq => by
          rcases List.mem_append.mp hq with hq | hq
          · exact hiR6 q hq
          · exact rob_apart (a := it) N8 (by k_mem) ci (hR9 q hq).2
        ktr_unf
        refine append_K (its := (vs' ++ [v]).toArray) (n := n1 + 1) F9 N9 (Upd.tail irl (Upd.tail e1 (Upd.tail e2 (Upd.head ?u2)))) ?_ ?sz2
        case sz2 => rw [sizeLine_eq]; have := hru.1; have := rulesTo_len row i; simp only [List.size_toArray, List.length_append, List.length_singleton]; omega
        case u2 =>
          intro q hq
          simp only [List.mem_cons] at hq
          rcases hq with rfl | rfl | rfl | hq
          · exact Ne.symm hrl
          · exact e3
          · exact cr2
          · exact (hoR9 q hq).1
        intro ha Fa Na
        rw [List.push_toArray] at Na
        have hrua := hru7.snoc (fun q hq => List.mem_append_left R2 hq) hru9 (vd := Vd.ff) trivial (by omega)
        ktr_unf
        refine StepEnd.intro Fa Na (.head _) (news₂ := (x1, instObj 101 d1) :: (d1, W.dictOf es nn) :: (rl, W.listOf (vs' ++ [v] ++ [v9]).toArray (n1 + 1 + 1)) :: (fl, W.listOf ([] : List Value).toArray n2) :: (145, tabObj ps2) :: (c2, oc2) :: (R ++ R1 ++ R2)) (fun q hq => .tail _ hq) ?off
          (fun C kk => kk ps2 c2 oc2 (R ++ R1 ++ R2) (vs' ++ [v] ++ [v9]) (n1 + 1 + 1) (fun y h => if_neg h) TS9 hc9 cr2 cf2 cz2 (by rw [er]; exact hrua) hoR9 (List.mem_append_left _ (List.mem_append_left _ hzR)) rfl)
        intro q hq
        simp only [List.mem_cons] at hq
        rcases hq with rfl | rfl | rfl | rfl | rfl | rfl | hq
        · exact hoff (x1, instObj 101 d1) (by k_mem)
        · exact hoff (d1, W.dictOf es nn) (by k_mem)
        · exact Ne.symm irl
        · exact Ne.symm ifl
        · exact Ne.symm i145
        · exact ci2
        · exact hiR9 q hq
      · have hm3 : ¬ (i : Int) % 3 = 0 := by have : (i : Int).fmod 3 ≠ 0 := by assumption
                                             rw [Int.fmod_eq_emod_of_nonneg _ (by omega)] at this; exact this
        have er : rulesTo row (i + 1) = rulesTo row i ++ [((i : Int), Vd.at i)] := by
          show rulesTo row i ++ rulesAt row i = _
          unfold rulesAt; rw [if_pos hb0, if_neg hm3]
        refine StepEnd.intro F7 N7 (.head _) (news₂ := (x1, instObj 101 d1) :: (d1, W.dictOf es nn) :: (rl, W.listOf (vs' ++ [v]).toArray (n1 + 1)) :: (fl, W.listOf ([] : List Value).toArray n2) :: (145, tabObj ps1) :: (c1, oc1) :: (R ++ R1)) (fun q hq => .tail _ hq) ?off2
          (fun C kk => kk ps1 c1 oc1 (R ++ R1) (vs' ++ [v]) (n1 + 1) (fun y h => if_neg h) TS6 hc6 cr cf cz (by rw [er]; exact hru7) hoR6 (List.mem_append_left _ hzR) rfl)
        intro q hq
        simp only [List.mem_cons] at hq
        rcases hq with rfl | rfl | rfl | rfl | rfl | rfl | hq
        · exact hoff (x1, instObj 101 d1) (by k_mem)
        · exact hoff (d1, W.dictOf es nn) (by k_mem)
        · exact Ne.symm irl
        · exact Ne.symm ifl
        · exact Ne.symm i145
        · exact ci
        · exact hiR6 q hq
    · have hb0 : ¬ row.getD i 0 = 0 := by simpa using (by assumption : row.getD (Int.toNat ↑i) 0 ≠ 0)
      have er : rulesTo row (i + 1) = rulesTo row i := by
        show rulesTo row i ++ rulesAt row i = _
        unfold rulesAt; rw [if_neg hb0]; simp
      rename News g _ _ _ => N5
      rename Fr g _ _ _ => F5
      exact StepEnd.intro F5 N5 (.head _) (news₂ := (x1, instObj 101 d1) :: (d1, W.dictOf es nn) :: (rl, W.listOf vs'.toArray n1) :: (fl, W.listOf ([] : List Value).toArray n2) :: (145, tabObj ps') :: (z', oz') :: R) (fun q hq => .tail _ hq) hoff
          (fun C kk => kk ps' z' oz' R vs' n1 (fun y h => if_neg h) TS' hz' hzr hzf hzs (by rw [er]; exact hru) hoR hzR rfl)
end

end
section
/-- the end of a turn of a comprehension that makes nothing that lasts -/
noncomputable def TurnI (h : Heap) (s : Shared) (k : Int) (y : Value) (s' : Shared) : Prop := ∃ t h' tk', y = .int k t ∧ s' = { s with heap := h', toks := tk' } ∧ Keeps h h'
theorem TurnI.intro {h h' : Heap} {s : Shared} {k : Int} {t : Tok} {tk' : Nat} (e : Keeps h h') : TurnI h s k (.int k t) { s with heap := h', toks := tk' } := ⟨t, h', tk', rfl, rfl, e⟩
section
variable {prog : Program} {w : World} {A : Around} {E : Value → Shared → Prop} {s : Shared} {h₀ : Heap} {L : Addr} {m : Str → Option Value} {env : Env}
theorem rest_ints {elt : Expr} {x : Str} {scope : Scope} {cl : List (Str × Addr)} {S : List (Addr × Obj) → Prop} {P : Nat → Value → Prop} {Fin : List Value → List (Addr × Obj) → Prop} {news : List (Addr × Obj)} {n : Nat} (f : Nat → Int) (hS : S news)
    (turn : ∀ i v I oI C oC D ys m₂ h tk (E' : Value → Shared → Prop), i < n → P i v → LCg.NsObj oC m₂ → m₂ x = some v → Fr h₀ L h m → News h₀ L h ((I, oI) :: (C, oC) :: (D, LCg.lst ys) :: news) → LCg.Off3 I C D news → ((@Ne Nat I C) ∧ (@Ne Nat I D) ∧ (@Ne Nat C D)) →
      wpAny (model prog w) A (eval elt (compEnvC scope cl C env)) (TurnI h { s with heap := h, toks := tk } (f i)) E' { s with heap := h, toks := tk })
    (fin : ∀ ys, IntsAre ys ((List.range n).map f) → Fin ys news) : LCg.CompRest prog w A h₀ L m env elt x scope cl s S P Fin n 0 [] news := by
  have gen : ∀ k i ys, i + k = n → IntsAre ys ((List.range i).map f) → LCg.CompRest prog w A h₀ L m env elt x scope cl s S P Fin k i ys news := by
    intro k
    induction k with
    | zero =>
      intro i ys e hy
      obtain rfl : i = n := by omega
      exact LCg.CompRest.zero (fin ys hy)
    | succ k ih =>
      intro i ys e hy
      refine LCg.CompRest.succ fun v I oI C oC D m₂ h tk E' hP hC hx F N off ne => ?_
      refine wpAny_mono (turn i v I oI C oC D ys m₂ h tk E' (by omega) hP hC hx F N off ne) (fun y s' hs => ?_) fun _ _ e => e
      obtain ⟨t, h', tk', rfl, rfl, kk⟩ := hs
      refine ⟨h', tk', news, rfl, F.keeps kk, kept_news N kk, off, hS, ih (i + 1) _ (by omega) ?_⟩
      rw [List.range_succ, List.map_append]
      exact ints_append_one hy _ t
  exact gen n 0 [] (by omega) .nil
end
section
variable {prog : Program} {w : World} {A : Around} {E : Value → Shared → Prop} {s : Shared} {K : Frag} {mg mb : Str → Option Value} {p : Program} {loose : List Str} {mean : ExcName → Option Value}
/-- entering a def some of whose names are captured: what stands here is the ground there -/
theorem enterC0 {R : Result → Shared → Prop} {name qual : Str} {params : Arguments} {body : List Stmt} {scope : Scope} {dV kV doc pm cdv ct oc : Value} {an oda : Option Addr} {osl : Array (Option Value)} {f : Addr} {args : Args} {binds : List (Str × Value)}
    (X : K.In s.heap) (T : Top p loose mean mg mb s.heap)
    (ho : K.lookup f = some ⟨oc, oda, .func (fnOf name qual params body scope dV kV doc pm an cdv ct), osl⟩) (hcd : codeIn K cdv qual = true) (hroom : A.depth < recursionLimit)
    (hbind : BindsTo s (fnOf name qual params body scope dV kV doc pm an cdv ct) args binds) (hkind : (binds.all fun y => scope.names.lookup y.1 == some .local || scope.names.lookup y.1 == some .cell) = true)
    (hnd : ((cellsFrom 0 scope.names []).map (·.1)).Nodup)
    (h : ∀ L' h₁ tk cells, Fr s.heap L' h₁ (bindL (envOfC qual scope L' f cdv).kindOf binds fun _ => none) → News s.heap L' h₁ cells →
      CellsAre (bindC (envOfC qual scope L' f cdv).kindOf binds fun _ => none) (cellsFrom (L' + 1) scope.names []) cells →
      wpAny (model prog w) (A.deeper (envOfC qual scope L' f cdv)) (execs body (envOfC qual scope L' f cdv))
        (fun fl s' => R (.ok (.ret (match fl with | .ret v => v | _ => .none))) s')
        (fun e s' => wpAny (model prog w) (A.deeper (envOfC qual scope L' f cdv)) (leaving (envOfC qual scope L' f cdv) e) (fun _ s'' => R (.error e) s'') (fun e' s'' => R (.error e') s'') s')
        { s with heap := h₁, toks := tk })
    (hco : scope.isCoroutine = false) (hgen : scope.isGenerator = false) (hk : scope.kind = .function) : codeAny (model prog w) A (.call (.ref f) args) R s := by
  refine codeAny_call_function hroom (X _ _ ho) rfl hco hgen rfl (codeRec_of X hcd) (hbind _ _ _ _ ?_)
  refine wpAny_newFunctionEnv_cells hk (kindsX hkind _) fun env' he s' x => ?_
  subst he
  refine ⟨T.nolimit.keeps x.toInCall.keep, codeAny_func ?_⟩
  obtain ⟨h₁, tk, rfl, _⟩ := x.done
  have hk₁ := x.toInCall.keep
  obtain ⟨cells, NC, Y⟩ := Cl.news (h₀ := s.heap) (Nat.le_refl _) fun n c hm => ⟨x.cell n c (lookup_of_mem_nodup (cellsFrom_names scope.names 0 (s.heap.objs.size + 1) [] [] rfl ▸ hnd) hm), x.above n c hm⟩
  exact h s.heap.objs.size h₁ tk cells ⟨x.toInCall.ns, hk₁, Nat.le_refl _⟩ NC Y
end

end
section
noncomputable def bitsOf (number : Int) : List Int := (List.range 6).map fun i => (number.fdiv (2 ^ i)).fmod 2
noncomputable def rowOf (number room : Int) : List Int := bitsOf number ++ List.replicate (room + 2 * (bitsOf number).sum).toNat 0
theorem bits_mem (number : Int) : ∀ x ∈ bitsOf number, x = 0 ∨ x = 1 := fun x hx => by
  obtain ⟨i, _, rfl⟩ := List.mem_map.mp hx
  have h1 := Int.fmod_nonneg_of_pos (number.fdiv (2 ^ i)) (show (0 : Int) < 2 by decide)
  have h2 := Int.fmod_lt_of_pos (number.fdiv (2 ^ i)) (show (0 : Int) < 2 by decide)
  omega
theorem sum_bits : ∀ l : List Int, (∀ x ∈ l, x = 0 ∨ x = 1) → 0 ≤ l.sum ∧ l.sum ≤ l.length
  | [], _ => ⟨Int.le_refl _, Int.le_refl _⟩
  | a :: l, h => by
    have := sum_bits l fun x hx => h x (.tail _ hx)
    have := h a (.head _)
    rw [List.sum_cons, List.length_cons]; omega
theorem bits_sum (number : Int) : 0 ≤ (bitsOf number).sum ∧ (bitsOf number).sum ≤ 6 := sum_bits _ (bits_mem number)
theorem bits_eq (number : Int) : List.map (fun k' : Int => (number.fdiv (2 ^ k'.toNat)).fmod 2) (rangeKs 0 (6 - 0 : Int).toNat) = bitsOf number := by
  unfold rangeKs bitsOf
  rw [List.map_map]
  refine List.map_congr_left fun i _ => ?_
  show (number.fdiv (2 ^ (0 + (i : Int)).toNat)).fmod 2 = _
  rw [Int.zero_add, Int.toNat_natCast]
section
variable {prog : Program} {w : World} {p : Program} {loose : List Str} {mean : ExcName → Option Value} {mg mb : Str → Option Value}
set_option maxRecDepth 100000 in
set_option maxHeartbeats 8000000 in
theorem tells_row (number room : Int) (t1 t2 : Tok) (hn : 1 ≤ number ∧ number ≤ 63) (hr : 1 ≤ room ∧ room ≤ 3) :
    Tells prog w p loose mean mg mb 124 [.int number t1, .int room t2] 6 40 (fun h => True)
      (fun h h' v => ∃ (c : Addr) (vs : List Value) (n : Nat), v = .ref c ∧ h'.get? c = some (W.listOf vs.toArray n) ∧ h.get? c = none ∧ IntsAre vs (rowOf number room)) := by
  unfold Tells
  rintro dp un fr gd s Q E X T hd hu hl ret
  refine wpAny_call ?_
  k_dflt (refine' enterC0 X T ?k6 ?k7 ?k8 ?k9 ?kB ?kD ?_ ?c2 ?c3 ?c4; (case k6 => k_is); (case k7 => k_is); (case k8 => first | exact room0 (by assumption) | ktr_room); (case k9 => exact BindsTo.of_eq rfl); (case kB => exact rfl); (case kD => decide +kernel); (case c2 => exact rfl); (case c3 => exact rfl); (case c4 => exact rfl); intro L' h' tk' cells' F' N' Y'; k_cells Y'; (try simp only [List.cons_append, List.nil_append] at N'); (try dsimp only); (try k_fold))
  ktr_unf
  rename IntsAre _ _ => hI
  rw [bits_eq] at hI ⊢
  have hs := bits_sum number
  have hb6 : (bitsOf number).length = 6 := by simp [bitsOf]
  refine KM.mul (vs := [Value.int 0 _]) (ns := [0]) (by k_asm) (by k_asm) (by is_list) (.cons _ _ .nil) (by omega) (by omega) (by rw [List.length_singleton]; omega) ?_
  intro D2 h2 F2 N2 l2 hI2 _ _ _ _ _
  have hl2 : (List.replicate (room + 2 * (bitsOf number).sum).toNat [(0 : Int)]).flatten = List.replicate (room + 2 * (bitsOf number).sum).toNat 0 := lm_rep_flat_one _ _
  rw [hl2] at hI2
  refine add_lists_ints F2 N2 (by is_list) (by is_list) hI hI2 ?_ (by rw [sizeLine_eq, List.length_replicate]; omega)
  intro h3 F3 N3 hI3
  ktr_unf
  exact ret _ _ _ F3.keep ⟨_, _, _, rfl, N3.get (.head _), N3.fresh (.head _), hI3⟩
end

end
section
/-- a table made key by key -/
noncomputable def tabOf (g : Int → Int) (ks : List Int) : List (Int × Int) := ks.foldl (fun c k => kdfPut c k (g k)) []
theorem tabOf_len (g : Int → Int) (ks : List Int) : (tabOf g ks).length ≤ ks.length := by
  have gen : ∀ (ks : List Int) (c : List (Int × Int)), (ks.foldl (fun c k => kdfPut c k (g k)) c).length ≤ c.length + ks.length := by
    intro ks
    induction ks with
    | nil => intro c; exact Nat.le_refl _
    | cons k r ih =>
      intro c
      rw [List.foldl_cons, List.length_cons]
      have := ih (kdfPut c k (g k))
      have := kdfPut_len c k (g k)
      omega
  have := gen ks []
  simpa [tabOf] using this
theorem ints_snoc_inv {v : Value} : ∀ {l : List Value} {ks : List Int}, IntsAre (l ++ [v]) ks → ∃ ks₀ k t, ks = ks₀ ++ [k] ∧ IntsAre l ks₀ ∧ v = Value.int k t := by
  intro l
  induction l with
  | nil =>
    intro ks h
    cases h with
    | cons k t r => cases r; exact ⟨[], k, t, rfl, .nil, rfl⟩
  | cons a l ih =>
    intro ks h
    cases h with
    | cons k₁ t₁ r =>
      obtain ⟨ks₀, k, t, rfl, h₀, e⟩ := ih r
      exact ⟨k₁ :: ks₀, k, t, rfl, .cons _ _ h₀, e⟩
theorem ints_of_places {ks : List Int} : ∀ {vs : List Value}, vs.length = ks.length → (∀ (j : Nat) (v : Value), vs[j]? = some v → ∃ (k : Int) (t : Tok), ks[j]? = some k ∧ v = Value.int k t) → IntsAre vs ks := by
  induction ks with
  | nil => intro vs e _; rw [List.length_eq_zero_iff.mp e]; exact .nil
  | cons k r ih =>
    intro vs e h
    cases vs with
    | nil => cases e
    | cons v l =>
      obtain ⟨k', t, e1, rfl⟩ := h 0 v rfl
      obtain rfl : k = k' := Option.some.inj e1
      exact .cons _ _ (ih (by simpa using e) fun j v hv => h (j + 1) v hv)
theorem stored_tab (g : Int → Int) {l : List Value} {kvs : List (Int × Value)}
    (x : StoredAll (fun v k => ∃ t, v = .int k t) (fun v y => ∃ k t t', v = .int k t ∧ y = .int (g k) t') l kvs) : ∀ ks, IntsAre l ks → PyProof.V.FlatPairs PyData.int kvs (kdfD (tabOf g ks)) := by
  induction x with
  | nil => intro ks h; cases h; exact .nil
  | snoc _ hk hy ih =>
    intro ks h
    obtain ⟨ks₀, k, t, rfl, h₀, rfl⟩ := ints_snoc_inv h
    obtain ⟨t1, e1⟩ := hk
    obtain ⟨k2, t2, t3, e2, rfl⟩ := hy
    obtain rfl := (Value.int.inj e1).1
    obtain rfl := (Value.int.inj e2).1
    have e : kdfD (tabOf g (ks₀ ++ [k])) = PyProof.V.putD (PyData.int k) (PyData.int (g k)) (kdfD (tabOf g ks₀)) := by
      rw [kdfD_put]; unfold tabOf; rw [List.foldl_append]; rfl
    rw [e]
    exact PyProof.V.FlatPairs.stored PyProof.V.same_int (ih ks₀ h₀) _ (PyProof.V.Flat.int _ _)
/-- the ints ks are handed out one after the other -/
inductive DIter (prog : Program) (w : World) (A : Around) (ks : List Int) (s₁ : Shared) (it : Value) (s₂ : Shared) : Prop
  | mk (I : Addr) (fp : List Addr) (P : Nat → Value → Prop) (St : Nat → Heap → Prop) (h₂ : Heap) (tk₂ : Nat) (hit : it = .ref I) (hs : s₂ = { s₁ with heap := h₂, toks := tk₂ }) (hw : Walks prog w A I fp [I] ks.length P St) (hst : St 0 h₂) (hfp : ∀ b ∈ fp, b < h₂.objs.size) (hk : Keeps s₁.heap h₂) (hI : s₁.heap.get? I = none)
    (hp : ∀ i v, i < ks.length → P i v → ∃ (k : Int) (t : Tok), ks[i]? = some k ∧ v = Value.int k t) : DIter prog w A ks s₁ it s₂
/-- the value of a turn -/
noncomputable def TurnV (k : Int) (s₃ : Shared) (v : Value) (s₄ : Shared) : Prop := (∃ t, v = .int k t) ∧ PySem.Keeps s₃ s₄
theorem TurnV.intro {k : Int} {t : Tok} {s₃ : Shared} {h' : Heap} {tk' : Nat} (e : Keeps s₃.heap h') : TurnV k s₃ (.int k t) { s₃ with heap := h', toks := tk' } := ⟨⟨t, rfl⟩, h', tk', rfl, e⟩
theorem has_of_mem {c : List (Int × Int)} {k : Int} (h : k ∈ c.map (·.1)) : kdfHas c k = true := by
  obtain ⟨q, hq, rfl⟩ := List.mem_map.mp h
  unfold kdfHas
  exact List.any_eq_true.mpr ⟨q, hq, by simp⟩
section
variable {prog : Program} {w : World} {A : Around} {E : Value → Shared → Prop} {s : Shared} {h₀ : Heap} {m : Str → Option Value} {news : List (Addr × Obj)} {env : Env}
theorem DIter.range {r : Addr} {n : Nat} {t u v : Tok} (hh : A.handled = none) (hr : IsRange s.heap r 0 n 1 t u v) (hn : n ≤ 1000) :
    wpAny (model prog w) A (pyIter (.ref r)) (DIter prog w A (rangeKs 0 n) s) E s := by
  refine wpAny_pyIter_range hr (small_one (by omega) (by omega) (by omega) (by omega)) ?_
  have hl : (rangeKs 0 n).length = n := rangeKs_length 0 n
  refine ⟨s.heap.objs.size, [s.heap.objs.size], _, _, _, _, rfl, rfl, by rw [hl]; exact (LCg.range_walks hh 0 n), by show IsRangeIter _ _ _ _ _; rw [rangeSize_nat]; simpa using Heap.get?_push_size _ rfl, fun b hb => ?_, fun b o e => Heap.get?_push_of_some _ e, ?_, ?_⟩
  · rw [List.mem_singleton.mp hb, Heap.size_push]; exact Nat.lt_succ_self _
  · cases q : s.heap.get? s.heap.objs.size with
    | none => rfl
    | some o => exact absurd (Heap.lt_size q) (Nat.lt_irrefl _)
  · rintro i v hi ⟨t, rfl⟩
    rw [hl] at hi
    exact ⟨_, t, by simp [rangeKs, hi], rfl⟩
theorem DIter.dict {d : Addr} {c : List (Int × Int)} {kvs : List (Int × Value)} {ep : Nat} (hh : A.handled = none) (lo : (d == sysModules) = false) (hm : s.heap.DictAt (PySem.intKind prog w) d kvs ep) (hf : PyProof.V.FlatPairs PyData.int kvs (kdfD c)) :
    wpAny (model prog w) A (pyIter (.ref d)) (DIter prog w A (c.map (·.1)) s) E s := by
  refine wpAny_pyIter_dict lo hm ?_
  have hlt : d < s.heap.objs.size := hm.lt_size
  have hl : (c.map (·.1)).length = kvs.length := by rw [List.length_map]; have := hf.length; rw [kdfD_length] at this; omega
  refine ⟨s.heap.objs.size, [s.heap.objs.size, d], _, _, _, _, rfl, rfl, by rw [hl]; exact Walks.dictKeys (knd := PySem.intKind prog w) hh s.heap.objs.size d (Nat.ne_of_lt hlt) kvs ep, by exact ⟨⟨_, Heap.get?_push_size _ rfl, rfl, rfl⟩, hm.push _⟩, fun b hb => ?_, fun b o e => Heap.get?_push_of_some _ e, ?_, ?_⟩
  · rw [Heap.size_push]
    rcases List.mem_cons.mp hb with rfl | hb
    · exact Nat.lt_succ_self _
    · rw [List.mem_singleton.mp hb]; exact Nat.lt_succ_of_lt hlt
  · cases q : s.heap.get? s.heap.objs.size with
    | none => rfl
    | some o => exact absurd (Heap.lt_size q) (Nat.lt_irrefl _)
  · rintro i v hi ⟨k, x, hx, hk⟩
    obtain ⟨x', t, e1, _⟩ := flat_at hf hx
    obtain ⟨t', rfl⟩ := Value.isInt_shape hk
    exact ⟨k, t', by rw [List.getElem?_map, e1]; rfl, rfl⟩
theorem assign_dc {kx vx iter : Expr} {x y : Str} {px py : Pos} {scope : Scope} {cl : List (Str × Addr)} {pos spos : Pos} {Q : Flow → Shared → Prop} {ks : List Int} (g : Int → Int) (_F : Fr h₀ env.locals s.heap m) (_N : News h₀ env.locals s.heap news) (hsm : h₀.get? sysModules ≠ none)
    (hsw : swapsWith (.DictComp kx vx [⟨.Name x px, iter, [], 0⟩] scope pos) (some (.Name y py)) spos.line env = pure true)
    (hclos : closureFor scope env = pure cl) (hcell : ∀ z ∈ scope.names, z.2 ≠ .cell) (hkind : scope.kind = .function)
    (hnames : ∀ z ∈ scope.names, z.2 = .local → scope.names.lookup z.1 = some .local) (hx : scope.names.lookup x = some .local)
    (hy : env.kindOf y = some .local) (hp : (env.scope.kind == .class || (env.scope.kind == .module && env.locals != env.globals)) = false) (hsz : ks.length ≤ sizeLine)
    (h : wpAny (model prog w) A (eval iter env) (fun xv s₁ => wpAny (model prog w) A (pyIter xv) (fun it s₂ => DIter prog w A ks s₁ it s₂ ∧ Fr h₀ env.locals s₁.heap m ∧ News h₀ env.locals s₁.heap news ∧
      (∀ C k t s₃ m₃ E', k ∈ ks → s₃.heap.Ns C m₃ → m₃ x = some (.int k t) → Fr h₀ env.locals s₃.heap m → News h₀ env.locals s₃.heap news →
        wpAny (model prog w) A (eval kx (compEnvC scope cl C env)) (fun key s₄ => (∃ t, key = .int k t) ∧ PySem.Keeps s₃ s₄) E' s₃) ∧
      (∀ C k t s₃ m₃ E', k ∈ ks → s₃.heap.Ns C m₃ → m₃ x = some (.int k t) → Fr h₀ env.locals s₃.heap m → News h₀ env.locals s₃.heap news →
        wpAny (model prog w) A (eval vx (compEnvC scope cl C env)) (TurnV (g k) s₃) E' s₃) ∧
      (∀ D oD kvs h' tk, Fr h₀ env.locals h' (fun z => if z = y then some (.ref D) else m z) → News h₀ env.locals h' ((D, oD) :: news) → (D == sysModules) = false → (∀ q ∈ news, q.1 ≠ D) →
        oD.IsDictOf (PySem.intKind prog w) kvs → PyProof.V.FlatPairs PyData.int kvs (kdfD (tabOf g ks)) → Q .next { s₁ with heap := h', toks := tk })) E s₁) E s)
    (hs : ∀ x, foldedSetIterable iter env x = pure x := by intro _; rfl) :
    wpAny (model prog w) A (exec (.Assign [.Name y py] (.DictComp kx vx [⟨.Name x px, iter, [], 0⟩] scope pos) spos) env) Q E s := by
  rw [exec_Assign_Name_used _ _ _ _ hsw]
  refine wpAny_bind (wpAny_standAt (wpAny_bind ?_))
  show wpAny _ A (do let _ ← comprehension (.DictComp kx vx [⟨.Name x px, iter, [], 0⟩] scope pos) scope env _ newDict false (eval iter env) (some (assign (.Name y py) env))) _ _ s
  refine wpAny_bind (wpAny_mono (wpAny_comprehension_free (use := some (assign (.Name y py) env)) (Q := fun _ s' => Q .next s') rfl hs hclos hkind hnames
    (wpAny_mono h (fun xv s₁ h₁ => wpAny_mono h₁ (fun it s₂ h₂ => ?_) fun _ _ e => e) fun _ _ e => e)) (fun _ s' hq => wpAny_pure (wpAny_pure hq)) fun _ _ e => e)
  obtain ⟨⟨I, fp, P, St, H₂, tk₂, rfl, rfl, W, hst, hfp, k₂, hI, hP⟩, F, N, hkey, hval, hQ⟩ := h₂
  have hIL : env.locals ≠ I := by rintro rfl; obtain ⟨o, _, _, ho, _⟩ := F.ns; rw [hI] at ho; cases ho
  have hI0 : h₀.get? I = none := by
    cases q : h₀.get? I with
    | none => rfl
    | some o => rw [F.keep _ _ q] at hI; cases hI
  have F₂ : Fr h₀ env.locals H₂ m := F.keeps k₂
  have N₂ : News h₀ env.locals H₂ news := kept_news N k₂
  have nI : ∀ q ∈ news, q.1 ≠ I := fun q hq e => by have := (N q hq).1; rw [e, hI] at this; cases this
  have up : ∀ h₃ : Heap, (∀ b o, b ∉ [I] → H₂.get? b = some o → h₃.get? b = some o) → Fr h₀ env.locals h₃ m ∧ News h₀ env.locals h₃ news := fun h₃ hk =>
    ⟨LCg.fr_but F₂ hk hIL hI0, LCg.news_but N₂ hk nI⟩
  have hL0 : h₀.get? env.locals = none := Heap.get?_none_of_le F.above
  refine comp_block_walkCD (knd := PySem.intKind prog w) (RR := fun acc C => compPost (model prog w) A E (some (assign (.Name y py) env)) (fun _ s' => Q .next s') acc C) W.bound hsz (fun _ => true)
    (fun v k => ∃ t, v = .int k t) (fun v y => ∃ k t t', v = .int k t ∧ y = .int (g k) t') hcell hkind hx hst hfp ⟨?_, ?_, ?_⟩ ?_
  · intro C i v s₃ m₃ E' hv hn hm hk
    exact wpAny_tests_nil ⟨rfl, _, _, rfl, fun _ _ e => e⟩
  · intro C i v s₃ m₃ E' hv hp' hn hm hk
    obtain ⟨k, t, hk1, rfl⟩ := hP i v hv.1 hv.2
    obtain ⟨F₃, N₃⟩ := up s₃.heap hk
    refine wpAny_mono (hkey C k t s₃ m₃ E' (List.mem_of_getElem? hk1) hn hm F₃ N₃) (fun key s₄ h₄ => ?_) fun _ _ e => e
    obtain ⟨⟨t', rfl⟩, h₄⟩ := h₄
    exact ⟨⟨k, intKind_is _ _ _ _, t, rfl⟩, h₄⟩
  · intro C i v s₃ m₃ E' hv hp' hn hm hk
    obtain ⟨k, t, hk1, rfl⟩ := hP i v hv.1 hv.2
    obtain ⟨F₃, N₃⟩ := up s₃.heap hk
    refine wpAny_mono (hval C k t s₃ m₃ E' (List.mem_of_getElem? hk1) hn hm F₃ N₃) (fun y' s₄ h₄ => ?_) fun _ _ e => e
    obtain ⟨⟨t', rfl⟩, h₄⟩ := h₄
    exact ⟨⟨k, t, t', rfl, rfl⟩, h₄⟩
  · intro D C h' tk m' kvs vs' hD hC hDC hnC hlD hlen hPv hF hk
    obtain ⟨F₃, N₃⟩ := up h' hk
    have hLI : env.locals < H₂.objs.size := F₂.ns.lt
    have hLC : env.locals ≠ C := by rintro rfl; obtain ⟨o, _, _, ho, _⟩ := F₂.ns; rw [hC] at ho; cases ho
    have hLD : env.locals ≠ D := by rintro rfl; obtain ⟨o, _, _, ho, _⟩ := F₂.ns; rw [hD] at ho; cases ho
    have hD0 : h₀.get? D = none := by
      cases q : h₀.get? D with
      | none => rfl
      | some o => rw [F₂.keep _ _ q] at hD; cases hD
    have hC0 : h₀.get? C = none := by
      cases q : h₀.get? C with
      | none => rfl
      | some o => rw [F₂.keep _ _ q] at hC; cases hC
    have nC : ∀ q ∈ news, q.1 ≠ C := fun q hq e => by have := (N₂ q hq).1; rw [e, hC] at this; cases this
    have nD : ∀ q ∈ news, q.1 ≠ D := fun q hq e => by have := (N₂ q hq).1; rw [e, hD] at this; cases this
    show wpAny _ A (assign (.Name y py) env (.ref D)) _ _ _
    refine wpAny_assign_Name (wpAny_storeName_local hy F₃.ns (fun h₅ hn₅ hs₅ => ?_) hp)
    refine ⟨m', hnC.sameBut hs₅ (Ne.symm hLC), fun h₆ hs₆ => ?_⟩
    have F₅ := (F₃.set hn₅ hs₅).change hs₆ (Ne.symm hLC) hC0
    obtain ⟨oD, hoD, hdD⟩ := Heap.dictOf_iff.mp ((hlD.extBut hs₅.extBut (Ne.symm hLD)).extBut hs₆.extBut hDC)
    have N₅ := N₃.set hs₅
    refine hQ D oD kvs h₆ _ F₅ (fun q hq => ?_) ?_ nD hdD (stored_tab g (by rw [List.filter_eq_self.mpr (fun _ _ => rfl)] at hF; exact hF) ks (ints_of_places hlen fun j v hj => ?_))
    · rcases List.mem_cons.mp hq with rfl | hq
      · exact ⟨hoD, Ne.symm hLD, hD0⟩
      · exact ⟨hs₆.extBut _ _ (nC q hq) (N₅ q hq).1, (N₅ q hq).2⟩
    · refine beq_eq_false_iff_ne.mpr fun e => ?_
      rw [e] at hD0; exact hsm hD0
    · have := hPv j v hj
      exact hP j v this.1 this.2
end

end
section
/-- the places of the balls -/
noncomputable def spotsOf (row : List Int) : List Int := (rangeKs 0 row.length).foldl (fun l k => if row.getD k.toNat 0 = 1 then l ++ [k] else l) []
theorem spots_fold (row : List Int) : ∀ (ks l : List Int), (∀ k ∈ ks, 0 ≤ k ∧ k < row.length) → (∀ k ∈ l, 0 ≤ k ∧ k < row.length) → ∀ k ∈ ks.foldl (fun l k => if row.getD k.toNat 0 = 1 then l ++ [k] else l) l, 0 ≤ k ∧ k < (row.length : Int)
  | [], l, _, h2 => h2
  | a :: ks, l, h1, h2 => by
    rw [List.foldl_cons]
    refine spots_fold row ks _ (fun k hk => h1 k (.tail _ hk)) fun k hk => ?_
    split at hk
    · rcases List.mem_append.mp hk with hk | hk
      · exact h2 k hk
      · rw [List.mem_singleton.mp hk]; exact h1 a (.head _)
    · exact h2 k hk
theorem spots_mem {row : List Int} {k : Int} (h : k ∈ spotsOf row) : 0 ≤ k ∧ k < row.length :=
  spots_fold row _ [] (fun k hk => by have := mem_rangeKs hk; omega) (fun _ h => nomatch h) k h
/-- the row's own entry -/
noncomputable def entryP (row : List Int) (taken : Int) : Prof := ((spotsOf row).length, taken, (spotsOf row).sum, ((spotsOf row).map fun k => k * k).sum, tabOf (fun k => row.getD k.toNat 0) (rangeKs 0 row.length))
section
variable {prog : Program} {w : World} {p : Program} {loose : List Str} {mean : ExcName → Option Value} {mg mb : Str → Option Value}
set_option maxRecDepth 100000 in
set_option maxHeartbeats 8000000 in
theorem tells_entry (l : Addr) (vs : List Value) (row : List Int) (taken : Int) (tt : Tok) (hi : IntsAre vs row) (hlen : row.length ≤ 40) (ht : 0 ≤ taken ∧ taken ≤ 1000) :
    Tells prog w p loose mean mg mb 129 [.ref l, .int taken tt] 6 60 (fun h => h.IsList l vs.toArray ∧ h.get? sysModules ≠ none)
      (fun h h' v => IsP prog w h h' v (entryP row taken)) := by
  unfold Tells
  rintro dp un fr gd s Q E X T hd hu ⟨hl, hsm⟩ ret
  refine wpAny_call ?_
  k_dflt (refine' enterC0 X T ?k6 ?k7 ?k8 ?k9 ?kB ?kD ?_ ?c2 ?c3 ?c4; (case k6 => k_is); (case k7 => k_is); (case k8 => first | exact room0 (by assumption) | ktr_room); (case k9 => exact BindsTo.of_eq rfl); (case kB => exact rfl); (case kD => decide +kernel); (case c2 => exact rfl); (case c3 => exact rfl); (case c4 => exact rfl); intro L' h' tk' cells' F' N' Y'; k_cells Y'; (try simp only [List.cons_append, List.nil_append] at N'); (try dsimp only); (try k_fold))
  repeat' ((fail_if_success (with_reducible show wpAny _ _ (exec (Stmt.Assign _ (Expr.DictComp _ _ _ _ _) _) _) _ _ _)); tb_rel)
  rename IntsAre _ _ => hI
  have hsp : (List.foldl (fun l' k' => if row.getD k'.toNat 0 = 1 then l' ++ [k'] else l') [] (rangeKs 0 ((row.length : Int) - 0).toNat)) = spotsOf row := by unfold spotsOf; rw [Int.sub_zero, Int.toNat_natCast]
  rename Fr s.heap _ _ _ => F2
  rename News s.heap _ _ _ => N2
  refine assign_dc (g := fun k => row.getD k.toNat 0) (ks := rangeKs 0 row.length) F2 N2 hsm (by with_unfolding_all rfl) (by rfl) (by decide) (by rfl) (by decide) (by rfl) (by rfl) (by rfl) (by rw [rangeKs_length, sizeLine_eq]; omega) ?_
  ktr_unf
  rename IsRange _ _ _ _ _ _ _ _ => hR
  rename Fr s.heap _ _ _ => F3
  rename News s.heap _ _ _ => N3
  refine wpAny_mono (DIter.range (by rfl) hR (by omega)) (fun it s₂ hit => ⟨hit, F3, N3, ?key, ?val, ?cont⟩) fun _ _ e => e
  case key =>
    intro C k t s₃ m₃ E' hk hn hm F4 N4
    exact ldVarK hn hm ⟨⟨t, rfl⟩, _, _, rfl, fun _ _ e => e⟩
  case val =>
    intro C k t s₃ m₃ E' hk hn hm F4 N4
    ktr_unf
    have hb := mem_rangeKs hk
    refine item_list_ints (hl.at fun o e => F4.keep l o e) hi hb.1 (by omega) (by omega) fun t' => ?_
    exact TurnV.intro fun _ _ e => e
  case cont =>
    intro D oD kvs h5 tk5 F5 N5 loD nD hD hfD
    ktr_unf
    rename News s.heap _ _ _ => N6
    rename Fr s.heap _ _ _ => F6
    rw [hsp] at hI
    have hspl : (spotsOf row).length ≤ row.length := by
      have := hI.length
      have h2 : ys.length ≤ ((row.length : Int) - 0).toNat := by assumption
      omega
    refine LCg.ListComp_U F6 (by rfl) (by decide) (by rfl) (by decide) (by rfl) ?_
    tb_rel
    refine LCg.CompSrc.ledger (by rfl) F6 N6 (by k_mem) (by rw [sizeLine_eq, List.size_toArray]; have := hI.length; omega) ?_
    intro g'
    refine kcf_list (g := fun k => k * k) hI ?turn ?fin
    case turn =>
      intro k t I oI C oC D' m₂ ys' h8 tk8 E' hk hC hx F8 N8 off ne _
      have hb := spots_mem hk
      have hb1 := hb.1
      have hb2 := hb.2
      ktr_unf
    case fin =>
      unfold KPfDone
      intro ys2 hI2
      unfold LCg.FinE
      intro D2 h9 tk9 F9 N9 o9
      ktr_unf
      rename News s.heap _ _ _ => N10
      rename Fr s.heap _ _ _ => F10
      exact ret _ _ _ F10.keep (IsProf.of_news N10 (.head _) (by k_mem : (D, oD) ∈ _) hD hfD rfl loD (by k_ne) (by rw [hsp]; rfl) rfl (by rw [hsp]; rfl) rfl)
end

end
section
theorem paired_ints (g : Int → Int) : ∀ {vs ys : List Value} {ks : List Int}, Paired (fun v y => ∃ k t t', v = Value.int k t ∧ y = Value.int (g k) t') vs ys → IntsAre vs ks → IntsAre ys (ks.map g) := by
  intro vs ys ks h
  induction h generalizing ks with
  | nil => intro hi; cases hi; exact .nil
  | cons hf _ ih =>
    intro hi
    cases hi with
    | cons k t r =>
      obtain ⟨k', t1, t2, e, rfl⟩ := hf
      obtain rfl := (Value.int.inj e).1
      exact .cons _ _ (ih r)
section
variable {prog : Program} {w : World} {A : Around} {E : Value → Shared → Prop} {s : Shared} {h₀ : Heap} {m : Str → Option Value} {news : List (Addr × Obj)} {env : Env}
theorem list_dc {elt iter : Expr} {x : Str} {px : Pos} {scope : Scope} {cl : List (Str × Addr)} {pos : Pos} {Q : Value → Shared → Prop} {ks : List Int} (g : Int → Int) (_F : Fr h₀ env.locals s.heap m) (_N : News h₀ env.locals s.heap news)
    (hclos : closureFor scope env = pure cl) (hcell : ∀ z ∈ scope.names, z.2 ≠ .cell) (hkind : scope.kind = .function)
    (hnames : ∀ z ∈ scope.names, z.2 = .local → scope.names.lookup z.1 = some .local) (hx : scope.names.lookup x = some .local) (hsz : ks.length ≤ sizeLine)
    (h : wpAny (model prog w) A (eval iter env) (fun xv s₁ => wpAny (model prog w) A (pyIter xv) (fun it s₂ => DIter prog w A ks s₁ it s₂ ∧ Fr h₀ env.locals s₁.heap m ∧ News h₀ env.locals s₁.heap news ∧
      (∀ C k t s₃ m₃ E', k ∈ ks → s₃.heap.Ns C m₃ → m₃ x = some (.int k t) → Fr h₀ env.locals s₃.heap m → News h₀ env.locals s₃.heap news →
        wpAny (model prog w) A (eval elt (compEnvC scope cl C env)) (TurnV (g k) s₃) E' s₃) ∧
      (∀ D n ys h' tk, Fr h₀ env.locals h' m → News h₀ env.locals h' ((D, W.listOf ys.toArray n) :: news) → (∀ q ∈ news, q.1 ≠ D) → IntsAre ys (ks.map g) → Q (.ref D) { s₁ with heap := h', toks := tk })) E s₁) E s)
    (hs : ∀ x, foldedSetIterable iter env x = pure x := by intro _; rfl) :
    wpAny (model prog w) A (eval (.ListComp elt [⟨.Name x px, iter, [], 0⟩] scope pos) env) Q E s := by
  refine wpAny_ListComp_free (fun _ => true) (fun v y => ∃ k t t', v = Value.int k t ∧ y = Value.int (g k) t') hclos hcell hkind hnames hx (wpAny_mono h (fun xv s₁ h₁ => wpAny_mono h₁ (fun it s₂ h₂ => ?_) fun _ _ e => e) fun _ _ e => e) hs
  obtain ⟨⟨I, fp, P, St, H₂, tk₂, rfl, rfl, W, hst, hfp, k₂, hI, hP⟩, F, N, hval, hQ⟩ := h₂
  have hIL : env.locals ≠ I := by rintro rfl; obtain ⟨o, _, _, ho, _⟩ := F.ns; rw [hI] at ho; cases ho
  have hI0 : h₀.get? I = none := by
    cases q : h₀.get? I with
    | none => rfl
    | some o => rw [F.keep _ _ q] at hI; cases hI
  have F₂ : Fr h₀ env.locals H₂ m := F.keeps k₂
  have N₂ : News h₀ env.locals H₂ news := kept_news N k₂
  have nI : ∀ q ∈ news, q.1 ≠ I := fun q hq e => by have := (N q hq).1; rw [e, hI] at this; cases this
  have up : ∀ h₃ : Heap, (∀ b o, b ∉ [I] → H₂.get? b = some o → h₃.get? b = some o) → Fr h₀ env.locals h₃ m ∧ News h₀ env.locals h₃ news := fun h₃ hk =>
    ⟨LCg.fr_but F₂ hk hIL hI0, LCg.news_but N₂ hk nI⟩
  refine ⟨I, fp, [I], ks.length, _, St, rfl, W.bound, hsz, hst, hfp, ⟨?_, ?_⟩, ?_⟩
  · intro C i v s₃ m₃ E' hc hv hn hm hk _
    exact wpAny_tests_nil ⟨rfl, _, _, rfl, fun _ _ e => e⟩
  · intro C i v s₃ m₃ E' hc hv hp' hn hm hk _
    obtain ⟨k, t, hk1, rfl⟩ := hP i v hv.1 hv.2
    obtain ⟨F₃, N₃⟩ := up s₃.heap hk
    refine wpAny_mono (hval C k t s₃ m₃ E' (List.mem_of_getElem? hk1) hn hm F₃ N₃) (fun y' s₄ h₄ => ?_) fun _ _ e => e
    obtain ⟨⟨t', rfl⟩, h₄⟩ := h₄
    exact ⟨⟨k, t, t', rfl, rfl⟩, h₄⟩
  · intro D h' tk ys vs hD hl hpl hlen hPv hF hk
    obtain ⟨F₃, N₃⟩ := up h' hk
    have hLD : env.locals ≠ D := by rintro rfl; obtain ⟨o, _, _, ho, _⟩ := F₂.ns; rw [hD] at ho; cases ho
    have hD0 : h₀.get? D = none := by
      cases q : h₀.get? D with
      | none => rfl
      | some o => rw [F₂.keep _ _ q] at hD; cases hD
    have nD : ∀ q ∈ news, q.1 ≠ D := fun q hq e => by have := (N₂ q hq).1; rw [e, hD] at this; cases this
    obtain ⟨n, hn⟩ := hpl
    rw [List.filter_eq_self.mpr (fun _ _ => rfl)] at hF
    refine hQ D n ys.toList h' tk F₃ (fun q hq => ?_) nD (paired_ints g hF (ints_of_places hlen fun j v hj => hP j v (hPv j v hj).1 (hPv j v hj).2))
    rcases List.mem_cons.mp hq with rfl | hq
    · exact ⟨hn, Ne.symm hLD, hD0⟩
    · exact N₃ q hq
theorem assign_list_dc {elt iter : Expr} {x y : Str} {px py : Pos} {scope : Scope} {cl : List (Str × Addr)} {pos spos : Pos} {Q : Flow → Shared → Prop} {ks : List Int} (g : Int → Int) (_F : Fr h₀ env.locals s.heap m) (_N : News h₀ env.locals s.heap news)
    (hsw : swapsWith (.ListComp elt [⟨.Name x px, iter, [], 0⟩] scope pos) (some (.Name y py)) spos.line env = pure true)
    (hclos : closureFor scope env = pure cl) (hcell : ∀ z ∈ scope.names, z.2 ≠ .cell) (hkind : scope.kind = .function)
    (hnames : ∀ z ∈ scope.names, z.2 = .local → scope.names.lookup z.1 = some .local) (hx : scope.names.lookup x = some .local)
    (hy : env.kindOf y = some .local) (hp : (env.scope.kind == .class || (env.scope.kind == .module && env.locals != env.globals)) = false) (hsz : ks.length ≤ sizeLine)
    (h : wpAny (model prog w) A (eval iter env) (fun xv s₁ => wpAny (model prog w) A (pyIter xv) (fun it s₂ => DIter prog w A ks s₁ it s₂ ∧ Fr h₀ env.locals s₁.heap m ∧ News h₀ env.locals s₁.heap news ∧
      (∀ C k t s₃ m₃ E', k ∈ ks → s₃.heap.Ns C m₃ → m₃ x = some (.int k t) → Fr h₀ env.locals s₃.heap m → News h₀ env.locals s₃.heap news →
        wpAny (model prog w) A (eval elt (compEnvC scope cl C env)) (TurnV (g k) s₃) E' s₃) ∧
      (∀ D n ys h' tk, Fr h₀ env.locals h' (fun z => if z = y then some (.ref D) else m z) → News h₀ env.locals h' ((D, W.listOf ys.toArray n) :: news) → (∀ q ∈ news, q.1 ≠ D) → IntsAre ys (ks.map g) → Q .next { s₁ with heap := h', toks := tk })) E s₁) E s)
    (hs : ∀ x, foldedSetIterable iter env x = pure x := by intro _; rfl) :
    wpAny (model prog w) A (exec (.Assign [.Name y py] (.ListComp elt [⟨.Name x px, iter, [], 0⟩] scope pos) spos) env) Q E s := by
  refine wpAny_Assign_ListComp_free (fun _ => true) (fun v y => ∃ k t t', v = Value.int k t ∧ y = Value.int (g k) t') hsw hclos hcell hkind hnames hx hy hp (wpAny_mono h (fun xv s₁ h₁ => wpAny_mono h₁ (fun it s₂ h₂ => ?_) fun _ _ e => e) fun _ _ e => e) hs
  obtain ⟨⟨I, fp, P, St, H₂, tk₂, rfl, rfl, W, hst, hfp, k₂, hI, hP⟩, F, N, hval, hQ⟩ := h₂
  have hIL : env.locals ≠ I := by rintro rfl; obtain ⟨o, _, _, ho, _⟩ := F.ns; rw [hI] at ho; cases ho
  have hI0 : h₀.get? I = none := by
    cases q : h₀.get? I with
    | none => rfl
    | some o => rw [F.keep _ _ q] at hI; cases hI
  have F₂ : Fr h₀ env.locals H₂ m := F.keeps k₂
  have N₂ : News h₀ env.locals H₂ news := kept_news N k₂
  have nI : ∀ q ∈ news, q.1 ≠ I := fun q hq e => by have := (N q hq).1; rw [e, hI] at this; cases this
  have up : ∀ h₃ : Heap, (∀ b o, b ∉ [I] → H₂.get? b = some o → h₃.get? b = some o) → Fr h₀ env.locals h₃ m ∧ News h₀ env.locals h₃ news := fun h₃ hk =>
    ⟨LCg.fr_but F₂ hk hIL hI0, LCg.news_but N₂ hk nI⟩
  have hL0 : h₀.get? env.locals = none := Heap.get?_none_of_le F.above
  refine ⟨I, fp, [I], ks.length, _, St, m, rfl, W.bound, hsz, hst, hfp, fun q => hIL (List.mem_singleton.mp q), F₂.ns, ⟨?_, ?_⟩, ?_⟩
  · intro C i v s₃ m₃ E' hc hv hn hm hk _
    exact wpAny_tests_nil ⟨rfl, _, _, rfl, fun _ _ e => e⟩
  · intro C i v s₃ m₃ E' hc hv hp' hn hm hk _
    obtain ⟨k, t, hk1, rfl⟩ := hP i v hv.1 hv.2
    obtain ⟨F₃, N₃⟩ := up s₃.heap hk
    refine wpAny_mono (hval C k t s₃ m₃ E' (List.mem_of_getElem? hk1) hn hm F₃ N₃) (fun y' s₄ h₄ => ?_) fun _ _ e => e
    obtain ⟨⟨t', rfl⟩, h₄⟩ := h₄
    exact ⟨⟨k, t, t', rfl, rfl⟩, h₄⟩
  · intro D h' tk ys vs hD hl hpl hlen hPv hF hns hk
    have hLD : env.locals ≠ D := by rintro rfl; obtain ⟨o, _, _, ho, _⟩ := F₂.ns; rw [hD] at ho; cases ho
    have hD0 : h₀.get? D = none := by
      cases q : h₀.get? D with
      | none => rfl
      | some o => rw [F₂.keep _ _ q] at hD; cases hD
    have nD : ∀ q ∈ news, q.1 ≠ D := fun q hq e => by have := (N₂ q hq).1; rw [e, hD] at this; cases this
    obtain ⟨n, hn⟩ := hpl
    rw [List.filter_eq_self.mpr (fun _ _ => rfl)] at hF
    refine hQ D n ys.toList h' tk ⟨hns, fun b o e => hk b o (fun q => by rw [q, hL0] at e; cases e) (fun q => by rw [List.mem_singleton.mp q, hI0] at e; cases e) (F₂.keep b o e), F₂.above⟩ (fun q hq => ?_) nD (paired_ints g hF (ints_of_places hlen fun j v hj => hP j v (hPv j v hj).1 (hPv j v hj).2))
    rcases List.mem_cons.mp hq with rfl | hq
    · exact ⟨hn, Ne.symm hLD, hD0⟩
    · exact ⟨hk _ _ (N₂ q hq).2.1 (fun e => nI q hq (List.mem_singleton.mp e)) (N₂ q hq).1, (N₂ q hq).2⟩
end

end
section
theorem put_new {c : List (Int × Int)} {k : Int} (v : Int) (h : k ∉ c.map (·.1)) : kdfPut c k v = c ++ [(k, v)] := by
  unfold kdfPut
  rw [if_neg]
  intro e
  obtain ⟨q, hq, hk⟩ := List.any_eq_true.mp e
  exact h (List.mem_map.mpr ⟨q, hq, by simpa using hk⟩)
theorem tab_fold (g : Int → Int) : ∀ (ks : List Int) (c : List (Int × Int)), ks.Nodup → (∀ k ∈ ks, k ∉ c.map (·.1)) → ks.foldl (fun c k => kdfPut c k (g k)) c = c ++ ks.map (fun k => (k, g k))
  | [], c, _, _ => by simp
  | k :: ks, c, hn, h => by
    rw [List.foldl_cons, put_new _ (h k (.head _)), tab_fold g ks _ (List.nodup_cons.mp hn).2, List.append_assoc]
    · rfl
    · intro x hx q
      rw [List.map_append] at q
      rcases List.mem_append.mp q with q | q
      · exact h x (.tail _ hx) q
      · have : x = k := by simpa using q
        exact (List.nodup_cons.mp hn).1 (this ▸ hx)
theorem tab_map (g : Int → Int) {ks : List Int} (hn : ks.Nodup) : tabOf g ks = ks.map fun k => (k, g k) := by
  unfold tabOf
  rw [tab_fold g ks [] hn (fun _ _ h => nomatch h)]; rfl
theorem look_cons (k v : Int) (c : List (Int × Int)) (x : Int) : kdfLook ((k, v) :: c) x 0 = if k = x then v else kdfLook c x 0 := by
  unfold kdfLook
  rw [List.find?_cons]
  by_cases h : k = x
  · rw [if_pos h]; simp [h]
  · rw [if_neg h]; simp [h]
theorem look_all : ∀ (c : List (Int × Int)), (c.map (·.1)).Nodup → c.map (fun q => (q.1, kdfLook c q.1 0)) = c
  | [], _ => rfl
  | (k, v) :: c, h => by
    rw [List.map_cons, look_cons, if_pos rfl]
    have hc : (k :: c.map (·.1)).Nodup := h
    have e : c.map (fun q => (q.1, kdfLook ((k, v) :: c) q.1 0)) = c.map (fun q => (q.1, kdfLook c q.1 0)) := List.map_congr_left fun q hq => by
      rw [look_cons, if_neg]
      rintro rfl
      exact (List.nodup_cons.mp hc).1 (List.mem_map_of_mem hq)
    rw [e, look_all c (List.nodup_cons.mp hc).2]
/-- a table made anew of its own keys and values -/
theorem tab_self {c : List (Int × Int)} (h : (c.map (·.1)).Nodup) : tabOf (fun k => kdfLook c k 0) (c.map (·.1)) = c := by
  rw [tab_map _ h, List.map_map]
  exact look_all c h
theorem look_tab (g : Int → Int) : ∀ {ks : List Int} {k : Int}, k ∈ ks → kdfLook (ks.map fun k => (k, g k)) k 0 = g k
  | x :: ks, k, h => by
    rw [List.map_cons, look_cons]
    by_cases e : x = k
    · rw [if_pos e, e]
    · rw [if_neg e]
      exact look_tab g (by rcases List.mem_cons.mp h with h | h; exact absurd h.symm e; exact h)
theorem rangeKs_nodup (n : Nat) : (rangeKs 0 n).Nodup := by
  unfold rangeKs
  refine List.pairwise_map.mpr (List.Pairwise.imp (fun {a b} h => ?_) List.nodup_range)
  intro e
  have e : (0 : Int) + a = 0 + b := e
  exact h (by omega)
theorem look_mem : ∀ {c : List (Int × Int)} {q : Int × Int}, (c.map (·.1)).Nodup → q ∈ c → kdfLook c q.1 0 = q.2
  | (k, v) :: c, q, h, hq => by
    have hc : (k :: c.map (·.1)).Nodup := h
    rw [look_cons]
    rcases List.mem_cons.mp hq with rfl | hq
    · rw [if_pos rfl]
    · rw [if_neg, look_mem (List.nodup_cons.mp hc).2 hq]
      intro e
      exact (List.nodup_cons.mp hc).1 (by rw [e]; exact List.mem_map_of_mem hq)
/-- equal tables, row by row -/
theorem rows_self {c : List (Int × Int)} (hn : (c.map (·.1)).Nodup) : KeqRows (kdfD c) (kdfD c) true := by
  have gen : ∀ e : List (Int × Int), (∀ q ∈ e, q ∈ c) → KeqRows (kdfD c) (kdfD e) true := by
    intro e
    induction e with
    | nil => intro _; exact KeqRows.nil
    | cons q e ih =>
      intro h
      have hk := kdfD_item (has_of_mem (List.mem_map_of_mem (h q (.head _))))
      rw [look_mem hn (h q (.head _))] at hk
      have e1 : (PyData.eqv (PyData.int q.2) (PyData.int q.2) && true) = true := by simp [PyData.eqv]
      have := KeqRows.hit (v := PyData.int q.2) hk (ih fun x hx => h x (.tail _ hx))
      rw [e1] at this
      exact this
  exact gen c fun _ h => h

end
section
/-- the row read back from its own entry -/
theorem entry_back (row : List Int) : ((entryP row 0).2.2.2.2.map (·.1)).map (fun k => kdfLook (entryP row 0).2.2.2.2 k 0) = row := by
  have e : (entryP row 0).2.2.2.2 = (rangeKs 0 row.length).map fun k => (k, row.getD k.toNat 0) := tab_map _ (rangeKs_nodup _)
  rw [e]
  have e2 : ((rangeKs 0 row.length).map fun k => (k, row.getD k.toNat 0)).map (·.1) = rangeKs 0 row.length := by rw [List.map_map]; exact List.map_id _
  rw [e2, List.map_congr_left fun k hk => look_tab (fun k => row.getD k.toNat 0) hk]
  unfold rangeKs
  rw [List.map_map]
  apply List.ext_getElem
  · simp
  · intro i h1 h2
    simp [h2]
/-- the row that the told table shows -/
noncomputable def movedRow (row : List Int) (P : Prof) : List Int := ((addP (entryP row 0) P).2.2.2.2.map (·.1)).map fun k => kdfLook (addP (entryP row 0) P).2.2.2.2 k 0
section
variable {prog : Program} {w : World} {A : Around} {s : Shared} {E : Value → Shared → Prop} {Q : Value → Shared → Prop}
theorem pairs_any {prog' : Program} {w' : World} {es : List DictEntry} {kvs : List (Int × Value)} (h : Pairs (PySem.intKind prog w) es kvs) : Pairs (PySem.intKind prog' w') es kvs := by
  induction h with
  | nil => exact .nil
  | cons a b _ ih => exact .cons a b ih
theorem tab_any {prog' : Program} {w' : World} {h : Heap} {a : Addr} {D : List (PyData × PyData)} (T : IntTab prog w h a D) : IntTab prog' w' h a D := by
  obtain ⟨lo, kvs, ⟨o, es, ep, h1, h2, h3, h4, h5, h6⟩, hf⟩ := T
  exact ⟨lo, kvs, ⟨o, es, ep, h1, h2, h3, h4, pairs_any h5, h6⟩, hf⟩
theorem dict_eqAt {a b : Addr} {c : List (Int × Int)} (Ta : IntTab prog w s.heap a (kdfD c)) (Tb : IntTab prog w s.heap b (kdfD c)) (hn : (c.map (·.1)).Nodup) (hu : A.units < cLine) (ne : a ≠ b) : SeqAt.EqAt A s (.ref a) (.ref b) true :=
  SeqAt.EqAt.of_refs ne fun prog' w' E Q h => keq_tabs (knd := PySem.intKind prog' w') (enc := PyData.int) PyProof.V.same_int (tab_any Ta) (tab_any Tb) rfl hu (rows_self hn) h
theorem eq_tups {t t' d d' : Addr} {P : Prof} {q1 q2 q3 q4 r1 r2 r3 r4 : Tok} (h1 : s.heap.get? t = some { cls := .type "tuple", data := .seq [Value.int P.1 q1, Value.int P.2.1 q2, Value.int P.2.2.1 q3, Value.int P.2.2.2.1 q4, Value.ref d].toArray })
    (h2 : s.heap.get? t' = some { cls := .type "tuple", data := .seq [Value.int P.1 r1, Value.int P.2.1 r2, Value.int P.2.2.1 r3, Value.int P.2.2.2.1 r4, Value.ref d'].toArray })
    (Ta : IntTab prog w s.heap d (kdfD P.2.2.2.2)) (Tb : IntTab prog w s.heap d' (kdfD P.2.2.2.2)) (hn : (P.2.2.2.2.map (·.1)).Nodup) (ne : d ≠ d') (hu : A.units < cLine) (hu1 : A.in1.units < cLine) (h : Q (.bool true) s) :
    wpAny (model prog w) A (compareOp .Eq (.ref t) (.ref t')) Q E s := by
  refine SeqAt.eq_tupleAt (e := fun _ => true) ⟨_, h1, rfl, _, rfl⟩ ⟨_, h2, rfl, _, rfl⟩ hu (fun j j1 j2 => ?_) h
  have hj : j < 5 := j1
  have same : ∀ (a : Int) (t u : Tok), SeqAt.EqAt A.in1 s (.int a t) (.int a u) true := fun a t u => by
    have := SeqAt.EqAt.int_int (A := A.in1) (s := s) a t a u
    rwa [beq_self_eq_true] at this
  match j, hj with
  | 0, _ => exact same _ _ _
  | 1, _ => exact same _ _ _
  | 2, _ => exact same _ _ _
  | 3, _ => exact same _ _ _
  | 4, _ => exact dict_eqAt Ta Tb hn hu1 ne
end
section
variable {prog : Program} {w : World} {p : Program} {loose : List Str} {mean : ExcName → Option Value} {mg mb : Str → Option Value}
theorem IsProf.ledE {h₀ g h : Heap} {L : Addr} {m : Str → Option Value} {news : List (Addr × Obj)} {v : Value} {P : Prof} (x : IsP prog w h₀ h v P) (F : Fr g L h₀ m) (N : News g L h news) (C : Prop)
    (k : ∀ t d od t1 t2 t3 t4 kvs, v = .ref t → News g L h ((t, { cls := .type "tuple", data := .seq [Value.int P.1 t1, Value.int P.2.1 t2, Value.int P.2.2.1 t3, Value.int P.2.2.2.1 t4, Value.ref d].toArray }) :: (d, od) :: news) →
      od.IsDictOf (PySem.intKind prog w) kvs → PyProof.V.FlatPairs PyData.int kvs (kdfD P.2.2.2.2) → (d == sysModules) = false → t ≠ d → h₀.get? t = none → h₀.get? d = none → C) : C := by
  obtain ⟨t, d, od, t1, t2, t3, t4, rfl, Nc, ⟨kvs, hd, hf⟩, lo, ne, f1, f2⟩ := x.led F N
  exact k t d od t1 t2 t3 t4 kvs rfl Nc hd hf lo ne f1 f2
set_option maxRecDepth 100000 in
set_option maxHeartbeats 8000000 in
theorem tells_moved (l : Addr) (vs : List Value) (row : List Int) (t d : Addr) (od : Obj) (t1 t2 t3 t4 : Tok) (kvs : List (Int × Value)) (P : Prof) (hi : IntsAre vs row) (hlen : row.length ≤ 40) (hP : P.2.2.2.2.length ≤ 100)
    (hod : od.IsDictOf (PySem.intKind prog w) kvs) (hf : PyProof.V.FlatPairs PyData.int kvs (kdfD P.2.2.2.2)) (lo : (d == sysModules) = false) (htd : t ≠ d) (hnd : (P.2.2.2.2.map (·.1)).Nodup)
    (hnc : 0 ≤ P.2.1 ∧ P.2.1 ≤ 1000) (hlen2 : (movedRow row P).length ≤ 40) (hnd2 : ((addP (entryP row 0) P).2.2.2.2.map (·.1)).Nodup) (heq : entryP (movedRow row P) P.2.1 = addP (entryP row 0) P) :
    Tells prog w p loose mean mg mb 162 [.ref l, .ref t] 12 100 (fun h => h.IsList l vs.toArray ∧ h.get? sysModules ≠ none ∧ h.get? t = some { cls := .type "tuple", data := .seq [Value.int P.1 t1, Value.int P.2.1 t2, Value.int P.2.2.1 t3, Value.int P.2.2.2.1 t4, Value.ref d].toArray } ∧ h.get? d = some od)
      (fun h h' v => ∃ D ys n, v = .ref D ∧ h'.get? D = some (W.listOf (List.toArray ys) n) ∧ IntsAre ys (movedRow row P) ∧ h.get? D = none) := by
  unfold Tells
  rintro dp un fr gd s Q E X T hd hu ⟨hl, hsm, htp, hdp⟩ ret
  refine wpAny_call ?_
  k_dflt (refine' enterC0 X T ?k6 ?k7 ?k8 ?k9 ?kB ?kD ?_ ?c2 ?c3 ?c4; (case k6 => k_is); (case k7 => k_is); (case k8 => first | exact room0 (by assumption) | ktr_room); (case k9 => exact BindsTo.of_eq rfl); (case kB => exact rfl); (case kD => decide +kernel); (case c2 => exact rfl); (case c3 => exact rfl); (case c4 => exact rfl); intro L' h' tk' cells' F' N' Y'; k_cells Y'; (try simp only [List.cons_append, List.nil_append] at N'); (try dsimp only); (try k_fold))
  ktr_unf
  rename Fr s.heap _ _ _ => F1
  rename News s.heap _ _ _ => N1
  refine (tells_entry l vs row 0 _ hi hlen (by omega)).use F1 X T (by show dp + 1 + 6 < _; exact room_le (k := 7) (by assumption) (by decide)) (by show un + 3 + 60 < _; exact room_le (k := 63) (by assumption) (by decide)) ⟨hl.at fun o e => F1.keep l o e, ?sm⟩ ?_
  case sm => intro e; cases q : s.heap.get? sysModules with
    | none => exact hsm q
    | some o => rw [F1.keep _ _ q] at e; cases e
  intro v h2 tk2 k2 F2 hp2
  have N2 := kept_news N1 k2
  refine IsProf.ledE hp2 F1 N2 _ fun te de ode e1 e2 e3 e4 kve he N3 hde hfe loe nee fe1 fe2 => ?_
  subst he
  have x1 := news_ne N1 fe1 _ (.head _)
  have x2 := news_ne N1 fe1 _ (.tail _ (.head _))
  have x3 := news_ne N1 fe1 _ (.tail _ (.tail _ (.head _)))
  have y1 := news_ne N1 fe2 _ (.head _)
  have y2 := news_ne N1 fe2 _ (.tail _ (.head _))
  have y3 := news_ne N1 fe2 _ (.tail _ (.tail _ (.head _)))
  dsimp only at x1 x2 x3 y1 y2 y3
  have x1' := Ne.symm x1
  have x2' := Ne.symm x2
  have x3' := Ne.symm x3
  have y1' := Ne.symm y1
  have y2' := Ne.symm y2
  have y3' := Ne.symm y3
  repeat' ((fail_if_success (with_reducible show wpAny _ _ (exec (Stmt.Assign _ (Expr.DictComp _ _ _ _ _) _) _) _ _ _)); tb_rel)
  rename Fr s.heap _ _ _ => F4
  rename News s.heap _ _ _ => N4
  have htup : IsTup s.heap t [Value.int P.1 t1, Value.int P.2.1 t2, Value.int P.2.2.1 t3, Value.int P.2.2.2.1 t4, Value.ref d].toArray := ⟨_, htp, rfl, _, rfl⟩
  refine assign_dc (g := fun k => kdfLook P.2.2.2.2 k 0) (ks := P.2.2.2.2.map (·.1)) F4 N4 hsm (by with_unfolding_all rfl) (by rfl) (by decide) (by rfl) (by decide) (by rfl) (by rfl) (by rfl) (by rw [List.length_map, sizeLine_eq]; omega) ?_
  ktr_unf
  rename Fr s.heap _ _ _ => F5
  rename News s.heap _ _ _ => N5
  have htab : IntTab prog w s.heap d (kdfD P.2.2.2.2) := TabAt.ofObj lo hdp hod hf
  obtain ⟨oo, es, ep, hDt⟩ := Heap.dictOf_iff.mpr ⟨od, F5.keep _ _ hdp, hod⟩
  refine wpAny_mono (DIter.dict (by rfl) lo ⟨oo, es, hDt⟩ hf) (fun it s₂ hit => ⟨hit, F5, N5, ?key, ?val, ?cont⟩) fun _ _ e => e
  case key =>
    intro C k t s₃ m₃ E' hk hn hm F6 N6
    exact ldVarK hn hm ⟨⟨t, rfl⟩, _, _, rfl, fun _ _ e => e⟩
  case val =>
    intro C k t s₃ m₃ E' hk hn hm F6 N6
    ktr_unf
    · rename _ = some _ => hl2
      rename PyProof.V.Flat _ _ => hv2
      rw [kdfD_item (has_of_mem hk)] at hl2
      obtain rfl := Option.some.inj hl2
      obtain ⟨t', rfl⟩ := PyProof.V.Flat.int_inv hv2
      exact TurnV.intro fun _ _ e => e
    · rename _ = none => hl2
      rw [kdfD_item (has_of_mem hk)] at hl2
      cases hl2
  case cont =>
    intro D oD kvs h7 tk7 F7 N7 loD nD hD hfD
    ktr_unf
    rename Fr s.heap _ _ _ => F8
    rename News s.heap _ _ _ => N8
    have hpe : IsP prog w {} h7 (.ref te) (entryP row 0) := ⟨te, de, ode, e1, e2, e3, e4, rfl, N8.get (by k_mem), N8.get (by k_mem), ⟨kve, hde, hfe⟩, loe, rfl, rfl, nee⟩
    have hpd : IsP prog w {} h7 (.ref t) P := ⟨t, d, od, t1, t2, t3, t4, rfl, F8.keep _ _ htp, F8.keep _ _ hdp, ⟨_, hod, hf⟩, lo, rfl, rfl, htd⟩
    have hle : (entryP row 0).2.2.2.2.length ≤ 40 := by have := tabOf_len (fun k => row.getD k.toNat 0) (rangeKs 0 row.length); rw [rangeKs_length] at this; exact Nat.le_trans this hlen
    refine (tells_stats (.ref te) (.ref t) _ _ _ _ _ _ _ _ _ _ (by omega) (by omega)).use F8 X T (by show dp + 1 + 4 < _; exact room_le (k := 5) (by assumption) (by decide)) (by show un + 3 + 40 < _; exact room_le (k := 43) (by assumption) (by decide)) ⟨hpe, hpd⟩ ?_
    intro v h9 tk9 k9 F9 hp9
    have N9 := kept_news N8 k9
    refine IsProf.ledE (P := addP (entryP row 0) P) hp9 F8 N9 _ fun tt dt odt q1 q2 q3 q4 kvt ht N10 hdt hft lot net ft1 ft2 => ?_
    subst ht
    obtain ⟨⟨z1, z1'⟩, ⟨z2, z2'⟩, z3, z3'⟩ : (L' + 1 + 1 + 1 ≠ tt ∧ tt ≠ L' + 1 + 1 + 1) ∧ (L' + 1 + 1 + 1 ≠ dt ∧ dt ≠ L' + 1 + 1 + 1) ∧ L' + 1 + 1 + 1 ≠ D ∧ D ≠ L' + 1 + 1 + 1 := by
      have b1 := news_ne N8 ft1 (L' + 1 + 1 + 1, _) (by k_mem)
      have b2 := news_ne N8 ft2 (L' + 1 + 1 + 1, _) (by k_mem)
      have b3 := nD (L' + 1 + 1 + 1, _) (by k_mem)
      exact ⟨⟨b1, Ne.symm b1⟩, ⟨b2, Ne.symm b2⟩, b3, Ne.symm b3⟩
    ktr_unf
    rename Fr s.heap _ _ _ => F11
    rename News s.heap _ _ _ => N11
    refine list_dc (g := fun k => kdfLook (entryP row 0).2.2.2.2 k 0) (ks := (entryP row 0).2.2.2.2.map (·.1)) F11 N11 (by rfl) (by decide) (by rfl) (by decide) (by rfl) (by rw [List.length_map, sizeLine_eq]; omega) ?_
    ktr_unf
    rename Fr s.heap _ _ _ => F12
    rename News s.heap _ _ _ => N12
    have hgd := N12.get (by k_mem : (de, ode) ∈ _)
    obtain ⟨oo2, es2, ep2, hDt2⟩ := Heap.dictOf_iff.mpr ⟨ode, hgd, hde⟩
    refine wpAny_mono (DIter.dict (by rfl) loe ⟨oo2, es2, hDt2⟩ hfe) (fun it s₂ hit => ⟨hit, F12, N12, ?val2, ?cont2⟩) fun _ _ e => e
    case val2 =>
      intro C k t s₃ m₃ E' hk hn hm F13 N13
      ktr_unf
      refine getItem_has N13 (by k_mem) hde hfe (has_of_mem hk) fun t' => ?_
      exact TurnV.intro fun _ _ e => e
    case cont2 =>
      intro D2 n2 ys2 h13 tk13 F13 N13 nD2 hI2
      ktr_unf
      have hTd : TabAt (PySem.intKind prog w) PyData.int h13 d (kdfD P.2.2.2.2) := TabAt.ofObj lo (F13.keep _ _ hdp) hod hf
      have hTD : TabAt (PySem.intKind prog w) PyData.int h13 D (kdfD P.2.2.2.2) := TabAt.ofObj loD (N13.get (by k_mem)) hD (by rw [tab_self hnd] at hfD; exact hfD)
      refine kne_tabs (knd := PySem.intKind _ _) (enc := PyData.int) PyProof.V.same_int hTd hTD rfl (by show un + 3 < _; omega) (rows_self hnd) ?_
      repeat' ((fail_if_success (with_reducible show wpAny _ _ (exec (Stmt.Assign _ (Expr.ListComp _ _ _ _) _) _) _ _ _)); tb_rel)
      rename Fr s.heap _ _ _ => F14
      rename News s.heap _ _ _ => N14
      have hcl : (addP (entryP row 0) P).2.2.2.2.length ≤ 200 := by
        have := addC_len (entryP row 0).2.2.2.2 P.2.2.2.2
        show (addC (entryP row 0).2.2.2.2 P.2.2.2.2).length ≤ _
        omega
      refine assign_list_dc (g := fun k => kdfLook (addP (entryP row 0) P).2.2.2.2 k 0) (ks := (addP (entryP row 0) P).2.2.2.2.map (·.1)) F14 N14 (by with_unfolding_all rfl) (by rfl) (by decide) (by rfl) (by decide) (by rfl) (by rfl) (by rfl) (by rw [List.length_map, sizeLine_eq]; omega) ?_
      ktr_unf
      rename Fr s.heap _ _ _ => F15
      rename News s.heap _ _ _ => N15
      obtain ⟨oo3, es3, ep3, hDt3⟩ := Heap.dictOf_iff.mpr ⟨odt, N15.get (by k_mem), hdt⟩
      refine wpAny_mono (DIter.dict (by rfl) lot ⟨oo3, es3, hDt3⟩ hft) (fun it s₂ hit => ⟨hit, F15, N15, ?val3, ?cont3⟩) fun _ _ e => e
      case val3 =>
        intro C k t s₃ m₃ E' hk hn hm F17 N17
        ktr_unf
        refine getItem_has N17 (by k_mem) hdt hft (has_of_mem hk) fun t' => ?_
        exact TurnV.intro fun _ _ e => e
      case cont3 =>
        intro D3 n3 ys3 h16 tk16 F16 N16 nD3 hI3
        ktr_unf
        refine (tells_entry D3 ys3 (movedRow row P) P.2.1 _ hI3 hlen2 hnc).use F16 X T (by show dp + 1 + 6 < _; exact room_le (k := 7) (by assumption) (by decide)) (by show un + 3 + 60 < _; exact room_le (k := 63) (by assumption) (by decide)) ⟨⟨_, N16.get (.head _), rfl, _, rfl⟩, ?sm2⟩ ?_
        case sm2 => intro e; cases q : s.heap.get? sysModules with
          | none => exact hsm q
          | some o => rw [F16.keep _ _ q] at e; cases e
        intro v h17 tk17 k17 F17 hp17
        have N17 := kept_news N16 k17
        rw [heq] at hp17
        refine IsProf.ledE hp17 F16 N17 _ fun tn dn odn r1 r2 r3 r4 kvn hn N18 hdn hfn lon nen fn1 fn2 => ?_
        subst hn
        have ndt : dt ≠ dn := news_ne N16 fn2 (dt, odt) (by k_mem)
        refine eq_tups (P := addP (entryP row 0) P) (N18.get (by k_mem)) (N18.get (.head _)) (TabAt.ofObj lot (N18.get (by k_mem : (dt, odt) ∈ _)) hdt hft) (TabAt.ofObj lon (N18.get (.tail _ (.head _))) hdn hfn) hnd2 ndt (by show un + 3 < _; omega) (by show un + 3 + 1 < _; exact room_le (k := 4) (by assumption) (by decide)) ?_
        ktr_unf
        refine ret _ _ _ (Fr.keep (by assumption)) ⟨D3, ys3, _, rfl, News.get (by assumption) (by k_mem : (D3, _) ∈ _), hI3, N16.fresh (.head _)⟩
      -- the other branch of the first test: `return []`, to be shown idle by the back-reading of the row
      all_goals exact absurd (entry_back row) (by assumption)
end

end
section
section
variable {M : Model} {A : Around} {E : Value → Shared → Prop} {s : Shared} {env : Env}
theorem wpC_keep {α : Type} {vs : List Value} {m : Sem α} {Q : α → Shared → Prop} (h : wpC M A m Q E s) : wpC M A (m.keep vs) Q E s := fun Γ p hΓ hC => by rw [Sem.wp_keep]; exact h Γ p hΓ hC
theorem wpC_Assign_Name {x pos' value pos} {Q : Flow → Shared → Prop} (h : wpC M A (eval value env) (fun v s₁ => wpAny M A (storeName env x v) (fun _ => Q .next) E s₁) E s)
    (hs : swapsWith value (some (.Name x pos')) pos.line env = pure false := by rfl) : wpC M A (exec (.Assign [.Name x pos'] value pos) env) Q E s := fun Γ p hΓ hC => by
  simp only [exec_Assign_Name env x pos' value pos hs, Sem.wp_bind', Sem.wp_cmd_standAt, Sem.wp_bindName, Sem.wp_pure']
  exact Sem.wp_mono M Γ _ (fun v _ s₁ h₁ => h₁ Γ _ hΓ) (fun _ _ _ h' => h') _ _ (h Γ _ hΓ hC.at)
theorem wpC_execs_cons {st : Stmt} {rest : List Stmt} {Q : Flow → Shared → Prop} (h : wpC M A (exec st env) (fun f s' => match f with | .next => wpC M A (execs rest env) Q E s' | f => Q f s') E s) : wpC M A (execs (st :: rest) env) Q E s := by
  rw [execs_cons]
  refine wpC_bind (wpC_mono h (fun f s' h' => ?_) fun _ _ e => e)
  cases f <;> first | exact h' | exact wpC.of (wpAny_pure h')
theorem wpC_Call_name {x np pos} {args : List Expr} {Q : Value → Shared → Prop} (h : wpAny M A (eval (.Name x np) env) (fun f s₁ => wpC M A (callWith pos f [] (backTo pos (starEach args env)) []) Q E s₁) E s) :
    wpC M A (eval (.Call (.Name x np) args [] pos) env) Q E s := by
  show wpC M A (do callWith pos (← eval (.Name x np) env) [] (backTo pos (starEach args env)) (backToKw pos (keywordEach [] env))) Q E s
  exact wpC_bind (wpC.of h)
theorem wpC_callWith {pos : Pos} {f : Value} {Q : Value → Shared → Prop} {P : Heap → Prop} {args : List (Bool × Sem Value)} {keywords : List (Option Str × Sem Value)} (hplain : (args.any (·.1) || keywords.any (·.1.isNone)) = false)
    (hk : ∀ h, P h → ∃ k, (k = Keeper.frame ∨ k = Keeper.machine ∨ k = Keeper.boundFrame) ∧ Looks M h (keeperOf f) k)
    (h : wpAny M A (evalArgs f true args keywords) (fun a s₁ => P s₁.heap ∧ wpC M A (call f ([] ++ a.pos) a.kw) Q E s₁) E s) : wpC M A (callWith pos f [] args keywords) Q E s := by
  unfold callWith
  refine wpC_bind (wpC.of (wpAny_holding (wpAny_mono h (fun a s₁ h₁ => wpC_bind (wpC.of (wpAny_standAt ?_))) fun _ _ x => x)))
  obtain ⟨k, hk', L⟩ := hk _ h₁.1
  simp only [hplain]
  refine wpC_bind (wpC.of (L.here ?_))
  have tail : ∀ {t : Sem Value}, wpC M A t Q E s₁ → wpC M A (t >>= fun r => holding [r] point >>= fun _ => pure r) Q E s₁ :=
    fun ht => wpC_bind (wpC_mono ht (fun r s₂ hr => wpC.of (wpAny_bind (wpAny_holding (wpAny_point (wpAny_pure hr))))) fun _ _ x => x)
  have marked (mk : Value) : wpC M A (callMarked mk f ([] ++ a.pos) a.kw) Q E s₁ := by unfold callMarked; exact wpC_keep h₁.2
  rcases hk' with rfl | rfl | rfl <;> dsimp only <;> first | exact tail h₁.2 | (split <;> first | exact tail h₁.2 | exact tail (marked _))
theorem wpC_callWith1 {pos : Pos} {f : Value} {Q : Value → Shared → Prop} {P : Heap → Prop} {e : Expr} {rest : List Expr} (hk : ∀ h, P h → ∃ k, (k = Keeper.frame ∨ k = Keeper.machine ∨ k = Keeper.boundFrame) ∧ Looks M h (keeperOf f) k)
    (h : wpAny M A (spliced (backTo pos (starEach (e :: rest) env))) (fun vs s₁ => P s₁.heap ∧ wpC M A (call f vs) Q E s₁) E s)
    (he : starEach (e :: rest) env = (false, eval e env) :: starEach rest env := by rfl) (hplain : (backTo pos (starEach rest env)).any (·.1) = false := by rfl) :
    wpC M A (callWith pos f [] (backTo pos (starEach (e :: rest) env)) []) Q E s := by
  rw [he] at h ⊢
  exact wpC_callWith (by show ((false || (backTo pos (starEach rest env)).any (·.1)) || false) = false; rw [hplain]; rfl) hk (evalArgs_plain h)
end
section
variable {prog : Program} {w : World} {A : Around} {E : Value → Shared → Prop} {s : Shared} {R : Result → Shared → Prop}
theorem codeC_builtin {id : String} {args : Args} {b : Builtin} (hc : okCode (.builtin id args) = true) (hb : entryFor table id = some b)
    (h : wpC (model prog w) (A.under (.builtin id args)) (b args) (fun fin s' => match fin with | .done f => R (.ok f) s' | .again c' => c'.quiet = true ∧ codeC (model prog w) A c' R s') (fun e s' => R (.error e) s') s) :
    codeC (model prog w) A (.builtin id args) R s := by
  refine codeC_of_tree hc ?_
  show wpC _ _ (match entryFor table id with | some b => b args | none => unsupported ((withoutEnding? id "#data").getD id)) _ _ s
  rw [hb]; exact h
theorem codeC_func {body : List Stmt} {env : Env} (h : wpC (model prog w) (A.deeper env) (execs body env) (fun f s' => R (.ok (.ret (match f with | .ret v => v | _ => .none))) s')
      (fun e s' => wpAny (model prog w) (A.deeper env) (leaving env e) (fun _ s'' => R (.error e) s'') (fun e' s'' => R (.error e') s'') s') s) : codeC (model prog w) A (.func body env) R s := by
  refine codeC_of_tree rfl ?_
  show wpC _ (A.deeper env) (do point; match ← (execs body env).onRaise (leaving env) with | .ret v => ret v | _ => ret .none) _ _ s
  refine wpC_bind (wpC.of (wpAny_point ?_))
  refine wpC_bind fun Γ p hΓ hC => ?_
  rw [Sem.wp_onRaise]
  refine Sem.wp_mono _ Γ _ (fun f p' s' h' => ?_) (fun e p' s' h' => h' Γ p' hΓ) p s (h Γ p hΓ hC)
  cases f <;> exact wpC.of (wpAny_pure h')
theorem codeC_call_function {a : Addr} {args : Args} {o : Obj} {fd : FuncData} {body : List Stmt} (hroom : A.depth < recursionLimit) (ho : s.heap.get? a = some o)
    (hd' : o.data = .func fd) (hco : fd.scope.isCoroutine = false) (hgen : fd.scope.isGenerator = false) (hbody : fd.body = .stmts body) (hcd : s.heap.CodeRec fd.code fd.qualname)
    (h : wpAny (model prog w) A.in1 (bindArgs fd args) (fun binds s₁ =>
      wpAny (model prog w) A.in1 (newFunctionEnv fd.scope fd.globals fd.closure binds (fd.qualname ++ ".<locals>.") (some a) fd.code none fd.builtins)
        (fun env s₂ => s₂.heap.NoLimit ∧ codeC (model prog w) A (.func body env) R s₂) (fun e s' => R (.error e) s') s₁) (fun e s' => R (.error e) s') s) :
    codeC (model prog w) A (.call (.ref a) args) R s := by
  refine codeC_of_tree rfl (wpC.of ?_)
  show wpAny _ A.in1 (callAny (.ref a) args) _ _ s
  simp only [callAny]
  refine wpAny_bind (wpAny_load ho ?_)
  obtain ⟨c, oc, vs, tq, hc, hoc, hdc, hq⟩ := hcd
  simp only [hd', callFunction, hco, hgen, hbody, hc]
  rw [hc] at h
  refine wpAny_bind (m := field (.ref c) 1) (wpAny_field hoc hdc hq (wpAny_bind (wpAny_pure ?_)))
  exact wpAny_bind (wpAny_mono h (fun binds s₁ h₁ => wpAny_bind (wpAny_mono h₁ (fun env s₂ h₂ => wpAny_bind (wpAny_enterFrame h₂.1 hroom
    (wpAny_pure (And.intro rfl h₂.2)))) fun _ _ h' => h')) fun _ _ h' => h')
end
namespace F
theorem ba_mro : mroOf (.type "bytearray") = pure [.type "bytearray", .type "object"] := by rw [mroOf_type]; kernel_rfl
theorem ba_lookup_new : typeLookup (.type "bytearray") "__new__" = pure (some (.builtin "bytearray.__new__")) := by rw [typeLookup_type, builtinLookup_eq_fast]; kernel_rfl
theorem ba_made : Bind.madeBy (.type "bytearray") = pure (some "bytearray.__new__") := madeBy_type ba_mro ba_lookup_new (by decide +kernel)
theorem ba_slot_init : Slot "bytearray" "__init__" "bytearray.__init__" :=
  .of (owner := "bytearray") (n := "__init__") (by rw [typeLookup_type, builtinLookup_eq_fast]; kernel_rfl) (by decide +kernel) (by decide +kernel) (by decide +kernel)
    (by first | exact .inl (by decide +kernel) | exact .inr (by decide +kernel)) (by rw [isSubtype_type]; kernel_rfl)
theorem ba_sub : isSubtype (.type "bytearray") (.type "bytearray") = pure true := by rw [isSubtype_type]; kernel_rfl
theorem ba_typeCall (a : Value) : checkTypeCall "bytearray" ⟨[a], []⟩ = pure () := by kernel_rfl
theorem ba_newCall (a : Value) : checkBuiltinCall "bytearray.__new__" ⟨[.type "bytearray", a], []⟩ = pure () := by kernel_rfl
theorem ba_plain_new : plainId "bytearray.__new__" = true := by decide +kernel
theorem ba_plain_init : plainId "bytearray.__init__" = true := by decide +kernel
theorem ba_entry_init : entryFor table "bytearray.__init__" = some Builtin.«bytearray.__init__» := by first | exact entryFor_of_fast (by kernel_rfl) | exact entryFor_of_tree (by kernel_rfl)
theorem ba_entry_new : entryFor table "bytearray.__new__" = some Builtin.«list.__new__» :=
  entryFor_alias (id' := "list.__new__") (by kernel_rfl) (by first | rfl | decide +kernel | (unfold String.splitOn; simp +decide [String.splitOnAux])) (by decide +kernel) (by kernel_rfl)
theorem ba_release : typeLookup (.type "bytearray") "__release_buffer__" = pure (some (.builtin "bytearray.__release_buffer__")) := by rw [typeLookup_type, builtinLookup_eq_fast]; kernel_rfl
theorem ba_sub' : isSubtype (.type "bytearray") (.type ("bytearray.__release_buffer__".dropRight ("__release_buffer__".length + 1))) = pure true := by rw [isSubtype_type]; kernel_rfl
theorem ba_bind (v : Value) : Builtin.Bytes.bindOptional "bytearray.__init__" "bytearray" ["source", "encoding", "errors"] [v] [] = pure [some v, none, none] := by kernel_rfl
theorem ba_args (a b : Value) : argsOk "bytearray.__init__" ⟨[a, b], []⟩ := by first | exact rfl | decide
theorem ba_index : typeLookup (.type "int") "__index__" = pure (some (.builtin "int.__index__")) := by rw [typeLookup_type, builtinLookup_eq_fast]; kernel_rfl
theorem ba_canCreate : ((Manifest.find? "bytearray").bind (·.mro.findSome? fun t => (Manifest.find? t).bind fun b => if b.noNew then some true else if b.attrs.any (·.1 == "__new__") then some false else none)).getD false = false := by decide +kernel
end F

end
section
section
variable {prog : Program} {w : World} {A : Around} {E : Value → Shared → Prop} {s : Shared}
set_option maxRecDepth 1000000 in
set_option maxHeartbeats 4000000 in
theorem owner_ba_new : ("bytearray.__new__".splitOn ".__new__").headD "" = "bytearray" := by simp +decide [String.splitOn, String.splitOnAux]
theorem code_ba_new (a : Value) {Q₁ : Value → Shared → Prop}
    (h : Q₁ (.ref s.heap.objs.size) { s with heap := s.heap.push { cls := .type "bytearray", data := .bytearray #[] } }) :
    codeAny (model prog w) A (.call (.builtin "bytearray.__new__") ⟨[.type "bytearray", a], []⟩) (wants Q₁ E) s := by
  refine codeAny_of_tree ?_
  show wpAny _ A.in1 (do checkBuiltinCall "bytearray.__new__" ⟨[.type "bytearray", a], []⟩; again (.builtin "bytearray.__new__" ⟨[.type "bytearray", a], []⟩)) _ _ s
  refine wpAny_bind (wpAny_of_eq (F.ba_newCall a) (wpAny_pure ⟨plainId_quiet F.ba_plain_new _, codeAny_builtin_stack F.ba_entry_new rfl fun p st => ?_⟩))
  rw [Around.under_plainId F.ba_plain_new _]
  have hsub := F.ba_sub
  have hown := owner_ba_new
  obtain ⟨hp, g, d, tk, os⟩ := s
  simp only [hown]
  wp_walk
  exact h
theorem own_release {a : Addr} {Q : Bool → Shared → Prop} (hT : s.TypeIs (.ref a) "bytearray") (h : Q false s) : wpAny (model prog w) A (Builtin.Bytes.ownRelease (.ref a)) Q E s := by
  unfold Builtin.Bytes.ownRelease Builtin.Bytes.slotIsOwn
  refine wpAny_bind (wpAny_bind (wpAny_specialOf hT F.ba_release ?_))
  dsimp only
  rw [if_neg (by decide +kernel)]
  refine wpAny_isInstance hT (b := true) F.ba_sub' ?_
  exact wpAny_pure h
theorem ba_write {a : Addr} {b : Array UInt8} {f : Array UInt8 → Array UInt8} {Q : Unit → Shared → Prop} (hS : s.heap.get? a = some { cls := .type "bytearray", data := .bytearray b }) (hz : (f b).size ≤ sizeLine)
    (h : ∀ h', h'.get? a = some { cls := .type "bytearray", data := .bytearray (f b) } → Heap.SameBut a s.heap h' → Q () { s with heap := h' }) : wpAny (model prog w) A (Builtin.Bytes.write (.ref a) f) Q E s := by
  show wpAny _ _ (updateBytearray a f) _ _ _
  unfold updateBytearray
  refine wpAny_bind (wpAny_load hS ?_)
  show wpAny _ _ (update a (Obj.mapBytearray f) >>= fun _ => lookBehind a) _ _ _
  refine wpAny_bind (wpAny_update hS ?_)
  have hS₂ : (s.heap.update a (Obj.mapBytearray f)).get? a = some { cls := .type "bytearray", data := .bytearray (f b) } := Heap.get?_update_self (Obj.mapBytearray f) hS rfl
  refine wpAny_lookBehind hS₂ ?_ (h _ hS₂ (Heap.SameBut.update ..))
  show (if (f b).size > sizeLine then some "bytearray:memory" else none) = none
  rw [if_neg (Nat.not_lt.mpr hz)]
theorem asStr_int {n : Int} {t : Tok} {Q : Option Str → Shared → Prop} (h : Q none s) : wpAny (model prog w) A (asStr? (.int n t)) Q E s := by
  show wpAny _ _ (notAStandIn _ >>= fun _ => pure none) _ _ _
  exact wpAny_bind (wpAny_pure (wpAny_pure h))
theorem asIndex_int {n : Int} {t : Tok} {Q : Int → Shared → Prop} (h : Q n s) : wpAny (model prog w) A (asIndex (.int n t)) Q E s := by
  show wpAny _ _ (asInt? _ >>= _) _ _ _
  exact wpAny_bind (wpAny_pure (wpAny_pure h))
theorem fits_small {n : Nat} (h : n ≤ 1000) : Builtin.Bytes.fitsIndex (n : Int) = true := by
  unfold Builtin.Bytes.fitsIndex
  simp only [Bool.and_eq_true, decide_eq_true_eq]
  omega
theorem not_long {n : Nat} (h : n ≤ 1000) : Builtin.Bytes.tooLong n = false := by
  unfold Builtin.Bytes.tooLong
  rw [sizeLine_eq]
  simp only [decide_eq_false_iff_not]
  omega
theorem not_max {n : Nat} (h : n ≤ 1000) : ((n : Int) == 2 ^ 63 - 1) = false := by
  simp only [beq_eq_false_iff_ne]
  omega
theorem ifC_false {α : Type} {M : Model} {c : Bool} {a b : Sem α} {Q : α → Shared → Prop} (hc : c = false) (h : wpC M A b Q E s) : wpC M A (if c = true then a else b) Q E s := by
  subst hc; exact h
theorem ifC_true {α : Type} {M : Model} {c : Bool} {a b : Sem α} {Q : α → Shared → Prop} (hc : c = true) (h : wpC M A a Q E s) : wpC M A (if c = true then a else b) Q E s := by
  subst hc; exact h
theorem okB {id : String} {args : Args} (h : (!holders.contains id) = true) : okCode (.builtin id args) = true := h
theorem wpC_exported {M : Model} {self : Value} {Q : Bool → Shared → Prop} (h : Q false s) : wpC M A (Builtin.Bytes.exported self) Q E s := fun Γ p hΓ hC => by
  unfold Builtin.Bytes.exported
  show Q (((Γ.code, p) :: Γ.below).any _) s
  rw [List.any_eq_false.mpr]
  · exact h
  · rintro ⟨c, q⟩ hx
    have ho := hC _ hx
    cases c with
    | builtin id args =>
      obtain ⟨pos, kw⟩ := args
      have hn : ∀ x, holders.contains x = true → id ≠ x := fun x hx e => by
        rw [e] at ho
        have ho' : (!holders.contains x) = true := ho
        rw [hx] at ho'
        cases ho'
      unfold Builtin.Bytes.exported.match_1
      change ¬ (dite (id = "bytearray.__contains__") _ _) = true
      rw [dif_neg (hn _ (by decide)), dif_neg (hn _ (by decide)), dif_neg (hn _ (by decide)), dif_neg (hn _ (by decide)), dif_neg (hn _ (by decide))]
      cases pos with
      | nil => exact Bool.false_ne_true
      | cons v r =>
        change ¬ (Builtin.Bytes.sameRef v self && Builtin.Bytes.decodersThatHold.contains id) = true
        cases hc : Builtin.Bytes.decodersThatHold.contains id with
        | false => rw [Bool.and_false]; exact Bool.false_ne_true
        | true => exact absurd rfl (hn id (by unfold holders; rw [List.contains_iff_mem, List.mem_append]; exact .inr (List.contains_iff_mem.mp hc)))
    | _ => exact Bool.false_ne_true
set_option maxRecDepth 100000 in
theorem call_ba {n : Nat} {t : Tok} {Q : Value → Shared → Prop} (hn : n ≤ 1000)
    (hQ : ∀ h' : Heap, (∀ b o, s.heap.get? b = some o → h'.get? b = some o) → h'.get? s.heap.objs.size = some { cls := .type "bytearray", data := .bytearray (Array.replicate n 0) } → Q (.ref s.heap.objs.size) { s with heap := h' }) :
    wpC (model prog w) A (call (.type "bytearray") [.int n t]) Q E s := by
  refine wpC_call (codeC_of_tree rfl ?_)
  show wpC _ _ (callAny (.type "bytearray") _) _ _ _
  refine wpC.of (wpAny_pure ⟨Code.quiet_builtin _ (by decide +kernel), codeC_builtin (okB (by decide +kernel)) F.entry_type_call ?_⟩)
  rw [Around.under_plain (weight_type_call_type "bytearray" [.int n t] []) rfl]
  unfold Builtin.«type.__call__»
  dsimp only
  refine ifC_false (by decide) ?_
  refine ifC_false F.ba_canCreate ?_
  refine wpC_bind (wpC.of (wpAny_of_eq (F.ba_typeCall _) ?_))
  refine wpC_bind (wpC.of (wpAny_of_eq F.ba_mro ?_))
  refine ifC_false rfl ?_
  refine wpC_bind (wpC.of (wpAny_of_eq F.ba_made ?_))
  dsimp only
  refine wpC_bind (wpC.of (wpAny_pure ?_))
  refine wpC_bind (wpC.of (wpAny_holding (wpAny_call (code_ba_new _ ?_))))
  have hT : ({ s with heap := s.heap.push { cls := .type "bytearray", data := .bytearray #[] } } : Shared).TypeIs (.ref s.heap.objs.size) "bytearray" := ⟨_, Heap.get?_push_size _ rfl, rfl⟩
  refine wpC_bind (wpC.of (wpAny_isInstance hT F.ba_sub ?_))
  refine ifC_false rfl ?_
  refine wpC_bind (wpC_holding ?_)
  unfold callSpecial?
  refine wpC_bind (wpC.of (wpAny_specialOf hT F.ba_slot_init.lookup ?_))
  dsimp only
  refine wpC_holding ?_
  refine wpC_bind (wpC.of (wpAny_of_eq (F.ba_slot_init.bind _) ?_))
  dsimp only
  refine wpC_bind (wpC_call (codeC_of_tree rfl ?_))
  show wpC _ _ (do checkBuiltinCall "bytearray.__init__" ⟨[.ref s.heap.objs.size, .int n t], []⟩; again (.builtin "bytearray.__init__" ⟨[.ref s.heap.objs.size, .int n t], []⟩)) _ _ _
  refine wpC_bind (wpC.of (F.ba_slot_init.check _ _ _ _ _ _ _ _ hT (F.ba_args _ _) ?_))
  refine wpC.of (wpAny_pure ⟨plainId_quiet F.ba_plain_init _, codeC_builtin (okB (by decide +kernel)) F.ba_entry_init ?_⟩)
  rw [Around.under_plainId F.ba_plain_init _]
  unfold Builtin.«bytearray.__init__»
  dsimp only
  have hS : (s.heap.push { cls := .type "bytearray", data := .bytearray #[] }).get? s.heap.objs.size = some { cls := .type "bytearray", data := .bytearray #[] } := Heap.get?_push_size _ rfl
  refine wpC_bind (wpC.of (own_release hT ?_))
  refine ifC_false rfl ?_
  refine wpC_bind (wpC.of (wpAny_of_eq (F.ba_bind _) ?_))
  dsimp only
  refine wpC_bind (wpC.of (wpAny_of_eq (a := ()) rfl ?_))
  refine wpC_bind (wpC.of (wpAny_of_eq (a := ()) rfl ?_))
  refine wpC_bind ?_
  refine wpC_bind (wpC_exported ?_)
  refine wpC.of ?_
  show wpAny _ _ (do return decide ((← Builtin.Bytes.exportsOf (.ref s.heap.objs.size)) > 0)) _ _ _
  refine wpAny_bind ?_
  unfold Builtin.Bytes.exportsOf
  refine wpAny_bind (wpAny_load hS ?_)
  refine wpAny_pure (wpAny_pure ?_)
  refine ifC_false (by with_unfolding_all rfl) (wpC.of ?_)
  refine wpAny_bind (ba_write hS (Nat.zero_le _) fun h1 g1 k1 => ?_)
  dsimp only
  refine wpAny_bind ?_
  refine asStr_int ?_
  simp only [Option.isSome_none, Bool.false_eq_true, if_false]
  with_reducible refine wpAny_bind ?_
  with_reducible refine wpAny_pure ?_
  with_reducible refine wpAny_bind ?_
  with_reducible refine wpAny_specialOf (typeIs_int _ _ _) F.ba_index ?_
  simp only [Option.isSome_some, if_true]
  with_reducible refine wpAny_bind ?_
  with_reducible refine wpAny_attempt ?_
  refine asIndex_int ?_
  simp only [show Builtin.Bytes.fitsIndex (n : Int) = true from fits_small hn, show Builtin.Bytes.tooLong n = false from not_long hn, show ((n : Int) == 2 ^ 63 - 1) = false from not_max hn, show ¬ ((n : Int) < 0) by omega, Bool.not_true, Bool.false_eq_true, if_false, Int.toNat_natCast]
  with_reducible refine wpAny_bind ?_
  with_reducible refine wpAny_rule ?_
  have fin : ∀ h2 : Heap, h2.get? s.heap.objs.size = some { cls := .type "bytearray", data := .bytearray (Array.replicate n 0) } → (∀ b o, s.heap.get? b = some o → h2.get? b = some o) → 
      wpC (model prog w) A.in1 (pure (some Value.none)) (fun a s' => wpC (model prog w) A.in1 (match a with
                | none => ret (Value.ref s.heap.objs.size)
                | some r =>
                  if (r != Value.none) = true then do
                    rule "type.call.init-returned-value"
                    let __do_lift ← PySem.typeNameOf r
                    raiseErrorMade "TypeError"
                        (toString "__init__() should return None, not '" ++ toString __do_lift ++ toString "'")
                    ret (Value.ref s.heap.objs.size)
                  else ret (Value.ref s.heap.objs.size)) 
                (fun fin s' =>
                  match fin with
                  | Fin.done f =>
                    match Except.ok f with
                    | Except.ok (Flow.ret v) => Q v s'
                    | Except.ok a => False
                    | Except.error e => E e s'
                  | Fin.again c' =>
                    c'.quiet = true ∧
                      codeC (model prog w) A c'
                        (fun r s' =>
                          match r with
                          | Except.ok (Flow.ret v) => Q v s'
                          | Except.ok a => False
                          | Except.error e => E e s')
                        s')
                (fun e s' => E e s') s') (fun e s' => E e s') { s with heap := h2 } := fun h2 g2 k2 => by
    refine wpC.of (wpAny_pure ?_)
    refine ifC_false (by decide) (wpC.of (wpAny_pure ?_))
    exact hQ h2 k2 g2
  have old : ∀ b o, s.heap.get? b = some o → b ≠ s.heap.objs.size := fun b o e q => absurd (Heap.lt_size e) (q ▸ Nat.lt_irrefl _)
  have up1 : ∀ b o, s.heap.get? b = some o → h1.get? b = some o := fun b o e => (k1.2 b (old b o e)).trans (Heap.get?_push_of_some _ e)
  by_cases h0 : (n : Int) > 0
  · rw [if_pos h0]
    with_reducible refine wpAny_bind ?_
    refine ba_write g1 (by show (Array.replicate n 0).size ≤ _; rw [Array.size_replicate, sizeLine_eq]; omega) fun h2 g2 k2 => ?_
    refine wpAny_pure ?_
    exact fin h2 g2 fun b o e => (k2.2 b (old b o e)).trans (up1 b o e)
  · rw [if_neg h0]
    refine wpAny_pure ?_
    obtain rfl : n = 0 := by omega
    exact fin h1 g1 up1
end

end
section
namespace F
theorem ba_slot_setitem : Slot "bytearray" "__setitem__" "bytearray.__setitem__" :=
  .of (owner := "bytearray") (n := "__setitem__") (by rw [typeLookup_type, builtinLookup_eq_fast]; kernel_rfl) (by decide +kernel) (by decide +kernel) (by decide +kernel)
    (by first | exact .inl (by decide +kernel) | exact .inr (by decide +kernel)) (by rw [isSubtype_type]; kernel_rfl)
theorem ba_entry_setitem : entryFor table "bytearray.__setitem__" = some Builtin.«bytearray.__setitem__» := by first | exact entryFor_of_fast (by kernel_rfl) | exact entryFor_of_tree (by kernel_rfl)
theorem ba_args_setitem (a b c : Value) : argsOk "bytearray.__setitem__" ⟨[a, b, c], []⟩ := by first | exact rfl | (unfold argsOk; kernel_rfl)
theorem ba_no_bytes : typeLookup (.type "bytearray") "__bytes__" = pure none := by rw [typeLookup_type, builtinLookup_eq_fast]; kernel_rfl
theorem ba_no_index : typeLookup (.type "bytearray") "__index__" = pure none := by rw [typeLookup_type, builtinLookup_eq_fast]; kernel_rfl
theorem ba_buffer : typeLookup (.type "bytearray") "__buffer__" = pure (some (.builtin "bytearray.__buffer__")) := by rw [typeLookup_type, builtinLookup_eq_fast]; kernel_rfl
theorem ba_sub_buffer : isSubtype (.type "bytearray") (.type ("bytearray.__buffer__".dropRight ("__buffer__".length + 1))) = pure true := by rw [isSubtype_type]; kernel_rfl
end F
section
variable {prog : Program} {w : World} {A : Around} {E : Value → Shared → Prop} {s : Shared}
set_option maxRecDepth 100000 in
theorem ba_setItem {a : Addr} {b : Array UInt8} {k : Nat} {v : Int} {t u : Tok} {Q : Unit → Shared → Prop} (hS : s.heap.get? a = some { cls := .type "bytearray", data := .bytearray b }) (hk : k < b.size) (hz : b.size ≤ 1000) (hv : 0 ≤ v ∧ v < 256)
    (h : ∀ h', h'.get? a = some { cls := .type "bytearray", data := .bytearray (b.setIfInBounds k v.toNat.toUInt8) } → Heap.SameBut a s.heap h' → Q () { s with heap := h' }) :
    wpAny (model prog w) A (setItem (.ref a) (.int k t) (.int v u)) Q E s := by
  have hT : s.TypeIs (.ref a) "bytearray" := ⟨_, hS, rfl⟩
  unfold setItem
  try with_reducible refine wpAny_holding ?_
  first | refine wpAny_bind (wpAny_pure ?_) | skip
  refine wpAny_bind (wpAny_sequenceKey hT (by decide) ?_)
  refine wpAny_bind (wpAny_callSpecial?_slot (name := Str.ofString "__setitem__") hT F.ba_slot_setitem (wpAny_call_entry F.ba_slot_setitem hT F.ba_entry_setitem ?_ (F.ba_args_setitem _ _ _)))
  unfold Builtin.«bytearray.__setitem__»
  simp only [List.isEmpty_nil, Bool.not_true, Bool.false_eq_true, if_false]
  with_reducible refine wpAny_bind ?_
  unfold Builtin.Bytes.subscript?
  with_reducible refine wpAny_bind ?_
  with_reducible refine wpAny_specialOf (typeIs_int _ _ _) F.ba_index ?_
  simp only [Option.isNone_some, Bool.false_eq_true, if_false]
  with_reducible refine wpAny_bind ?_
  refine asIndex_int ?_
  have hf : Builtin.Bytes.fitsIndex (k : Int) = true := fits_small (by omega)
  simp only [hf, Bool.not_true, Bool.false_eq_true, if_false]
  with_reducible refine wpAny_pure ?_
  dsimp only
  with_reducible refine wpAny_bind ?_
  unfold Builtin.Bytes.byteValue
  with_reducible refine wpAny_bind ?_
  refine asIndex_int ?_
  rw [if_neg (by simp only [Bool.or_eq_true, decide_eq_true_eq]; omega)]
  with_reducible refine wpAny_pure ?_
  with_reducible refine wpAny_bind ?_
  unfold Builtin.Bytes.payload Builtin.Bytes.payload?
  refine wpAny_bind (wpAny_bind (wpAny_load hS ?_))
  refine wpAny_pure (wpAny_pure ?_)
  have hq : seqIndex? (k : Int) b.size = some k := by
    unfold seqIndex?
    have h1 : ¬ ((k : Int) < 0) := by omega
    have h2 : ((k : Int) < b.size) := by omega
    simp [h1, h2]
  dsimp only
  rw [hq]
  dsimp only
  refine wpAny_bind (ba_write hS (by rw [Array.size_setIfInBounds, sizeLine_eq]; omega) fun h' g k' => ?_)
  exact wpAny_pure ⟨.none, rfl, wpAny_pure (h h' g k')⟩
theorem ba_isStr {a : Addr} {b : Array UInt8} {Q : Option Str → Shared → Prop} (hS : s.heap.get? a = some { cls := .type "bytearray", data := .bytearray b }) (h : Q none s) : wpAny (model prog w) A (asStr? (.ref a)) Q E s := by
  unfold asStr?
  exact wpAny_bind (wpAny_load hS (wpAny_pure h))
set_option maxRecDepth 100000 in
theorem ba_bytesNew {a : Addr} {b : Array UInt8} {Q : Value → Shared → Prop} (hS : s.heap.get? a = some { cls := .type "bytearray", data := .bytearray b }) (hz : b.size ≤ 1000) (h : ∀ t k, Q (.bytes b t) { s with toks := k }) :
    codeAny (model prog w) A (.call (.builtin "bytes.__new__") ⟨[.type "bytes", .ref a], []⟩) (wants Q E) s := by
  have hT : s.TypeIs (.ref a) "bytearray" := ⟨_, hS, rfl⟩
  refine codeAny_of_tree ?_
  show wpAny _ A.in1 (do checkBuiltinCall "bytes.__new__" ⟨[.type "bytes", .ref a], []⟩; again (.builtin "bytes.__new__" ⟨[.type "bytes", .ref a], []⟩)) _ _ s
  refine wpAny_bind (wpAny_of_eq (F.bm_newCall _) (wpAny_pure ⟨plainId_quiet F.bm_plain _, codeAny_builtin F.bm_entry ?_⟩))
  rw [Around.under_plainId F.bm_plain _]
  unfold Builtin.«bytes.__new__»
  refine wpAny_bind (wpAny_of_eq (a := true) rfl ?_)
  refine bm_if_false rfl ?_
  refine wpAny_bind (wpAny_of_eq F.bm_sub ?_)
  refine bm_if_false rfl ?_
  refine wpAny_bind (wpAny_of_eq (F.bm_bind _) ?_)
  refine wpAny_bind (wpAny_of_eq (a := ()) rfl ?_)
  refine wpAny_bind (wpAny_of_eq (a := ()) rfl ?_)
  refine bm_if_false rfl ?_
  refine wpAny_bind (wpAny_specialOf hT F.ba_no_bytes ?_)
  refine wpAny_bind (wpAny_bind (ba_isStr hS (wpAny_pure ?_)))
  refine bm_if_false rfl ?_
  refine wpAny_bind (wpAny_specialOf hT F.ba_no_index ?_)
  refine bm_if_true rfl ?_
  first
    | show wpAny _ _ (Builtin.Bytes.buffer? "bytes.__new__" (.ref a) true >>= _) _ _ _
    | (refine wpAny_bind ?_; show wpAny _ _ (Builtin.Bytes.buffer? "bytes.__new__" (.ref a) true >>= _) _ _ _)
  refine wpAny_bind ?_
  unfold Builtin.Bytes.buffer?
  refine wpAny_bind (wpAny_specialOf hT F.ba_buffer ?_)
  unfold Builtin.Bytes.slotIsOwn
  refine wpAny_bind (wpAny_bind (wpAny_specialOf hT F.ba_buffer ?_))
  dsimp only
  rw [if_neg (by decide +kernel)]
  refine wpAny_isInstance hT (b := true) F.ba_sub_buffer ?_
  simp only [Bool.not_true, Bool.false_eq_true, if_false]
  refine wpAny_bind (wpAny_specialOf hT F.ba_buffer ?_)
  split
  · rename_i hh; cases hh
  · rename_i hh; simp at hh
  · refine wpAny_bind (own_release hT ?_)
    simp only [Bool.false_eq_true, if_false]
    unfold Builtin.Bytes.payload Builtin.Bytes.payload?
    refine wpAny_bind (wpAny_bind (wpAny_bind (wpAny_load hS ?_)))
    refine wpAny_pure (wpAny_pure (wpAny_pure ?_))
    refine wpAny_bind (wpAny_rule ?_)
    refine wpAny_bind (wpAny_mkBytes ?_ (by rw [sizeLine_eq]; omega))
    show wpAny _ _ (if (Value.type "bytes" == Value.type "bytes") = true then _ else _) _ _ _
    refine bm_if_true (by decide) ?_
    first
      | exact wpAny_pure (h _ _)
      | exact wpAny_bind (wpAny_pure (wpAny_pure (h _ _)))
  · rename_i hh; simp at hh
  · rename_i hh; simp at hh
  · rename_i h1 h2 h3 h4 hh
    first | exact absurd rfl h2 | (exfalso; simp_all; done)
/-- bytes(a), a a bytearray -/
theorem call_ba_bytes {a : Addr} {b : Array UInt8} {Q : Value → Shared → Prop} (hS : s.heap.get? a = some { cls := .type "bytearray", data := .bytearray b }) (hz : b.size ≤ 1000) (hQ : ∀ t k, Q (.bytes b t) { s with toks := k }) :
    wpAny (model prog w) A (call (.type "bytes") [.ref a]) Q E s := by
  refine callType_codes (Q₁ := fun obj s₁ => s₁.TypeIs obj "bytes" ∧ Q obj s₁) F.bm_called (F.bm_typeCall _) F.entry_object_init (ba_bytesNew hS hz fun t k => ⟨PySem.W.typeIs_bytes _ _ _, hQ t k⟩) fun obj s₁ h₁ => ?_
  exact ⟨h₁.1, F.args_object_init_2 obj _, object_init_meets F.bm_called.init.lookup F.bm_called.made (by decide) prog w A.in1 _ s₁ ⟨h₁.1, rfl, h₁.2⟩⟩
/-- bytearray(n): a new object -/
theorem ba_make {n : Nat} {t : Tok} {Q : Value → Shared → Prop} (hn : n ≤ 1000)
    (hQ : ∀ a h', s.heap.get? a = none → Heap.ExtBut a s.heap h' → h'.get? a = some { cls := .type "bytearray", data := .bytearray (Array.replicate n 0) } → Q (.ref a) { s with heap := h' }) :
    wpC (model prog w) A (call (.type "bytearray") [.int n t]) Q E s :=
  call_ba hn fun h' k g => hQ _ h' (Heap.get?_none_of_le (Nat.le_refl _)) (fun b o _ e => k b o e) g
end

end
section
section
variable {prog : Program} {w : World} {A : Around} {s : Shared} {K : Frag} {mg mb : Str → Option Value} {p : Program} {loose : List Str} {mean : ExcName → Option Value}
/-- entering a plain def, under wpC -/
theorem enterN {R : Result → Shared → Prop} {name qual : Str} {params : Arguments} {body : List Stmt} {scope : Scope} {dV kV doc pm cdv ct oc : Value} {an od : Option Addr} {osl : Array (Option Value)} {f : Addr} {args : Args} {binds : List (Str × Value)}
    (X : K.In s.heap) (T : Top p loose mean mg mb s.heap)
    (ho : K.lookup f = some ⟨oc, od, .func (fnOf name qual params body scope dV kV doc pm an cdv ct), osl⟩) (hcd : codeIn K cdv qual = true) (hroom : A.depth < recursionLimit)
    (hbind : BindsTo s (fnOf name qual params body scope dV kV doc pm an cdv ct) args binds) (hloc : ∀ y ∈ binds, scope.names.lookup y.1 = some .local)
    (h : ∀ L' h₁, Fr s.heap L' h₁ (fun y => binds.reverse.lookup y) → News s.heap L' h₁ [] →
      wpC (model prog w) (A.deeper (envOf qual scope L' f cdv)) (execs body (envOf qual scope L' f cdv))
        (fun fl s' => R (.ok (.ret (match fl with | .ret v => v | _ => .none))) s')
        (fun e s' => wpAny (model prog w) (A.deeper (envOf qual scope L' f cdv)) (leaving (envOf qual scope L' f cdv) e) (fun _ s'' => R (.error e) s'') (fun e' s'' => R (.error e') s'') s')
        { s with heap := h₁, toks := s.toks + binds.length })
    (hco : scope.isCoroutine = false) (hgen : scope.isGenerator = false) (hk : scope.kind = .function)
    (hcell : ∀ x ∈ scope.names, x.2 ≠ .cell) : codeC (model prog w) A (.call (.ref f) args) R s := by
  refine codeC_call_function (fd := fnX name qual params body scope [] dV kV doc pm an cdv ct) (body := body) hroom (X _ _ ho) rfl hco hgen rfl (codeRec_of X hcd) (hbind _ _ _ _ ?_)
  refine wpAny_newFunctionEnv hcell hloc (fun h₁ hns hsb => ⟨T.nolimit.fresh _ hsb, codeC_func (h s.heap.objs.size h₁ ⟨hns, fun b o e => ?_, Nat.le_refl _⟩ News.nil)⟩) hk
  exact hsb.extBut b o (Nat.ne_of_lt (Heap.lt_size e)) (Heap.get?_push_of_some _ e)
end
/-- as Tells, under wpC -/
noncomputable def TellsC (prog : Program) (w : World) (p : Program) (loose : List Str) (mean : ExcName → Option Value) (mg mb : Str → Option Value) (f : Addr) (vs : List Value) (d u : Nat) (pre : Heap → Prop) (post : Heap → Heap → Value → Prop) : Prop :=
  ∀ (dp un : Nat) (fr : Option (List Env)) (gd : Option (List Code)) (s : Shared) (Q E : Value → Shared → Prop),
    (hd.heap_1 w.params).In s.heap → Top p loose mean mg mb s.heap → dp + d < recursionLimit → un + u < cLine → pre s.heap →
    (∀ v h' tk', Keeps s.heap h' → post s.heap h' v → Q v { s with heap := h', toks := tk' }) →
    wpC (model prog w) (arr dp un fr gd) (call (.ref f) vs) Q E s
/-- the bytes of each block of n, from behind -/
noncomputable def swapTo (l : List UInt8) (n : Nat) : Nat → Array UInt8
  | 0 => Array.replicate l.length 0
  | m + 1 => (swapTo l n m).setIfInBounds (n * (m / n) + n - 1 - m % n) (l.getD m 0)
theorem swapTo_size (l : List UInt8) (n : Nat) : ∀ m, (swapTo l n m).size = l.length
  | 0 => by simp [swapTo]
  | m + 1 => by simp [swapTo, swapTo_size l n m]
theorem swapTo_turn (l : List UInt8) {n i j : Nat} (hj : j < n) : swapTo l n (n * i + j + 1) = (swapTo l n (n * i + j)).setIfInBounds (n * i + n - 1 - j) (l.getD (n * i + j) 0) := by
  have h1 : (n * i + j) / n = i := by rw [Nat.mul_add_div (by omega), Nat.div_eq_of_lt hj, Nat.add_zero]
  have h2 : (n * i + j) % n = j := by rw [Nat.mul_add_mod, Nat.mod_eq_of_lt hj]
  show (swapTo l n (n * i + j)).setIfInBounds (n * ((n * i + j) / n) + n - 1 - (n * i + j) % n) _ = _
  rw [h1, h2]
section
variable {prog : Program} {w : World} {A : Around} {E : Value → Shared → Prop} {s : Shared} {env : Env} {h₀ : Heap} {x : Str} {body : List Stmt} {Q : Flow → Shared → Prop}
theorem iter_rangeC {r : Addr} {a₀ b₀ c₀ : Int} {t₀ u₀ v₀ : Tok} {n : Nat} {m₀ : Str → Option Value} {news : List (Addr × Obj)} (J : Nat → (Str → Option Value) → List (Addr × Obj) → Prop)
    (hh : A.handled = none) (hr : IsRange s.heap r a₀ b₀ c₀ t₀ u₀ v₀) (hsmall : Builtin.Range.small a₀ b₀ c₀ = true) (hn : Builtin.Range.rangeSize a₀ b₀ c₀ = (n : Int)) (F : Fr h₀ env.locals s.heap m₀) (N : News h₀ env.locals s.heap news) (hj : J 0 m₀ news)
    (step : ∀ i t m₁ news₁ h tk it o, i < n → (∀ p ∈ news₁, p.1 ≠ it) → J i m₁ news₁ → Fr h₀ env.locals h (fun y => if y = x then some (.int (a₀ + (i : Int) * c₀) t) else m₁ y) → News h₀ env.locals h ((it, o) :: news₁) →
      wpAny (model prog w) A (execs body env) (StepV h₀ env.locals it o (J (i + 1)) Q { s with heap := h, toks := tk }) E { s with heap := h, toks := tk })
    (done : ∀ m₁ news₁ h tk, J n m₁ news₁ → Fr h₀ env.locals h m₁ → News h₀ env.locals h news₁ → Q .next { s with heap := h, toks := tk }) :
    wpAny (model prog w) A (pyIter (.ref r)) (fun it s₂ => LoopAtV prog w A h₀ env x body Q E it s₂) E s := by
  refine wpAny_pyIter_range hr hsmall ?_
  have W : Walks prog w A s.heap.objs.size [s.heap.objs.size] [s.heap.objs.size] n (fun i v => i < n ∧ ∃ t, v = .int (a₀ + i * c₀) t)
      (fun i h => IsRangeIter h s.heap.objs.size (a₀ + (i : Nat) * c₀) ((n : Int) - (i : Nat)) c₀) := (Walks.range hh _ a₀ c₀ n).bound
  refine loop_at_one J W (List.mem_singleton.mpr rfl) (fun b hb => .inl (List.mem_singleton.mp hb)) (next_is_new F) (fun i h st => ⟨_, st⟩) ?_ rfl (fun p hp e => ?_) (by show IsRangeIter _ _ _ _ _; rw [hn]; simpa using Heap.get?_push_size _ rfl) (F.push _) (fun p hp => ⟨Heap.get?_push_of_some _ (N p hp).1, (N p hp).2⟩) hj ?_ ?_
  · intro hm
    exact absurd F.ns.lt ((List.mem_singleton.mp hm) ▸ Nat.lt_irrefl _)
  · exact absurd (Heap.lt_size (N p hp).1) (e ▸ Nat.lt_irrefl _)
  · rintro i v m₁ news₁ h tk o hi ⟨_, t, rfl⟩ hoff hJ F₁ N₁
    exact step i t m₁ news₁ h tk _ o hi hoff hJ F₁ N₁
  · exact done
end
theorem size_two {n k : Nat} (hn : 1 ≤ n) (hk : k = n * 2) : Builtin.Range.rangeSize 0 (k : Int) n = ((2 : Nat) : Int) := by
  subst hk
  unfold Builtin.Range.rangeSize
  rw [if_pos (by omega), if_pos (by omega)]
  have e : (((n * 2 : Nat) : Int) - 0 - 1) = ((n : Int) - 1) + 1 * n := by omega
  rw [e, Int.add_mul_ediv_right _ _ (by omega), Int.ediv_eq_zero_of_lt (by omega) (by omega)]
  rfl
section
variable {prog : Program} {w : World} {A : Around} {E : Value → Shared → Prop} {s : Shared}
theorem ba_setItemI {a : Addr} {b : Array UInt8} {i : Int} {k : Nat} {v : Int} {t u : Tok} {Q : Unit → Shared → Prop} (hi : i = (k : Int)) (hS : s.heap.get? a = some { cls := .type "bytearray", data := .bytearray b }) (hk : k < b.size) (hz : b.size ≤ 1000) (hv : 0 ≤ v ∧ v < 256)
    (h : ∀ h', h'.get? a = some { cls := .type "bytearray", data := .bytearray (b.setIfInBounds k v.toNat.toUInt8) } → Heap.SameBut a s.heap h' → Q () { s with heap := h' }) :
    wpAny (model prog w) A (setItem (.ref a) (.int i t) (.int v u)) Q E s := by
  subst hi; exact ba_setItem hS hk hz hv h
theorem item_bytesI {l : List UInt8} {value slice : Expr} {i : Int} {k : Nat} {t u : Tok} {Q : Value → Shared → Prop} (hi : i = (k : Int)) (hk : k < l.length) (hz : l.length ≤ 1000)
    (h : Q (.int (l.getD k 0).toNat s.toks) { s with toks := s.toks + 1 }) (hs : subscripted slice false (.bytes l.toArray t) (.int i u) = operate [.bytes l.toArray t, .int i u] (getItem (.bytes l.toArray t) (.int i u)) := by with_unfolding_all rfl) :
    wpAny (model prog w) A (subscriptTail value slice (.bytes l.toArray t) (.int i u)) Q E s := by
  subst hi
  exact tail_any (typeIs_bytes s _ t) FB.slot_bytes_getitem.lookup (getItem_bytes (by omega) (by omega) (by omega) (by simpa using h)) hs
end
section
variable {prog : Program} {w : World} {p : Program} {loose : List Str} {mean : ExcName → Option Value} {mg mb : Str → Option Value}
set_option maxRecDepth 100000 in
set_option maxHeartbeats 8000000 in
theorem tells_swap (l : List UInt8) (n : Nat) (t1 t2 : Tok) (hn : 1 ≤ n) (hb : l.length = n * 2) (hz : l.length ≤ 1000) :
    TellsC prog w p loose mean mg mb 112 [.bytes l.toArray t1, .int n t2] 6 40 (fun h => True) (fun h h' v => ∃ t, v = .bytes (swapTo l n (n * 2)) t) := by
  unfold TellsC
  rintro dp un fr gd s Q E X T hd hu hl ret
  refine wpC_call ?_
  k_dflt (refine' enterN ?k1 ?k2 ?k6 ?k7 ?k8 ?k9 ?kB ?_ ?c2 ?c3 ?c4 ?c5; (case k1 => k_asm); (case k2 => k_asm); (case k6 => k_is); (case k7 => k_is); (case k8 => first | exact room0 (by assumption) | ktr_room); (case k9 => exact BindsTo.of_eq rfl); (case c5 => decide); (case kB => exact locs rfl); (case c2 => exact rfl); (case c3 => exact rfl); (case c4 => exact rfl); intro L' h' F' N'; (try dsimp only); (try k_fold))
  refine wpC_execs_cons (wpC_Assign_Name (wpC_Call_name ?_))
  ktr_unf
  refine wpC_callWith1 (P := fun _ => True) (fun h _ => ⟨.machine, .inr (.inl rfl), Looks.of_pure rfl⟩) ?_
  ktr_unf
  · exact trivial
  rename Fr s.heap _ _ _ => F0
  rename News s.heap _ _ _ => N0
  refine ba_make hz fun ba h1 f1 k1 g1 => ?_
  have k1' : Keeps _ h1 := fun b o e => k1 b o (fun q => by rw [q, f1] at e; cases e) e
  have F1 := F0.keeps k1'
  have N1 := news_add F0 f1 g1 (kept_news N0 k1')
  clear F0 N0
  ktr_unf
  refine wpC.of ?_
  ktr_unf
  rename Fr s.heap _ _ _ => F2
  rename News s.heap _ _ _ => N2
  refine For_invV s.heap (by rfl) (by rfl) ?_
  ktr_unf
  rename IsRange _ _ _ _ _ _ _ _ => hR
  rename Fr s.heap _ _ _ => F3
  rename News s.heap _ _ _ => N3
  let m₀ : Str → Option Value := fun y => if y = Str.ofString "swapped_data" then some (.ref ba) else List.lookup y [(Str.ofString "width", Value.int n t2), (Str.ofString "data", Value.bytes l.toArray t1)]
  have F3' : Fr s.heap L' _ m₀ := F3
  clear F3
  refine iter_rangeC (n := 2) (fun i m news => ∀ C : Prop, ((∀ y, y ≠ Str.ofString "i" → y ≠ Str.ofString "j" → m y = m₀ y) → news = [(ba, { cls := .type "bytearray", data := .bytearray (swapTo l n (n * i)) })] → C) → C)
    (by rfl) hR ?small ?size F3' N3 (fun C k => k (fun _ _ _ => rfl) rfl) ?step ?done
  case small =>
    show Builtin.Range.small 0 (l.toArray.size : Int) n = true
    unfold Builtin.Range.small
    rw [List.size_toArray, size_two hn hb]
    simp only [Builtin.Range.rangeFitsLong, Bool.and_eq_true, Bool.or_eq_true, decide_eq_true_eq, beq_iff_eq]
    rw [if_pos (show (n : Int) > 0 by omega)]
    simp only [Bool.and_eq_true, decide_eq_true_eq]
    refine ⟨⟨⟨⟨⟨?_, ?_⟩, ?_, ?_⟩, ?_, ?_⟩, ?_, ?_⟩, .inr ⟨?_, ?_⟩⟩ <;> omega
  case size =>
    rw [List.size_toArray]; exact size_two hn hb
  case done =>
    intro m₁ news₁ h tk hJ F5 N5
    refine hJ _ fun hm e => ?_
    subst e
    rw [two_left hm] at F5
    ktr_unf
    refine call_ba_bytes (N5.get (.head _)) (by rw [swapTo_size]; omega) fun t k => ?_
    ktr_unf
    exact ret _ _ _ F5.keep ⟨t, rfl⟩
  case step =>
    intro i t m₁ news₁ h tk it o hin hoff hJ F5 N5
    refine hJ _ fun hm e => ?_
    subst e
    have hne : ba ≠ it := hoff (ba, _) (.head _)
    rw [one_of_two hm] at F5
    ktr_unf
    refine For_invV s.heap (by rfl) (by rfl) ?_
    ktr_unf
    rename IsRange _ _ _ _ _ _ _ _ => hR2
    rename Fr s.heap _ _ _ => F6
    rename News s.heap _ _ _ => N6
    let m₁' : Str → Option Value := fun y => if y = Str.ofString "i" then some (.int (0 + (i : Int) * n) t) else if y = Str.ofString "j" then m₁ (Str.ofString "j") else m₀ y
    have F6' : Fr s.heap L' _ m₁' := F6
    clear F6
    refine iter_range (n := n) (fun j m news => ∀ C : Prop, ((∀ y, y ≠ Str.ofString "j" → m y = m₁' y) → news = [(it, o), (ba, { cls := .type "bytearray", data := .bytearray (swapTo l n (n * i + j)) })] → C) → C)
      (by rfl) hR2 (small_one (by omega) (by omega) (by omega) (by omega)) (rangeSize_nat _ _) F6' N6 (fun C k => k (fun _ _ => rfl) rfl) ?step2 ?done2
    case done2 =>
      intro m₂ news₂ h2 tk2 hJ2 F7 N7
      refine hJ2 _ fun hm2 e2 => ?_
      subst e2
      rw [one_left hm2] at F7
      ktr_unf
      exact StepEnd.intro F7 N7 (.head _) (fun q hq => .tail _ hq) (fun q hq => by rw [List.mem_singleton.mp hq]; exact hne) fun C k => k (fun y h1 h2 => by simp only [m₁', if_neg h1, if_neg h2]) (by rw [Nat.mul_succ])
    case step2 =>
      intro j t' m₂ news₂ h2 tk2 it2 o2 hjn hoff2 hJ2 F7 N7
      refine hJ2 _ fun hm2 e2 => ?_
      subst e2
      rw [one_name hm2, Int.zero_add] at F7
      ktr_unf
      have hij : i * n + j < l.length := by
        rw [hb, Nat.mul_comm n 2]
        have := Nat.mul_le_mul_right n (show i ≤ 1 by omega)
        omega
      have hk : (0 + (i : Int) * n + j) = ((i * n + j : Nat) : Int) := by simp
      refine item_bytesI (k := i * n + j) hk hij hz ?_
      ktr_unf
      have hle : n * i + n ≤ l.length := by
        rw [hb, ← Nat.mul_succ]
        exact Nat.mul_le_mul_left n (by omega)
      have hk2 : (0 + (i : Int) * n + n - 1 - j) = ((n * i + n - 1 - j : Nat) : Int) := by
        have : ((n * i + n - 1 - j : Nat) : Int) = (n : Int) * i + n - 1 - j := by
          rw [show ((n : Int) * i) = ((n * i : Nat) : Int) by simp]; omega
        rw [this, Int.mul_comm]; omega
      have hbm : (ba, ({ cls := .type "bytearray", data := .bytearray (swapTo l n (n * i + j)) } : Obj)) ∈ [(it2, o2), (it, o), (ba, ({ cls := .type "bytearray", data := .bytearray (swapTo l n (n * i + j)) } : Obj))] := by simp
      refine ba_setItemI (k := n * i + n - 1 - j) hk2 (N7.get hbm) (by rw [swapTo_size]; omega) (by rw [swapTo_size]; exact hz) (by have := (l.getD (i * n + j) 0).toNat_lt; omega) fun h7 g7 s7 => ?_
      have up : ∀ b o, b ∉ [ba] → h2.get? b = some o → h7.get? b = some o := fun b o hb e => (s7.2 b (by simpa using hb)).trans e
      have F8 := LCg.fr_but F7 up (Ne.symm (N7 _ hbm).2.1) (N7.fresh hbm)
      have hne2 : it2 ≠ ba := Ne.symm (hoff2 (ba, { cls := .type "bytearray", data := .bytearray (swapTo l n (n * i + j)) }) (by simp))
      have N8 : News s.heap L' h7 [(it2, o2), (it, o), (ba, { cls := .type "bytearray", data := .bytearray (swapTo l n (n * i + j + 1)) })] := fun q hq => by
        simp only [List.mem_cons, List.not_mem_nil, or_false] at hq
        rcases hq with rfl | rfl | rfl
        · exact ⟨up _ _ (by simpa using hne2) (N7.get (.head _)), (N7 _ (.head _)).2⟩
        · exact ⟨up _ _ (by simpa using Ne.symm hne) (N7.get (.tail _ (.head _))), (N7 _ (.tail _ (.head _))).2⟩
        · refine ⟨?_, (N7 _ hbm).2⟩
          rw [swapTo_turn l hjn, g7]
          have e : (((l.getD (i * n + j) 0).toNat : Int)).toNat.toUInt8 = l.getD (n * i + j) 0 := by rw [Nat.mul_comm i n]; simp
          rw [e]
      clear F7 N7
      ktr_unf
      exact StepEnd.intro F8 N8 (.head _) (fun q hq => .tail _ hq) (fun q hq => by
        simp only [List.mem_cons, List.not_mem_nil, or_false] at hq
        rcases hq with rfl | rfl
        · exact hoff2 (it, o) (by simp)
        · exact Ne.symm hne2) fun C k => k (fun y h1 => by simp only [if_neg h1]) rfl
end

end
section
namespace F
theorem fi_mro : mroOf (.type "filter") = pure [.type "filter", .type "object"] := by rw [mroOf_type]; kernel_rfl
theorem fi_lookup_new : typeLookup (.type "filter") "__new__" = pure (some (.builtin "filter.__new__")) := by rw [typeLookup_type, builtinLookup_eq_fast]; kernel_rfl
theorem fi_slot_init : Slot "filter" "__init__" "object.__init__" :=
  .of (owner := "object") (n := "__init__") (by rw [typeLookup_type, builtinLookup_eq_fast]; kernel_rfl) (by decide +kernel) (by decide +kernel) (by decide +kernel)
    (by first | exact .inl (by decide +kernel) | exact .inr (by decide +kernel)) (by rw [isSubtype_type]; kernel_rfl)
theorem fi_called : TypeCalled "filter" "filter.__new__" "object.__init__" :=
  ⟨by decide +kernel, by decide +kernel, ⟨_, _, fi_mro⟩, madeBy_type fi_mro fi_lookup_new (by decide +kernel), by decide +kernel, by rw [isSubtype_type]; kernel_rfl, fi_slot_init⟩
theorem fi_typeCall (a b : Value) : checkTypeCall "filter" ⟨[a, b], []⟩ = pure () := by kernel_rfl
theorem fi_newCall (a b : Value) : checkBuiltinCall "filter.__new__" ⟨[.type "filter", a, b], []⟩ = pure () := by kernel_rfl
theorem fi_plain_new : plainId "filter.__new__" = true := by decide +kernel
theorem fi_entry_new : entryFor table "filter.__new__" = some Builtin.«filter.__new__» := by first | exact entryFor_of_fast (by kernel_rfl) | exact entryFor_of_tree (by kernel_rfl)
theorem fi_sub : isSubtype (.type "filter") (.type "filter") = pure true := by rw [isSubtype_type]; kernel_rfl
theorem fi_slot_next : Slot "filter" "__next__" "filter.__next__" :=
  .of (owner := "filter") (n := "__next__") (by rw [typeLookup_type, builtinLookup_eq_fast]; kernel_rfl) (by decide +kernel) (by decide +kernel) (by decide +kernel)
    (by first | exact .inl (by decide +kernel) | exact .inr (by decide +kernel)) (by rw [isSubtype_type]; kernel_rfl)
theorem fi_entry_next : entryFor table "filter.__next__" = some Builtin.«filter.__next__» := by first | exact entryFor_of_fast (by kernel_rfl) | exact entryFor_of_tree (by kernel_rfl)
theorem fi_args_next (a : Value) : argsOk "filter.__next__" ⟨[a], []⟩ := by first | exact rfl | (unfold argsOk; kernel_rfl)
end F

end
section
noncomputable def IsFil (h : Heap) (I it : Addr) : Prop := h.get? I = some { cls := .type "filter", data := .fields #[.builtin "len", .ref it] }
noncomputable def full (x : Str) : Bool := x.length != 0
section
variable {prog : Program} {w : World} {A : Around} {E : Value → Shared → Prop} {s : Shared}
theorem cs_tuple_item {it t : Addr} {i : Nat} {items : Array Value} {x : Value} {Q : Option Value → Shared → Prop} (hit : s.heap.IsTupleIter it t i) (ht : s.heap.IsTuple t items) (hx : items[i]? = some x)
    (hQ : ∀ h', h'.IsTupleIter it t (i + 1) → Heap.SameBut it s.heap h' → Q (some x) { s with heap := h' }) : wpAny (model prog w) A (callSpecial? (.ref it) (Str.ofString "__next__")) Q E s := by
  obtain ⟨o, ho, hc, hd⟩ := id hit
  obtain ⟨ol, hol, _, nl, hdl⟩ := ht
  refine wpAny_callSpecial?_slot hit.typeIs F.slot_tuple_iterator_next (wpAny_call_entry F.slot_tuple_iterator_next hit.typeIs F.entry_tuple_iterator_next ?_ (F.args_tuple_iterator_next_1 _))
  show wpAny _ _ (field (.ref it) 0 >>= _) _ _ s
  refine wpAny_bind (wpAny_field ho hd (x := .ref t) rfl ?_)
  show wpAny _ _ (if (Value.ref t == Value.none) = true then _ else _) _ _ s
  rw [if_neg (show ¬ ((Value.ref t == Value.none) = true) from Bool.false_ne_true)]
  show wpAny _ _ (field (.ref it) 1 >>= _) _ _ s
  refine wpAny_bind (wpAny_field ho hd (x := .int i 0) rfl ?_)
  show wpAny _ _ (seqItems? (.ref t) >>= _) _ _ s
  refine wpAny_bind (wpAny_seqItems hol hdl ?_)
  simp only [Int.toNat_natCast, hx]
  refine wpAny_bind (wpAny_setField ho hd (by simp) (wpAny_pure ⟨x, rfl, hQ _ ?_ (Heap.SameBut.update ..)⟩))
  exact ⟨_, Heap.get?_update_self _ ho (Obj.isFreed_of_fields (Obj.data_mapFields hd _)), (Obj.cls_mapFields ..).trans hc, by
    rw [Obj.data_mapFields hd]; simp [rawInt]⟩
theorem cs_tuple_end {it t : Addr} {i : Nat} {items : Array Value} {Q : Option Value → Shared → Prop} (hh : A.handled = none) (hit : s.heap.IsTupleIter it t i) (ht : s.heap.IsTuple t items) (hx : items[i]? = none)
    (hE : ∀ h' e, Heap.ExtBut it s.heap h' → ({ s with heap := h' } : Shared).TypeIs e "StopIteration" → E e { s with heap := h' }) : wpAny (model prog w) A (callSpecial? (.ref it) (Str.ofString "__next__")) Q E s := by
  obtain ⟨o, ho, hc, hd⟩ := id hit
  obtain ⟨ol, hol, _, nl, hdl⟩ := ht
  refine wpAny_callSpecial?_slot hit.typeIs F.slot_tuple_iterator_next (wpAny_call_entry F.slot_tuple_iterator_next hit.typeIs F.entry_tuple_iterator_next ?_ (F.args_tuple_iterator_next_1 _))
  show wpAny _ _ (field (.ref it) 0 >>= _) _ _ s
  refine wpAny_bind (wpAny_field ho hd (x := .ref t) rfl ?_)
  show wpAny _ _ (if (Value.ref t == Value.none) = true then _ else _) _ _ s
  rw [if_neg (show ¬ ((Value.ref t == Value.none) = true) from Bool.false_ne_true)]
  show wpAny _ _ (field (.ref it) 1 >>= _) _ _ s
  refine wpAny_bind (wpAny_field ho hd (x := .int i 0) rfl ?_)
  show wpAny _ _ (seqItems? (.ref t) >>= _) _ _ s
  refine wpAny_bind (wpAny_seqItems hol hdl ?_)
  simp only [Int.toNat_natCast, hx]
  refine wpAny_bind (wpAny_rule (wpAny_bind (wpAny_setField ho hd (by simp) ?_)))
  show wpAny _ _ (newExc (.type "StopIteration") [] >>= _) _ _ _
  refine wpAny_bind ?_
  simp only [newExc, newTuple]
  refine wpAny_bind (wpAny_newObj_type ?_ (by size_fits))
  refine wpAny_bind (m := firstArgMember _ _) (wpAny_of_eq (a := Value.none) (by first | rfl | (simp only [firstArgMember]; rfl)) ?_)
  refine wpAny_newObj_type ?_ (by size_fits)
  simp only [raiseNew]
  refine wpAny_bind (wpAny_handled ?_)
  first | rw [show A.in1.handled = none from hh] | rw [hh]
  refine wpAny_bind (wpAny_pure (wpAny_throw ?_))
  exact hE _ _ (((Heap.SameBut.update ..).extBut.push _).push _) ⟨_, Heap.get?_push_size _ rfl, rfl⟩
theorem drop_cons {ss : List Str} {p : Nat} {x : Str} (h : ss[p]? = some x) : ss.drop p = x :: ss.drop (p + 1) := by
  obtain ⟨hp, rfl⟩ := List.getElem?_eq_some_iff.mp h
  exact List.drop_eq_getElem_cons hp
set_option maxRecDepth 100000 in
/-- the filter's next item -/
theorem code_fi {I it t : Addr} {vs : List Value} {ss : List Str} {R : Result → Shared → Prop} (hh : A.handled = none) (hs : StrsAre vs ss) (hlen : ∀ x ∈ ss, x.length ≤ 1000) (hIi : I ≠ it) (hti : t ≠ it) :
    ∀ (k p : Nat) (s : Shared), ss.length - p = k → p ≤ ss.length → IsFil s.heap I it → s.heap.IsTupleIter it t p → s.heap.IsTuple t vs.toArray →
      (∀ h' tk p' x tx, p' ≤ ss.length → (ss.drop p).filter full = x :: (ss.drop p').filter full → h'.IsTupleIter it t p' → Heap.SameBut it s.heap h' → R (.ok (.ret (.str x tx))) { s with heap := h', toks := tk }) →
      (∀ h' tk e, (ss.drop p).filter full = [] → Heap.ExtBut it s.heap h' → ({ s with heap := h', toks := tk } : Shared).TypeIs e "StopIteration" → R (.error e) { s with heap := h', toks := tk }) →
      codeAny (model prog w) A (.builtin "filter.__next__" ⟨[.ref I], []⟩) R s := by
  have hl : vs.length = ss.length := hs.length
  intro k
  induction k with
  | zero =>
    intro p s hk hp hI hit ht hR hE
    have : p = ss.length := by omega
    subst this
    refine codeAny_builtin F.fi_entry_next ?_
    rw [Around.under_plainId F.fi_slot_next.plain _]
    show wpAny _ A.in1 (field (.ref I) 0 >>= _) _ _ s
    refine wpAny_bind (wpAny_field hI rfl (x := .builtin "len") rfl ?_)
    refine wpAny_bind (wpAny_field hI rfl (x := .ref it) rfl ?_)
    refine wpAny_bind (cs_tuple_end hh hit ht (by simp [hl]) fun h' e hx hT => ?_)
    exact hE h' s.toks e (by simp) hx hT
  | succ k ih =>
    intro p s hk hp hI hit ht hR hE
    have hlt : p < ss.length := by omega
    obtain ⟨x, hx⟩ : ∃ x, ss[p]? = some x := ⟨_, List.getElem?_eq_getElem hlt⟩
    obtain ⟨tx, hv⟩ := hs.get p x hx
    have hd := drop_cons hx
    refine codeAny_builtin F.fi_entry_next ?_
    rw [Around.under_plainId F.fi_slot_next.plain _]
    show wpAny _ A.in1 (field (.ref I) 0 >>= _) _ _ s
    refine wpAny_bind (wpAny_field hI rfl (x := .builtin "len") rfl ?_)
    refine wpAny_bind (wpAny_field hI rfl (x := .ref it) rfl ?_)
    refine wpAny_bind (cs_tuple_item hit ht (x := .str x tx) (by simpa using hv) fun h' hit' hsb => ?_)
    have hxl := hlen x (List.mem_of_getElem? hx)
    dsimp only
    refine wpAny_bind (wpAny_holding ?_)
    refine bm_if_false (by decide) ?_
    refine wpAny_bind (P.len_str (by omega) ?_)
    refine wpAny_holding (P.truthy_int ?_)
    by_cases h0 : x.length = 0
    · refine bm_if_false (by simp [h0]) ?_
      refine wpAny_pure ⟨plainId_quiet F.fi_slot_next.plain _, ih (p + 1) _ (by omega) hlt ((hsb.2 I hIi).trans hI) hit' (ht.extBut hsb.extBut hti) (fun h2 tk2 p' y ty hp' hf hit2 hs2 => ?_) fun h2 tk2 e hf hx2 hT => ?_⟩
      · exact hR h2 tk2 p' y ty hp' (by rw [hd, List.filter_cons_of_neg (by simp [full, h0])]; exact hf) hit2 (hsb.trans hs2)
      · exact hE h2 tk2 e (by rw [hd, List.filter_cons_of_neg (by simp [full, h0])]; exact hf) (fun b o hb e => hx2 b o hb (hsb.extBut b o hb e)) hT
    · refine bm_if_true (by simp; omega) ?_
      refine wpAny_pure ?_
      exact hR h' _ (p + 1) x tx hlt (by rw [hd, List.filter_cons_of_pos (by simp [full, h0])]) hit' hsb
end

end
section
namespace F
theorem fi_slot_iter : Slot "filter" "__iter__" "filter.__iter__" :=
  .of (owner := "filter") (n := "__iter__") (by rw [typeLookup_type, builtinLookup_eq_fast]; kernel_rfl) (by decide +kernel) (by decide +kernel) (by decide +kernel)
    (by first | exact .inl (by decide +kernel) | exact .inr (by decide +kernel)) (by rw [isSubtype_type]; kernel_rfl)
theorem fi_entry_iter : entryFor table "filter.__iter__" = some Builtin.«dict_keyiterator.__iter__» :=
  entryFor_alias (id' := "dict_keyiterator.__iter__") (by kernel_rfl) (by first | rfl | decide +kernel | (unfold String.splitOn; simp +decide [String.splitOnAux])) (by decide +kernel) (by kernel_rfl)
theorem fi_args_iter (a : Value) : argsOk "filter.__iter__" ⟨[a], []⟩ := by first | exact rfl | (unfold argsOk; kernel_rfl)
end F
section
variable {prog : Program} {w : World} {A : Around} {E : Value → Shared → Prop} {s : Shared}
theorem pyIter_fi {I it : Addr} {Q : Value → Shared → Prop} (hI : IsFil s.heap I it) (h : Q (.ref I) s) : wpAny (model prog w) A (pyIter (.ref I)) Q E s := by
  have hT : s.TypeIs (.ref I) "filter" := ⟨_, hI, rfl⟩
  refine wpAny_pyIter_slot hT F.fi_slot_iter (wpAny_call_entry F.fi_slot_iter hT F.fi_entry_iter ?_ (F.fi_args_iter _))
  show wpAny _ _ (ret (.ref I)) _ _ s
  exact wpAny_pure ⟨_, rfl, "filter", _, hT, F.fi_slot_next.lookup, h⟩
theorem next_fi {I it t : Addr} {vs : List Value} {ss : List Str} {p : Nat} {Q : Option Value → Shared → Prop} (hh : A.handled = none) (hs : StrsAre vs ss) (hlen : ∀ x ∈ ss, x.length ≤ 1000) (hIi : I ≠ it) (hti : t ≠ it) (hp : p ≤ ss.length) (hI : IsFil s.heap I it) (hit : s.heap.IsTupleIter it t p) (ht : s.heap.IsTuple t vs.toArray)
    (hR : ∀ h' tk p' x tx, p' ≤ ss.length → (ss.drop p).filter full = x :: (ss.drop p').filter full → h'.IsTupleIter it t p' → Heap.SameBut it s.heap h' → Q (some (.str x tx)) { s with heap := h', toks := tk })
    (hE : ∀ h' tk, (ss.drop p).filter full = [] → Heap.ExtBut it s.heap h' → Q none { s with heap := h', toks := tk }) : wpAny (model prog w) A (pyNext (.ref I)) Q E s := by
  have hT : s.TypeIs (.ref I) "filter" := ⟨_, hI, rfl⟩
  unfold pyNext
  refine wpAny_bind (wpAny_attempt (wpAny_callSpecial?_slot (name := Str.ofString "__next__") hT F.fi_slot_next (wpAny_call (codeAny_of_tree ?_))))
  show wpAny _ A.in1 (do checkBuiltinCall "filter.__next__" ⟨[.ref I], []⟩; again (.builtin "filter.__next__" ⟨[.ref I], []⟩)) _ _ s
  refine wpAny_bind (F.fi_slot_next.check _ _ _ _ _ _ _ _ hT (F.fi_args_next _) (wpAny_pure ⟨plainId_quiet F.fi_slot_next.plain _, code_fi hh hs hlen hIi hti _ p s rfl hp hI hit ht (fun h' tk p' x tx a b c d => ?_) fun h' tk e a b c => ?_⟩))
  · exact wpAny_pure (hR h' tk p' x tx a b c d)
  · refine wpAny_bind (wpAny_isInstance (T := "StopIteration") (b := true) c isSubtype_stop ?_)
    exact wpAny_pure (hE h' tk a b)
theorem walks_fi {I it t : Addr} {vs : List Value} {ss : List Str} (hh : A.handled = none) (hs : StrsAre vs ss) (hlen : ∀ x ∈ ss, x.length ≤ 1000) (hIi : I ≠ it) (hti : t ≠ it) :
    Walks prog w A I [I, it, t] [it] (ss.filter full).length (fun i v => ∃ x tx, (ss.filter full)[i]? = some x ∧ v = .str x tx)
      (fun i h => ∃ p, p ≤ ss.length ∧ (ss.drop p).filter full = (ss.filter full).drop i ∧ IsFil h I it ∧ h.IsTupleIter it t p ∧ h.IsTuple t vs.toArray) where
  sub := fun b hb => by rw [List.mem_singleton.mp hb]; simp
  frame := fun i h h' st hk => by
    obtain ⟨p, hp, hf, hI, ⟨oi, a1, a2⟩, ⟨ot, b1, b2⟩⟩ := st
    exact ⟨p, hp, hf, hk I (by simp) _ hI, ⟨oi, hk it (by simp) _ a1, a2⟩, ⟨ot, hk t (by simp) _ b1, b2⟩⟩
  item := fun i s Q E hi st hQ => by
    obtain ⟨p, hp, hf, hI, hit, ht⟩ := st
    refine next_fi hh hs hlen hIi hti hp hI hit ht (fun h' tk p' x tx hp' hx hit' hsb => ?_) fun h' tk he _ => ?_
    · rw [hf] at hx
      refine hQ _ h' tk ⟨x, tx, ?_, rfl⟩ ⟨p', hp', ?_, (hsb.2 I hIi).trans hI, hit', ht.extBut hsb.extBut hti⟩ fun b o hb e => (hsb.2 b (by simpa using hb)).trans e
      · have := congrArg (·[0]?) hx
        simpa using this
      · have := congrArg List.tail hx
        simpa using this.symm
    · rw [hf] at he
      have := congrArg List.length he
      simp at this
      omega
  done := fun s Q E st hQ => by
    obtain ⟨p, hp, hf, hI, hit, ht⟩ := st
    refine next_fi hh hs hlen hIi hti hp hI hit ht (fun h' tk p' x tx hp' hx hit' hsb => ?_) fun h' tk he hx => ?_
    · rw [hf] at hx
      simp at hx
    · exact hQ h' tk fun b o hb e => hx b o (by simpa using hb) e
  self := fun i s Q E st hQ => by
    obtain ⟨p, hp, hf, hI, hit, ht⟩ := st
    exact pyIter_fi hI hQ
theorem new_fi {t : Addr} {items : Array Value} {Q : Value → Shared → Prop} (ht : s.heap.IsTuple t items)
    (h : ∀ h' tk, IsFil h' (s.heap.objs.size + 1) s.heap.objs.size → h'.IsTupleIter s.heap.objs.size t 0 → (∀ b o, s.heap.get? b = some o → h'.get? b = some o) → h'.objs.size = s.heap.objs.size + 2 → Q (.ref (s.heap.objs.size + 1)) { s with heap := h', toks := tk }) :
    wpAny (model prog w) A (call (.type "filter") [.builtin "len", .ref t]) Q E s := by
  refine callType_codes (Q₁ := fun obj s₁ => s₁.TypeIs obj "filter" ∧ Q obj s₁) F.fi_called (F.fi_typeCall _ _) F.entry_object_init ?_ fun obj s₁ h₁ => ?_
  · refine codeAny_of_tree ?_
    show wpAny _ A.in1.in1 (do checkBuiltinCall "filter.__new__" ⟨[.type "filter", .builtin "len", .ref t], []⟩; again (.builtin "filter.__new__" ⟨[.type "filter", .builtin "len", .ref t], []⟩)) _ _ s
    refine wpAny_bind (wpAny_of_eq (F.fi_newCall _ _) (wpAny_pure ⟨plainId_quiet F.fi_plain_new _, codeAny_builtin F.fi_entry_new ?_⟩))
    rw [Around.under_plainId F.fi_plain_new _]
    have hsub := F.fi_sub
    obtain ⟨hp, g, d, tk, os⟩ := s
    wp_walk using wpAny_pyIter_tuple ht
    have z1 : (hp.push { cls := .type "tuple_iterator", data := .fields #[.ref t, .int 0 0] }).objs.size = hp.objs.size + 1 := Heap.size_push ..
    have g1 : ((hp.push { cls := .type "tuple_iterator", data := .fields #[.ref t, .int 0 0] }).push { cls := .type "filter", data := .fields #[.builtin "len", .ref hp.objs.size] }).get? (hp.push { cls := .type "tuple_iterator", data := .fields #[.ref t, .int 0 0] }).objs.size = some { cls := .type "filter", data := .fields #[.builtin "len", .ref hp.objs.size] } := Heap.get?_push_size _ rfl
    have g0 : ((hp.push { cls := .type "tuple_iterator", data := .fields #[.ref t, .int 0 0] }).push { cls := .type "filter", data := .fields #[.builtin "len", .ref hp.objs.size] }).get? hp.objs.size = some { cls := .type "tuple_iterator", data := .fields #[.ref t, .int 0 0] } := Heap.get?_push_of_some _ (Heap.get?_push_size _ rfl)
    show _ ∧ _
    refine ⟨⟨_, g1, rfl⟩, ?_⟩
    rw [z1]
    rw [z1] at g1
    exact h _ _ g1 ⟨_, g0, rfl, rfl⟩ (fun b o e => Heap.get?_push_of_some _ (Heap.get?_push_of_some _ e)) (by rw [Heap.size_push, z1])
  · exact ⟨h₁.1, F.args_object_init_3 obj _ _, object_init_meets F.fi_called.init.lookup F.fi_called.made (by decide) prog w A.in1 _ s₁ ⟨h₁.1, rfl, h₁.2⟩⟩
end

end
section
/-- y struck out for z, from the left, k signs still to be passed over -/
noncomputable def rep (y z : List Nat) : Nat → List Nat → List Nat
  | _, [] => []
  | 0, a :: l => if (a :: l).take y.length == y then z ++ rep y z (y.length - 1) l else a :: rep y z 0 l
  | k + 1, _ :: l => rep y z k l
theorem rep_hit {y z l : List Nat} {a : Nat} (h : ((a :: l).take y.length == y) = true) : rep y z 0 (a :: l) = z ++ rep y z (y.length - 1) l := by
  conv => lhs; unfold rep
  rw [if_pos h]
theorem rep_miss {y z l : List Nat} {a : Nat} (h : ¬ ((a :: l).take y.length == y) = true) : rep y z 0 (a :: l) = a :: rep y z 0 l := by
  conv => lhs; unfold rep
  rw [if_neg h]
/-- the places of y -/
noncomputable def occL (y : List Nat) : Nat → Nat → List Nat → List Nat
  | _, _, [] => []
  | i, fr, a :: l => if fr ≤ i ∧ ((a :: l).take y.length == y) = true then i :: occL y (i + 1) (i + y.length) l else occL y (i + 1) fr l
section
open Builtin Builtin.Str
theorem occ_list (x y : Str) (hy : 1 ≤ y.length) : ∀ (k i : Nat) (st : Array Nat × Nat), x.length - i = k → i ≤ x.length → st.fst.size ≤ i →
    (forIn (List.range' i (x.length + 1 - i)) st (StrLaws.occBody x y x.length (x.length + 1))).run.fst.toList = st.fst.toList ++ occL y.cps.toList i st.snd (x.cps.toList.drop i) := by
  have hn : x.cps.toList.length = x.length := by simp [Str.length]
  have hyl : y.cps.toList.length = y.length := by simp [Str.length]
  intro k
  induction k with
  | zero =>
    intro i st hk hi hs
    have e : i = x.length := Nat.le_antisymm hi (Nat.le_of_sub_eq_zero hk)
    subst e
    rw [Nat.add_sub_cancel_left]
    show (forIn [x.length] st (StrLaws.occBody x y x.length (x.length + 1))).run.fst.toList = _
    rw [List.forIn_cons]
    unfold StrLaws.occBody
    rw [if_neg (by omega), List.drop_of_length_le (Nat.le_of_eq hn)]
    simp [occL]
  | succ k ih =>
    intro i st hk hi hs
    have hlt : i < x.length := Nat.lt_of_sub_eq_succ hk
    have hk1 : x.length - (i + 1) = k := by rw [Nat.sub_succ, hk]; rfl
    rw [show x.length + 1 - i = (x.length + 1 - (i + 1)) + 1 from by rw [Nat.add_sub_add_right]; exact Nat.succ_sub hi, List.range'_succ, List.forIn_cons]
    obtain ⟨a, hd⟩ : ∃ a, x.cps.toList.drop i = a :: x.cps.toList.drop (i + 1) := ⟨_, List.drop_eq_getElem_cons (by rw [hn]; exact hlt)⟩
    have hsub : (i + y.length ≤ x.length ∧ subAt x y i = true) ↔ ((a :: x.cps.toList.drop (i + 1)).take y.cps.toList.length == y.cps.toList) = true := by
      rw [StrLaws.subAt_eq, hd, hyl]
      constructor
      · exact fun h => h.2
      · intro h
        refine ⟨?_, h⟩
        have := congrArg List.length (beq_iff_eq.mp h)
        rw [List.length_take, ← hd, List.length_drop, hn, hyl] at this
        omega
    rw [hd]
    unfold occL StrLaws.occBody
    by_cases hc : st.snd ≤ i ∧ ((a :: x.cps.toList.drop (i + 1)).take y.cps.toList.length == y.cps.toList) = true
    · rw [if_pos hc, if_pos ⟨⟨⟨by omega, hc.1⟩, (hsub.mpr hc.2).1⟩, (hsub.mpr hc.2).2⟩]
      have := ih (i + 1) (st.fst.push i, i + y.length) hk1 hlt (by rw [Array.size_push]; exact Nat.succ_le_succ hs)
      show (forIn (List.range' (i + 1) _) (st.fst.push i, i + y.length) (StrLaws.occBody x y x.length (x.length + 1))).run.fst.toList = _
      rw [this, hyl]
      simp
    · rw [if_neg hc, if_neg (fun h => hc ⟨h.1.1.2, hsub.mp ⟨h.1.2, h.2⟩⟩)]
      exact ih (i + 1) st hk1 hlt (Nat.le_succ_of_le hs)
theorem parts_rep (x : Str) (yl : List Nat) (z : Str) (hy : 1 ≤ yl.length) : ∀ (k i fr : Nat), x.length - i = k → i ≤ x.length → fr ≤ x.length →
    (Str.join z (StrLaws.partsFrom x yl.length fr (occL yl i fr (x.cps.toList.drop i)))).cps.toList = (x.cps.toList.drop fr).take (i - fr) ++ rep yl z.cps.toList (fr - i) (x.cps.toList.drop i) := by
  have hn : x.cps.toList.length = x.length := by simp [Str.length]
  intro k
  induction k with
  | zero =>
    intro i fr hk hi hf
    have e : i = x.length := Nat.le_antisymm hi (Nat.le_of_sub_eq_zero hk)
    subst e
    rw [List.drop_of_length_le (Nat.le_of_eq hn)]
    show (strSub x fr x.length).cps.toList = _
    rw [StrLaws.strSub_toList]
    simp [rep]
  | succ k ih =>
    intro i fr hk hi hf
    have hlt : i < x.length := Nat.lt_of_sub_eq_succ hk
    have hk1 : x.length - (i + 1) = k := by rw [Nat.sub_succ, hk]; rfl
    obtain ⟨a, hd⟩ : ∃ a, x.cps.toList.drop i = a :: x.cps.toList.drop (i + 1) := ⟨_, List.drop_eq_getElem_cons (by rw [hn]; exact hlt)⟩
    rw [hd]
    unfold occL
    by_cases hfi : fr ≤ i
    · have e0 : fr - i = 0 := Nat.sub_eq_zero_of_le hfi
      rw [e0]
      by_cases hp : ((a :: x.cps.toList.drop (i + 1)).take yl.length == yl) = true
      · have hle : i + yl.length ≤ x.length := by
          have := congrArg List.length (beq_iff_eq.mp hp)
          rw [List.length_take, ← hd, List.length_drop, hn] at this
          omega
        rw [if_pos ⟨hfi, hp⟩]
        have h := ih (i + 1) (i + yl.length) hk1 hlt hle
        obtain ⟨p, q, e⟩ := StrLaws.partsFrom_ne x yl.length (i + yl.length) (occL yl (i + 1) (i + yl.length) (x.cps.toList.drop (i + 1)))
        show (Str.join z (strSub x fr i :: StrLaws.partsFrom x yl.length (i + yl.length) _)).cps.toList = _
        rw [e] at h ⊢
        show (strSub x fr i ++ z ++ Str.join z (p :: q)).cps.toList = _
        simp only [Str.cps_append, Array.toList_append, StrLaws.strSub_toList, h]
        rw [show i + 1 - (i + yl.length) = 0 from Nat.sub_eq_zero_of_le (Nat.add_le_add_left hy i), show i + yl.length - (i + 1) = yl.length - 1 from Nat.add_sub_add_left i yl.length 1]
        rw [rep_hit hp]
        simp
      · rw [if_neg (fun h => hp h.2), ih (i + 1) fr hk1 hlt hf, show fr - (i + 1) = 0 from Nat.sub_eq_zero_of_le (Nat.le_succ_of_le hfi)]
        have hg : x.cps.toList[i]? = some a := by
          have := congrArg (·[0]?) hd
          simpa [List.getElem?_drop] using this
        have e1 : (x.cps.toList.drop fr).take (i + 1 - fr) = (x.cps.toList.drop fr).take (i - fr) ++ [a] := by
          rw [show i + 1 - fr = (i - fr) + 1 from Nat.succ_sub hfi, List.take_add_one, List.getElem?_drop, show fr + (i - fr) = i from Nat.add_sub_cancel' hfi, hg]
          rfl
        rw [e1, List.append_assoc]
        congr 1
        exact (rep_miss hp).symm
    · rw [if_neg (fun h => hfi h.1), ih (i + 1) fr hk1 hlt hf]
      have e1 : i - fr = 0 := Nat.sub_eq_zero_of_le (Nat.le_of_not_le hfi)
      have e2 : i + 1 - fr = 0 := Nat.sub_eq_zero_of_le (Nat.lt_of_not_le hfi)
      obtain ⟨j, hj⟩ : ∃ j, fr - i = j + 1 := ⟨fr - i - 1, (Nat.succ_pred_eq_of_pos (Nat.sub_pos_of_lt (Nat.lt_of_not_le hfi))).symm⟩
      rw [e1, e2, hj, show fr - (i + 1) = j from by rw [Nat.sub_succ, hj]; rfl]
      rfl
theorem replace_rep (x y z : Str) (hy : 1 ≤ y.length) : (Txt.replace x y z).cps.toList = rep y.cps.toList z.cps.toList 0 x.cps.toList := by
  have hyl : y.cps.toList.length = y.length := by simp [Str.length]
  have ho : occurrences x y 0 x.length (x.length + 1) = occL y.cps.toList 0 0 x.cps.toList := by
    rw [StrLaws.occ_eq]
    have := occ_list x y hy x.length 0 (#[], 0) (by omega) (Nat.zero_le _) (Nat.zero_le _)
    simpa using this
  have hp := parts_rep x y.cps.toList z (by omega) x.length 0 0 (by omega) (Nat.zero_le _) (Nat.zero_le _)
  rw [List.drop_zero, hyl] at hp
  simp only [Nat.sub_self, List.take_zero, List.nil_append] at hp
  unfold Txt.replace
  have hz : (y.length == 0) = false := by simp; omega
  rw [hz, Bool.false_and, Bool.or_false, ho]
  cases h : (occL y.cps.toList 0 0 x.cps.toList).isEmpty with
  | false =>
    rw [if_neg Bool.false_ne_true, StrLaws.glued_eq_join, StrLaws.partsBetween_eq]
    exact hp
  | true =>
    rw [if_pos rfl, ← hp, List.isEmpty_iff.mp h]
    show _ = (strSub x 0 x.length).cps.toList
    rw [StrLaws.sub_whole]
end
theorem rep_free {c : Nat} {y z : List Nat} : ∀ (T S : List Nat), c ∉ T → rep (c :: y) z 0 (T ++ S) = T ++ rep (c :: y) z 0 S
  | [], _, _ => rfl
  | a :: T, S, h => by
    have ha : a ≠ c := fun e => h (e ▸ .head _)
    show rep (c :: y) z 0 (a :: (T ++ S)) = a :: (T ++ _)
    rw [rep_miss (by simp [ha]), rep_free T S (fun m => h (.tail _ m))]

end
section
noncomputable def unL : List Nat := [117, 110]
noncomputable def knL : List Nat := [107, 110, 111, 119, 110]
noncomputable def unkL : List Nat := [117, 110, 107, 110, 111, 119, 110]
/-- a row's text -/
noncomputable def tx (row : List Int) : List Nat := row.flatMap fun b => if b = 1 then unL else knL
/-- a ball and the free box right behind it vanish, from the left -/
noncomputable def red : List Int → List Int
  | [] => []
  | [a] => [a]
  | a :: b :: r => if a = 1 ∧ b ≠ 1 then red r else a :: red (b :: r)
theorem tx_cons (a : Int) (r : List Int) : tx (a :: r) = (if a = 1 then unL else knL) ++ tx r := by simp [tx]
theorem rep_un {l : List Nat} (h : l.head? ≠ some 107) : rep unkL [] 0 (unL ++ l) = unL ++ rep unkL [] 0 l := by
  show rep unkL [] 0 (117 :: 110 :: l) = 117 :: 110 :: _
  have h2 : ¬ ((110 :: l).take unkL.length == unkL) = true := by simp [unkL]
  have h1 : ¬ ((117 :: 110 :: l).take unkL.length == unkL) = true := by
    cases l with
    | nil => simp [unkL]
    | cons c r =>
      have hc : c ≠ 107 := fun e => h (by rw [e]; rfl)
      simp [unkL, hc]
  rw [rep_miss h1, rep_miss h2]
  rfl
theorem rep_kn (l : List Nat) : rep unkL [] 0 (knL ++ l) = knL ++ rep unkL [] 0 l := by
  show rep unkL [] 0 (107 :: 110 :: 111 :: 119 :: 110 :: l) = 107 :: 110 :: 111 :: 119 :: 110 :: _
  rw [rep_miss, rep_miss, rep_miss, rep_miss, rep_miss] <;> simp [unkL]
theorem rep_unkn (l : List Nat) : rep unkL [] 0 (unL ++ (knL ++ l)) = rep unkL [] 0 l := by
  show rep unkL [] 0 (117 :: 110 :: 107 :: 110 :: 111 :: 119 :: 110 :: l) = _
  rw [rep_hit (by simp [unkL])]
  rfl
theorem rep_tx {c : Nat} {S : List Nat} (hc : c ≠ 107) : ∀ row : List Int, rep unkL [] 0 (tx row ++ c :: S) = tx (red row) ++ rep unkL [] 0 (c :: S)
  | [] => rfl
  | [a] => by
    rw [tx_cons]
    by_cases h : a = 1
    · rw [if_pos h]
      show rep unkL [] 0 (unL ++ [] ++ c :: S) = _
      rw [List.append_nil, rep_un (by simp [hc])]
      simp [red, tx, h]
    · rw [if_neg h]
      show rep unkL [] 0 (knL ++ [] ++ c :: S) = _
      rw [List.append_nil, rep_kn]
      simp [red, tx, h]
  | a :: b :: r => by
    rw [tx_cons]
    by_cases h : a = 1
    · rw [if_pos h]
      by_cases hb : b = 1
      · have ih := rep_tx (S := S) hc (b :: r)
        rw [List.append_assoc, rep_un (by rw [tx_cons, if_pos hb]; simp [unL]), ih]
        rw [show red (a :: b :: r) = a :: red (b :: r) by simp [red, hb]]
        rw [tx_cons, if_pos h, List.append_assoc]
      · have ih := rep_tx (S := S) hc r
        rw [tx_cons, if_neg hb, List.append_assoc, List.append_assoc, rep_unkn, ih]
        rw [show red (a :: b :: r) = red r by simp [red, h, hb]]
    · have ih := rep_tx (S := S) hc (b :: r)
      rw [if_neg h, List.append_assoc, rep_kn, ih]
      rw [show red (a :: b :: r) = a :: red (b :: r) by simp [red, h]]
      rw [tx_cons, if_neg h, List.append_assoc]
theorem tx_mem {row : List Int} {c : Nat} (h : c ∈ tx row) : c = 117 ∨ c = 110 ∨ c = 107 ∨ c = 111 ∨ c = 119 := by
  obtain ⟨b, _, hb⟩ := List.mem_flatMap.mp h
  have hu : ∀ c ∈ unL, c = 117 ∨ c = 110 ∨ c = 107 ∨ c = 111 ∨ c = 119 := by decide
  have hk : ∀ c ∈ knL, c = 117 ∨ c = 110 ∨ c = 107 ∨ c = 111 ∨ c = 119 := by decide
  split at hb
  · exact hu c hb
  · exact hk c hb
theorem tx_len (row : List Int) : (tx row).length ≤ 5 * row.length := by
  induction row with
  | nil => exact Nat.le_refl _
  | cons a r ih =>
    rw [tx_cons, List.length_append, List.length_cons]
    rw [Nat.mul_succ, Nat.add_comm]
    refine Nat.add_le_add ih ?_
    split <;> decide
noncomputable def mkS (l : List Nat) : Str := ⟨l.toArray⟩
theorem mkS_len (l : List Nat) : (mkS l).length = l.length := by simp [mkS, Str.length]
theorem mkS_cat (a b : List Nat) : mkS (a ++ b) = mkS a ++ mkS b := Str.ext' (by simp [mkS, Str.cps_append])
theorem eq_mkS {x : Str} {l : List Nat} (h : x.cps.toList = l) : x = mkS l := StrLaws.mk_of_toList h
theorem mkS_of (x : Str) : x = mkS x.cps.toList := eq_mkS rfl
/-- the sign behind the text -/
noncomputable def markL (look : Nat) : Nat := [32, 47, 92, 58, 59, 34, 40, 41].getD look 0
noncomputable def knownL : List Nat := [75, 110, 111, 119, 110]
/-- what stands behind the text in the second field, stripped -/
noncomputable def tailL (look : Nat) : List Nat := if look = 0 then [32, 32] ++ knownL else [markL look, 32] ++ knownL ++ [markL look, markL look, markL look, markL look]
noncomputable def restL : List Nat := [45, 107, 110, 111, 119, 110, 45, 49, 46, 48, 43, 97, 95, 98, 45, 117, 110, 107, 110, 111, 119, 110]
/-- what stands behind the text after k strokes -/
noncomputable def sfx (look : Nat) : Nat → List Nat
  | 0 => tailL look ++ restL
  | k + 1 => rep [[32, 47, 92, 58, 59, 34, 40, 41].getD k 0] [if k = 0 then 95 else 45] 0 (sfx look k)
noncomputable def sfx8 (look : Nat) : List Nat := if look = 0 then [95, 95] ++ knownL ++ restL else [45, 95] ++ knownL ++ [45, 45, 45, 45] ++ restL
theorem sfx_eight : ∀ look, look < 8 → sfx look 8 = sfx8 look := by decide +kernel
theorem sfx_len : ∀ look, look < 8 → ∀ k, k < 9 → (sfx look k).length ≤ 40 := by decide +kernel
theorem stroke {row : List Int} {S : List Nat} {c d : Nat} (h : c ≠ 117 ∧ c ≠ 110 ∧ c ≠ 107 ∧ c ≠ 111 ∧ c ≠ 119) : Txt.replace (mkS (tx row ++ S)) (mkS [c]) (mkS [d]) = mkS (tx row ++ rep [c] [d] 0 S) := by
  apply eq_mkS
  rw [replace_rep _ _ _ (by rw [mkS_len]; exact Nat.le_refl _)]
  exact rep_free (tx row) S (fun hm => (tx_mem hm).elim h.1 fun q => q.elim h.2.1 fun q => q.elim h.2.2.1 fun q => q.elim h.2.2.2.1 h.2.2.2.2)
theorem stroke_unk {row : List Int} {look : Nat} (hl : look < 8) : Txt.replace (mkS (tx row ++ sfx look 8)) (mkS unkL) (mkS []) = mkS (tx (red row) ++ rep unkL [] 0 (sfx8 look)) := by
  apply eq_mkS
  rw [replace_rep _ _ _ (by rw [mkS_len]; decide), sfx_eight look hl]
  show rep unkL [] 0 (tx row ++ sfx8 look) = _
  unfold sfx8
  split <;> exact rep_tx (by decide) row
/-- behind the ninth stroke, then with the hyphens drawn together -/
noncomputable def sfx9 (look : Nat) : List Nat := if look = 0 then [95, 95] ++ knownL ++ restL.take 15 else [45, 95] ++ knownL ++ [45, 45, 45, 45] ++ restL.take 15
noncomputable def endL (look : Nat) : List Nat := (if look = 0 then [95, 95] else [45, 95]) ++ knownL ++ restL.take 14
theorem sfx_nine : ∀ look, look < 8 → rep unkL [] 0 (sfx8 look) = sfx9 look := by decide +kernel
/-- hyphens drawn together, turn by turn -/
noncomputable def sfxA (look : Nat) : Nat → List Nat
  | 0 => sfx9 look
  | k + 1 => rep [45, 45] [45] 0 (sfxA look k)
theorem stroke_hy {row : List Int} {S : List Nat} : Txt.replace (mkS (tx row ++ S)) (mkS [45, 45]) (mkS [45]) = mkS (tx row ++ rep [45, 45] [45] 0 S) := by
  apply eq_mkS
  rw [replace_rep _ _ _ (by rw [mkS_len]; decide)]
  exact rep_free (tx row) S (fun hm => absurd (tx_mem hm) (by decide))
theorem sfxA_end : ∀ look, look < 8 → sfxA look 3 = endL look ++ [45] ∧ sfxA look 4 = sfxA look 3 := by decide +kernel

end
section
theorem takeWhile_run {p : Nat → Bool} : ∀ (A : List Nat) {b : Nat} {B : List Nat}, (∀ a ∈ A, p a = true) → p b = false → (A ++ b :: B).takeWhile p = A
  | [], b, B, _, hb => by simp [hb]
  | a :: A, b, B, h, hb => by
    rw [List.cons_append, List.takeWhile_cons, h a (.head _)]
    simp only [if_true]
    rw [takeWhile_run A (fun x hx => h x (.tail _ hx)) hb]
theorem strip_mid {A B C : List Nat} {b l : Nat} {B₁ B₂ : List Nat} (hA : ∀ a ∈ A, Unicode.isSpace a = true) (hC : ∀ a ∈ C, Unicode.isSpace a = true) (h1 : B = b :: B₁) (hb : Unicode.isSpace b = false) (h2 : B = B₂ ++ [l]) (hl : Unicode.isSpace l = false) :
    Txt.strip (mkS (A ++ B ++ C)) = mkS B := by
  unfold Txt.strip
  rw [PyProof.Rows.stripBy_eq]
  have e0 : (mkS (A ++ B ++ C)).cps.toList = A ++ B ++ C := rfl
  have lo : stripLo Unicode.isSpace true (mkS (A ++ B ++ C)) = A.length := by
    unfold stripLo
    rw [if_pos rfl, e0, h1, List.append_assoc, List.cons_append, takeWhile_run A hA hb]
  have hi : stripHi Unicode.isSpace true (mkS (A ++ B ++ C)) A.length = A.length + B.length := by
    unfold stripHi
    rw [if_pos rfl, e0, List.append_assoc, List.drop_left, List.reverse_append, h2, List.reverse_append, List.reverse_singleton, List.singleton_append, takeWhile_run C.reverse (fun a ha => hC a (List.mem_reverse.mp ha)) hl, mkS_len]
    simp
    omega
  rw [lo, hi]
  apply eq_mkS
  rw [StrLaws.strSub_toList, e0, List.append_assoc, List.drop_left, show A.length + B.length - A.length = B.length by omega, List.take_left]
/-- the second field -/
noncomputable def fieldL (row : List Int) (look : Nat) : List Nat := 32 :: (tx row ++ (markL look :: 32 :: (knownL ++ [markL look, markL look, markL look, markL look])))
theorem tx_head {row : List Int} (h : row ≠ []) : ∃ c T, tx row = c :: T ∧ Unicode.isSpace c = false := by
  cases row with
  | nil => exact absurd rfl h
  | cons a r =>
    rw [tx_cons]
    by_cases e : a = 1
    · rw [if_pos e]; exact ⟨117, 110 :: tx r, rfl, by decide +kernel⟩
    · rw [if_neg e]; exact ⟨107, [110, 111, 119, 110] ++ tx r, rfl, by decide +kernel⟩
theorem tail_last : ∀ look, look < 8 → ∃ T l, tailL look = T ++ [l] ∧ Unicode.isSpace l = false := by
  intro look hl
  have h : ∀ look, look < 8 → tailL look = (tailL look).dropLast ++ [(tailL look).getLastD 0] ∧ Unicode.isSpace ((tailL look).getLastD 0) = false := by decide +kernel
  exact ⟨_, _, h look hl⟩
theorem field_strip {row : List Int} {look : Nat} (hr : row ≠ []) (hl : look < 8) : Txt.strip (mkS (fieldL row look)) = mkS (tx row ++ tailL look) := by
  obtain ⟨c, T, hT, hc⟩ := tx_head hr
  obtain ⟨U, l, hU, hlast⟩ := tail_last look hl
  have e : fieldL row look = [32] ++ (tx row ++ tailL look) ++ (if look = 0 then [32, 32, 32, 32] else []) := by
    unfold fieldL tailL
    by_cases h0 : look = 0
    · subst h0; simp [markL]
    · simp [h0]
  rw [e]
  refine strip_mid (b := c) (B₁ := T ++ tailL look) (l := l) (B₂ := tx row ++ U) (fun a ha => ?_) (fun a ha => ?_) (by rw [hT]; rfl) hc (by rw [hU, List.append_assoc]) hlast
  · rw [List.mem_singleton.mp ha]; decide +kernel
  · split at ha
    · have : a = 32 := by simpa using ha
      rw [this]; decide +kernel
    · cases ha
theorem joined {row : List Int} {look : Nat} (hr : row ≠ []) (hl : look < 8) :
    Txt.join (Str.ofString "-") (([Str.ofString "", mkS (fieldL row look), Str.ofString "known", Str.ofString "1.0+a_b", Str.ofString "unknown"].filter full).map Txt.strip) = mkS (tx row ++ sfx look 0) := by
  have f0 : full (Str.ofString "") = false := by decide +kernel
  have f1 : full (mkS (fieldL row look)) = true := by
    unfold full
    rw [mkS_len]
    simp [fieldL]
  have f2 : full (Str.ofString "known") = true := by decide +kernel
  have f3 : full (Str.ofString "1.0+a_b") = true := by decide +kernel
  have f4 : full (Str.ofString "unknown") = true := by decide +kernel
  rw [List.filter_cons_of_neg (by simp [f0]), List.filter_cons_of_pos f1, List.filter_cons_of_pos f2, List.filter_cons_of_pos f3, List.filter_cons_of_pos f4, List.filter_nil]
  simp only [List.map_cons, List.map_nil]
  have g2 : Txt.strip (Str.ofString "known") = mkS [107, 110, 111, 119, 110] := by decide +kernel
  have g3 : Txt.strip (Str.ofString "1.0+a_b") = mkS [49, 46, 48, 43, 97, 95, 98] := by decide +kernel
  have g4 : Txt.strip (Str.ofString "unknown") = mkS [117, 110, 107, 110, 111, 119, 110] := by decide +kernel
  have g5 : Str.ofString "-" = mkS [45] := by decide +kernel
  generalize Str.ofString "known" = k2 at *
  generalize Str.ofString "1.0+a_b" = k3 at *
  generalize Str.ofString "unknown" = k4 at *
  rw [field_strip hr hl, g2, g3, g4, g5]
  rw [show sfx look 0 = tailL look ++ restL from rfl]
  unfold Txt.join
  rw [StrLaws.glued_eq_join]
  show mkS (tx row ++ tailL look) ++ mkS [45] ++ (mkS [107, 110, 111, 119, 110] ++ mkS [45] ++ (mkS [49, 46, 48, 43, 97, 95, 98] ++ mkS [45] ++ mkS [117, 110, 107, 110, 111, 119, 110])) = _
  rw [← mkS_cat, ← mkS_cat, ← mkS_cat, ← mkS_cat, ← mkS_cat, ← mkS_cat, ← List.append_assoc]
  simp only [List.append_assoc]
  rfl

end
section
section
variable {prog : Program} {w : World} {A : Around} {E : Value → Shared → Prop} {s : Shared} {K : Frag} {mg mb : Str → Option Value} {p : Program} {loose : List Str} {mean : ExcName → Option Value} {h₀ : Heap}
theorem wp_peek1 {α : Type} {M : Model} {Q : α → Shared → Prop} {o : Obj} {r : Addr → α} (X : K.In s.heap) (q : Q (r s.heap.objs.size) { s with heap := s.heap.push o }) :
    ∀ (t : Sem α) (g : Addr → Option α), peek1 K ⟨M.prog, M.w.params⟩ t = some (o, g) → (∀ D, g D = some (r D)) → wpAny M A t Q E s := by
  intro t
  induction t with
  | rule _ k ih => intro g e hg Γ p hΓ; exact ih () g e hg Γ p hΓ
  | point _ k ih => intro g e hg Γ p hΓ; exact ih () g e hg Γ p hΓ
  | ask k ih => intro g e hg Γ p hΓ; exact ih _ g e hg Γ p hΓ
  | load a _ k ih =>
    intro g e hg Γ p hΓ
    simp only [peek1] at e
    split at e
    · rename_i ob ho; exact ⟨ob, X _ _ ho, ih ob g e hg Γ p hΓ⟩
    · cases e
  | alloc ob k _ =>
    intro g e hg
    have e : some (ob, fun D => peek K ⟨M.prog, M.w.params⟩ (k D)) = some (o, g) := e
    obtain ⟨e1, e2⟩ := Prod.mk.inj (Option.some.inj e)
    subst e1
    subst e2
    show wpAny M A (alloc ob >>= k) Q E s
    refine wpAny_bind (wpAny_alloc ?_)
    exact (Looks.of_peek (M := M) (h := s.heap.push ob) (X.keeps fun b x hb => Heap.get?_push_of_some _ hb) (hg s.heap.objs.size)).here (s := { s with heap := s.heap.push ob }) q
  | _ => intro g e; cases e
/-- entering a def by its rest of arguments, one object of the heap laid aside -/
theorem enterS {R : Result → Shared → Prop} {name qual : Str} {params : Arguments} {body : List Stmt} {scope : Scope} {dV kV doc pm cdv ct oc : Value} {an oda : Option Addr} {osl : Array (Option Value)} {f P : Addr} {op : Obj} {args : Args} {vs : List Value} {g₁ : Addr → Option (List (Str × Value))} {binds : Addr → List (Str × Value)}
    (k0 : Keeps h₀ s.heap) (X₀ : K.In h₀) (T : Top p loose mean mg mb h₀) (hop : s.heap.get? P = some op) (hP0 : h₀.get? P = none)
    (ho : K.lookup f = some ⟨oc, oda, .func (fnOf name qual params body scope dV kV doc pm an cdv ct), osl⟩) (hcd : codeIn K cdv qual = true) (hroom : A.depth < recursionLimit)
    (hp : peek1 K ⟨prog, w.params⟩ (bindArgs (fnOf name qual params body scope dV kV doc pm an cdv ct) args) = some (({ cls := .type "tuple", data := .seq vs.toArray } : Obj), g₁))
    (hg : ∀ D, g₁ D = some (binds D)) (hloc : ∀ D, ∀ y ∈ binds D, scope.names.lookup y.1 = some .local)
    (h : ∀ D g L' h₁ tk, s.heap.get? D = none → (@Ne Nat D P) → Keeps h₀ g → (∀ b o, b ≠ P → s.heap.get? b = some o → g.get? b = some o) → Fr g L' h₁ (fun y => (binds D).reverse.lookup y) → News g L' h₁ [(D, ({ cls := .type "tuple", data := .seq vs.toArray } : Obj)), (P, op)] → K.In g → Top p loose mean mg mb g →
      wpAny (model prog w) (A.deeper (envOf qual scope L' f cdv)) (execs body (envOf qual scope L' f cdv))
        (fun fl s' => R (.ok (.ret (match fl with | .ret v => v | _ => .none))) s')
        (fun e s' => wpAny (model prog w) (A.deeper (envOf qual scope L' f cdv)) (leaving (envOf qual scope L' f cdv) e) (fun _ s'' => R (.error e) s'') (fun e' s'' => R (.error e') s'') s')
        { s with heap := h₁, toks := tk })
    (hco : scope.isCoroutine = false) (hgen : scope.isGenerator = false) (hk : scope.kind = .function)
    (hcell : ∀ x ∈ scope.names, x.2 ≠ .cell) : codeAny (model prog w) A (.call (.ref f) args) R s := by
  have XS : K.In s.heap := X₀.keeps k0
  have hPlt : P < s.heap.objs.size := Heap.lt_size hop
  have hDP : (@Ne Nat s.heap.objs.size P) := Nat.ne_of_gt hPlt
  refine codeAny_call_function (fd := fnX name qual params body scope [] dV kV doc pm an cdv ct) (body := body) hroom (XS _ _ ho) rfl hco hgen rfl (codeRec_of XS hcd) (wp_peek1 XS ?_ _ _ hp hg)
  have z1 : (s.heap.push { cls := .type "tuple", data := .seq vs.toArray }).objs.size = s.heap.objs.size + 1 := Heap.size_push ..
  have kp : ∀ b o, s.heap.get? b = some o → (s.heap.push { cls := .type "tuple", data := .seq vs.toArray }).get? b = some o := fun b o e => Heap.get?_push_of_some _ e
  have nD : s.heap.get? s.heap.objs.size = none := Heap.get?_none_of_le (Nat.le_refl _)
  have gD : (s.heap.push { cls := .type "tuple", data := .seq vs.toArray }).get? s.heap.objs.size = some { cls := .type "tuple", data := .seq vs.toArray } := Heap.get?_push_size _ rfl
  refine wpAny_newFunctionEnv hcell (hloc _) (fun h₁ hns hsb => ⟨((T.nolimit.keeps k0).keeps kp).fresh _ hsb, codeAny_func ?_⟩) hk
  have hk₁ : ∀ b o, (s.heap.push { cls := .type "tuple", data := .seq vs.toArray }).get? b = some o → h₁.get? b = some o := fun b o e => hsb.extBut b o (Nat.ne_of_lt (Heap.lt_size e)) (Heap.get?_push_of_some _ e)
  have st : Keeps h₀ (hideAll s.heap [P]) := fun b o e => hideAll_get _ (k0 b o e) (fun q => by
    rw [List.mem_singleton.mp q, hP0] at e; cases e)
  refine h s.heap.objs.size (hideAll s.heap [P]) _ h₁ _ nD hDP st (fun b o hb e => hideAll_get _ e (fun q => hb (List.mem_singleton.mp q))) ⟨hns, fun b o e => hk₁ b o (kp b o (of_hideAll _ e)), ?_⟩ (fun q hq => ?_) (X₀.keeps st) (T.keeps st)
  · rw [hideAll_size]
    show s.heap.objs.size ≤ (s.heap.push _).objs.size
    rw [z1]; exact Nat.le_succ _
  · simp only [List.mem_cons, List.not_mem_nil, or_false] at hq
    rcases hq with rfl | rfl
    · refine ⟨hk₁ _ _ gD, ?_, ?_⟩
      · show s.heap.objs.size ≠ (s.heap.push _).objs.size
        rw [z1]; exact Nat.ne_of_lt (Nat.lt_succ_self _)
      · cases q : (hideAll s.heap [P]).get? s.heap.objs.size with
        | none => rfl
        | some o => have := of_hideAll _ q; rw [nD] at this; cases this
    · refine ⟨hk₁ _ _ (kp _ _ hop), ?_, hideAll_none _ (List.mem_singleton.mpr rfl)⟩
      show P ≠ (s.heap.push _).objs.size
      rw [z1]; exact Nat.ne_of_lt (Nat.lt_succ_of_lt hPlt)
end

end
section
theorem st0 (row : List Int) (look : Nat) : Txt.replace (mkS (tx row ++ sfx look 0)) (Str.ofString " ") (Str.ofString "_") = mkS (tx row ++ sfx look 1) := by
  rw [show Str.ofString " " = mkS [32] by decide +kernel, show Str.ofString "_" = mkS [95] by decide +kernel]; exact stroke (by decide)
theorem st1 (row : List Int) (look : Nat) : Txt.replace (mkS (tx row ++ sfx look 1)) (Str.ofString "/") (Str.ofString "-") = mkS (tx row ++ sfx look 2) := by
  rw [show Str.ofString "/" = mkS [47] by decide +kernel, show Str.ofString "-" = mkS [45] by decide +kernel]; exact stroke (by decide)
theorem st2 (row : List Int) (look : Nat) : Txt.replace (mkS (tx row ++ sfx look 2)) (Str.ofString "\\") (Str.ofString "-") = mkS (tx row ++ sfx look 3) := by
  rw [show Str.ofString "\\" = mkS [92] by decide +kernel, show Str.ofString "-" = mkS [45] by decide +kernel]; exact stroke (by decide)
theorem st3 (row : List Int) (look : Nat) : Txt.replace (mkS (tx row ++ sfx look 3)) (Str.ofString ":") (Str.ofString "-") = mkS (tx row ++ sfx look 4) := by
  rw [show Str.ofString ":" = mkS [58] by decide +kernel, show Str.ofString "-" = mkS [45] by decide +kernel]; exact stroke (by decide)
theorem st4 (row : List Int) (look : Nat) : Txt.replace (mkS (tx row ++ sfx look 4)) (Str.ofString ";") (Str.ofString "-") = mkS (tx row ++ sfx look 5) := by
  rw [show Str.ofString ";" = mkS [59] by decide +kernel, show Str.ofString "-" = mkS [45] by decide +kernel]; exact stroke (by decide)
theorem st5 (row : List Int) (look : Nat) : Txt.replace (mkS (tx row ++ sfx look 5)) (Str.ofString "\"") (Str.ofString "-") = mkS (tx row ++ sfx look 6) := by
  rw [show Str.ofString "\"" = mkS [34] by decide +kernel, show Str.ofString "-" = mkS [45] by decide +kernel]; exact stroke (by decide)
theorem st6 (row : List Int) (look : Nat) : Txt.replace (mkS (tx row ++ sfx look 6)) (Str.ofString "(") (Str.ofString "-") = mkS (tx row ++ sfx look 7) := by
  rw [show Str.ofString "(" = mkS [40] by decide +kernel, show Str.ofString "-" = mkS [45] by decide +kernel]; exact stroke (by decide)
theorem st7 (row : List Int) (look : Nat) : Txt.replace (mkS (tx row ++ sfx look 7)) (Str.ofString ")") (Str.ofString "-") = mkS (tx row ++ sfx look 8) := by
  rw [show Str.ofString ")" = mkS [41] by decide +kernel, show Str.ofString "-" = mkS [45] by decide +kernel]; exact stroke (by decide)
theorem st8 (row : List Int) {look : Nat} (hl : look < 8) : Txt.replace (mkS (tx row ++ sfx look 8)) (Str.ofString "unknown") (Str.ofString "") = mkS (tx (red row) ++ sfxA look 0) := by
  rw [show Str.ofString "unknown" = mkS unkL by decide +kernel, show Str.ofString "" = mkS [] by decide +kernel, stroke_unk hl, sfx_nine look hl]; rfl
theorem st9 (row : List Int) (look k : Nat) : Txt.replace (mkS (tx row ++ sfxA look k)) (Str.ofString "--") (Str.ofString "-") = mkS (tx row ++ sfxA look (k + 1)) := by
  rw [show Str.ofString "--" = mkS [45, 45] by decide +kernel, show Str.ofString "-" = mkS [45] by decide +kernel]; exact stroke_hy
theorem red_len : ∀ row : List Int, (red row).length ≤ row.length
  | [] => Nat.le_refl _
  | [a] => Nat.le_refl _
  | a :: b :: r => by
    unfold red
    split
    · exact Nat.le_trans (red_len r) (show r.length ≤ r.length + 1 + 1 by omega)
    · simpa using red_len (b :: r)
theorem sfxA_len : ∀ look, look < 8 → ∀ k, k < 5 → (sfxA look k).length ≤ 40 := by decide +kernel
theorem wpT {M : Model} {A : Around} {α : Type} {t : Sem α} {s : Shared} {Q : α → Shared → Prop} {E : Value → Shared → Prop} {n : Nat} (hn : n ≤ s.toks) (h : wpAny M A t (fun a s' => n ≤ s'.toks → Q a s') E s) : wpAny M A t Q E s :=
  wpAny_mono (wpAny_toks_of hn h) (fun _ _ x => x.2 x.1) (fun _ _ x => x.2)
theorem st_len {row : List Int} {look k : Nat} (hl : look < 8) (hk : k < 9) (hlen : row.length ≤ 40) : (mkS (tx row ++ sfx look k)).length ≤ 1048576 := by
  rw [mkS_len, List.length_append]
  have := tx_len row
  have := sfx_len look hl k hk
  omega
theorem stA_len {row : List Int} {look k : Nat} (hl : look < 8) (hk : k < 5) (hlen : row.length ≤ 40) : (mkS (tx row ++ sfxA look k)).length ≤ 1048576 := by
  rw [mkS_len, List.length_append]
  have := tx_len row
  have := sfxA_len look hl k hk
  omega
theorem mkS_inj {a b : List Nat} (h : mkS a = mkS b) : a = b := by
  have := congrArg (fun x : Str => x.cps.toList) h
  simpa [mkS] using this
theorem hy_stop : ∀ look, look < 8 → ∀ k, k < 4 → sfxA look (k + 1) = sfxA look k → sfxA look k = sfxA look 3 := by decide +kernel
theorem hy_go : ∀ look, look < 8 → ∀ k, k < 4 → sfxA look (k + 1) ≠ sfxA look k → k + 1 < 4 := by decide +kernel
theorem While_inv3 {prog : Program} {w : World} {A : Around} {E : Value → Shared → Prop} {Q : Flow → Shared → Prop} {s : Shared} {env : Env} {h₀ : Heap} {L : Addr} {test : Expr} {body : List Stmt} {pos : Pos} {m : Str → Option Value} {news : List (Addr × Obj)} (J : Nat → (Str → Option Value) → List (Addr × Obj) → Prop) {n₀ : Nat}
    (F : Fr h₀ L s.heap m) (N : News h₀ L s.heap news) (hJ : J n₀ m news) (ht : 1 ≤ s.toks)
    (turn : ∀ n m₁ news₁ h₁ tk₁, 1 ≤ tk₁ → Fr h₀ L h₁ m₁ → News h₀ L h₁ news₁ → J n m₁ news₁ →
      wpAny (model prog w) A (isTrue test env (eval test env)) (fun b s₂ =>
        if b = true then wpAny (model prog w) A (execs body env) (WhileStep2 h₀ L s J Q n) E s₂ else Q .next s₂) E { s with heap := h₁, toks := tk₁ })
    (hE : PassesOwn (model prog w) A env E := by passes_own) :
    wpAny (model prog w) A (exec (.While test body [] pos) env) Q E s := by
  refine wpAny_While (codeAny_whileLoop (fun n s' => ∃ h₁ tk₁ m₁ news₁, s' = { s with heap := h₁, toks := tk₁ } ∧ 1 ≤ tk₁ ∧ Fr h₀ L h₁ m₁ ∧ News h₀ L h₁ news₁ ∧ J n m₁ news₁) ?_ n₀ ⟨s.heap, s.toks, m, news, rfl, ht, F, N, hJ⟩)
  rintro n s' ⟨h₁, tk₁, m₁, news₁, rfl, ht₁, F₁, N₁, J₁⟩
  refine wpAny_mono (wpAny_toks_of (n := 1) ht₁ (turn n m₁ news₁ h₁ tk₁ ht₁ F₁ N₁ J₁)) (fun b s₂ h₂' => ?_) (fun e s' h => hE e s' h.2)
  obtain ⟨ht₂, h₂⟩ := h₂'
  cases b with
  | false =>
    simp only [Bool.false_eq_true, if_false] at h₂ ⊢
    exact wpAny_execs_nil h₂
  | true =>
    simp only [if_true] at h₂ ⊢
    refine wpAny_mono (wpAny_toks_of (n := 1) ht₂ h₂) (fun f s₃ h₃' => ?_) (fun e s' h => hE e s' h.2)
    obtain ⟨ht₃, h₃⟩ := h₃'
    cases f with
    | next =>
      obtain ⟨h', tk, m₂, news₂, n', rfl, F₂, N₂, hn, J₂⟩ := h₃
      exact ⟨n', hn, h', tk, m₂, news₂, rfl, ht₃, F₂, N₂, J₂⟩
    | cont =>
      obtain ⟨h', tk, m₂, news₂, n', rfl, F₂, N₂, hn, J₂⟩ := h₃
      exact ⟨n', hn, h', tk, m₂, news₂, rfl, ht₃, F₂, N₂, J₂⟩
    | brk => exact h₃
    | ret v => exact h₃
theorem fr_if {h₀ h : Heap} {L : Addr} {m : Str → Option Value} {x : Str} {v : Value} (F : Fr h₀ L h m) (hx : m x = some v) : Fr h₀ L h (fun y => if y = x then some v else m y) := by
  have e : (fun y => if y = x then some v else m y) = m := funext fun y => by
    by_cases hy : y = x
    · rw [if_pos hy, hy, hx]
    · rw [if_neg hy]
  rw [e]; exact F
theorem endL_len : ∀ look, look < 8 → (endL look).length = 21 := by decide +kernel
theorem cut_to {U V : List Nat} {n : Int} (hn : n = -(V.length : Int)) (hV : V ≠ []) : Txt.slice (mkS (U ++ V)) none (some n) = mkS U := by
  have hpos : 0 < V.length := List.length_pos_iff.mpr hV
  have hl : (mkS (U ++ V)).length = U.length + V.length := by rw [mkS_len, List.length_append]
  rw [slice_to_neg (by omega), hl, show max 0 (((U.length + V.length : Nat) : Int) + n) = (U.length : Int) by omega]
  have h := slice_closes_toL (x := mkS (U ++ V)) (j := (U.length : Int)) (by omega) (by rw [hl]; omega)
  rw [eq_of_beq h]
  show mkS _ = mkS U
  congr 1
  simp [mkS]
theorem cut_from {U V : List Nat} {n : Int} (hn : n = -(V.length : Int)) (hV : V ≠ []) : Txt.slice (mkS (U ++ V)) (some n) none = mkS V := by
  have hpos : 0 < V.length := List.length_pos_iff.mpr hV
  have hl : (mkS (U ++ V)).length = U.length + V.length := by rw [mkS_len, List.length_append]
  rw [slice_from_neg (by omega), hl, show max 0 (((U.length + V.length : Nat) : Int) + n) = (U.length : Int) by omega]
  rw [slice_from_eq (b := ((U.length + V.length : Nat) : Int)) (by omega) (by rw [hl]; omega) (by rw [hl])]
  show mkS _ = mkS V
  congr 1
  simp only [mkS, List.toList_toArray, Int.toNat_natCast, List.drop_left]
  exact List.take_of_length_le (by omega)
theorem last_item (U : List Nat) (c : Nat) : Txt.item (mkS (U ++ [c])) (-1) = mkS [c] := by
  rw [mkS_cat]
  exact item_last_right1 (mkS U) c
theorem end_last (look : Nat) (hl : look < 8) {T : List Nat} : T ++ endL look = (T ++ (endL look).dropLast) ++ [98] := by
  have h : ∀ look, look < 8 → endL look = (endL look).dropLast ++ [98] := by decide +kernel
  rw [List.append_assoc, ← h look hl]
theorem genexprT {M : Model} {A : Around} {E : Value → Shared → Prop} {s : Shared} {env : Env} {c P : Addr} {ps : Array Value} {pos : Pos} {qualname : Str} {scope : Scope} {Q : Value → Shared → Prop} (hc : env.code = .ref c) (C : CodeHd s.heap c P) (hP : s.heap.get? P = some (tabObj ps)) (ht : TriplesOk ps.toList)
    (hQ : ∀ code h' tk ps', Heap.ExtBut P s.heap h' → h'.get? P = some (tabObj ps') → TriplesOk ps'.toList → Q code { s with heap := h', toks := tk }) : wpAny M A (genexprCode env pos qualname scope) Q E s := by
  cases hf : codeAmong pos ps.toList with
  | some cv => exact wpAny_genexprCode_hit hc (C.code hP ht) hf (hQ cv s.heap s.toks ps (Heap.ExtBut.refl _ _) hP ht)
  | none =>
    refine wpAny_genexprCodeX hc (C.code hP ht) (C.tab hP) hf fun c' h' tk hx _ _ hcode _ htab _ => hQ _ _ _ _ hx htab.2 ?_
    obtain ⟨o, vs, file, tf, flags, tg, inF, text, tt, op, a1, a2, a3, a4, a5, a6, a7, a8, a9, a10, a11⟩ := hcode
    exact a10
theorem fr_again {h₀ h : Heap} {L : Addr} {m : Str → Option Value} {x : Str} {v w : Option Value} (F : Fr h₀ L h (fun y => if y = x then v else if y = x then w else m y)) : Fr h₀ L h (fun y => if y = x then v else m y) := by
  have e : (fun y => if y = x then v else m y) = fun y => if y = x then v else if y = x then w else m y := funext fun y => by
    by_cases hy : y = x
    · rw [if_pos hy, if_pos hy]
    · rw [if_neg hy, if_neg hy, if_neg hy]
  rw [e]; exact F
inductive EndT (h₀ : Heap) (L : Addr) (x : Str) (v : Tok → Value) (m : Str → Option Value) (news : List (Addr × Obj)) (s : Shared) (f : Flow) (s' : Shared) : Prop
  | mk (p0 : f = .next) (h' : Heap) (tk' : Nat) (t : Tok) (q0 : s' = { s with heap := h', toks := tk' }) (q1 : Fr h₀ L h' (fun y => if y = x then some (v t) else m y)) (q2 : News h₀ L h' news) : EndT h₀ L x v m news s f s'
theorem endT {prog : Program} {w : World} {A : Around} {E : Value → Shared → Prop} {s : Shared} {h₀ : Heap} {L : Addr} {env : Env} {x : Str} {u : Option Value} {v : Tok → Value} {m : Str → Option Value} {news : List (Addr × Obj)} {st : Stmt} {r : List Stmt} {Q : Flow → Shared → Prop}
    (_F : Fr h₀ L s.heap (fun y => if y = x then u else m y)) (_N : News h₀ L s.heap news) (ht : 1 ≤ s.toks) (h : wpAny (model prog w) A (exec st env) (EndT h₀ L x v m news s) E s)
    (rest : ∀ h' tk' t, 1 ≤ tk' → Fr h₀ L h' (fun y => if y = x then some (v t) else m y) → News h₀ L h' news → wpAny (model prog w) A (execs r env) Q E { s with heap := h', toks := tk' }) :
    wpAny (model prog w) A (execs (st :: r) env) Q E s := by
  refine wpAny_execs_cons (wpAny_mono (wpAny_toks_of ht h) (fun f s' hf => ?_) fun _ _ e => e.2)
  obtain ⟨hk, rfl, h', tk', t, rfl, F, N⟩ := hf
  exact rest h' tk' t hk F N
inductive EndU (h₀ : Heap) (L : Addr) (x : Str) (v : Tok → Value) (m : Str → Option Value) (news : List (Addr × Obj)) (s s' : Shared) : Prop
  | mk (h' : Heap) (tk' : Nat) (t : Tok) (q0 : s' = { s with heap := h', toks := tk' }) (q1 : Fr h₀ L h' (fun y => if y = x then some (v t) else m y)) (q2 : News h₀ L h' news) : EndU h₀ L x v m news s s'
theorem endT_one {M : Model} {A : Around} {E : Value → Shared → Prop} {s : Shared} {h₀ : Heap} {L : Addr} {x : Str} {v : Tok → Value} {m : Str → Option Value} {news : List (Addr × Obj)} {t : Sem Unit} {Q : Unit → Shared → Prop} (ht : 1 ≤ s.toks)
    (_F : Fr h₀ L s.heap m) (_N : News h₀ L s.heap news) (h : wpAny M A t (fun _ s' => EndU h₀ L x v m news s s') E s)
    (rest : ∀ h' tk' t, 1 ≤ tk' → Fr h₀ L h' (fun y => if y = x then some (v t) else m y) → News h₀ L h' news → Q () { s with heap := h', toks := tk' }) : wpAny M A t Q E s := by
  refine wpAny_mono (wpAny_toks_of ht h) (fun f s' hf => ?_) fun _ _ e => e.2
  obtain ⟨hk, h', tk', t, rfl, F, N⟩ := hf
  exact rest h' tk' t hk F N
theorem passing_all (n : Nat) : passing (fun _ => true) n 0 = List.range n := by
  unfold passing
  rw [List.drop_zero]
  exact List.filter_eq_self.mpr fun _ _ => rfl
theorem strip_le (x : Str) : (Txt.strip x).length ≤ x.length := by
  unfold Txt.strip
  rw [PyProof.Rows.stripBy_eq]
  exact le_strSub ..
theorem joined_vals {zs : List Str} {l : List (Str × Tok)} (h : ItemsOf (fun j y => ∃ i, (passing (fun _ => true) zs.length 0)[j]? = some i ∧ ∃ x tx, zs[i]? = some x ∧ y = .str (Txt.strip x) tx) (strValues l).toArray (passing (fun _ => true) zs.length 0).length) :
    l.map (·.1) = zs.map Txt.strip := by
  rw [passing_all] at h
  obtain ⟨h1, h2⟩ := h
  have hn : l.length = zs.length := by simpa [strValues] using h1
  refine List.ext_getElem? fun j => ?_
  rw [List.getElem?_map, List.getElem?_map]
  by_cases hj : j < l.length
  · have hg : l[j]? = some l[j] := List.getElem?_eq_getElem hj
    obtain ⟨i, e1, x, tx, e2, e3⟩ := h2 j (.str l[j].1 l[j].2) (by simp [strValues, hg])
    have hi : i = j := by
      rw [List.getElem?_range (by omega)] at e1
      exact (Option.some.inj e1).symm
    subst hi
    rw [hg, e2]
    show some l[i].1 = some (Txt.strip x)
    rw [(Value.str.inj e3).1]
  · rw [List.getElem?_eq_none (by omega), List.getElem?_eq_none (by omega)]
    rfl
local macro_rules | `(tactic| ktr_unf) => `(tactic| repeat' ((fail_if_success (with_reducible show wpAny _ _ (eval (Expr.GeneratorExp _ _ _ _) _) _ _ _)); tb_rel))
section
variable {prog : Program} {w : World} {p : Program} {loose : List Str} {mean : ExcName → Option Value} {mg mb : Str → Option Value}
set_option maxRecDepth 100000 in
set_option maxHeartbeats 8000000 in
theorem tells_plat (row : List Int) (look : Nat) (hr : row ≠ []) (hl : look < 8) (hlen : row.length ≤ 40) (t0 t1 t2 t3 t4 : Tok) (dp un : Nat) (fr : Option (List Env)) (gd : Option (List Code)) (s : Shared) (Q E : Value → Shared → Prop) (h₀ : Heap) (ps : Array Value)
    (k0 : Keeps h₀ s.heap) (X : (hd.heap_1 w.params).In h₀) (T : Top p loose mean mg mb h₀) (hp0 : h₀.get? 16 = none) (C : CodeHd h₀ 20 16) (hop : s.heap.get? 16 = some (tabObj ps)) (htr : TriplesOk ps.toList) (hG : AllBare s.gens) (hd : dp + 6 < recursionLimit) (hu : un + 60 < cLine)
    (ret : ∀ h' tk' gs' ps' t, (∀ b o, b ≠ 16 → s.heap.get? b = some o → h'.get? b = some o) → h'.get? 16 = some (tabObj ps') → TriplesOk ps'.toList → AllBare gs' → Q (.str (mkS (tx (red row) ++ endL look)) t) { s with heap := h', toks := tk', gens := gs' }) :
    wpAny (model prog w) (arr dp un fr gd) (call (.ref 21) [.str (Str.ofString "") t0, .str (mkS (fieldL row look)) t1, .str (Str.ofString "known") t2, .str (Str.ofString "1.0+a_b") t3, .str (Str.ofString "unknown") t4]) Q E s := by
  refine wpAny_call ?_
  k_dflt (refine' enterS k0 X T hop hp0 ?k6 ?k7 ?k8 ?k9 ?kA ?kB ?_ ?c2 ?c3 ?c4 ?c5; (case k6 => k_is); (case k7 => k_is); (case k8 => first | exact room0 (by assumption) | ktr_room); (case k9 => exact rfl); (case kA => intro D; exact rfl); (case kB => intro D; exact locs rfl); (case c2 => exact rfl); (case c3 => exact rfl); (case c4 => exact rfl); (case c5 => decide); intro D g L' h1 tk hD0 hD16 kg kg' F' N' X' T'; (try dsimp only); (try k_fold))
  have hst : ∀ b o, b ≠ 16 → s.heap.get? b = some o → g.get? b = some o := kg'
  clear kg'
  ktr_unf
  rename Fr g _ _ _ => F1
  rename News g _ _ _ => N1
  refine wpT (n := 1) (Nat.le_add_left _ _) ?_
  refine wpAny_GeneratorExp_walksQ (by rfl) (by rfl) (by rfl) (by decide) (by rfl) (by rfl) (by rfl) ?room ?_ (by intro _; with_unfolding_all rfl)
  case room => ktr_room
  ktr_unf
  have ND := N1 _ (.head _)
  have N16 := N1 _ (.tail _ (.head _))
  have g16 : g.get? 16 = none := N16.2.2
  have neg : ∀ b o, g.get? b = some o → b ≠ 16 := fun b o e q => by rw [q, g16] at e; cases e
  have hlen1 : (mkS (fieldL row look)).length ≤ 1000 := by
    rw [mkS_len]
    have := tx_len row
    simp [fieldL, knownL]
    omega
  have hss : ∀ x ∈ [Str.ofString "", mkS (fieldL row look), Str.ofString "known", Str.ofString "1.0+a_b", Str.ofString "unknown"], x.length ≤ 1000 := by
    intro x hx
    simp only [List.mem_cons, List.not_mem_nil, or_false] at hx
    rcases hx with rfl | rfl | rfl | rfl | rfl
    · decide
    · exact hlen1
    · decide
    · decide
    · decide
  have hsa : StrsAre [.str (Str.ofString "") t0, .str (mkS (fieldL row look)) t1, .str (Str.ofString "known") t2, .str (Str.ofString "1.0+a_b") t3, .str (Str.ofString "unknown") t4] [Str.ofString "", mkS (fieldL row look), Str.ofString "known", Str.ofString "1.0+a_b", Str.ofString "unknown"] :=
    .cons _ _ (.cons _ _ (.cons _ _ (.cons _ _ (.cons _ _ .nil))))
  have hDlt : D < h1.objs.size := Heap.lt_size ND.1
  have tD : h1.IsTuple D [.str (Str.ofString "") t0, .str (mkS (fieldL row look)) t1, .str (Str.ofString "known") t2, .str (Str.ofString "1.0+a_b") t3, .str (Str.ofString "unknown") t4].toArray := ⟨_, ND.1, rfl, _, rfl⟩
  refine new_fi tD fun h2 tk2 hI2 hit2 hk2 hsz2 => pyIter_fi hI2 ?_
  have kg2 : Keeps g h2 := fun b o e => hk2 b o (F1.keep b o e)
  obtain ⟨bm, ob, b1, b2, b3, b4, b5, b6⟩ := T'.bmain
  refine ⟨T'.nolimit.keeps kg2, genexprT rfl (C.keeps fun b o e => kg2 b o (kg b o e)) (hk2 _ _ N16.1) htr fun code h3 tk3 ps3 hx3 hop3 htr3 => ?_⟩
  have kg3 : Keeps g h3 := fun b o e => hx3 b o (neg b o e) (kg2 b o e)
  have h16lt : 16 < h1.objs.size := Heap.lt_size N16.1
  have n16I : (@Ne Nat (h1.objs.size + 1) 16) := by omega
  have n16i : (@Ne Nat h1.objs.size 16) := by omega
  have hsz3 : h1.objs.size + 1 < h3.objs.size := Heap.lt_size (hx3 _ _ n16I hI2)
  refine wpAny_builtinsFor (T'.g.keeps kg3) b1 b2 (kg3 _ _ b3) b4 b5 b6 ?_
  have hIit : (@Ne Nat (h1.objs.size + 1) h1.objs.size) := by omega
  have hcl : cStatics < h1.objs.size := let ⟨_, hn, _⟩ := T'.nolimit; (hn.keeps F1.keep).lt
  refine ⟨h1.objs.size + 1, [h1.objs.size + 1, h1.objs.size, D], [h1.objs.size], _, _, _, fun _ => true, fun i y => ∃ x tx, ([Str.ofString "", mkS (fieldL row look), Str.ofString "known", Str.ofString "1.0+a_b", Str.ofString "unknown"].filter full)[i]? = some x ∧ y = .str (Txt.strip x) tx, rfl, fun A' hA => walks_fi hA hsa hss hIit (Nat.ne_of_lt hDlt), ?st0, ?fp0, T'.nolimit.keeps kg3, ?cst, fun href hhref => ⟨?tests, ?elt⟩, fun a h5 tk5 gs hgb hag hsz5 hk5 W hat => ?_⟩
  case st0 =>
    refine ⟨0, Nat.zero_le _, rfl, hx3 _ _ n16I hI2, ?_, hk2 |> fun _ => ?_⟩
    · obtain ⟨o, e1, e2⟩ := hit2
      exact ⟨o, hx3 _ _ n16i e1, e2⟩
    · obtain ⟨o, e1, e2⟩ := tD
      exact ⟨o, hx3 _ _ hD16 (hk2 _ _ e1), e2⟩
  case fp0 =>
    intro b hb
    show b < h3.objs.size
    simp only [List.mem_cons, List.not_mem_nil, or_false] at hb
    rcases hb with rfl | rfl | rfl
    · exact hsz3
    · exact Nat.lt_of_succ_lt hsz3
    · exact Nat.lt_trans hDlt (Nat.lt_of_succ_lt hsz3)
  case cst =>
    intro hm
    exact absurd hcl (by rw [List.mem_singleton.mp hm]; exact Nat.lt_irrefl _)
  case tests =>
    intro A' E' i v s₂ m₂ _ _ _ _ _
    exact wpAny_pure ⟨rfl, _, _, rfl, fun _ _ e => e⟩
  case elt =>
    intro A' E' i v s₂ m₂ hh hP _ hns hm hal
    obtain ⟨x, u, hx, rfl⟩ := hP
    refine Call_method0 rfl rfl (wpAny_Name (wpAny_loadName_local rfl rfl hns hm ?_))
    exact SB.strip (fun t' k => ⟨⟨x, t', hx, rfl⟩, s₂.heap, k, rfl, fun _ _ e => e⟩) (Nat.le_trans (hss x (List.mem_filter.mp (List.mem_of_getElem? hx)).1) (by decide))
  have F5 := LCg.fr_but F1 (h' := h5) (I := 16) (fun b o hb e => hk5 b o (hx3 b o (fun q => hb (List.mem_singleton.mpr q)) (hk2 b o e))) N16.2.1.symm g16
  have N5 : News g L' h5 [(16, tabObj ps3)] := by
    intro q hq
    rw [List.mem_singleton.mp hq]
    exact ⟨hk5 _ _ hop3, N16.2.1, g16⟩
  intro htk5
  ktr_unf
  have hLlt : L' < h1.objs.size := F1.ns.lt
  refine wpT (n := 1) htk5 ?_
  refine SC.joinGen W.in4_2 (fun i s' st => st.1.typeIs) hat ?fp1 (.head _) (fun i v hP => ?_) (fun s' l hm hi => ?_) ?sz1
  case fp1 =>
    intro b hb
    show b < h5.objs.size
    rw [hsz5]
    rcases List.mem_cons.mp hb with rfl | hb
    · exact Nat.lt_succ_self _
    · rcases List.mem_cons.mp hb with rfl | hb
      · exact Nat.lt_succ_of_lt hag
      · exact Nat.lt_succ_of_lt (Nat.lt_trans (List.mem_range.mp hb) hag)
  case sz1 =>
    rw [passing_all, List.length_range]
    exact Nat.le_trans (List.length_filter_le _ _) (show 5 ≤ sizeLine by decide)
  · obtain ⟨j, _, x, tx, _, rfl⟩ := hP
    exact ⟨_, _, rfl⟩
  have hval := joined_vals hi
  refine ⟨?_, fun tj kj => ?_⟩
  · have hj := StrLaws.joinFits (sep := Str.ofString "-") (texts := l.map (·.1)) (B := 1000) (fun y hy => by
      rw [hval] at hy
      obtain ⟨x, hx, rfl⟩ := List.mem_map.mp hy
      exact Nat.le_trans (strip_le x) (hss x (List.mem_filter.mp hx).1)) (by
      rw [hval, List.length_map]
      have h1 := List.length_filter_le full [Str.ofString "", mkS (fieldL row look), Str.ofString "known", Str.ofString "1.0+a_b", Str.ofString "unknown"]
      have h2 : (Str.ofString "-").length = 1 := by decide
      rw [h2]
      simp only [List.length_cons, List.length_nil] at h1
      omega)
    unfold JoinOk
    rw [hj]
    rfl
  obtain ⟨h6, gs6, dr6, tk6, os6⟩ := s'
  obtain ⟨m1, m2, m3, m4, m5⟩ := hm
  have m3 : dr6 = s.drawn := m3
  have m4 : os6 = s.os := m4
  subst m3
  subst m4
  rw [hval, joined hr hl]
  have kb : ∀ b o, b < h1.objs.size → h5.get? b = some o → h6.get? b = some o := fun b o hb e => m1 b o (fun hm => by
    simp only [List.mem_cons, List.not_mem_nil, or_false] at hm
    rcases hm with q | q
    · have q : b = h3.objs.size := q
      omega
    · have q : b = h1.objs.size := q
      omega) e
  have F6 : Fr g L' h6 _ := ⟨F5.ns.at' fun o e => kb L' o hLlt e, fun b o e => kb b o (Heap.lt_size (F1.keep b o e)) (F5.keep b o e), F5.above⟩
  have N6 : News g L' h6 [(16, tabObj ps3)] := fun q hq => by
    rw [List.mem_singleton.mp hq]
    exact ⟨kb _ _ h16lt (hk5 _ _ hop3), N16.2.1, g16⟩
  have hG6 : AllBare gs6 := by
    refine m2.bare ?_
    exact hG.push hgb
  clear hat W hval hi F5 N5 F1 N1
  have hlS := tx_len row
  intro hk1
  dsimp only at hk1 ⊢
  refine endT_one hk1 (x := Str.ofString "platform") (v := fun t => .str (mkS (tx row ++ sfx look 0)) t) F6 N6 ?_ ?_
  · ktr_unf
    exact ⟨_, _, _, rfl, by assumption, by assumption⟩
  intro h7 tk7 t7 htk7 F7 N7
  dsimp only at N7 ⊢
  refine endT (x := Str.ofString "platform") (v := fun t => .str (mkS (tx row ++ sfx look 1)) t) F7 N7 htk7 ?_ ?_
  · ktr_unf
    try dsimp only
    refine SC.replaceW (by (show @Ne Nat _ _); first | exact Nat.succ_ne_zero _ | exact Nat.ne_of_gt (Nat.lt_succ_self _) | exact Nat.ne_of_lt (Nat.lt_succ_self _) | exact Nat.ne_of_gt (by assumption) | omega) (by (show @Ne Nat _ _); first | exact Nat.succ_ne_zero _ | exact Nat.ne_of_gt (Nat.lt_succ_self _) | exact Nat.ne_of_lt (Nat.lt_succ_self _) | exact Nat.ne_of_gt (by assumption) | omega) (by (show @Ne Nat _ _); first | exact Nat.succ_ne_zero _ | exact Nat.ne_of_gt (Nat.lt_succ_self _) | exact Nat.ne_of_lt (Nat.lt_succ_self _) | exact Nat.ne_of_gt (by assumption) | omega) (by decide) (st_len hl (by decide) hlen) (by decide) ?_
    intro _ _
    rw [(st0 row look)]
    ktr_unf
    exact ⟨rfl, _, _, _, rfl, fr_again (by assumption), by assumption⟩
  clear F7 N7 htk7
  intro h7 tk7 t7 htk7 F7 N7
  dsimp only at N7 ⊢
  refine endT (x := Str.ofString "platform") (v := fun t => .str (mkS (tx row ++ sfx look 2)) t) F7 N7 htk7 ?_ ?_
  · ktr_unf
    try dsimp only
    refine SC.replaceW (by (show @Ne Nat _ _); first | exact Nat.succ_ne_zero _ | exact Nat.ne_of_gt (Nat.lt_succ_self _) | exact Nat.ne_of_lt (Nat.lt_succ_self _) | exact Nat.ne_of_gt (by assumption) | omega) (by (show @Ne Nat _ _); first | exact Nat.succ_ne_zero _ | exact Nat.ne_of_gt (Nat.lt_succ_self _) | exact Nat.ne_of_lt (Nat.lt_succ_self _) | exact Nat.ne_of_gt (by assumption) | omega) (by (show @Ne Nat _ _); first | exact Nat.succ_ne_zero _ | exact Nat.ne_of_gt (Nat.lt_succ_self _) | exact Nat.ne_of_lt (Nat.lt_succ_self _) | exact Nat.ne_of_gt (by assumption) | omega) (by decide) (st_len hl (by decide) hlen) (by decide) ?_
    intro _ _
    rw [(st1 row look)]
    ktr_unf
    exact ⟨rfl, _, _, _, rfl, fr_again (by assumption), by assumption⟩
  clear F7 N7 htk7
  intro h7 tk7 t7 htk7 F7 N7
  dsimp only at N7 ⊢
  refine endT (x := Str.ofString "platform") (v := fun t => .str (mkS (tx row ++ sfx look 3)) t) F7 N7 htk7 ?_ ?_
  · ktr_unf
    try dsimp only
    refine SC.replaceW (by (show @Ne Nat _ _); first | exact Nat.succ_ne_zero _ | exact Nat.ne_of_gt (Nat.lt_succ_self _) | exact Nat.ne_of_lt (Nat.lt_succ_self _) | exact Nat.ne_of_gt (by assumption) | omega) (by (show @Ne Nat _ _); first | exact Nat.succ_ne_zero _ | exact Nat.ne_of_gt (Nat.lt_succ_self _) | exact Nat.ne_of_lt (Nat.lt_succ_self _) | exact Nat.ne_of_gt (by assumption) | omega) (by (show @Ne Nat _ _); first | exact Nat.succ_ne_zero _ | exact Nat.ne_of_gt (Nat.lt_succ_self _) | exact Nat.ne_of_lt (Nat.lt_succ_self _) | exact Nat.ne_of_gt (by assumption) | omega) (by decide) (st_len hl (by decide) hlen) (by decide) ?_
    intro _ _
    rw [(st2 row look)]
    ktr_unf
    exact ⟨rfl, _, _, _, rfl, fr_again (by assumption), by assumption⟩
  clear F7 N7 htk7
  intro h7 tk7 t7 htk7 F7 N7
  dsimp only at N7 ⊢
  refine endT (x := Str.ofString "platform") (v := fun t => .str (mkS (tx row ++ sfx look 4)) t) F7 N7 htk7 ?_ ?_
  · ktr_unf
    try dsimp only
    refine SC.replaceW (by (show @Ne Nat _ _); first | exact Nat.succ_ne_zero _ | exact Nat.ne_of_gt (Nat.lt_succ_self _) | exact Nat.ne_of_lt (Nat.lt_succ_self _) | exact Nat.ne_of_gt (by assumption) | omega) (by (show @Ne Nat _ _); first | exact Nat.succ_ne_zero _ | exact Nat.ne_of_gt (Nat.lt_succ_self _) | exact Nat.ne_of_lt (Nat.lt_succ_self _) | exact Nat.ne_of_gt (by assumption) | omega) (by (show @Ne Nat _ _); first | exact Nat.succ_ne_zero _ | exact Nat.ne_of_gt (Nat.lt_succ_self _) | exact Nat.ne_of_lt (Nat.lt_succ_self _) | exact Nat.ne_of_gt (by assumption) | omega) (by decide) (st_len hl (by decide) hlen) (by decide) ?_
    intro _ _
    rw [(st3 row look)]
    ktr_unf
    exact ⟨rfl, _, _, _, rfl, fr_again (by assumption), by assumption⟩
  clear F7 N7 htk7
  intro h7 tk7 t7 htk7 F7 N7
  dsimp only at N7 ⊢
  refine endT (x := Str.ofString "platform") (v := fun t => .str (mkS (tx row ++ sfx look 5)) t) F7 N7 htk7 ?_ ?_
  · ktr_unf
    try dsimp only
    refine SC.replaceW (by (show @Ne Nat _ _); first | exact Nat.succ_ne_zero _ | exact Nat.ne_of_gt (Nat.lt_succ_self _) | exact Nat.ne_of_lt (Nat.lt_succ_self _) | exact Nat.ne_of_gt (by assumption) | omega) (by (show @Ne Nat _ _); first | exact Nat.succ_ne_zero _ | exact Nat.ne_of_gt (Nat.lt_succ_self _) | exact Nat.ne_of_lt (Nat.lt_succ_self _) | exact Nat.ne_of_gt (by assumption) | omega) (by (show @Ne Nat _ _); first | exact Nat.succ_ne_zero _ | exact Nat.ne_of_gt (Nat.lt_succ_self _) | exact Nat.ne_of_lt (Nat.lt_succ_self _) | exact Nat.ne_of_gt (by assumption) | omega) (by decide) (st_len hl (by decide) hlen) (by decide) ?_
    intro _ _
    rw [(st4 row look)]
    ktr_unf
    exact ⟨rfl, _, _, _, rfl, fr_again (by assumption), by assumption⟩
  clear F7 N7 htk7
  intro h7 tk7 t7 htk7 F7 N7
  dsimp only at N7 ⊢
  refine endT (x := Str.ofString "platform") (v := fun t => .str (mkS (tx row ++ sfx look 6)) t) F7 N7 htk7 ?_ ?_
  · ktr_unf
    try dsimp only
    refine SC.replaceW (by (show @Ne Nat _ _); first | exact Nat.succ_ne_zero _ | exact Nat.ne_of_gt (Nat.lt_succ_self _) | exact Nat.ne_of_lt (Nat.lt_succ_self _) | exact Nat.ne_of_gt (by assumption) | omega) (by (show @Ne Nat _ _); first | exact Nat.succ_ne_zero _ | exact Nat.ne_of_gt (Nat.lt_succ_self _) | exact Nat.ne_of_lt (Nat.lt_succ_self _) | exact Nat.ne_of_gt (by assumption) | omega) (by (show @Ne Nat _ _); first | exact Nat.succ_ne_zero _ | exact Nat.ne_of_gt (Nat.lt_succ_self _) | exact Nat.ne_of_lt (Nat.lt_succ_self _) | exact Nat.ne_of_gt (by assumption) | omega) (by decide) (st_len hl (by decide) hlen) (by decide) ?_
    intro _ _
    rw [(st5 row look)]
    ktr_unf
    exact ⟨rfl, _, _, _, rfl, fr_again (by assumption), by assumption⟩
  clear F7 N7 htk7
  intro h7 tk7 t7 htk7 F7 N7
  dsimp only at N7 ⊢
  refine endT (x := Str.ofString "platform") (v := fun t => .str (mkS (tx row ++ sfx look 7)) t) F7 N7 htk7 ?_ ?_
  · ktr_unf
    try dsimp only
    refine SC.replaceW (by (show @Ne Nat _ _); first | exact Nat.succ_ne_zero _ | exact Nat.ne_of_gt (Nat.lt_succ_self _) | exact Nat.ne_of_lt (Nat.lt_succ_self _) | exact Nat.ne_of_gt (by assumption) | omega) (by (show @Ne Nat _ _); first | exact Nat.succ_ne_zero _ | exact Nat.ne_of_gt (Nat.lt_succ_self _) | exact Nat.ne_of_lt (Nat.lt_succ_self _) | exact Nat.ne_of_gt (by assumption) | omega) (by (show @Ne Nat _ _); first | exact Nat.succ_ne_zero _ | exact Nat.ne_of_gt (Nat.lt_succ_self _) | exact Nat.ne_of_lt (Nat.lt_succ_self _) | exact Nat.ne_of_gt (by assumption) | omega) (by decide) (st_len hl (by decide) hlen) (by decide) ?_
    intro _ _
    rw [(st6 row look)]
    ktr_unf
    exact ⟨rfl, _, _, _, rfl, fr_again (by assumption), by assumption⟩
  clear F7 N7 htk7
  intro h7 tk7 t7 htk7 F7 N7
  dsimp only at N7 ⊢
  refine endT (x := Str.ofString "platform") (v := fun t => .str (mkS (tx row ++ sfx look 8)) t) F7 N7 htk7 ?_ ?_
  · ktr_unf
    try dsimp only
    refine SC.replaceW (by (show @Ne Nat _ _); first | exact Nat.succ_ne_zero _ | exact Nat.ne_of_gt (Nat.lt_succ_self _) | exact Nat.ne_of_lt (Nat.lt_succ_self _) | exact Nat.ne_of_gt (by assumption) | omega) (by (show @Ne Nat _ _); first | exact Nat.succ_ne_zero _ | exact Nat.ne_of_gt (Nat.lt_succ_self _) | exact Nat.ne_of_lt (Nat.lt_succ_self _) | exact Nat.ne_of_gt (by assumption) | omega) (by (show @Ne Nat _ _); first | exact Nat.succ_ne_zero _ | exact Nat.ne_of_gt (Nat.lt_succ_self _) | exact Nat.ne_of_lt (Nat.lt_succ_self _) | exact Nat.ne_of_gt (by assumption) | omega) (by decide) (st_len hl (by decide) hlen) (by decide) ?_
    intro _ _
    rw [(st7 row look)]
    ktr_unf
    exact ⟨rfl, _, _, _, rfl, fr_again (by assumption), by assumption⟩
  clear F7 N7 htk7
  intro h7 tk7 t7 htk7 F7 N7
  dsimp only at N7 ⊢
  refine endT (x := Str.ofString "platform") (v := fun t => .str (mkS (tx (red row) ++ sfxA look 0)) t) F7 N7 htk7 ?_ ?_
  · ktr_unf
    try dsimp only
    refine SC.replaceW (by (show @Ne Nat _ _); first | exact Nat.succ_ne_zero _ | exact Nat.ne_of_gt (Nat.lt_succ_self _) | exact Nat.ne_of_lt (Nat.lt_succ_self _) | exact Nat.ne_of_gt (by assumption) | omega) (by (show @Ne Nat _ _); first | exact Nat.succ_ne_zero _ | exact Nat.ne_of_gt (Nat.lt_succ_self _) | exact Nat.ne_of_lt (Nat.lt_succ_self _) | exact Nat.ne_of_gt (by assumption) | omega) (by (show @Ne Nat _ _); first | exact Nat.succ_ne_zero _ | exact Nat.ne_of_gt (Nat.lt_succ_self _) | exact Nat.ne_of_lt (Nat.lt_succ_self _) | exact Nat.ne_of_gt (by assumption) | omega) (by decide) (st_len hl (by decide) hlen) (by decide) ?_
    intro _ _
    rw [(st8 row hl)]
    ktr_unf
    exact ⟨rfl, _, _, _, rfl, fr_again (by assumption), by assumption⟩
  clear F7 N7 htk7
  intro h7 tk7 t7 htk7 F7 N7
  dsimp only at N7 ⊢
  have hlr : (red row).length ≤ 40 := Nat.le_trans (red_len row) hlen
  refine wpAny_execs_cons (While_inv3 (n₀ := 4) (fun n m news => news = [(16, tabObj ps3)] ∧ ∃ (k : Nat) (t : Tok) (m0 : Str → Option Value), k < 4 ∧ n = 4 - k ∧ m = fun y => if y = Str.ofString "platform" then some (.str (mkS (tx (red row) ++ sfxA look k)) t) else m0 y) F7 N7 ⟨rfl, 0, _, _, by decide, rfl, rfl⟩ (by assumption) ?_)
  rintro n m₁ news₁ h8 tk8 htk8 F8 N8 ⟨rfl, k, t8, m0, hk, rfl, rfl⟩
  ktr_unf
  try dsimp only
  refine SC.replaceW (by (show @Ne Nat _ _); first | exact Nat.succ_ne_zero _ | exact Nat.ne_of_gt (Nat.lt_succ_self _) | exact Nat.ne_of_lt (Nat.lt_succ_self _) | exact Nat.ne_of_gt (by assumption) | omega) (by (show @Ne Nat _ _); first | exact Nat.succ_ne_zero _ | exact Nat.ne_of_gt (Nat.lt_succ_self _) | exact Nat.ne_of_lt (Nat.lt_succ_self _) | exact Nat.ne_of_gt (by assumption) | omega) (by (show @Ne Nat _ _); first | exact Nat.succ_ne_zero _ | exact Nat.ne_of_gt (Nat.lt_succ_self _) | exact Nat.ne_of_lt (Nat.lt_succ_self _) | exact Nat.ne_of_gt (by assumption) | omega) (by decide) (stA_len hl (by omega) hlr) (by decide) ?_
  intro _ _
  rw [st9]
  ktr_unf
  rotate_left
  · rename Fr g _ _ _ => F9
    rename News g _ _ _ => N9
    rename (_ == _) = false => hne
    have hk' := hy_go look hl k hk fun e => by rw [e] at hne; simp at hne
    exact ⟨_, _, _, _, 4 - (k + 1), rfl, F9, N9, (by omega), rfl, k + 1, _, _, hk', rfl, rfl⟩
  rename Fr g _ _ _ => F9
  rename News g _ _ _ => N9
  rename (_ == _) = true => heq
  have he : sfxA look (k + 1) = sfxA look k := List.append_cancel_left (mkS_inj (eq_of_beq heq))
  rw [he, hy_stop look hl k hk he, (sfxA_end look hl).1, ← List.append_assoc] at F9
  clear heq
  unfold WhileStep2
  dsimp only
  refine wpAny_execs_cons (While_inv2 (n₀ := 1) (fun n m news => news = [(16, tabObj ps3)] ∧ n ≤ 1 ∧ ∃ (t : Tok), m (Str.ofString "platform") = some (.str (mkS (tx (red row) ++ endL look ++ List.replicate n 45)) t)) F9 N9 ⟨rfl, Nat.le_refl _, _, rfl⟩ ?_)
  rintro n m₁ news₁ hA tkA FA NA ⟨rfl, hn1, tA, hmA⟩
  replace FA := fr_if FA hmA
  obtain ⟨X, hX⟩ : ∃ X, mkS (tx (red row) ++ endL look ++ List.replicate n 45) = X := ⟨_, rfl⟩
  rw [hX] at FA
  have hXl : X.length = (tx (red row)).length + 21 + n := by
    rw [← hX, mkS_len, List.length_append, List.length_append, List.length_replicate, endL_len look hl]
  have hXs := tx_len (red row)
  have tailN : n ≤ 1 → n ≠ 0 → X = mkS ((tx (red row) ++ endL look) ++ [45]) := fun h1 h0 => by
    rw [← hX, show n = 1 by omega]; rfl
  have tail0 : n = 0 → X = mkS (tx (red row) ++ endL look) := fun h0 => by
    rw [← hX, h0]; simp
  ktr_unf
  · by_cases h0 : n = 0
    · exfalso
      rename (_ == _) = true => heq
      rw [tail0 h0, end_last look hl, last_item] at heq
      revert heq
      decide +kernel
    · rename Fr g _ _ _ => FB
      rename News g _ _ _ => NB
      have hcut : Txt.slice X none (some (-1)) = mkS (tx (red row) ++ endL look ++ List.replicate 0 45) := by
        rw [tailN hn1 h0, cut_to (V := [45]) (n := -1) rfl (by simp)]
        simp
      exact ⟨_, _, _, _, 0, rfl, FB, NB, (by omega), rfl, Nat.zero_le _, _, (if_pos rfl).trans (congrArg (fun z => some (Value.str z _)) hcut)⟩
  · have h0 : n = 0 := by
      refine Classical.byContradiction fun h0 => ?_
      rename (_ == _) = false => heq
      rw [tailN hn1 h0, last_item] at heq
      revert heq
      decide +kernel
    rename Fr g _ _ _ => FB
    rename News g _ _ _ => NB
    rw [tail0 h0]
    exact ret _ _ _ ps3 _ (fun b o hb e => FB.keep b o (hst b o hb e)) (NB _ (.head _)).1 htr3 hG6
  · exfalso
    omega
end

end
section
theorem paired_strs (g : Int → Str) : ∀ {vs ys : List Value} {ks : List Int}, Paired (fun v y => ∃ k t t', v = Value.int k t ∧ y = Value.str (g k) t') vs ys → IntsAre vs ks → StrsAre ys (ks.map g) := by
  intro vs ys ks h
  induction h generalizing ks with
  | nil => intro hi; cases hi; exact .nil
  | cons hf _ ih =>
    intro hi
    cases hi with
    | cons k t r =>
      obtain ⟨k', t1, t2, e, rfl⟩ := hf
      obtain rfl := (Value.int.inj e).1
      exact .cons _ _ (ih r)
/-- the end of a turn that makes a text -/
noncomputable def TurnS (x : Str) (s : Shared) (y : Value) (s' : Shared) : Prop := (∃ t, y = .str x t) ∧ PySem.Keeps s s'
section
variable {prog : Program} {w : World} {A : Around} {E : Value → Shared → Prop} {s : Shared} {h₀ : Heap} {m : Str → Option Value} {news : List (Addr × Obj)} {env : Env}
theorem list_ds {elt iter : Expr} {x : Str} {px : Pos} {scope : Scope} {cl : List (Str × Addr)} {pos : Pos} {Q : Value → Shared → Prop} {ks : List Int} (g : Int → Str) (_F : Fr h₀ env.locals s.heap m) (_N : News h₀ env.locals s.heap news)
    (hclos : closureFor scope env = pure cl) (hcell : ∀ z ∈ scope.names, z.2 ≠ .cell) (hkind : scope.kind = .function)
    (hnames : ∀ z ∈ scope.names, z.2 = .local → scope.names.lookup z.1 = some .local) (hx : scope.names.lookup x = some .local) (hsz : ks.length ≤ sizeLine)
    (h : wpAny (model prog w) A (eval iter env) (fun xv s₁ => wpAny (model prog w) A (pyIter xv) (fun it s₂ => DIter prog w A ks s₁ it s₂ ∧ Fr h₀ env.locals s₁.heap m ∧ News h₀ env.locals s₁.heap news ∧
      (∀ C k t s₃ m₃ E', k ∈ ks → s₃.heap.Ns C m₃ → m₃ x = some (.int k t) → Fr h₀ env.locals s₃.heap m → News h₀ env.locals s₃.heap news →
        wpAny (model prog w) A (eval elt (compEnvC scope cl C env)) (TurnS (g k) s₃) E' s₃) ∧
      (∀ D n ys h' tk, Fr h₀ env.locals h' m → News h₀ env.locals h' ((D, W.listOf ys.toArray n) :: news) → (∀ q ∈ news, q.1 ≠ D) → StrsAre ys (ks.map g) → Q (.ref D) { s₁ with heap := h', toks := tk })) E s₁) E s)
    (hs : ∀ x, foldedSetIterable iter env x = pure x := by intro _; rfl) :
    wpAny (model prog w) A (eval (.ListComp elt [⟨.Name x px, iter, [], 0⟩] scope pos) env) Q E s := by
  refine wpAny_ListComp_free (fun _ => true) (fun v y => ∃ k t t', v = Value.int k t ∧ y = Value.str (g k) t') hclos hcell hkind hnames hx (wpAny_mono h (fun xv s₁ h₁ => wpAny_mono h₁ (fun it s₂ h₂ => ?_) fun _ _ e => e) fun _ _ e => e) hs
  obtain ⟨⟨I, fp, P, St, H₂, tk₂, rfl, rfl, W, hst, hfp, k₂, hI, hP⟩, F, N, hval, hQ⟩ := h₂
  have hIL : env.locals ≠ I := by rintro rfl; obtain ⟨o, _, _, ho, _⟩ := F.ns; rw [hI] at ho; cases ho
  have hI0 : h₀.get? I = none := by
    cases q : h₀.get? I with
    | none => rfl
    | some o => rw [F.keep _ _ q] at hI; cases hI
  have F₂ : Fr h₀ env.locals H₂ m := F.keeps k₂
  have N₂ : News h₀ env.locals H₂ news := kept_news N k₂
  have nI : ∀ q ∈ news, q.1 ≠ I := fun q hq e => by have := (N q hq).1; rw [e, hI] at this; cases this
  have up : ∀ h₃ : Heap, (∀ b o, b ∉ [I] → H₂.get? b = some o → h₃.get? b = some o) → Fr h₀ env.locals h₃ m ∧ News h₀ env.locals h₃ news := fun h₃ hk =>
    ⟨LCg.fr_but F₂ hk hIL hI0, LCg.news_but N₂ hk nI⟩
  refine ⟨I, fp, [I], ks.length, _, St, rfl, W.bound, hsz, hst, hfp, ⟨?_, ?_⟩, ?_⟩
  · intro C i v s₃ m₃ E' hc hv hn hm hk _
    exact wpAny_tests_nil ⟨rfl, _, _, rfl, fun _ _ e => e⟩
  · intro C i v s₃ m₃ E' hc hv hp' hn hm hk _
    obtain ⟨k, t, hk1, rfl⟩ := hP i v hv.1 hv.2
    obtain ⟨F₃, N₃⟩ := up s₃.heap hk
    refine wpAny_mono (hval C k t s₃ m₃ E' (List.mem_of_getElem? hk1) hn hm F₃ N₃) (fun y' s₄ h₄ => ?_) fun _ _ e => e
    obtain ⟨⟨t', rfl⟩, h₄⟩ := h₄
    exact ⟨⟨k, t, t', rfl, rfl⟩, h₄⟩
  · intro D h' tk ys vs hD hl hpl hlen hPv hF hk
    obtain ⟨F₃, N₃⟩ := up h' hk
    have hLD : env.locals ≠ D := by rintro rfl; obtain ⟨o, _, _, ho, _⟩ := F₂.ns; rw [hD] at ho; cases ho
    have hD0 : h₀.get? D = none := by
      cases q : h₀.get? D with
      | none => rfl
      | some o => rw [F₂.keep _ _ q] at hD; cases hD
    have nD : ∀ q ∈ news, q.1 ≠ D := fun q hq e => by have := (N₂ q hq).1; rw [e, hD] at this; cases this
    obtain ⟨n, hn⟩ := hpl
    rw [List.filter_eq_self.mpr (fun _ _ => rfl)] at hF
    refine hQ D n ys.toList h' tk F₃ (fun q hq => ?_) nD (paired_strs g hF (ints_of_places hlen fun j v hj => hP j v (hPv j v hj).1 (hPv j v hj).2))
    rcases List.mem_cons.mp hq with rfl | hq
    · exact ⟨hn, Ne.symm hLD, hD0⟩
    · exact N₃ q hq
theorem iter_rangeG {E : Value → Shared → Prop} {R : Result → Shared → Prop} {x : Str} {px : Pos} {body : List Stmt} {r : Addr} {a₀ b₀ : Int} {t₀ u₀ v₀ : Tok} {n : Nat} {m₀ : Str → Option Value} (J : Nat → Array GenState → (Str → Option Value) → List (Addr × Obj) → Prop)
    (hh : A.handled = none) (hx : env.kindOf x = some .local) (hp : (env.scope.kind == .class || (env.scope.kind == .module && env.locals != env.globals)) = false)
    (hr : IsRange s.heap r a₀ b₀ 1 t₀ u₀ v₀) (hsmall : Builtin.Range.small a₀ b₀ 1 = true) (hn : Builtin.Range.rangeSize a₀ b₀ 1 = (n : Int)) (F : Fr h₀ env.locals s.heap m₀) (N : News h₀ env.locals s.heap news) (hj : J 0 s.gens m₀ news)
    (step : ∀ i t m₁ news₁ h tk gs it o, i < n → (∀ p ∈ news₁, p.1 ≠ it) → J i gs m₁ news₁ → Fr h₀ env.locals h (fun y => if y = x then some (.int (a₀ + (i : Int)) t) else m₁ y) → News h₀ env.locals h ((it, o) :: news₁) →
      wpAny (model prog w) A (execs body env) (fun f s' => (f = .next ∨ f = .cont) ∧ ∃ h' tk' gs' m' news', s' = { s with heap := h', toks := tk', gens := gs' } ∧ Fr h₀ env.locals h' m' ∧ News h₀ env.locals h' ((it, o) :: news') ∧ (∀ p ∈ news', p.1 ≠ it) ∧ J (i + 1) gs' m' news')
        (notedBy (model prog w) A env fun e s' => R (.error e) s') { s with heap := h, toks := tk, gens := gs })
    (done : ∀ m₁ news₁ h tk gs, J n gs m₁ news₁ → Fr h₀ env.locals h m₁ → News h₀ env.locals h news₁ → R (.ok .next) { s with heap := h, toks := tk, gens := gs }) :
    wpAny (model prog w) A (pyIter (.ref r)) (fun it s₂ => codeAny (model prog w) A (.forLoop (.Name x px) it body [] env) R s₂) E s := by
  refine wpAny_pyIter_range hr hsmall ?_
  have W : Walks prog w A s.heap.objs.size [s.heap.objs.size] [s.heap.objs.size] n (fun i v => i < n ∧ ∃ t, v = .int (a₀ + i * 1) t)
      (fun i h => IsRangeIter h s.heap.objs.size (a₀ + (i : Nat) * 1) ((n : Int) - (i : Nat)) 1) := (Walks.range hh _ a₀ 1 n).bound
  generalize hI : s.heap.objs.size = I at W ⊢
  have hIL : env.locals ≠ I := fun e => absurd F.ns.lt (by rw [hI, e]; exact Nat.lt_irrefl _)
  have hI0 : h₀.get? I = none := hI ▸ next_is_new F
  refine codeAny_forLoop
    (fun k s' => ∃ h' tk gs m' news' i, s' = { s with heap := h', toks := tk, gens := gs } ∧ IsRangeIter h' I (a₀ + (i : Nat) * 1) ((n : Int) - (i : Nat)) 1 ∧ Fr h₀ env.locals h' m' ∧ News h₀ env.locals h' news' ∧ (∀ p ∈ news', p.1 ≠ I) ∧ J i gs m' news' ∧ i ≤ n ∧ k = n + 1 - i) ?_ (n + 1)
    ⟨_, s.toks, s.gens, m₀, news, 0, rfl, ?_, F.push _, (fun p hp => ⟨Heap.get?_push_of_some _ (N p hp).1, (N p hp).2⟩), (fun p hp e => ?_), hj, Nat.zero_le _, rfl⟩
  · rintro k s' ⟨h', tk, gs, m', news', i, rfl, hst', F', N', hnw', hJ, hi, rfl⟩
    have next : ∀ h₁ : Heap, (∀ b o, b ∉ [I] → h'.get? b = some o → h₁.get? b = some o) → Fr h₀ env.locals h₁ m' ∧ News h₀ env.locals h₁ news' := fun h₁ hk₁ =>
      ⟨LCg.fr_but F' hk₁ hIL hI0, LCg.news_but N' hk₁ hnw'⟩
    by_cases hlt : i < n
    · refine W.item i _ _ _ hlt hst' fun v h₁ tk₁ hP hst₁ hk₁ => ?_
      obtain ⟨_, t, rfl⟩ := hP
      rw [Int.mul_one]
      obtain ⟨F₁, N₁⟩ := next h₁ hk₁
      refine wpAny_assign_Name (wpAny_storeName_local hx F₁.ns (fun h₂ hn₂ hs₂ => ?_) hp)
      have F₂ := F₁.set hn₂ hs₂
      have gI₂ : h₂.get? I = h₁.get? I := hs₂.2 I (Ne.symm hIL)
      obtain ⟨o, ho, hst₂⟩ : ∃ o, h₂.get? I = some o ∧ ∀ h3 : Heap, h3.get? I = some o → IsRangeIter h3 I (a₀ + ((i + 1 : Nat) : Int) * 1) ((n : Int) - ((i + 1 : Nat) : Int)) 1 := ⟨_, gI₂.trans hst₁, fun _ e => e⟩
      refine wpAny_mono (step i t m' news' h₂ _ gs I o hlt hnw' hJ F₂ (fun p hp => ?_)) (fun f s₃ h₃ => ?_) fun _ _ e => e
      · rcases List.mem_cons.mp hp with rfl | hp
        · exact ⟨ho, Ne.symm hIL, hI0⟩
        · exact N₁.set hs₂ p hp
      · obtain ⟨hf, h4, tk4, gs4, m4, news4, rfl, F4, N4, ha4, hJ4⟩ := h₃
        have fin : ∃ k', k' < n + 1 - i ∧ ∃ h' tk gs m' news' i, ({ s with heap := h4, toks := tk4, gens := gs4 } : Shared) = { s with heap := h', toks := tk, gens := gs } ∧ IsRangeIter h' I (a₀ + (i : Nat) * 1) ((n : Int) - (i : Nat)) 1 ∧ Fr h₀ env.locals h' m' ∧ News h₀ env.locals h' news' ∧ (∀ p ∈ news', p.1 ≠ I) ∧ J i gs m' news' ∧ i ≤ n ∧ k' = n + 1 - i :=
          ⟨n + 1 - (i + 1), by omega, h4, tk4, gs4, m4, news4, i + 1, rfl, hst₂ _ (N4 _ (.head _)).1, F4, fun p hp => N4 p (.tail _ hp), ha4, hJ4, hlt, rfl⟩
        rcases hf with rfl | rfl
        · exact fin
        · exact fin
    · have hin : i = n := by omega
      subst hin
      refine W.done _ _ _ hst' fun h₁ tk₁ hk₁ => wpAny_execs_nil ?_
      obtain ⟨F₁, N₁⟩ := next h₁ hk₁
      exact done _ _ _ _ _ hJ F₁ N₁
  · show IsRangeIter _ _ _ _ _
    rw [← hn, ← hI]
    simpa using Heap.get?_push_size _ rfl
  · exact absurd (Heap.lt_size (N p hp).1) (by rw [e, ← hI]; exact Nat.lt_irrefl _)
end

end
section
noncomputable def goneL : Nat → List Int → List Int
  | 0, _ => []
  | n + 1, r => (((tx r).length : Int) - ((tx (red r)).length : Int)) :: goneL n (red r)
noncomputable def redN : Nat → List Int → List Int
  | 0, r => r
  | n + 1, r => redN n (red r)
theorem redN_succ : ∀ n r, redN (n + 1) r = red (redN n r)
  | 0, _ => rfl
  | n + 1, r => redN_succ n (red r)
theorem redN_len : ∀ n r, (redN n r).length ≤ r.length
  | 0, _ => Nat.le_refl _
  | n + 1, r => Nat.le_trans (redN_len n (red r)) (red_len r)
theorem goneL_len : ∀ n r, (goneL n r).length = n
  | 0, _ => rfl
  | n + 1, r => congrArg (· + 1) (goneL_len n (red r))
theorem goneL_succ : ∀ n r, goneL (n + 1) r = goneL n r ++ [((tx (redN n r)).length : Int) - ((tx (redN (n + 1) r)).length : Int)]
  | 0, _ => rfl
  | n + 1, r => by
    have h := goneL_succ n (red r)
    show _ :: goneL (n + 1) (red r) = _ :: goneL n (red r) ++ _
    rw [h]
    rfl
section
variable {prog : Program} {w : World} {A : Around} {E : Value → Shared → Prop} {s : Shared} {K : Frag} {mg mb : Str → Option Value} {p : Program} {loose : List Str} {mean : ExcName → Option Value} {h₀ : Heap}
theorem DIter.list {l : Addr} {vs : List Value} {ks : List Int} (hh : A.handled = none) (hl : s.heap.IsList l vs.toArray) (hi : IntsAre vs ks) :
    wpAny (model prog w) A (pyIter (.ref l)) (DIter prog w A ks s) E s := by
  obtain ⟨ol, hol, _⟩ := id hl
  have hlt : l < s.heap.objs.size := Heap.lt_size hol
  have hne : l ≠ s.heap.objs.size := Nat.ne_of_lt hlt
  refine wpAny_pyIter_list hl ?_
  have W := Walks.list (prog := prog) (w := w) hh s.heap.objs.size l hne vs.toArray
  have hlen : vs.toArray.size = ks.length := by simp [hi.length]
  rw [hlen] at W
  refine ⟨s.heap.objs.size, _, _, _, _, _, rfl, rfl, W, ⟨⟨_, Heap.get?_push_size _ rfl, rfl, rfl⟩, hl.push _⟩, fun b hb => ?_, fun b o e => Heap.get?_push_of_some _ e, Heap.get?_none_of_le (Nat.le_refl _), ?_⟩
  · rw [Heap.size_push]
    rcases List.mem_cons.mp hb with rfl | hb
    · exact Nat.lt_succ_self _
    · rw [List.mem_singleton.mp hb]; exact Nat.lt_succ_of_lt hlt
  · intro i v _ hv
    have hv : vs[i]? = some v := by simpa using hv
    have hi' : i < ks.length := by rw [← hi.length]; exact (List.getElem?_eq_some_iff.mp hv).1
    obtain ⟨t, ht⟩ := hi.get i _ (List.getElem?_eq_getElem hi')
    rw [hv] at ht
    exact ⟨_, t, List.getElem?_eq_getElem hi', Option.some.inj ht⟩
/-- entering a def, one object of the heap laid aside -/
theorem enterP1 {R : Result → Shared → Prop} {name qual : Str} {params : Arguments} {body : List Stmt} {scope : Scope} {dV kV doc pm cdv ct oc : Value} {an od : Option Addr} {osl : Array (Option Value)} {f P : Addr} {op : Obj} {args : Args} {binds : List (Str × Value)}
    (k0 : Keeps h₀ s.heap) (X₀ : K.In h₀) (T : Top p loose mean mg mb h₀) (hop : s.heap.get? P = some op) (hP0 : h₀.get? P = none)
    (ho : K.lookup f = some ⟨oc, od, .func (fnOf name qual params body scope dV kV doc pm an cdv ct), osl⟩) (hcd : codeIn K cdv qual = true) (hroom : A.depth < recursionLimit)
    (hbind : BindsTo s (fnOf name qual params body scope dV kV doc pm an cdv ct) args binds) (hloc : ∀ y ∈ binds, scope.names.lookup y.1 = some .local)
    (h : ∀ g L' h₁, Keeps h₀ g → (∀ b o, b ≠ P → s.heap.get? b = some o → g.get? b = some o) → Fr g L' h₁ (fun y => binds.reverse.lookup y) → News g L' h₁ [(P, op)] → K.In g → Top p loose mean mg mb g →
      wpAny (model prog w) (A.deeper (envOf qual scope L' f cdv)) (execs body (envOf qual scope L' f cdv))
        (fun fl s' => R (.ok (.ret (match fl with | .ret v => v | _ => .none))) s')
        (fun e s' => wpAny (model prog w) (A.deeper (envOf qual scope L' f cdv)) (leaving (envOf qual scope L' f cdv) e) (fun _ s'' => R (.error e) s'') (fun e' s'' => R (.error e') s'') s')
        { s with heap := h₁, toks := s.toks + binds.length })
    (hco : scope.isCoroutine = false) (hgen : scope.isGenerator = false) (hk : scope.kind = .function)
    (hcell : ∀ x ∈ scope.names, x.2 ≠ .cell) : codeAny (model prog w) A (.call (.ref f) args) R s := by
  have XS : K.In s.heap := X₀.keeps k0
  have hPlt : P < s.heap.objs.size := Heap.lt_size hop
  refine codeAny_call_def (fd := fnX name qual params body scope [] dV kV doc pm an cdv ct) (body := body) (binds := binds) hroom (XS _ _ ho) rfl (T.nolimit.keeps k0) (codeRec_of XS hcd) rfl hbind hcell hloc (fun h₁ hns hk₁ => ?_) hco hgen hk
  have st : Keeps h₀ (hideAll s.heap [P]) := fun b o e => hideAll_get _ (k0 b o e) (fun q => by
    rw [List.mem_singleton.mp q, hP0] at e; cases e)
  exact h (hideAll s.heap [P]) s.heap.objs.size h₁ st (fun b o hb e => hideAll_get _ e (fun q => hb (List.mem_singleton.mp q))) ⟨hns, fun b o e => hk₁ b o (of_hideAll _ e), Nat.le_of_eq (hideAll_size _ _)⟩
    (fun q hq => by
      rw [List.mem_singleton.mp hq]
      exact ⟨hk₁ _ _ hop, Nat.ne_of_lt hPlt, hideAll_none _ (List.mem_singleton.mpr rfl)⟩) (X₀.keeps st) (T.keeps st)
end
noncomputable def wordOf (k : Int) : Str := if k = 1 then Str.ofString "un" else Str.ofString "known"
theorem wordOf_eq (k : Int) : wordOf k = mkS (if k = 1 then unL else knL) := by
  unfold wordOf
  split
  · decide +kernel
  · decide +kernel
theorem join_tx (row : List Int) : Txt.join (Str.ofString "") (row.map wordOf) = mkS (tx row) := by
  unfold Txt.join
  rw [StrLaws.glued_eq_join]
  have e : Str.ofString "" = mkS [] := by decide +kernel
  rw [e]
  induction row with
  | nil => rfl
  | cons a r ih =>
    rw [tx_cons, mkS_cat, ← wordOf_eq]
    cases r with
    | nil => show wordOf a = wordOf a ++ mkS []; rw [wordOf_eq, ← mkS_cat, List.append_nil]
    | cons b r =>
      rw [← ih]
      show wordOf a ++ mkS [] ++ _ = _
      rw [wordOf_eq, ← mkS_cat, List.append_nil]
theorem sum_words : ∀ row : List Int, ((row.map wordOf).map (·.length)).sum ≤ 5 * row.length
  | [] => Nat.le_refl _
  | a :: r => by
    have h := sum_words r
    have h1 : (wordOf a).length ≤ 5 := by
      rw [wordOf_eq, mkS_len]
      split <;> decide
    simp only [List.map_cons, List.sum_cons, List.length_cons]
    omega
theorem end_a (look : Nat) (h : (look : Int) = 0) : Str.ofString "__Known-known-1.0+a_b" = mkS (endL look) := by
  have h : look = 0 := by omega
  subst h
  decide +kernel
theorem end_b (look : Nat) (h : (look : Int) ≠ 0) : Str.ofString "-_Known-known-1.0+a_b" = mkS (endL look) := by
  have h : look ≠ 0 := by omega
  unfold endL
  rw [if_neg h]
  decide +kernel
inductive EndS (h₀ : Heap) (L : Addr) (x : Str) (v : Tok → Value) (m : Str → Option Value) (news : List (Addr × Obj)) (s : Shared) (f : Flow) (s' : Shared) : Prop
  | mk (p0 : f = .next) (h' : Heap) (tk' : Nat) (t : Tok) (q0 : s' = { s with heap := h', toks := tk' }) (q1 : Fr h₀ L h' (fun y => if y = x then some (v t) else m y)) (q2 : News h₀ L h' news) : EndS h₀ L x v m news s f s'
theorem ends_mono {prog : Program} {w : World} {A : Around} {E : Value → Shared → Prop} {s : Shared} {h₀ : Heap} {L : Addr} {env : Env} {x : Str} {v : Tok → Value} {m : Str → Option Value} {news : List (Addr × Obj)} {st : Stmt} {r : List Stmt} {Q : Flow → Shared → Prop}
    (_F : Fr h₀ L s.heap m) (_N : News h₀ L s.heap news) (h : wpAny (model prog w) A (exec st env) (EndS h₀ L x v m news s) E s)
    (rest : ∀ h' tk' t, Fr h₀ L h' (fun y => if y = x then some (v t) else m y) → News h₀ L h' news → wpAny (model prog w) A (execs r env) Q E { s with heap := h', toks := tk' }) :
    wpAny (model prog w) A (execs (st :: r) env) Q E s := by
  refine wpAny_execs_cons (wpAny_mono h (fun f s' hf => ?_) fun _ _ e => e)
  obtain ⟨rfl, h', tk', t, rfl, F, N⟩ := hf
  exact rest h' tk' t F N
theorem mul_eq : ∀ look : Nat, look < 8 → Txt.mul (mkS [markL look]) 4 = mkS [markL look, markL look, markL look, markL look] := by decide +kernel
theorem arg_eq (r : List Int) (c : Nat) : Str.ofString " " ++ mkS (tx r) ++ mkS [c] ++ Str.ofString " Known" ++ mkS [c, c, c, c] = mkS (32 :: (tx r ++ (c :: 32 :: (knownL ++ [c, c, c, c])))) := by
  rw [show Str.ofString " " = mkS [32] by decide +kernel, show Str.ofString " Known" = mkS (32 :: knownL) by decide +kernel, ← mkS_cat, ← mkS_cat, ← mkS_cat, ← mkS_cat]
  simp [knownL]
theorem mark_eq : ∀ look : Nat, look < 8 → Txt.item (Str.ofString " /\\:;\"()") (look : Int) = mkS [markL look] := by decide +kernel
section
variable {prog : Program} {w : World} {p : Program} {loose : List Str} {mean : ExcName → Option Value} {mg mb : Str → Option Value}
set_option maxRecDepth 100000 in
set_option maxHeartbeats 8000000 in
theorem tells_vanish (l : Addr) (vs : List Value) (row : List Int) (look n : Nat) (t1 : Tok) (hi : IntsAre vs row) (hlen : row.length ≤ 40) (hl : look < 8) (hsum : row.sum = (n : Int)) (hn : n ≤ 40) (hne : ∀ i, i < n → redN i row ≠ [])
    (dp un : Nat) (fr : Option (List Env)) (gd : Option (List Code)) (s : Shared) (Q E : Value → Shared → Prop) (h₀ : Heap) (ps : Array Value)
    (k0 : Keeps h₀ s.heap) (X : (hd.heap_1 w.params).In h₀) (T : Top p loose mean mg mb h₀) (hp0 : h₀.get? 16 = none) (C : CodeHd h₀ 20 16) (hop : s.heap.get? 16 = some (tabObj ps)) (htr : TriplesOk ps.toList) (hG : AllBare s.gens) (hls : s.heap.IsList l vs.toArray) (hd : dp + 12 < recursionLimit) (hu : un + 100 < cLine)
    (ret : ∀ h' tk' gs' ps' D ys t, (∀ b o, b ≠ 16 → s.heap.get? b = some o → h'.get? b = some o) → h'.get? 16 = some (tabObj ps') → TriplesOk ps'.toList → AllBare gs' → s.heap.get? D = none → h'.get? D = some (W.listOf (List.toArray (ys ++ [Value.str (mkS (tx (redN n row))) t])) 0) → IntsAre ys (goneL n row) → Q (.ref D) { s with heap := h', toks := tk', gens := gs' }) :
    wpAny (model prog w) (arr dp un fr gd) (call (.ref 167) [.ref l, .int look t1]) Q E s := by
  refine wpAny_call ?_
  k_dflt (refine' enterP1 k0 X T hop hp0 ?k6 ?k7 ?k8 ?k9 ?kB ?_ ?c2 ?c3 ?c4 ?c5; (case k6 => k_is); (case k7 => k_is); (case k8 => first | exact room0 (by assumption) | ktr_room); (case k9 => exact BindsTo.of_eq rfl); (case kB => exact locs rfl); (case c2 => exact rfl); (case c3 => exact rfl); (case c4 => exact rfl); (case c5 => decide); intro g L' h1 kg kg' F' N' X' T'; (try dsimp only); (try k_fold))
  have hst : ∀ b o, b ≠ 16 → s.heap.get? b = some o → g.get? b = some o := kg'
  clear kg'
  have hl16 : l ≠ 16 := by
    rintro rfl
    obtain ⟨o, e1, _, _, e2⟩ := hls
    rw [hop] at e1; cases e1
    cases e2
  have hlg : g.IsList l vs.toArray := by
    obtain ⟨o, e1, e2⟩ := hls
    exact ⟨o, hst _ _ hl16 e1, e2⟩
  ktr_unf
  rename Fr g _ _ _ => F1
  rename News g _ _ _ => N1
  refine list_ds (g := wordOf) (ks := row) F1 N1 (by rfl) (by decide) (by rfl) (by decide) (by rfl) (by rw [sizeLine_eq]; omega) ?_
  ktr_unf
  rename Fr g _ _ _ => F2
  rename News g _ _ _ => N2
  refine wpAny_mono (DIter.list (by rfl) (hlg.at fun o e => F2.keep l o e) hi) (fun it s₂ hit => ⟨hit, F2, N2, ?val, ?cont⟩) fun _ _ e => e
  case val =>
    intro C k t s₃ m₃ E' hk hn' hm F3 N3
    ktr_unf
    · exact ⟨⟨_, by unfold wordOf; rw [if_pos (by assumption)]⟩, _, _, rfl, fun _ _ e => e⟩
    · exact ⟨⟨_, by unfold wordOf; rw [if_neg (by assumption)]⟩, _, _, rfl, fun _ _ e => e⟩
  case cont =>
    intro D2 n2 ys2 h3 tk3 F3 N3 nD2 hI2
    ktr_unf
    refine join_listW (s := { s with heap := h3, toks := tk3 }) ⟨_, (N3 _ (.head _)).1, rfl, _, rfl⟩ hI2 (by decide) (by have := sum_words row; rw [List.length_map]; omega) ?_
    intro t5 k5
    rw [join_tx]
    repeat' ((fail_if_success (with_reducible show wpAny _ _ (execs _ _) _ _ _)); tb_rel)
    have hxl := tx_len row
    have hxm := mkS_len (tx row)
    refine wpAny_execs_cons ?_
    repeat' ((fail_if_success (with_reducible show wpAny _ _ (execs _ _) _ _ _)); tb_rel)
    rename Fr g _ _ _ => F4
    rename News g _ _ _ => N4
    rw [mark_eq look hl] at F4
    refine ends_mono (x := Str.ofString "end") (v := fun t => .str (mkS (endL look)) t) F4 N4 ?_ ?_
    · repeat' ((fail_if_success (with_reducible show wpAny _ _ (execs _ _) _ _ _)); tb_rel)
      · rename Fr g _ _ _ => F5
        rename News g _ _ _ => N5
        rename ((look : Int) = 0) => h0
        rw [end_a look h0] at F5
        exact ⟨rfl, _, _, _, rfl, F5, N5⟩
      · rename Fr g _ _ _ => F5
        rename News g _ _ _ => N5
        rename ((look : Int) ≠ 0) => h0
        rw [end_b look h0] at F5
        exact ⟨rfl, _, _, _, rfl, F5, N5⟩
    intro h6 tk6 t6 F6 N6
    have hel := endL_len look hl
    have hem := mkS_len (endL look)
    ktr_unf
    refine wpAny_For ?_
    ktr_unf
    rename Fr g _ _ _ => F7
    rename News g _ _ (_ :: _) => N7
    rename IsRange _ _ _ _ _ _ _ _ => hR
    rw [hsum] at hR
    refine iter_rangeG (n := n) (fun i gs m news => AllBare gs ∧ (∃ t, m (Str.ofString "text") = some (.str (mkS (tx (redN i row))) t)) ∧ m (Str.ofString "mark") = _ ∧ m (Str.ofString "end") = _ ∧ (∃ lg us nn ps', m (Str.ofString "gone") = some (.ref lg) ∧ IntsAre us (goneL i row) ∧ TriplesOk ps'.toList ∧ news = [(lg, W.listOf us.toArray nn), (D2, W.listOf ys2.toArray n2), (16, tabObj ps')] ∧ @Ne Nat D2 lg)) (by rfl) (by rfl) (by rfl) hR (small_one (by omega) (by omega) (by omega) (by omega)) (rangeSize_nat 0 n) F7 N7 ⟨hG, ⟨_, rfl⟩, rfl, rfl, _, [], _, ps, rfl, .nil, htr, rfl, ?_⟩ ?_ ?_
    · exact Nat.ne_of_lt (And.left (by assumption))
    · rintro i t m₁ news₁ h8 tk8 gs it o hin hoff ⟨hGi, ⟨tt, hmt⟩, hmm, hme, lg, us, nn, ps', hmg, hIu, htr', rfl, hDlg⟩ F8 N8
      replace F8 := fr_if (fr_if (fr_if (fr_if F8 ((if_neg (by decide)).trans hmg)) ((if_neg (by decide)).trans ((if_neg (by decide)).trans hme))) ((if_neg (by decide)).trans ((if_neg (by decide)).trans ((if_neg (by decide)).trans hmm)))) ((if_neg (by decide)).trans ((if_neg (by decide)).trans ((if_neg (by decide)).trans ((if_neg (by decide)).trans hmt))))
      dsimp only at F8
      clear F7 N7 hR hmm hme hmg hmt
      have hri : (redN i row).length ≤ 40 := Nat.le_trans (redN_len i row) hlen
      have hxi := tx_len (redN i row)
      have hxmi := mkS_len (tx (redN i row))
      have hmk : (mkS [markL look]).length = 1 := mkS_len _
      ktr_unf
      rw [mul_eq look hl]
      have hm4 : (mkS [markL look, markL look, markL look, markL look]).length = 4 := mkS_len _
      ktr_unf
      rw [arg_eq]
      rename Fr g _ _ _ => F9
      rename News g _ _ _ => N9
      have hN16 := N9 (16, tabObj ps') (by k_mem)
      refine tells_plat (redN i row) look (hne i hin) hl hri _ _ _ _ _ _ _ _ _ _ _ _ g ps' F9.keep X' T' hN16.2.2 (C.keeps kg) hN16.1 htr' hGi (by show dp + 1 + 6 < _; exact room_le (k := 7) (by assumption) (by decide)) (by show un + 3 + 60 < _; exact room_le (k := 63) (by assumption) (by decide)) ?_
      intro h10 tk10 gs10 ps10 t10 kb hop10 htr10 hG10
      rw [← redN_succ]
      have F10 := LCg.fr_but F9 (h' := h10) (I := 16) (fun b o hb e => kb b o (fun q => hb (List.mem_singleton.mpr q)) e) hN16.2.1.symm hN16.2.2
      have hD16 : D2 ≠ 16 := nD2 (16, tabObj ps) (by k_mem) |> Ne.symm
      have hlg16 : lg ≠ 16 := by
        intro e
        have e1 := (N9 (lg, W.listOf us.toArray nn) (by k_mem)).1
        have e2 := hN16.1
        rw [e] at e1
        have e3 := Option.some.inj (e1.symm.trans e2)
        have e4 := congrArg Obj.data e3
        cases e4
      have N10 : News g L' h10 [(it, o), (lg, W.listOf us.toArray nn), (D2, W.listOf ys2.toArray n2), (16, tabObj ps10)] := by
        intro q hq
        simp only [List.mem_cons, List.not_mem_nil, or_false] at hq
        rcases hq with rfl | rfl | rfl | rfl
        · exact ⟨kb _ _ (hoff (16, tabObj ps') (by k_mem)).symm (N9 _ (.head _)).1, (N9 _ (.head _)).2⟩
        · exact ⟨kb _ _ hlg16 (N9 _ (by k_mem)).1, (N9 (lg, W.listOf us.toArray nn) (by k_mem)).2⟩
        · exact ⟨kb _ _ hD16 (N9 _ (by k_mem)).1, (N9 (D2, W.listOf ys2.toArray n2) (by k_mem)).2⟩
        · exact ⟨hop10, hN16.2⟩
      clear F9 N9 hxi hxmi hmk hm4 kb
      have hri1 : (redN (i + 1) row).length ≤ 40 := Nat.le_trans (redN_len (i + 1) row) hlen
      have hxi1 := tx_len (redN (i + 1) row)
      have hxi := tx_len (redN i row)
      have htold : (mkS (tx (redN (i + 1) row) ++ endL look)).length = (tx (redN (i + 1) row)).length + 21 := by rw [mkS_len, List.length_append, hel]
      repeat' ((fail_if_success (with_reducible show wpAny _ _ (execs _ _) _ _ _)); tb_rel)
      rename Fr g _ _ _ => F11
      rename News g _ _ _ => N11
      refine ends_mono (x := Str.ofString "rest") (v := fun t => .str (mkS (tx (redN (i + 1) row))) t) F11 N11 ?_ ?_
      · repeat' ((fail_if_success (with_reducible show wpAny _ _ (execs _ _) _ _ _)); tb_rel)
        · rename Fr g _ _ _ => FA
          rename News g _ _ _ => NA
          rw [cut_to (n := -21) (by rw [hel]; rfl) (fun e => by rw [e] at hel; cases hel)] at FA
          exact ⟨rfl, _, _, _, rfl, FA, NA⟩
        · exfalso
          rename (_ == _) = false => hne'
          rw [cut_from (n := -21) (by rw [hel]; rfl) (fun e => by rw [e] at hel; cases hel)] at hne'
          simp at hne'
      intro h12 tk12 t12 F12 N12
      have hxm0 := mkS_len (tx (redN i row))
      have hxm1 := mkS_len (tx (redN (i + 1) row))
      ktr_unf
      have hitlg : it ≠ lg := fun e => hoff (lg, W.listOf us.toArray nn) (by k_mem) e.symm
      refine append_K (its := us.toArray) (n := nn) F12 N12 (Upd.tail hitlg (Upd.head ?ud)) ?_ ?usz
      case ud =>
        intro q hq
        simp only [List.mem_cons, List.not_mem_nil, or_false] at hq
        rcases hq with rfl | rfl
        · exact hDlg
        · exact hlg16.symm
      case usz => rw [sizeLine_eq]; have := hIu.length; rw [goneL_len] at this; simp only [List.size_toArray]; omega
      intro hB FB NB
      repeat' ((fail_if_success (with_reducible show wpAny _ _ (execs _ _) _ _ _)); tb_rel)
      refine wpAny_execs_cons ?_
      repeat' ((fail_if_success (with_reducible show wpAny _ _ (execs _ _) _ _ _)); tb_rel)
      refine wpAny_execs_nil ?_
      rename Fr g _ _ _ => FC
      rename News g _ _ _ => NC
      refine ⟨.inl rfl, _, _, _, _, _, rfl, FC, NC, ?_, hG10, ⟨_, if_pos rfl⟩, ?_, ?_, lg, _, _, ps10, ?_, ?_, htr10, rfl, hDlg⟩
      · intro q hq
        simp only [List.mem_cons, List.not_mem_nil, or_false] at hq
        rcases hq with rfl | rfl | rfl
        · exact hitlg.symm
        · exact hoff (D2, W.listOf ys2.toArray n2) (by k_mem)
        · exact hoff (16, tabObj ps') (by k_mem)
      · repeat first | exact if_pos rfl | refine (if_neg (by decide)).trans ?_
      · repeat first | exact if_pos rfl | refine (if_neg (by decide)).trans ?_
      · repeat first | exact if_pos rfl | refine (if_neg (by decide)).trans ?_
      · rw [goneL_succ, List.concat_eq_append, hxm0, hxm1]
        exact ints_append_one hIu _ _
    · rintro m₁ news₁ h8 tk8 gs ⟨hGi, ⟨tt, hmt⟩, hmm, hme, lg, us, nn, ps', hmg, hIu, htr', rfl, hDlg⟩ F8 N8
      replace F8 := fr_if (fr_if F8 hmg) ((if_neg (by decide)).trans hmt)
      try dsimp only at F8
      clear F7 N7 hR hmm hme hmg hmt
      ktr_unf
      rename Fr g _ _ _ => F9
      rename News g _ _ _ => N9
      refine add_lists (vs := us) (ws := [.str (mkS (tx (redN n row))) tt]) F9 N9 (by is_list) (by is_list) ?_ (by rw [sizeLine_eq, hIu.length, goneL_len]; simp; omega)
      intro hA FA NA
      ktr_unf
      have hN16 := NA (16, tabObj ps') (by k_mem)
      have hNR := NA _ (.head _)
      refine ret _ _ _ ps' _ _ _ (fun b o hb e => FA.keep b o (hst b o hb e)) hN16.1 htr' hGi ?_ hNR.1 hIu
      · rename_i h0 hh
        have h16 : 16 < h0.objs.size := Heap.lt_size (N9 (16, tabObj ps') (by k_mem)).1
        cases q : s.heap.get? h0.objs.size with
        | none => rfl
        | some o => exact absurd (hst _ o (Nat.ne_of_gt h16) q) (by rw [hNR.2.2]; exact nofun)
end

end
section
section
variable {prog : Program} {w : World} {A : Around} {E : Value → Shared → Prop} {s : Shared} {h₀ : Heap} {m : Str → Option Value} {env : Env}
/-- a comprehension over a walk, whose element may change the ledger and the generators -/
theorem list_dG {elt iter : Expr} {x : Str} {px : Pos} {scope : Scope} {cl : List (Str × Addr)} {pos : Pos} {Q : Value → Shared → Prop} (_F : Fr h₀ env.locals s.heap m)
    (hclos : closureFor scope env = pure cl) (hcell : ∀ z ∈ scope.names, z.2 ≠ .cell) (hkind : scope.kind = .function)
    (hnames : ∀ z ∈ scope.names, z.2 = .local → scope.names.lookup z.1 = some .local) (hx : scope.names.lookup x = some .local)
    (h : wpAny (model prog w) A (eval iter env) (fun xv s₁ => wpAny (model prog w) A (pyIter xv) (fun it s₂ => ∀ R : Prop, (∀ (I : Addr) (fp : List Addr) (n : Nat) (P : Nat → Value → Prop) (St : Nat → Heap → Prop) (news : List (Addr × Obj)) (J : Nat → Array GenState → List Value → List (Addr × Obj) → Prop),
      it = .ref I →
      Walks prog w A I fp [I] n P St →
      n ≤ sizeLine →
      St 0 s₂.heap →
      (∀ i h, St i h → ∃ o, h.get? I = some o) →
      (∀ b ∈ fp, b = I ∨ (∃ q, h₀.get? b = some q) ∨ ∃ q, ∀ i gs ys nw, J i gs ys nw → (b, q) ∈ nw) →
      (∀ b ∈ fp, b < s₂.heap.objs.size) →
      env.locals ≠ I →
      h₀.get? I = none →
      Fr h₀ env.locals s₂.heap m →
      News h₀ env.locals s₂.heap news →
      (∀ q ∈ news, q.1 ≠ I) →
      J 0 s₂.gens [] news →
      (∀ i v C oC D oI nD ys news₁ h tk gs m₃ E', i < n → P i v → J i gs ys news₁ → h.Ns C m₃ → m₃ x = some v → Fr h₀ env.locals h m → News h₀ env.locals h ((I, oI) :: (C, oC) :: (D, W.listOf ys.toArray nD) :: news₁) → (∀ q ∈ news₁, q.1 ≠ I ∧ q.1 ≠ C ∧ q.1 ≠ D) →
        wpAny (model prog w) A (eval elt (compEnvC scope cl C env)) (fun y s' => ∃ h' tk' gs' news', s' = { s₂ with heap := h', toks := tk', gens := gs' } ∧ Fr h₀ env.locals h' m ∧ News h₀ env.locals h' ((I, oI) :: (C, oC) :: (D, W.listOf ys.toArray nD) :: news') ∧ (∀ q ∈ news', q.1 ≠ I ∧ q.1 ≠ C ∧ q.1 ≠ D) ∧ J (i + 1) gs' (ys ++ [y]) news')
          E' { s₂ with heap := h, toks := tk, gens := gs }) →
      (∀ D nD ys news₁ h tk gs, J n gs ys news₁ → Fr h₀ env.locals h m → News h₀ env.locals h ((D, W.listOf ys.toArray nD) :: news₁) → (∀ q ∈ news₁, q.1 ≠ D) → Q (.ref D) { s₂ with heap := h, toks := tk, gens := gs }) → R) → R) E s₁) E s)
    (hs : ∀ x, foldedSetIterable iter env x = pure x := by intro _; rfl) :
    wpAny (model prog w) A (eval (.ListComp elt [⟨.Name x px, iter, [], 0⟩] scope pos) env) Q E s := by
  rw [eval_ListComp]
  refine wpAny_comprehension_free (use := none) rfl hs hclos hkind hnames (wpAny_mono h (fun xv s₁ h₁ => wpAny_mono h₁ (fun it s₂ h₂ => ?_) fun _ _ e => e) fun _ _ e => e)
  refine h₂ _ fun I fp n P St news J hit WK hsz hst hob hob' hfz hLI hI0 F N hnI hJ step done => ?_
  subst hit
  refine wpAny_newObj_type (wpAny_newFunctionEnv hcell (by intro y hy; simp at hy) (fun h₁ hns₁ hsb₁ => ?_) hkind)
  dsimp only at hns₁ hsb₁ ⊢
  generalize hD : s₂.heap.objs.size = D at hns₁ hsb₁ ⊢
  generalize hH2 : s₂.heap.push { cls := .type "list", dict := none, data := .seq ([] : List Value).toArray } = H2 at hns₁ hsb₁ ⊢
  have hC : H2.objs.size = D + 1 := by rw [← hH2, Heap.size_push, hD]
  generalize hCe : H2.objs.size = C at hns₁ hsb₁ hC ⊢
  have hDC : (@Ne Nat D C) := by omega
  have old : ∀ b o, s₂.heap.get? b = some o → h₁.get? b = some o := fun b o e => by
    have hb : (@LT.lt Nat _ b D) := hD ▸ Heap.lt_size e
    exact hsb₁.extBut b o (Nat.ne_of_lt (by omega)) (Heap.get?_push_of_some _ (hH2 ▸ Heap.get?_push_of_some _ e))
  have gD : h₁.get? D = some (W.listOf ([] : List Value).toArray 0) := hsb₁.extBut _ _ hDC (Heap.get?_push_of_some _ (hH2 ▸ hD ▸ Heap.get?_push_size _ rfl))
  have fresh : ∀ a, D ≤ a → h₀.get? a = none := fun a ha => Heap.get?_none_of_le (Nat.le_trans F.above (Nat.le_trans (Nat.le_of_lt F.ns.lt) (hD ▸ ha)))
  have ltD : ∀ {a o}, s₂.heap.get? a = some o → (@LT.lt Nat _ a D) := fun e => hD ▸ Heap.lt_size e
  have hLD : (@LT.lt Nat _ env.locals D) := hD ▸ F.ns.lt
  have hIlt : (@LT.lt Nat _ I D) := let ⟨_, ho⟩ := hob 0 _ hst; ltD ho
  obtain ⟨oC, esC, epC, hoC, hdC, hrC⟩ := id hns₁
  have nsC : ∀ h2 : Heap, h2.get? C = some oC → h2.Ns C (fun y => List.lookup y ([] : List (Str × Value)).reverse) := fun h2 e => ⟨oC, esC, epC, e, hdC, hrC⟩
  have nI : (@Ne Nat I D) := Nat.ne_of_lt hIlt
  have hIC : (@Ne Nat I C) := Nat.ne_of_lt (by rw [hC]; exact Nat.lt_succ_of_lt hIlt)
  have hLC : (@Ne Nat env.locals C) := Nat.ne_of_lt (by rw [hC]; exact Nat.lt_succ_of_lt hLD)
  have F₁ : Fr h₀ env.locals h₁ m := F.keeps old
  obtain ⟨oI, hoI⟩ := hob 0 _ hst
  have N₁ : News h₀ env.locals h₁ ((I, oI) :: (C, oC) :: (D, W.listOf ([] : List Value).toArray 0) :: news) := fun q hq => by
    simp only [List.mem_cons] at hq
    rcases hq with rfl | rfl | rfl | hq
    · exact ⟨old _ _ hoI, Ne.symm hLI, hI0⟩
    · exact ⟨hoC, hLC.symm, fresh C (by omega)⟩
    · exact ⟨gD, (Nat.ne_of_gt hLD), fresh D (Nat.le_refl _)⟩
    · exact ⟨old _ _ (N q hq).1, (N q hq).2⟩
  have off₁ : ∀ q ∈ news, q.1 ≠ I ∧ q.1 ≠ C ∧ q.1 ≠ D := fun q hq => by
    have h2 : (@LT.lt Nat _ q.1 D) := ltD (N q hq).1
    exact ⟨hnI q hq, Nat.ne_of_lt (by omega), Nat.ne_of_lt h2⟩
  have hst₁ : St 0 h₁ := WK.frame _ _ _ hst fun b _ o e => old b o e
  have hxC : (compEnvC scope cl C env).kindOf x = some .local := lookup_relabel_local hx
  have hpC : ((compEnvC scope cl C env).scope.kind == .class || ((compEnvC scope cl C env).scope.kind == .module && (compEnvC scope cl C env).locals != (compEnvC scope cl C env).globals)) = false := by simp [compEnvC, relabel, hkind]
  have loop : ∀ s₃ : Shared, s₃ = { s₂ with heap := h₁, toks := s₂.toks + ([] : List (Str × Value)).length } →
      codeAny (model prog w) A (.compLoop (.ListComp elt [⟨.Name x px, iter, [], 0⟩] scope pos) 0 (.ref I) (.ref D) (compEnvC scope cl C env)) (compPost (model prog w) A E none Q (.ref D) C) s₃ := by
    rintro s₃ rfl
    refine codeAny_compLoop_list (fun k s' => ∀ R : Prop, (∀ h' tk gs m₃ ys nD news₁ i oI oC, s' = { s₂ with heap := h', toks := tk, gens := gs } → St i h' → h'.Ns C m₃ → Fr h₀ env.locals h' m → News h₀ env.locals h' ((I, oI) :: (C, oC) :: (D, W.listOf (List.toArray ys) nD) :: news₁) → (∀ q ∈ news₁, q.1 ≠ I ∧ q.1 ≠ C ∧ q.1 ≠ D) → J i gs ys news₁ → i ≤ n → ys.length = i → k = n + 1 - i → R) → R) ?_ (n + 1)
      (fun KK kk => kk h₁ _ _ _ [] 0 news 0 oI oC rfl hst₁ hns₁ F₁ N₁ off₁ hJ (Nat.zero_le _) rfl rfl)
    intro k s' hInv
    refine hInv _ fun h' tk gs m₃ ys nD news₁ i oI oC hs' hst' hnC F' N' off' hJ' hi hlen hk' => ?_
    subst hs'
    subst hk'
    have neI : ∀ b o, h₀.get? b = some o → b ∉ [I] := fun b o e hm => by rw [List.mem_singleton.mp hm, hI0] at e; cases e
    have neC : ∀ b o, h₀.get? b = some o → b ≠ C := fun b o e q => by rw [q, fresh C (by omega)] at e; cases e
    by_cases hlt : i < n
    · refine WK.item i _ _ _ hlt hst' fun v h₂ tk₂ hPv hst₂ hk₂ => ?_
      refine wpAny_assign_Name (wpAny_storeName_local hxC (hnC.at' fun o e => hk₂ _ o (fun hm => hIC (List.mem_singleton.mp hm).symm) e) (fun h₃ hn₃ hs₃ => ?_) hpC)
      have up : ∀ b o, b ∉ [I] → b ≠ C → h'.get? b = some o → h₃.get? b = some o := fun b o hb hbC e => hs₃.extBut b o hbC (hk₂ b o hb e)
      have F₃ : Fr h₀ env.locals h₃ m := ⟨F'.ns.at' fun o e => up _ o (fun hm => hLI (List.mem_singleton.mp hm)) hLC e, fun b o e => up b o (neI b o e) (neC b o e) (F'.keep b o e), F'.above⟩
      obtain ⟨oI', hoI'⟩ := hob _ _ hst₂
      obtain ⟨oC', es', ep', hoC', hdC', hrC'⟩ := id hn₃
      have N₃ : News h₀ env.locals h₃ ((I, oI') :: (C, oC') :: (D, W.listOf (List.toArray ys) nD) :: news₁) := fun q hq => by
        simp only [List.mem_cons] at hq
        rcases hq with rfl | rfl | rfl | hq
        · exact ⟨hs₃.extBut _ _ hIC hoI', Ne.symm hLI, hI0⟩
        · exact ⟨hoC', hLC.symm, fresh C (by omega)⟩
        · exact ⟨up _ _ (fun hm => nI (List.mem_singleton.mp hm).symm) hDC (N' (D, W.listOf (List.toArray ys) nD) (.tail _ (.tail _ (.head _)))).1, (Nat.ne_of_gt hLD), fresh D (Nat.le_refl _)⟩
        · exact ⟨up _ _ (fun hm => (off' q hq).1 (List.mem_singleton.mp hm)) (off' q hq).2.1 (N' q (.tail _ (.tail _ (.tail _ hq)))).1, (N' q (.tail _ (.tail _ (.tail _ hq)))).2⟩
      refine wpAny_mono (step i v C oC' D oI' nD ys news₁ h₃ _ gs _ _ hlt hPv hJ' hn₃ (by simp) F₃ N₃ off') (fun y s₄ h₄ => ?_) fun _ _ e => e
      obtain ⟨h5, tk5, gs5, news5, rfl, F5, N5, off5, J5⟩ := h₄
      refine append_K (its := List.toArray ys) (n := nD) F5 N5 (Upd.tail nI (Upd.tail hDC.symm (Upd.head fun q hq => (off5 q hq).2.2))) (fun h6 F6 N6 => ?_) (by simp only [List.size_toArray, hlen]; omega)
      refine ⟨n + 1 - (i + 1), by omega, fun KK kk => kk h6 tk5 gs5 (fun z => if z = x then some v else m₃ z) (ys ++ [y]) (nD + 1) news5 (i + 1) oI' oC' rfl ?_ ?_ F6 ?_ off5 J5 hlt (by simp [hlen]) rfl⟩
      · refine WK.frame _ _ _ hst₂ fun b hb o e => ?_
        rcases hob' b hb with rfl | ⟨q, hq⟩ | ⟨q, hq⟩
        · rw [hoI'] at e; cases e
          exact (N6 _ (.head _)).1
        · have e2 := hk₂ b q (neI b q hq) (F'.keep b q hq)
          rw [e] at e2; cases e2
          exact F6.keep b o hq
        · have m1 := hq _ _ _ _ hJ'
          have e2 := hk₂ b q (fun hm => (off' _ m1).1 (List.mem_singleton.mp hm)) (N' (b, q) (.tail _ (.tail _ (.tail _ m1)))).1
          rw [e] at e2; cases e2
          exact (N6 (b, o) (.tail _ (.tail _ (.tail _ (hq _ _ _ _ J5))))).1
      · exact ⟨oC', es', ep', (N6 _ (.tail _ (.head _))).1, hdC', hrC'⟩
      · intro q hq
        have := N6 q (by simpa using hq)
        exact this
    · have hin : i = n := by omega
      subst hin
      refine WK.done _ _ _ hst' fun h₂ tk₂ hk₂ => ?_
      refine ⟨m₃, hnC.at' fun o e => hk₂ _ o (fun hm => hIC (List.mem_singleton.mp hm).symm) e, fun h₃ hs₃ => ?_⟩
      have up : ∀ b o, b ∉ [I] → b ≠ C → h'.get? b = some o → h₃.get? b = some o := fun b o hb hbC e => hs₃.extBut b o hbC (hk₂ b o hb e)
      have F₃ : Fr h₀ env.locals h₃ m := ⟨F'.ns.at' fun o e => up _ o (fun hm => hLI (List.mem_singleton.mp hm)) hLC e, fun b o e => up b o (neI b o e) (neC b o e) (F'.keep b o e), F'.above⟩
      refine done D nD ys news₁ h₃ tk₂ gs hJ' F₃ (fun q hq => ?_) fun q hq => (off' q hq).2.2
      simp only [List.mem_cons] at hq
      rcases hq with rfl | hq
      · exact ⟨up _ _ (fun hm => nI (List.mem_singleton.mp hm).symm) hDC (N' (D, W.listOf (List.toArray ys) nD) (.tail _ (.tail _ (.head _)))).1, (Nat.ne_of_gt hLD), fresh D (Nat.le_refl _)⟩
      · exact ⟨up _ _ (fun hm => (off' q hq).1 (List.mem_singleton.mp hm)) (off' q hq).2.1 (N' q (.tail _ (.tail _ (.tail _ hq)))).1, (N' q (.tail _ (.tail _ (.tail _ hq)))).2⟩
  exact codeAny_compStart_list (loop _ rfl) (WK.self 0 _ _ _ hst₁ (loop _ rfl))
end

end
section
section
variable {prog : Program} {w : World} {A : Around} {s : Shared} {K : Frag} {mg mb : Str → Option Value} {p : Program} {loose : List Str} {mean : ExcName → Option Value} {h₀ : Heap} {news : List (Addr × Obj)}
/-- as enterC, under wpC -/
theorem enterCN {R : Result → Shared → Prop} {name qual : Str} {params : Arguments} {body : List Stmt} {scope : Scope} {dV kV doc pm cdv ct oc : Value} {an oda : Option Addr} {osl : Array (Option Value)} {f : Addr} {args : Args} {binds : List (Str × Value)}
    (k0 : Keeps h₀ s.heap) (X₀ : K.In h₀) (T : Top p loose mean mg mb h₀) (hn : ∀ p ∈ news, s.heap.get? p.1 = some p.2 ∧ h₀.get? p.1 = none)
    (ho : K.lookup f = some ⟨oc, oda, .func (fnOf name qual params body scope dV kV doc pm an cdv ct), osl⟩) (hcd : codeIn K cdv qual = true) (hroom : A.depth < recursionLimit)
    (hbind : BindsTo s (fnOf name qual params body scope dV kV doc pm an cdv ct) args binds) (hkind : (binds.all fun y => scope.names.lookup y.1 == some .local || scope.names.lookup y.1 == some .cell) = true)
    (hnd : ((cellsFrom 0 scope.names []).map (·.1)).Nodup)
    (h : ∀ g L' h₁ tk cells, Keeps h₀ g → Keeps g s.heap → (∀ b o, (∀ p ∈ news, p.1 ≠ b) → s.heap.get? b = some o → g.get? b = some o) → Fr g L' h₁ (bindL (envOfC qual scope L' f cdv).kindOf binds fun _ => none) → News g L' h₁ (cells ++ news) →
      CellsAre (bindC (envOfC qual scope L' f cdv).kindOf binds fun _ => none) (cellsFrom (L' + 1) scope.names []) cells → K.In g → Top p loose mean mg mb g → (∀ p ∈ news, p.1 < L') →
      wpC (model prog w) (A.deeper (envOfC qual scope L' f cdv)) (execs body (envOfC qual scope L' f cdv))
        (fun fl s' => R (.ok (.ret (match fl with | .ret v => v | _ => .none))) s')
        (fun e s' => wpAny (model prog w) (A.deeper (envOfC qual scope L' f cdv)) (leaving (envOfC qual scope L' f cdv) e) (fun _ s'' => R (.error e) s'') (fun e' s'' => R (.error e') s'') s')
        { s with heap := h₁, toks := tk })
    (hco : scope.isCoroutine = false) (hgen : scope.isGenerator = false) (hk : scope.kind = .function) : codeC (model prog w) A (.call (.ref f) args) R s := by
  have st : Keeps h₀ (hideAll s.heap (news.map (·.1))) := fun b o e => hideAll_get _ (k0 b o e) (fun q => by
    obtain ⟨p, hp, rfl⟩ := List.mem_map.mp q
    rw [(hn p hp).2] at e; cases e)
  refine codeC_call_function hroom ((X₀.keeps k0) _ _ ho) rfl hco hgen rfl (codeRec_of (X₀.keeps k0) hcd) (hbind _ _ _ _ ?_)
  refine wpAny_newFunctionEnv_cells hk (kindsX hkind _) fun env' he s' x => ?_
  subst he
  refine ⟨(T.nolimit.keeps k0).keeps x.toInCall.keep, codeC_func ?_⟩
  obtain ⟨h₁, tk, rfl, _⟩ := x.done
  have hk₁ := x.toInCall.keep
  obtain ⟨cells, NC, Y⟩ := Cl.news (h₀ := s.heap) (Nat.le_refl _) fun n c hm => ⟨x.cell n c (lookup_of_mem_nodup (cellsFrom_names scope.names 0 (s.heap.objs.size + 1) [] [] rfl ▸ hnd) hm), x.above n c hm⟩
  refine h (hideAll s.heap (news.map (·.1))) s.heap.objs.size h₁ tk cells st (fun b o e => of_hideAll _ e) (fun b o hb e => hideAll_get _ e (fun q => by obtain ⟨p, hp, e⟩ := List.mem_map.mp q; exact hb p hp e)) ⟨x.toInCall.ns, fun b o e => hk₁ b o (of_hideAll _ e), Nat.le_of_eq (hideAll_size _ _)⟩ (fun p hp => ?_) Y (X₀.keeps st) (T.keeps st) (fun p hp => Heap.lt_size (hn p hp).1)
  rcases List.mem_append.mp hp with hp | hp
  · refine ⟨(NC p hp).1, (NC p hp).2.1, ?_⟩
    cases q : (hideAll s.heap (news.map (·.1))).get? p.1 with
    | none => rfl
    | some o => have := of_hideAll _ q; rw [(NC p hp).2.2] at this; cases this
  · exact ⟨hk₁ _ _ (hn p hp).1, Nat.ne_of_lt (Heap.lt_size (hn p hp).1), hideAll_none _ (List.mem_map_of_mem hp)⟩
end
section
variable {prog : Program} {w : World} {p : Program} {loose : List Str} {mean : ExcName → Option Value} {mg mb : Str → Option Value}
theorem way_ok1 : ∀ i : Nat, -3 ≤ [1, -1, 3, (-2 : Int)].getD i 0
  | 0 => by decide
  | 1 => by decide
  | 2 => by decide
  | 3 => by decide
  | n + 4 => by show (-3 : Int) ≤ 0; decide
theorem way_ok2 : ∀ i : Nat, [1, -1, 3, (-2 : Int)].getD i 0 ≤ 3
  | 0 => by decide
  | 1 => by decide
  | 2 => by decide
  | 3 => by decide
  | n + 4 => by show (0 : Int) ≤ 3; decide
theorem way_ok3 : ∀ i : Nat, i < 4 → [1, -1, 3, (-2 : Int)].getD i 0 ≠ 0
  | 0, _ => by decide
  | 1, _ => by decide
  | 2, _ => by decide
  | 3, _ => by decide
theorem way_lt (b : Int) : ((b.fdiv 3).fmod 4).toNat < 4 := by
  have h1 := Int.fmod_nonneg_of_pos (b.fdiv 3) (show (0 : Int) < 4 by decide)
  have h2 := Int.fmod_lt_of_pos (b.fdiv 3) (show (0 : Int) < 4 by decide)
  omega
theorem news_sub {h₀ h : Heap} {L : Addr} {a b : List (Addr × Obj)} (N : News h₀ L h b) (k : ∀ q ∈ a, q ∈ b) : News h₀ L h a := fun q hq => N q (k q hq)
/-- a new object behind the tables -/
theorem led_add {h₀ h h' : Heap} {L a : Addr} {m : Str → Option Value} {o A B : Obj} {rest : List (Addr × Obj)} (F : Fr h₀ L h m) (N : News h₀ L h ((145, A) :: (16, B) :: rest)) (k : Keeps h h') (hf : h.get? a = none) (ho : h'.get? a = some o) (off : ∀ q ∈ rest, q.1 ≠ 145 ∧ q.1 ≠ 16) :
    News h₀ L h' ((145, A) :: (16, B) :: (a, o) :: rest) ∧ ∀ q ∈ (a, o) :: rest, q.1 ≠ 145 ∧ q.1 ≠ 16 := by
  have N2 := news_add F hf ho (kept_news N k)
  refine ⟨news_sub N2 fun q hq => ?_, fun q hq => ?_⟩
  · simp only [List.mem_cons] at hq ⊢
    rcases hq with h | h | h | h
    · exact .inr (.inl h)
    · exact .inr (.inr (.inl h))
    · exact .inl h
    · exact .inr (.inr (.inr h))
  · rcases List.mem_cons.mp hq with rfl | hq
    · refine ⟨fun e => ?_, fun e => ?_⟩
      · have h1 := (N (145, A) (.head _)).1
        rw [show (145 : Addr) = a from e.symm, hf] at h1; cases h1
      · have h1 := (N (16, B) (.tail _ (.head _))).1
        rw [show (16 : Addr) = a from e.symm, hf] at h1; cases h1
    · exact off q hq
theorem led_keep {h₀ h h' : Heap} {L : Addr} {news : List (Addr × Obj)} (N : News h₀ L h news) (k : Keeps h h') : News h₀ L h' news := kept_news N k
/-- the table 145 grown -/
theorem led_145 {h₀ h h' : Heap} {L : Addr} {m : Str → Option Value} {A A' B : Obj} {rest : List (Addr × Obj)} (F : Fr h₀ L h m) (N : News h₀ L h ((145, A) :: (16, B) :: rest)) (k : ∀ b o, b ≠ 145 → h.get? b = some o → h'.get? b = some o) (hA : h'.get? 145 = some A') (off : ∀ q ∈ rest, q.1 ≠ 145 ∧ q.1 ≠ 16) :
    Fr h₀ L h' m ∧ News h₀ L h' ((145, A') :: (16, B) :: rest) := by
  have N1 := N _ (.head _)
  refine ⟨LCg.fr_but F (I := 145) (fun b o hb e => k b o (fun q => hb (List.mem_singleton.mpr q)) e) N1.2.1.symm N1.2.2, fun q hq => ?_⟩
  simp only [List.mem_cons] at hq
  rcases hq with rfl | rfl | hq
  · exact ⟨hA, N1.2⟩
  · exact ⟨k _ _ (show (16 : Nat) ≠ 145 by decide) (N (16, B) (.tail _ (.head _))).1, (N (16, B) (.tail _ (.head _))).2⟩
  · exact ⟨k _ _ (off q hq).1 (N q (.tail _ (.tail _ hq))).1, (N q (.tail _ (.tail _ hq))).2⟩
theorem led_16 {h₀ h h' : Heap} {L : Addr} {m : Str → Option Value} {A B B' : Obj} {rest : List (Addr × Obj)} (F : Fr h₀ L h m) (N : News h₀ L h ((145, A) :: (16, B) :: rest)) (k : ∀ b o, b ≠ 16 → h.get? b = some o → h'.get? b = some o) (hB : h'.get? 16 = some B') (off : ∀ q ∈ rest, q.1 ≠ 145 ∧ q.1 ≠ 16) :
    Fr h₀ L h' m ∧ News h₀ L h' ((145, A) :: (16, B') :: rest) := by
  have N1 := N _ (.tail _ (.head _))
  refine ⟨LCg.fr_but F (I := 16) (fun b o hb e => k b o (fun q => hb (List.mem_singleton.mpr q)) e) N1.2.1.symm N1.2.2, fun q hq => ?_⟩
  simp only [List.mem_cons] at hq
  rcases hq with rfl | rfl | hq
  · exact ⟨k _ _ (show (145 : Nat) ≠ 16 by decide) (N (145, A) (.head _)).1, (N (145, A) (.head _)).2⟩
  · exact ⟨hB, N1.2⟩
  · exact ⟨k _ _ (off q hq).2 (N q (.tail _ (.tail _ hq))).1, (N q (.tail _ (.tail _ hq))).2⟩
theorem led_add2 {h₀ h h' : Heap} {L a b : Addr} {m : Str → Option Value} {o u A B : Obj} {rest : List (Addr × Obj)} (F : Fr h₀ L h m) (N : News h₀ L h ((145, A) :: (16, B) :: rest)) (k : Keeps h h') (hf : h.get? a = none) (ho : h'.get? a = some o) (hg : h.get? b = none) (hu : h'.get? b = some u) (off : ∀ q ∈ rest, q.1 ≠ 145 ∧ q.1 ≠ 16) :
    News h₀ L h' ((145, A) :: (16, B) :: (a, o) :: (b, u) :: rest) ∧ ∀ q ∈ (a, o) :: (b, u) :: rest, q.1 ≠ 145 ∧ q.1 ≠ 16 := by
  obtain ⟨N1, o1⟩ := led_add F N k hf ho off
  obtain ⟨N2, o2⟩ := led_add F N k hg hu off
  refine ⟨fun q hq => ?_, fun q hq => ?_⟩
  · simp only [List.mem_cons] at hq
    rcases hq with h | h | h | h | h
    · exact N1 q (h ▸ .head _)
    · exact N1 q (h ▸ .tail _ (.head _))
    · exact N1 q (h ▸ .tail _ (.tail _ (.head _)))
    · exact N2 q (h ▸ .tail _ (.tail _ (.head _)))
    · exact N1 q (.tail _ (.tail _ (.tail _ h)))
  · simp only [List.mem_cons] at hq
    rcases hq with h | h | h
    · exact o1 q (h ▸ .head _)
    · exact o2 q (h ▸ .head _)
    · exact off q h
theorem sm_of {g h : Heap} {L : Addr} {m : Str → Option Value} (F : Fr g L h m) (hs : g.get? sysModules ≠ none) : h.get? sysModules ≠ none := fun e => by
  cases q : g.get? sysModules with
  | none => exact hs q
  | some o => rw [F.keep _ _ q] at e; cases e
theorem led_put {h₀ h h' : Heap} {L a : Addr} {m : Str → Option Value} {o A B A' B' : Obj} {rest0 rest : List (Addr × Obj)} (F : Fr h₀ L h m) (N : News h₀ L h ((145, A) :: (16, B) :: rest0)) (N' : News h₀ L h' ((145, A') :: (16, B') :: rest)) (hf : h.get? a = none) (ho : h'.get? a = some o) (off : ∀ q ∈ rest, q.1 ≠ 145 ∧ q.1 ≠ 16) :
    News h₀ L h' ((145, A') :: (16, B') :: (a, o) :: rest) ∧ ∀ q ∈ (a, o) :: rest, q.1 ≠ 145 ∧ q.1 ≠ 16 := by
  have hn : ∀ b u, h.get? b = some u → a ≠ b := fun b u e q => by rw [← q, hf] at e; cases e
  have hL : a ≠ L := by
    obtain ⟨oL, _, _, hL, _⟩ := F.ns
    exact hn _ _ hL
  have hg : h₀.get? a = none := by
    cases q : h₀.get? a with
    | none => rfl
    | some o => exact absurd rfl (hn _ _ (F.keep _ _ q))
  refine ⟨fun q hq => ?_, fun q hq => ?_⟩
  · simp only [List.mem_cons] at hq
    rcases hq with h | h | h | h
    · exact N' q (h ▸ .head _)
    · exact N' q (h ▸ .tail _ (.head _))
    · subst h; exact ⟨ho, hL, hg⟩
    · exact N' q (.tail _ (.tail _ h))
  · rcases List.mem_cons.mp hq with rfl | hq
    · exact ⟨hn _ _ (N _ (.head _)).1, hn _ _ (N _ (.tail _ (.head _))).1⟩
    · exact off q hq
/-- the rule's code, new or not -/
theorem led_z {h₀ h h' : Heap} {L z c : Addr} {m : Str → Option Value} {oz oc A B A' B' : Obj} {rest0 rest : List (Addr × Obj)} (F : Fr h₀ L h m) (N : News h₀ L h ((145, A) :: (16, B) :: rest0)) (N' : News h₀ L h' ((145, A') :: (16, B') :: rest)) (hf : h.get? z = none ∨ (z, oz) = (c, oc)) (hc : (c, oc) ∈ rest) (ho : h'.get? z = some oz) (off : ∀ q ∈ rest, q.1 ≠ 145 ∧ q.1 ≠ 16) :
    News h₀ L h' ((145, A') :: (16, B') :: (z, oz) :: rest) ∧ ∀ q ∈ (z, oz) :: rest, q.1 ≠ 145 ∧ q.1 ≠ 16 := by
  rcases hf with hf | e
  · exact led_put F N N' hf ho off
  · rw [e]
    refine ⟨fun q hq => ?_, fun q hq => ?_⟩
    · simp only [List.mem_cons] at hq
      rcases hq with h | h | h | h
      · exact N' q (h ▸ .head _)
      · exact N' q (h ▸ .tail _ (.head _))
      · exact N' q (h ▸ .tail _ (.tail _ hc))
      · exact N' q (.tail _ (.tail _ h))
    · rcases List.mem_cons.mp hq with rfl | hq
      · exact off _ hc
      · exact off q hq
/-- what the contract of the moving asks -/
structure MovOk (row : List Int) (P : Prof) : Prop where
  len : P.2.2.2.2.length ≤ 100
  nd : (P.2.2.2.2.map (·.1)).Nodup
  nc : 0 ≤ P.2.1 ∧ P.2.1 ≤ 1000
  len2 : (movedRow row P).length ≤ 40
  nd2 : ((addP (entryP row 0) P).2.2.2.2.map (·.1)).Nodup
  eq : entryP (movedRow row P) P.2.1 = addP (entryP row 0) P
noncomputable def carP (room : Int) (row : List Int) : Prof := (carLoop room row row.length).2
noncomputable def robP (bb : Bool) (row : List Int) : Option (List Int × Prof) := robLoop (rulesOf row bb) row row.length
/-- what the contract of the vanishing asks -/
structure VanOk (row : List Int) (n : Nat) : Prop where
  sum : row.sum = (n : Int)
  le : n ≤ 40
  ne : ∀ i, i < n → redN i row ≠ []
/-- a list that the vanishing gave -/
noncomputable def VRes (n : Nat) (R : List Int) (nw : List (Addr × Obj)) (v : Value) : Prop := ∃ (D : Addr) (yj : List Value) (tj : Tok), v = .ref D ∧ (D, W.listOf (List.toArray (yj ++ [Value.str (mkS (tx (redN n R))) tj])) 0) ∈ nw ∧ IntsAre yj (goneL n R)
noncomputable def VJ (n : Nat) (R : List Int) (ps : Array Value) (rest0 : List (Addr × Obj)) (i : Nat) (gs : Array GenState) (ys : List Value) (nw : List (Addr × Obj)) : Prop :=
  AllBare gs ∧ ∃ (qs : Array Value) (rest : List (Addr × Obj)), TriplesOk qs.toList ∧ nw = (145, tabObj ps) :: (16, tabObj qs) :: rest ∧ (∀ q ∈ rest, q.1 ≠ 145 ∧ q.1 ≠ 16) ∧ (∀ q ∈ rest0, q ∈ rest) ∧ (∀ y ∈ ys, VRes n R rest y) ∧ ys.length = i
/-- a list whose vanishing goes as that of R -/
noncomputable def VSrc (n : Nat) (R : List Int) (rest0 : List (Addr × Obj)) (v : Value) : Prop := ∃ (lx : Addr) (vx : List Value) (nx : Nat) (rx : List Int), v = .ref lx ∧ (lx, W.listOf vx.toArray nx) ∈ rest0 ∧ IntsAre vx rx ∧ rx.length ≤ 40 ∧ VanOk rx n ∧ goneL n rx = goneL n R ∧ redN n rx = redN n R
set_option maxRecDepth 100000 in
theorem vj_step {p : Program} {loose : List Str} {mean : ExcName → Option Value} {mg mb : Str → Option Value} {n lk : Nat} {R : List Int} {ps : Array Value} {rest0 nw : List (Addr × Obj)} {i : Nat} {gs : Array GenState} {ys : List Value} {g h : Heap} {L I C D : Addr} {oI oC : Obj} {nD : Nat} {m : Str → Option Value} {s₂ : Shared} {tk : Nat} {v : Value} {t1 : Tok} {E : Value → Shared → Prop} {dp un : Nat} {fr : Option (List Env)} {gd : Option (List Code)}
    (hJ : VJ n R ps rest0 i gs ys nw) (hS : VSrc n R rest0 v) (hlk : lk < 8) (F : Fr g L h m) (N : News g L h ((I, oI) :: (C, oC) :: (D, W.listOf ys.toArray nD) :: nw)) (off : ∀ q ∈ nw, q.1 ≠ I ∧ q.1 ≠ C ∧ q.1 ≠ D)
    (X : (hd.heap_1 w.params).In g) (T : Top p loose mean mg mb g) (C16 : CodeHd g 20 16) (hd : dp + 12 < recursionLimit) (hu : un + 100 < cLine) :
    wpAny (model prog w) (arr dp un fr gd) (call (.ref 167) [v, .int lk t1]) (fun y s' => ∃ h' tk' gs' news', s' = { s₂ with heap := h', toks := tk', gens := gs' } ∧ Fr g L h' m ∧ News g L h' ((I, oI) :: (C, oC) :: (D, W.listOf ys.toArray nD) :: news') ∧ (∀ q ∈ news', q.1 ≠ I ∧ q.1 ≠ C ∧ q.1 ≠ D) ∧ VJ n R ps rest0 (i + 1) gs' (ys ++ [y]) news')
      E { s₂ with heap := h, toks := tk, gens := gs } := by
  obtain ⟨hG, qs, rest, htr, rfl, off2, hsub, hres, hlen⟩ := hJ
  obtain ⟨lx, vx, nx, rx, rfl, hmem, hIx, hxl, hV, hg, ht⟩ := hS
  have NN := news_sub (a := (145, tabObj ps) :: (16, tabObj qs) :: rest) N (fun q hq => .tail _ (.tail _ (.tail _ hq)))
  have h16 := NN (16, tabObj qs) (.tail _ (.head _))
  refine tells_vanish lx vx rx lk n t1 hIx hxl hlk hV.sum hV.le hV.ne dp un fr gd _ _ E g qs F.keep X T h16.2.2 C16 h16.1 htr hG ⟨_, (NN _ (.tail _ (.tail _ (hsub _ hmem)))).1, rfl, _, rfl⟩ hd hu ?_
  intro h' tk' gs' qs' D' yj tj k h16' htr' hG' hDf hD' hIj
  rw [ht] at hD'
  rw [hg] at hIj
  obtain ⟨F1, N1⟩ := led_16 F NN k h16' off2
  obtain ⟨N2, off3⟩ := led_put F NN N1 hDf hD' off2
  have o16 := off (16, tabObj qs) (.tail _ (.head _))
  have hold : ∀ q ∈ [(I, oI), (C, oC), (D, W.listOf ys.toArray nD)], News g L h' [q] ∧ D' ≠ q.1 := fun q hq => by
    have hm : q ∈ (I, oI) :: (C, oC) :: (D, W.listOf ys.toArray nD) :: (145, tabObj ps) :: (16, tabObj qs) :: rest := by
      simp only [List.mem_cons, List.not_mem_nil, or_false] at hq ⊢
      rcases hq with h | h | h
      · exact .inl h
      · exact .inr (.inl h)
      · exact .inr (.inr (.inl h))
    have hn : q.1 ≠ 16 := by
      simp only [List.mem_cons, List.not_mem_nil, or_false] at hq
      rcases hq with rfl | rfl | rfl
      · exact o16.1.symm
      · exact o16.2.1.symm
      · exact o16.2.2.symm
    refine ⟨fun x hx => ?_, fun e => ?_⟩
    · rw [List.mem_singleton.mp hx]
      exact ⟨k _ _ hn (N q hm).1, (N q hm).2⟩
    · have h1 := (N q hm).1
      rw [← e, hDf] at h1; cases h1
  refine ⟨h', tk', gs', _, rfl, F1, fun q hq => ?_, fun q hq => ?_, hG', qs', _, htr', rfl, off3, fun q hq => .tail _ (hsub q hq), fun y hy => ?_, by rw [List.length_append, hlen]; rfl⟩
  · rcases List.mem_cons.mp hq with h | hq
    · exact (hold (I, oI) (by simp)).1 q (by rw [h]; simp)
    · rcases List.mem_cons.mp hq with h | hq
      · exact (hold (C, oC) (by simp)).1 q (by rw [h]; simp)
      · rcases List.mem_cons.mp hq with h | hq
        · exact (hold (D, W.listOf ys.toArray nD) (by simp)).1 q (by rw [h]; simp)
        · exact N2 q hq
  · simp only [List.mem_cons] at hq
    rcases hq with rfl | rfl | rfl | hq
    · exact off (145, tabObj ps) (.head _)
    · exact o16
    · exact ⟨(hold (I, oI) (by simp)).2, (hold (C, oC) (by simp)).2, (hold (D, W.listOf ys.toArray nD) (by simp)).2⟩
    · exact off q (.tail _ (.tail _ hq))
  · rcases List.mem_append.mp hy with hy | hy
    · obtain ⟨Dy, yy, ty, e1, e2, e3⟩ := hres y hy
      exact ⟨Dy, yy, ty, e1, .tail _ e2, e3⟩
    · rw [List.mem_singleton.mp hy]
      exact ⟨D', yj, tj, rfl, .head _, hIj⟩
inductive EndW (h₀ : Heap) (L : Addr) (x : Str) (P : Value → Prop) (m : Str → Option Value) (news : List (Addr × Obj)) (s : Shared) (f : Flow) (s' : Shared) : Prop
  | mk (p0 : f = .next) (h' : Heap) (tk' : Nat) (v : Value) (q0 : P v) (q1 : s' = { s with heap := h', toks := tk' }) (q2 : Fr h₀ L h' (fun y => if y = x then some v else m y)) (q3 : News h₀ L h' news) : EndW h₀ L x P m news s f s'
theorem endw_C {A : Around} {E : Value → Shared → Prop} {s : Shared} {h₀ : Heap} {L : Addr} {env : Env} {x : Str} {P : Value → Prop} {m : Str → Option Value} {news : List (Addr × Obj)} {st : Stmt} {r : List Stmt} {Q : Flow → Shared → Prop}
    (_F : Fr h₀ L s.heap m) (_N : News h₀ L s.heap news) (h : wpAny (model prog w) A (exec st env) (EndW h₀ L x P m news s) E s)
    (rest : ∀ h' tk' v, P v → Fr h₀ L h' (fun y => if y = x then some v else m y) → News h₀ L h' news → wpC (model prog w) A (execs r env) Q E { s with heap := h', toks := tk' }) :
    wpC (model prog w) A (execs (st :: r) env) Q E s := by
  refine wpC_execs_cons (wpC.of (wpAny_mono h (fun f s' hf => ?_) fun _ _ e => e))
  obtain ⟨rfl, h', tk', v, hv, rfl, F, N⟩ := hf
  exact rest h' tk' v hv F N
theorem ok_tx (r : List Int) : PyData.strOk (mkS (tx r)) = true := by
  have h : (tx r).all (fun c => decide (c < 0x110000)) = true := List.all_eq_true.mpr fun c hc => by
    have := tx_mem hc
    exact decide_eq_true (by omega)
  simpa [PyData.strOk, mkS] using h
theorem three {α : Type} : ∀ (ys : List α), ys.length = 3 → ∃ a b c, ys = [a, b, c]
  | [a, b, c], _ => ⟨a, b, c, rfl⟩
noncomputable def vd (us : List Int) (x : Str) : PyData := .list (us.map .int ++ [.str x])
theorem lay_vd {x : Str} (h : PyData.strOk x = true) : ∀ us : List Int, PyData.canLayAll0 (us.map .int ++ [.str x]) = true
  | [] => by show (PyData.strOk x && true) = true; rw [h]; rfl
  | _ :: us => by show (true && PyData.canLayAll0 (us.map .int ++ [.str x])) = true; rw [lay_vd h us]; rfl
theorem dep_vd (x : Str) : ∀ us : List Int, PyData.depthAll (us.map .int ++ [.str x]) = 0
  | [] => rfl
  | _ :: us => by show max 0 (PyData.depthAll (us.map .int ++ [.str x])) = 0; rw [dep_vd x us]; rfl
theorem shaped_vd {x : Str} (h : PyData.strOk x = true) (us : List Int) : SeqAt.shaped (.list [vd us x, vd us x, vd us x]) = true := by
  have h1 : PyData.canLay0 (vd us x) = true := lay_vd h us
  have h2 : PyData.depth (vd us x) = 1 := by show PyData.depthAll _ + 1 = 1; rw [dep_vd]
  unfold SeqAt.shaped
  have e1 : PyData.canLay0 (.list [vd us x, vd us x, vd us x]) = true := by
    show (PyData.canLay0 (vd us x) && (PyData.canLay0 (vd us x) && (PyData.canLay0 (vd us x) && true))) = true
    rw [h1]; rfl
  have e2 : PyData.depth (.list [vd us x, vd us x, vd us x]) = 2 := by
    show max (PyData.depth (vd us x)) (max (PyData.depth (vd us x)) (max (PyData.depth (vd us x)) 0)) + 1 = 2
    rw [h2]
    decide
  rw [e1, e2]; rfl
theorem reads_ends {h : Heap} {x : Str} {t : Tok} {yj : List Value} {us : List Int} (hi : IntsAre yj us) : ReadsAll h (yj ++ [.str x t]) (us.map .int ++ [.str x]) [] := by
  induction hi with
  | nil => exact .cons (.str x t) .nil
  | cons k t' _ ih => exact .cons (.int k t') ih
theorem reads_vd {h : Heap} {D : Addr} {n : Nat} {x : Str} {t : Tok} {yj : List Value} {us : List Int} (ho : h.get? D = some (W.listOf (List.toArray (yj ++ [Value.str x t])) n)) (hi : IntsAre yj us) : Reads h (.ref D) (vd us x) [D] :=
  .list ho rfl rfl (by simpa using reads_ends hi)
theorem reads_three {h : Heap} {D D1 D2 D3 : Addr} {n : Nat} {d : PyData} (ho : h.get? D = some (W.listOf [Value.ref D1, Value.ref D2, Value.ref D3].toArray n)) (r1 : Reads h (.ref D1) d [D1]) (r2 : Reads h (.ref D2) d [D2]) (r3 : Reads h (.ref D3) d [D3]) :
    Reads h (.ref D) (.list [d, d, d]) (D :: ([D1] ++ ([D2] ++ ([D3] ++ [])))) :=
  .list ho rfl rfl (.cons r1 (.cons r2 (.cons r3 .nil)))
theorem led_more {g h : Heap} {L D : Addr} {o A B : Obj} {rest rest4 xs : List (Addr × Obj)} (N : News g L h ((D, o) :: (145, A) :: (16, B) :: rest4)) (offD : ∀ q ∈ (145, A) :: (16, B) :: rest4, q.1 ≠ D) (off4 : ∀ q ∈ rest4, q.1 ≠ 145 ∧ q.1 ≠ 16) (hsub : ∀ q ∈ rest, q ∈ rest4) (hxs : ∀ q ∈ xs, q ∈ rest4) :
    News g L h ((145, A) :: (16, B) :: (D, o) :: (xs ++ rest)) ∧ ∀ q ∈ (D, o) :: (xs ++ rest), q.1 ≠ 145 ∧ q.1 ≠ 16 := by
  have hr : ∀ q ∈ xs ++ rest, q ∈ rest4 := fun q hq => (List.mem_append.mp hq).elim (hxs q) (hsub q)
  refine ⟨fun q hq => ?_, fun q hq => ?_⟩
  · simp only [List.mem_cons] at hq
    rcases hq with h | h | h | h
    · exact N q (h ▸ .tail _ (.head _))
    · exact N q (h ▸ .tail _ (.tail _ (.head _)))
    · exact N q (h ▸ .head _)
    · exact N q (.tail _ (.tail _ (.tail _ (hr q h))))
  · rcases List.mem_cons.mp hq with rfl | hq
    · exact ⟨(offD (145, A) (.head _)).symm, (offD (16, B) (.tail _ (.head _))).symm⟩
    · exact off4 q (hr q hq)
inductive HitL (g : Heap) (L : Addr) (m : Str → Option Value) (s : Shared) (items : List Value) (news : List (Addr × Obj)) (xv : Value) (s₁ : Shared) : Prop
  | mk (l3 : Addr) (n3 : Nat) (h' : Heap) (tk' : Nat) (q0 : xv = .ref l3) (q1 : s₁ = { s with heap := h', toks := tk' }) (q2 : Fr g L h' m) (q3 : (@LT.lt Nat _ 145 l3)) (q4 : News g L h' ((l3, W.listOf items.toArray n3) :: news)) : HitL g L m s items news xv s₁
set_option maxRecDepth 100000 in
theorem comp_vj {p : Program} {loose : List Str} {mean : ExcName → Option Value} {mg mb : Str → Option Value} {n lk : Nat} {R : List Int} {ps qs : Array Value} {rest : List (Addr × Obj)} {g : Heap} {m : Str → Option Value} {s : Shared} {E : Value → Shared → Prop} {dp un : Nat} {fr : Option (List Env)} {gd : Option (List Code)} {env : Env}
    {elt iter : Expr} {x : Str} {px : Pos} {scope : Scope} {cl : List (Str × Addr)} {pos : Pos} {Q : Value → Shared → Prop} {items : List Value} (F0 : Fr g env.locals s.heap m)
    (hclos : closureFor scope env = pure cl) (hcell : ∀ z ∈ scope.names, z.2 ≠ .cell) (hkind : scope.kind = .function)
    (hnames : ∀ z ∈ scope.names, z.2 = .local → scope.names.lookup z.1 = some .local) (hx : scope.names.lookup x = some .local)
    (X : (hd.heap_1 w.params).In g) (T : Top p loose mean mg mb g) (C16 : CodeHd g 20 16) (hlk : lk < 8) (hG : AllBare s.gens) (htr : TriplesOk qs.toList) (hd : dp + 12 < recursionLimit) (hu : un + 100 < cLine)
    (off : ∀ q ∈ rest, q.1 ≠ 145 ∧ q.1 ≠ 16) (src : ∀ v ∈ items, VSrc n R rest v) (hsz : items.length ≤ 1000)
    (hit : wpAny (model prog w) (arr dp un fr gd) (eval iter env) (HitL g env.locals m s items ((145, tabObj ps) :: (16, tabObj qs) :: rest)) E s)
    (elt' : ∀ (C : Addr) (v : Value) (h : Heap) (tk : Nat) (gs : Array GenState) (nw : List (Addr × Obj)) (m₃ : Str → Option Value) (Q' E' : Value → Shared → Prop), h.Ns C m₃ → m₃ x = some v → Fr g env.locals h m → News g env.locals h nw → (∀ q ∈ rest, q ∈ nw) →
      (∀ t, wpAny (model prog w) (arr dp un fr gd) (call (.ref 167) [v, .int lk t]) Q' E' { s with heap := h, toks := tk, gens := gs }) → wpAny (model prog w) (arr dp un fr gd) (eval elt (compEnvC scope cl C env)) Q' E' { s with heap := h, toks := tk, gens := gs })
    (done : ∀ D nD ys nw h tk gs, VJ n R ps rest items.length gs ys nw → Fr g env.locals h m → News g env.locals h ((D, W.listOf (List.toArray ys) nD) :: nw) → (∀ q ∈ nw, q.1 ≠ D) → Q (.ref D) { s with heap := h, toks := tk, gens := gs })
    (hs : ∀ x, foldedSetIterable iter env x = pure x := by intro _; rfl) :
    wpAny (model prog w) (arr dp un fr gd) (eval (.ListComp elt [⟨.Name x px, iter, [], 0⟩] scope pos) env) Q E s := by
  refine list_dG F0 hclos hcell hkind hnames hx (wpAny_mono hit (fun xv s₁ h₁ => ?_) fun _ _ e => e) hs
  obtain ⟨l3, n3, h', tk', rfl, rfl, F, h145, N⟩ := h₁
  have hl3 := N (l3, W.listOf items.toArray n3) (.head _)
  have hlt : l3 < h'.objs.size := Heap.lt_size hl3.1
  have hne : l3 ≠ h'.objs.size := Nat.ne_of_lt hlt
  refine wpAny_pyIter_list ⟨_, hl3.1, rfl, _, rfl⟩ ?_
  have WK := Walks.list (prog := prog) (w := w) (A := arr dp un fr gd) rfl h'.objs.size l3 hne items.toArray
  have kp : ∀ b o, h'.get? b = some o → (h'.push { cls := .type "list_iterator", data := .fields #[.ref l3, .int 0 0] }).get? b = some o := fun b o e => Heap.get?_push_of_some _ e
  have hnew : g.get? h'.objs.size = none := next_is_new F
  have offN : ∀ q ∈ (145, tabObj ps) :: (16, tabObj qs) :: (l3, W.listOf items.toArray n3) :: rest, q ∈ (l3, W.listOf items.toArray n3) :: (145, tabObj ps) :: (16, tabObj qs) :: rest := fun q hq => by
    simp only [List.mem_cons] at hq ⊢
    rcases hq with h | h | h | h
    · exact .inr (.inl h)
    · exact .inr (.inr (.inl h))
    · exact .inl h
    · exact .inr (.inr (.inr h))
  have N2 := news_sub N offN
  have o3 : l3 ≠ 145 ∧ l3 ≠ 16 := ⟨Nat.ne_of_gt h145, fun e => by
    have := h145
    rw [e] at this
    exact absurd this (by decide)⟩
  refine (fun KK kk => kk h'.objs.size _ _ _ _ _ (VJ n R ps ((l3, W.listOf items.toArray n3) :: rest)) rfl WK (by simp [sizeLine_eq]; omega) ⟨⟨_, Heap.get?_push_size _ rfl, rfl, rfl⟩, ⟨_, kp _ _ hl3.1, rfl, _, rfl⟩⟩ ?hob ?hfp ?hlt ?hLI hnew (F.push _) (kept_news N2 kp) ?hnI ?hJ ?step ?done)
  case hob =>
    rintro i h ⟨⟨o, ho, _⟩, _⟩
    exact ⟨o, ho⟩
  case hfp =>
    intro b hb
    rcases List.mem_cons.mp hb with e | hb
    · exact .inl e
    · refine .inr (.inr ⟨W.listOf items.toArray n3, fun i gs ys nw hJ => ?_⟩)
      obtain ⟨_, _, r', _, rfl, _, hs', _, _⟩ := hJ
      rw [List.mem_singleton.mp hb]
      exact .tail _ (.tail _ (hs' _ (.head _)))
  case hlt =>
    intro b hb
    rw [Heap.size_push]
    rcases List.mem_cons.mp hb with rfl | hb
    · exact Nat.lt_succ_self _
    · rw [List.mem_singleton.mp hb]; exact Nat.lt_succ_of_lt hlt
  case hLI => exact fun e => absurd F.ns.lt (by rw [e]; exact Nat.lt_irrefl _)
  case hnI => exact fun q hq e => absurd (Heap.lt_size (N2 q hq).1) (by rw [e]; exact Nat.lt_irrefl _)
  case hJ =>
    refine ⟨hG, qs, _, htr, rfl, fun q hq => ?_, fun q hq => hq, nofun, rfl⟩
    rcases List.mem_cons.mp hq with rfl | hq
    · exact o3
    · exact off q hq
  case step =>
    intro i v C oC D oI nD ys nw h tk gs m₃ E' hi hP hJ hns hm F1 N1 off1
    have hv : v ∈ items := List.mem_of_getElem? (by simpa using hP)
    have hS : VSrc n R ((l3, W.listOf items.toArray n3) :: rest) v := by
      obtain ⟨lx, vx, nx, rx, a1, a2, a3⟩ := src v hv
      exact ⟨lx, vx, nx, rx, a1, .tail _ a2, a3⟩
    have hsub : ∀ q ∈ rest, q ∈ nw := fun q hq => by
      obtain ⟨_, _, r', _, rfl, _, hs', _, _⟩ := hJ
      exact .tail _ (.tail _ (hs' _ (.tail _ hq)))
    refine elt' C v h tk gs nw m₃ _ E' hns hm F1 (news_sub N1 fun q hq => .tail _ (.tail _ (.tail _ hq))) hsub fun t => ?_
    exact vj_step hJ hS hlk F1 N1 off1 X T C16 hd hu
  case done =>
    intro D nD ys nw h tk gs hJ F1 N1 off1
    refine done D nD ys nw h tk gs ?_ F1 N1 off1
    obtain ⟨a1, qs', r', a2, a3, a4, a5, a6, a7⟩ := hJ
    exact ⟨a1, qs', r', a2, a3, a4, fun q hq => a5 q (.tail _ hq), a6, by simpa using a7⟩
end

end
section
/-- the tuple of a profile -/
noncomputable def profO (P : Prof) (t1 t2 t3 t4 : Tok) (d : Addr) : Obj := { cls := .type "tuple", data := .seq [Value.int P.1 t1, Value.int P.2.1 t2, Value.int P.2.2.1 t3, Value.int P.2.2.2.1 t4, Value.ref d].toArray }
/-- its dict -/
structure ProfAt (prog : Program) (w : World) (p d : Addr) (od : Obj) (P : Prof) : Prop where
  dict : ∃ kvs, od.IsDictOf (PySem.intKind prog w) kvs ∧ PyProof.V.FlatPairs PyData.int kvs (kdfD P.2.2.2.2)
  lo : (d == sysModules) = false
  ne : p ≠ d
structure CarStep (room : Int) (a b : List Int) : Prop where
  ok : MovOk a (carP room a)
  to : movedRow a (carP room a) = b
structure RobStep (bb : Bool) (a b : List Int) (fs : List Int) (P : Prof) : Prop where
  run : robP bb a = some (fs, P)
  ok : MovOk a P
  to : movedRow a P = b
/-- what the end of the law asks: the bytes turned and the way home -/
structure FinRun (room : Int) (bb : Bool) (R last back home hA hB fs1 fs2 : List Int) (P1 P2 : Prof) : Prop where
  hne : last.length = R.length
  hR1 : 1 ≤ R.length
  hbl : back.length = R.length
  hhl : home.length = R.length
  hAl : hA.length ≤ 40
  hBl : hB.length ≤ 40
  bin : KBa.In (last ++ R)
  bin2 : KBa.In (back ++ home)
  sw : swapTo ((last ++ R).map fun n => n.toNat.toUInt8) R.length (R.length * 2) = byteArr (back ++ home)
  r1 : RobStep bb back hA fs1 P1
  c1 : CarStep room hA home
  c2 : CarStep room back hB
  r2 : RobStep bb hB home fs2 P2
/-- what a run of the law asks of the rows -/
structure LawRun (num room : Int) (bb : Bool) (R near far last : List Int) (fs1 : List Int) (SP : Prof) (fs2 : List Int) (NP : Prof) (n : Nat) : Prop where
  r : rowOf num room = R
  rl : R.length ≤ 40
  c1 : CarStep room R near
  nl : near.length ≤ 40
  r1 : RobStep bb R far fs1 SP
  fl : far.length ≤ 40
  c2 : CarStep room far last
  ll : last.length ≤ 40
  ne : last ≠ []
  r2 : RobStep bb near last fs2 NP
  v1 : VanOk R n
  v2 : VanOk near n
  v3 : VanOk far n
  v4 : VanOk last n
  g2 : goneL n near = goneL n R
  g3 : goneL n far = goneL n R
  g4 : goneL n last = goneL n R
  t2 : redN n near = redN n R
  t3 : redN n far = redN n R
  t4 : redN n last = redN n R
  x : mkS (tx (redN n R)) = Txt.mul (Str.ofString "known") ((R.length : Int) - 2 * R.sum)
  q1 : ((goneL n R).take (if R.sum < room then R.sum else room).toNat).sum = 7 * (carP room R).2.1
  q3 : (carP room far).2.1 = (carP room R).2.1
  q2 : SP.2.1 = R.sum
  fin : ∃ back home hA hB fs3 fs4 P3 P4, FinRun room bb R last back home hA hB fs3 fs4 P3 P4
section
variable {prog : Program} {w : World} {p : Program} {loose : List Str} {mean : ExcName → Option Value} {mg mb : Str → Option Value} {g : Heap} {L : Addr} {m : Str → Option Value} {s : Shared} {Q E : Value → Shared → Prop} {dp un : Nat} {fr : Option (List Env)} {gd : Option (List Code)}
  {ps : Array Value} {A B : Obj} {rest : List (Addr × Obj)} {l z : Addr} {vs : List Value} {nl : Nat} {row row' fs : List Int} {oz : Obj}
theorem nw_cons {h : Heap} {all r : List (Addr × Obj)} {x : Addr × Obj} (N : News g L h all) (hx : x ∈ all) (hr : News g L h r) : News g L h (x :: r) := fun q hq => by
  rcases List.mem_cons.mp hq with rfl | hq
  · exact N _ hx
  · exact hr q hq
theorem get_two {h : Heap} {q : Addr × Obj} (N : News g L h ((145, A) :: (16, B) :: rest)) (hq : q ∈ rest) : h.get? q.1 = some q.2 := (N q (.tail _ (.tail _ hq))).1
theorem rob_call {bb : Bool} {P : Prof} (F : Fr g L s.heap m) (N : News g L s.heap ((145, tabObj ps) :: (16, B) :: rest)) (off : ∀ q ∈ rest, q.1 ≠ 145 ∧ q.1 ≠ 16) (hzm : (z, oz) ∈ rest) (TS : TabS ps lamPos lamQual z oz) (hlm : (l, W.listOf vs.toArray nl) ∈ rest)
    (hi : IntsAre vs row) (hlen : row.length ≤ 40) (hlz : l ≠ z) (hrob : robP bb row = some (fs, P)) (X : (hd.heap_1 w.params).In g) (T : Top p loose mean mg mb g) (hdp : dp + 10 < recursionLimit) (hu : un + 100 < cLine)
    (h : ∀ p d od t1 t2 t3 t4 z' oz' ps' h' tk', Fr g L h' m → News g L h' ((145, tabObj ps') :: (16, B) :: (p, profO P t1 t2 t3 t4 d) :: (d, od) :: (z', oz') :: rest) → (∀ q ∈ (p, profO P t1 t2 t3 t4 d) :: (d, od) :: (z', oz') :: rest, q.1 ≠ 145 ∧ q.1 ≠ 16) →
      TabS ps' lamPos lamQual z' oz' → (∀ q ∈ rest, q.1 ≠ z → q.1 ≠ z') → ProfAt prog w p d od P → Q (.ref p) { s with heap := h', toks := tk' }) :
    wpAny (model prog w) (arr dp un fr gd) (call (.ref 157) [.ref l, .bool bb]) Q E s := by
  have hP := N (145, tabObj ps) (.head _)
  have hz := N _ (.tail _ (.tail _ hzm))
  refine tells_robots l vs row bb fs P hi hlen hrob _ _ _ _ _ _ _ g ps z oz F.keep X T hP.2.2 hP.1 hz.2.2 hz.1 (off _ hzm).1 TS ⟨_, get_two N hlm, rfl, _, rfl⟩ hlz hdp hu ?_
  intro v h' tk' ps' z' oz' k h145 TS' hz' hz'n hz'f hp
  obtain ⟨F1, N1⟩ := led_145 F N k h145 off
  obtain ⟨p2, d2, od2, b1, b2, b3, b4, rfl, hp2, hd2, hod, lo, fp, fd, ne⟩ := hp
  obtain ⟨N2, off2⟩ := led_z F N N1 hz'f hzm hz' off
  obtain ⟨N3, off3⟩ := led_put F N N2 fd hd2 off2
  obtain ⟨N4, off4⟩ := led_put F N N3 fp hp2 off3
  refine h p2 d2 od2 b1 b2 b3 b4 z' oz' ps' h' tk' F1 N4 off4 TS' (fun q hq hqz e => ?_) ⟨hod, lo, ne⟩
  rcases hz'f with hn | e2
  · have h1 := get_two N hq
    rw [e, hn] at h1; cases h1
  · exact hqz (e.trans (Prod.mk.inj e2).1)
theorem car_call {room way : Int} {tr tw : Tok} (F : Fr g L s.heap m) (N : News g L s.heap ((145, A) :: (16, B) :: rest)) (off : ∀ q ∈ rest, q.1 ≠ 145 ∧ q.1 ≠ 16) (hlm : (l, W.listOf vs.toArray nl) ∈ rest)
    (hi : IntsAre vs row) (hlen : row.length ≤ 40) (hroom : 1 ≤ room ∧ room ≤ 3) (hway : -3 ≤ way ∧ way ≤ 3 ∧ way ≠ 0) (X : (hd.heap_1 w.params).In g) (T : Top p loose mean mg mb g) (hdp : dp + 8 < recursionLimit) (hu : un + 80 < cLine)
    (h : ∀ p d od t1 t2 t3 t4 h' tk', Fr g L h' m → News g L h' ((145, A) :: (16, B) :: (p, profO (carP room row) t1 t2 t3 t4 d) :: (d, od) :: rest) → (∀ q ∈ (p, profO (carP room row) t1 t2 t3 t4 d) :: (d, od) :: rest, q.1 ≠ 145 ∧ q.1 ≠ 16) →
      ProfAt prog w p d od (carP room row) → Q (.ref p) { s with heap := h', toks := tk' }) :
    wpAny (model prog w) (arr dp un fr gd) (call (.ref 143) [.ref l, .int room tr, .int way tw]) Q E s := by
  refine (tells_carrier l vs row room way tr tw hi hlen hroom hway).use F X T hdp hu ⟨_, get_two N hlm, rfl, _, rfl⟩ ?_
  rintro v h' tk' k F1 ⟨p1, d1, od1, a1, a2, a3, a4, rfl, hp1, hd1, hod, lo, fp, fd, ne⟩
  obtain ⟨N2, off2⟩ := led_add2 F N k fp hp1 fd hd1 off
  exact h p1 d1 od1 a1 a2 a3 a4 h' tk' F1 N2 off2 ⟨hod, lo, ne⟩
theorem mov_call {P : Prof} {pa d : Addr} {od : Obj} {t1 t2 t3 t4 : Tok} (F : Fr g L s.heap m) (N : News g L s.heap ((145, A) :: (16, B) :: rest)) (off : ∀ q ∈ rest, q.1 ≠ 145 ∧ q.1 ≠ 16) (hlm : (l, W.listOf vs.toArray nl) ∈ rest)
    (hpm : (pa, profO P t1 t2 t3 t4 d) ∈ rest) (hdm : (d, od) ∈ rest) (PA : ProfAt prog w pa d od P)
    (hi : IntsAre vs row) (hlen : row.length ≤ 40) (ok : MovOk row P) (to : movedRow row P = row') (hsm : g.get? sysModules ≠ none) (X : (hd.heap_1 w.params).In g) (T : Top p loose mean mg mb g) (hdp : dp + 12 < recursionLimit) (hu : un + 100 < cLine)
    (h : ∀ D ys n h' tk', Fr g L h' m → News g L h' ((145, A) :: (16, B) :: (D, W.listOf (List.toArray ys) n) :: rest) → (∀ q ∈ (D, W.listOf (List.toArray ys) n) :: rest, q.1 ≠ 145 ∧ q.1 ≠ 16) → (∀ q ∈ rest, D ≠ q.1) → IntsAre ys row' → Q (.ref D) { s with heap := h', toks := tk' }) :
    wpAny (model prog w) (arr dp un fr gd) (call (.ref 162) [.ref l, .ref pa]) Q E s := by
  obtain ⟨kvs, hod, hfl⟩ := PA.dict
  refine (tells_moved l vs row pa d od t1 t2 t3 t4 kvs P hi hlen ok.len hod hfl PA.lo PA.ne ok.nd ok.nc ok.len2 ok.nd2 ok.eq).use F X T hdp hu ⟨⟨_, get_two N hlm, rfl, _, rfl⟩, sm_of F hsm, get_two N hpm, get_two N hdm⟩ ?_
  rintro v h' tk' k F1 ⟨D, ys, n, rfl, hD, hI, hf⟩
  obtain ⟨N2, off2⟩ := led_add F N k hf hD off
  rw [to] at hI
  refine h D ys n h' tk' F1 N2 off2 (fun q hq e => ?_) hI
  have h1 := get_two N hq
  rw [← e, hf] at h1; cases h1
end

end
section
section
variable {prog : Program} {w : World} {A : Around} {E : Value → Shared → Prop} {s : Shared} {h₀ : Heap} {L : Addr} {m : Str → Option Value} {news : List (Addr × Obj)}
open PySem.W.KBw
noncomputable def ByteAt (b : Array UInt8) (i : Nat) (v : Value) : Prop := ∃ c u, b[i]? = some c ∧ v = .int (c.toNat : Int) u
set_option maxRecDepth 100000 in
theorem extend_bytes {R : Result → Shared → Prop} (hh : A.handled = none) (x : Array UInt8) (t : Tok) (S : Addr) (res : Value) (c₀ : Nat) (hS : s.heap.get? S = some { cls := .type "list", data := .seq #[] c₀ })
    (hR : ∀ h' tk acc' c', (∀ b o, b ≠ S → s.heap.get? b = some o → h'.get? b = some o) → h'.get? S = some { cls := .type "list", dict := none, data := .seq acc' c', slots := #[] } →
      ItemsOf (ByteAt x) acc' x.size → R (.ok (.ret res)) { s with heap := h', toks := tk }) (hn : x.size ≤ sizeLine) :
    wpAny (model prog w) A.in1 (Builtin.List.listExtendWith (.ref S) (.bytes x t) res)
      (fun fin s' => match fin with | .done f => R (.ok f) s' | .again c' => c'.quiet = true ∧ codeAny (model prog w) A c' R s') (fun e s' => R (.error e) s') s := by
  have hSI : S ≠ s.heap.objs.size := Nat.ne_of_lt (Heap.lt_size hS)
  have hSf : S ∉ [s.heap.objs.size] := fun hm => hSI (List.mem_singleton.mp hm)
  unfold Builtin.List.listExtendWith
  refine wpAny_bind (wpAny_typeOf (T := "bytes") (v := .bytes x t) rfl ?_)
  have h1 : Builtin.List.listSameRef (.ref S) (.bytes x t) = false := rfl
  have h2 : (Value.type "bytes" == Value.type "list") = false := by decide
  have h3 : (Value.type "bytes" == Value.type "tuple") = false := by decide
  simp only [h1, h2, h3, Bool.or_false, Bool.false_eq_true, if_false]
  refine wpAny_bind (pyIter_bytes ?_)
  refine wpAny_bind (wpAny_holding ?_)
  unfold Builtin.List.listLengthHint
  refine wpAny_bind (wpAny_specialOf (T := "bytes") (v := .bytes x t) rfl PySem.W.FB.slot_bytes_len.lookup ?_)
  wp_delta
  refine wpAny_bind (wpAny_isInstance (T := "bytes") (v := .bytes x t) (b := true) rfl (by rw [isSubtype_type]; kernel_rfl) ?_)
  show wpAny _ _ (typeOf (Value.bytes x t) >>= _) _ _ _
  refine wpAny_bind (wpAny_typeOf (T := "bytes") (v := .bytes x t) rfl ?_)
  refine wpAny_pure ?_
  rw [if_neg (by decide)]
  refine wpAny_pure ⟨plainId_quiet F.plain_extend_loop _, codeAny_extend_loopS (walks (prog := prog) (w := w) (A := A.in1) hh s.heap.objs.size x t).toS hn _ hSf _ x.size 0 _ _ _ rfl (Nat.zero_le _) ⟨_, Heap.get?_push_size _ rfl, rfl, rfl⟩ (Heap.get?_push_of_some _ hS) (ItemsOf.nil _) fun s' acc' c' hm hS' hacc => ?_⟩
  rw [Moved.eq_with hm]
  refine hR s'.heap s'.toks acc' c' (fun b ob hb e => hm.heap b ob (fun hmem => ?_) (Heap.get?_push_of_some _ e)) hS' hacc
  rcases List.mem_cons.mp hmem with e' | hmem
  · exact hb e'
  · exact absurd (Heap.lt_size e) (by rw [List.mem_singleton.mp hmem]; exact Nat.lt_irrefl _)
theorem init_bytes {R : Result → Shared → Prop} (hh : A.handled = none) (x : Array UInt8) (t : Tok) (S : Addr) (hS : s.heap.get? S = some { cls := .type "list", data := .seq #[] })
    (hR : ∀ h' tk acc' c', (∀ b o, b ≠ S → s.heap.get? b = some o → h'.get? b = some o) → h'.get? S = some { cls := .type "list", dict := none, data := .seq acc' c', slots := #[] } →
      ItemsOf (ByteAt x) acc' x.size → R (.ok (.ret .none)) { s with heap := h', toks := tk }) (hn : x.size ≤ sizeLine) :
    wpAny (model prog w) A.in1 (Builtin.«list.__init__» ⟨[.ref S, .bytes x t], []⟩)
      (fun fin s' => match fin with | .done f => R (.ok f) s' | .again c' => c'.quiet = true ∧ codeAny (model prog w) A c' R s') (fun e s' => R (.error e) s') s := by
  show wpAny _ _ (do let old ← Builtin.List.listItems (.ref S); Builtin.List.listUpdate (.ref S) (fun _ => #[]); letGo old.toList.reverse; Builtin.List.listExtendWith (.ref S) (.bytes x t) .none) _ _ s
  refine wpAny_bind ?_
  unfold Builtin.List.listItems
  refine wpAny_bind (wpAny_seqItems hS rfl (wpAny_pure ?_))
  show wpAny _ _ (updateSeq S (fun _ => #[]) >>= fun _ => letGo (#[] : Array Value).toList.reverse >>= fun _ => Builtin.List.listExtendWith (.ref S) (.bytes x t) .none) _ _ s
  refine wpAny_bind (wpAny_updateSeq hS rfl ?_)
  have hS₂ := Heap.get?_update_self (Obj.mapSeq (fun _ => (#[] : Array Value))) hS rfl
  refine wpAny_bind (wpAny_letGo ?_)
  refine extend_bytes (hn := hn) hh x t S .none _ hS₂ fun h' tk acc' c' hk hS' hacc => ?_
  exact hR h' tk acc' c' (fun b o hb e => hk b o hb ((Heap.get?_update_other _ _ (Ne.symm hb)).trans e)) hS' hacc
theorem bytes_ints : ∀ {x : List UInt8} {ys : List Value}, ys.length = x.length → (∀ j v, ys[j]? = some v → ByteAt x.toArray j v) → IntsAre ys (x.map fun c => (c.toNat : Int))
  | [], [], _, _ => .nil
  | c :: x, v :: ys, hl, h => by
    obtain ⟨c', u, hc, rfl⟩ := h 0 v rfl
    have e : c' = c := by simpa using hc.symm
    rw [e]
    exact .cons _ _ (bytes_ints (by simpa using hl) fun j v hv => by
      obtain ⟨c', u, hc, e⟩ := h (j + 1) v hv
      exact ⟨c', u, by simpa using hc, e⟩)
theorem bints_inj {b c : Array UInt8} (h : bInts b = bInts c) : b.toList = c.toList := by
  have hi : ∀ x y : UInt8, (x.toNat : Int) = (y.toNat : Int) → x = y := fun x y e => UInt8.toNat.inj (by omega)
  have go : ∀ l r : List UInt8, (l.map fun c => (c.toNat : Int)) = (r.map fun c => (c.toNat : Int)) → l = r := by
    intro l
    induction l with
    | nil => intro r e; cases r with
      | nil => rfl
      | cons y r => cases e
    | cons x l ih => intro r e; cases r with
      | nil => cases e
      | cons y r =>
        rw [List.map_cons, List.map_cons] at e
        rw [hi x y (List.cons.inj e).1, ih r (List.cons.inj e).2]
  exact go _ _ h
theorem list_bytes {Q : Value → Shared → Prop} {x : Array UInt8} {t : Tok} {ks : List Int} (hk : bInts x = ks) (hh : A.handled = none) (Fh : Fr h₀ L s.heap m) (N : News h₀ L s.heap news) (hn : ks.length ≤ 16777216)
    (hQ : ∀ D h' tk (ys : List Value) n, Fr h₀ L h' m → News h₀ L h' ((D, W.listOf ys.toArray n) :: news) → (∀ q ∈ news, q.1 ≠ D) → IntsAre ys ks → Q (.ref D) { s with heap := h', toks := tk }) :
    wpAny (model prog w) A (call (.type "list") [.bytes x t]) Q E s := by
  refine callType_codes (Q₁ := fun obj s₁ => obj = .ref s.heap.objs.size ∧ s₁ = { s with heap := s.heap.push { cls := .type "list", data := .seq #[] } }) F.called_list (F.typeCall_list_1 _) F.entry_list_init
    (code_list_new _ ⟨rfl, rfl⟩) fun obj s₁ h₁ => ?_
  obtain ⟨rfl, rfl⟩ := h₁
  have hS : (s.heap.push { cls := .type "list", data := .seq #[] }).get? s.heap.objs.size = some { cls := .type "list", data := .seq #[] } := Heap.get?_push_size _ rfl
  refine ⟨⟨_, hS, rfl⟩, F.args_list_init_2 _ _, init_bytes (A := A.in1) hh x t _ hS (fun h' tk acc' c' hk' hS' hacc => ?_) (by rw [← ints_length, hk, sizeLine_eq]; exact hn)⟩
  have kp : Keeps s.heap h' := fun b o e => hk' b o (Nat.ne_of_lt (Heap.lt_size e)) (Heap.get?_push_of_some _ e)
  refine ⟨rfl, hQ _ h' tk acc'.toList c' (Fh.keeps kp) (news_add Fh (Heap.get?_none_of_le (Nat.le_refl _)) hS' (kept_news N kp)) (fun q hq e => absurd (Heap.lt_size (N q hq).1) (by rw [e]; exact Nat.lt_irrefl _)) ?_⟩
  rw [← hk]
  exact bytes_ints (x := x.toList) (by simpa using hacc.1) fun j v hv => hacc.2 j v (by simpa using hv)
end

end
section
/-- what stands at the address of a def -/
noncomputable def RecAt (K : Frag) (f : Addr) : Type := {x : List Stmt × Scope // ∃ oc oda name qual params dV kV doc pm an cdv ct osl, K.lookup f = some ⟨oc, oda, .func (fnOf name qual params x.1 x.2 dV kV doc pm an cdv ct), osl⟩}
noncomputable def RecAt.mk {K : Frag} {f : Addr} {name qual : Str} {params : Arguments} {body : List Stmt} {scope : Scope} {dV kV doc pm cdv ct oc : Value} {an oda : Option Addr} {osl : Array (Option Value)}
    (ho : K.lookup f = some ⟨oc, oda, .func (fnOf name qual params body scope dV kV doc pm an cdv ct), osl⟩) : RecAt K f := ⟨(body, scope), _, _, _, _, _, _, _, _, _, _, _, _, _, ho⟩
set_option maxRecDepth 100000 in
set_option maxHeartbeats 8000000 in
noncomputable def lawRec (w : World) : RecAt (hd.heap_1 w.params) 172 := by
  refine' RecAt.mk ?k
  case k => k_is
noncomputable def lawBody (w : World) : List Stmt := (lawRec w).1.1
noncomputable def lawScope (w : World) : Scope := (lawRec w).1.2
section
variable {prog : Program} {w : World} {p : Program} {loose : List Str} {mean : ExcName → Option Value} {mg mb : Str → Option Value}
theorem TellsC.use {s : Shared} {h₀ : Heap} {L : Addr} {m : Str → Option Value} {f : Addr} {vs : List Value} {d u : Nat} {pre : Heap → Prop} {post : Heap → Heap → Value → Prop} (C : TellsC prog w p loose mean mg mb f vs d u pre post) {dp un : Nat} {fr : Option (List Env)} {gd : Option (List Code)} {Q E : Value → Shared → Prop}
    (F : Fr h₀ L s.heap m) (X : (hd.heap_1 w.params).In h₀) (T : Top p loose mean mg mb h₀) (hd : dp + d < recursionLimit) (hu : un + u < cLine) (hp : pre s.heap)
    (h : ∀ v h' tk', Keeps s.heap h' → Fr h₀ L h' m → post s.heap h' v → Q v { s with heap := h', toks := tk' }) :
    wpC (model prog w) (arr dp un fr gd) (call (.ref f) vs) Q E s :=
  C dp un fr gd s Q E (X.keeps F.keep) (T.keeps F.keep) hd hu hp fun v h' tk' k q => h v h' tk' k (F.keeps k) q
/-- the state behind the two branches -/
inductive EndH (g : Heap) (L : Addr) (m : Str → Option Value) (B : Obj) (rest : List (Addr × Obj)) (home : List Int) (s : Shared) (f : Flow) (s' : Shared) : Prop
  | mk (p0 : f = .next) (h' : Heap) (tk' : Nat) (D : Addr) (ys : List Value) (n : Nat) (xh : Value) (ps' : Array Value) (q0 : s' = { s with heap := h', toks := tk' }) (q1 : Fr g L h' (fun y => if y = Str.ofString "home" then some (.ref D) else if y = Str.ofString "half" then some xh else m y)) (q2 : News g L h' ((D, W.listOf (List.toArray ys) n) :: (145, tabObj ps') :: (16, B) :: rest)) (q3 : IntsAre ys home) : EndH g L m B rest home s f s'
theorem endh_C {A : Around} {E : Value → Shared → Prop} {s : Shared} {g : Heap} {L : Addr} {env : Env} {m : Str → Option Value} {B : Obj} {home : List Int} (rest : List (Addr × Obj)) {st : Stmt} {r : List Stmt} {Q : Flow → Shared → Prop}
    (_F : Fr g L s.heap m) (h : wpAny (model prog w) A (exec st env) (EndH g L m B rest home s) E s)
    (done : ∀ h' tk' D ys n xh ps', Fr g L h' (fun y => if y = Str.ofString "home" then some (.ref D) else if y = Str.ofString "half" then some xh else m y) → News g L h' ((D, W.listOf (List.toArray ys) n) :: (145, tabObj ps') :: (16, B) :: rest) → IntsAre ys home → wpC (model prog w) A (execs r env) Q E { s with heap := h', toks := tk' }) :
    wpC (model prog w) A (execs (st :: r) env) Q E s := by
  refine wpC_execs_cons (wpC.of (wpAny_mono h (fun f s' hf => ?_) fun _ _ e => e))
  obtain ⟨rfl, h', tk', D, ys, n, xh, ps', rfl, F, N, hI⟩ := hf
  exact done h' tk' D ys n xh ps' F N hI
set_option maxRecDepth 100000 in
set_option maxHeartbeats 8000000 in
theorem law_end2 {g h : Heap} {L' : Addr} {tk : Nat} {gs : Array GenState} {s : Shared} {Q : Flow → Shared → Prop} {E : Value → Shared → Prop} {dp un : Nat} {fr : Option (List Env)} {gd : Option (List Code)} {m0 : Str → Option Value} {xpairs xgone xlast xagain xfar xspread xnear xtaken xballs : Value}
    {ps qs : Array Value} {z c D lf : Addr} {oz : Obj} {vf vb : List Value} {nf nb nc : Nat} {R back home hA hB fs1 fs2 : List Int} {P1 P2 : Prof} {room a b wv : Int} {bb : Bool} {t0 t1 t2 t4 t5 : Tok}
    (F : Fr g L' h (fun y => if y = Str.ofString "back" then some (.ref D) else if y = Str.ofString "turned" then some (.bytes (byteArr (back ++ home)) t2) else if y = Str.ofString "pairs" then some xpairs else if y = Str.ofString "gone" then some xgone else if y = Str.ofString "last" then some xlast else if y = Str.ofString "again" then some xagain else if y = Str.ofString "far" then some xfar else if y = Str.ofString "spread" then some xspread else if y = Str.ofString "near" then some xnear else if y = Str.ofString "taken" then some xtaken else if y = Str.ofString "balls" then some xballs else if y = Str.ofString "first" then some (.ref lf) else if y = Str.ofString "backward" then some (.bool bb) else if y = Str.ofString "way" then some (.int wv t5) else if y = Str.ofString "room" then some (.int room t4) else if y = Str.ofString "cells" then some (.ref c) else m0 y))
    (N : News g L' h [(145, tabObj ps), (16, tabObj qs), (D, W.listOf vb.toArray nb), (lf, W.listOf vf.toArray nf), (c, W.listOf [Value.int a t0, Value.int b t1].toArray nc), (z, oz)])
    (off : ∀ q ∈ [(D, W.listOf vb.toArray nb), (lf, W.listOf vf.toArray nf), (c, W.listOf [Value.int a t0, Value.int b t1].toArray nc), (z, oz)], q.1 ≠ 145 ∧ q.1 ≠ 16) (hDz : D ≠ z)
    (X : (hd.heap_1 w.params).In g) (T : Top p loose mean mg mb g) (hsm : g.get? sysModules ≠ none) (TS : TabS ps lamPos lamQual z oz) (hIf : IntsAre vf R) (hIb : IntsAre vb back)
    (hR : R.length ≤ 40) (hd : dp + 30 < recursionLimit) (hu : un + 200 < cLine) (kbin2 : KBa.In (back ++ home)) (hbl : back.length = R.length) (hhl : home.length = R.length) (hAl : hA.length ≤ 40) (hBl : hB.length ≤ 40) (hroom : 1 ≤ room ∧ room ≤ 3) (hway : -3 ≤ wv ∧ wv ≤ 3 ∧ wv ≠ 0)
    (r1 : RobStep bb back hA fs1 P1) (c1 : CarStep room hA home) (c2 : CarStep room back hB) (r2 : RobStep bb hB home fs2 P2) (hR1 : 1 ≤ R.length)
    (ret : ∀ h' tk' ps', Keeps g h' → h'.get? 145 = some (tabObj ps') → h'.get? 16 = some (tabObj qs) → Q (.ret (.bool true)) { s with heap := h', toks := tk', gens := gs }) :
    wpC (model prog w) ((arr dp un fr gd).deeper (envOfC (Str.ofString "law") (lawScope w) L' 172 (.ref 171))) (execs ((lawBody w).drop 21) (envOfC (Str.ofString "law") (lawScope w) L' 172 (.ref 171))) Q E { s with heap := h, toks := tk, gens := gs } := by
  dsimp only [lawBody, lawRec, lawScope, List.drop, RecAt.mk] at *
  refine endh_C (B := tabObj qs) (home := home) [(lf, W.listOf vf.toArray nf)] F ?walk ?_
  case walk =>
    ktr_unf
    · refine rob_call F N off (by k_mem) TS (by k_mem) hIb (by omega) hDz r1.run X T (by show dp + 1 + 10 < _; exact room_le (k := 11) (by assumption) (by decide)) (by show un + 3 + 100 < _; exact room_le (k := 103) (by assumption) (by decide)) ?_
      intro p1 d1 od1 x1 x2 x3 x4 z1 oz1 ps1 h1 tk1 F1 N1 off1 TS1 hz1 PA1
      clear F N
      ktr_unf
      refine mov_call F1 N1 off1 (by k_mem) (by k_mem) (by k_mem) PA1 hIb (by omega) r1.ok r1.to hsm X T (by show dp + 1 + 12 < _; exact room_le (k := 13) (by assumption) (by decide)) (by show un + 3 + 100 < _; exact room_le (k := 103) (by assumption) (by decide)) ?_
      intro D2 ys2 n2 h2 tk2 F2 N2 off2 hf2 hI2
      clear F1 N1 off1
      ktr_unf
      rename Fr g _ _ _ => F3
      rename News g _ _ _ => N3
      refine car_call F3 N3 off2 (by k_mem) hI2 hAl hroom hway X T (by show dp + 1 + 8 < _; exact room_le (k := 9) (by assumption) (by decide)) (by show un + 3 + 80 < _; exact room_le (k := 83) (by assumption) (by decide)) ?_
      intro p4 d4 od4 y1 y2 y3 y4 h4 tk4 F4 N4 off4 PA4
      clear F3 N3 off2
      ktr_unf
      refine mov_call F4 N4 off4 (by k_mem) (by k_mem) (by k_mem) PA4 hI2 hAl c1.ok c1.to hsm X T (by show dp + 1 + 12 < _; exact room_le (k := 13) (by assumption) (by decide)) (by show un + 3 + 100 < _; exact room_le (k := 103) (by assumption) (by decide)) ?_
      intro D5 ys5 n5 h5 tk5 F5 N5 off5 hf5 hI5
      clear F4 N4 off4
      ktr_unf
      rename Fr g _ _ _ => F6
      rename News g _ _ _ => N6
      exact ⟨rfl, _, _, D5, ys5, n5, _, _, rfl, F6, nw_cons N6 (by k_mem) (nw_cons N6 (by k_mem) (nw_cons N6 (by k_mem) (nw_cons N6 (by k_mem) News.nil))), hI5⟩
    · refine car_call F N off (by k_mem) hIb (by omega) hroom hway X T (by show dp + 1 + 8 < _; exact room_le (k := 9) (by assumption) (by decide)) (by show un + 3 + 80 < _; exact room_le (k := 83) (by assumption) (by decide)) ?_
      intro p4 d4 od4 y1 y2 y3 y4 h4 tk4 F4 N4 off4 PA4
      clear F N off
      ktr_unf
      refine mov_call F4 N4 off4 (by k_mem) (by k_mem) (by k_mem) PA4 hIb (by omega) c2.ok c2.to hsm X T (by show dp + 1 + 12 < _; exact room_le (k := 13) (by assumption) (by decide)) (by show un + 3 + 100 < _; exact room_le (k := 103) (by assumption) (by decide)) ?_
      intro D5 ys5 n5 h5 tk5 F5 N5 off5 hf5 hI5
      clear F4 N4 off4
      ktr_unf
      rename Fr g _ _ _ => F3
      rename News g _ _ _ => N3
      refine rob_call F3 N3 off5 (by k_mem) TS (by k_mem) hI5 hBl (hf5 (z, oz) (by k_mem)) r2.run X T (by show dp + 1 + 10 < _; exact room_le (k := 11) (by assumption) (by decide)) (by show un + 3 + 100 < _; exact room_le (k := 103) (by assumption) (by decide)) ?_
      intro p1 d1 od1 x1 x2 x3 x4 z1 oz1 ps1 h1 tk1 F1 N1 off1 TS1 hz1 PA1
      clear F3 N3
      ktr_unf
      refine mov_call F1 N1 off1 (by k_mem) (by k_mem) (by k_mem) PA1 hI5 hBl r2.ok r2.to hsm X T (by show dp + 1 + 12 < _; exact room_le (k := 13) (by assumption) (by decide)) (by show un + 3 + 100 < _; exact room_le (k := 103) (by assumption) (by decide)) ?_
      intro D2 ys2 n2 h2 tk2 F2 N2 off2 hf2 hI2
      clear F1 N1 off1
      ktr_unf
      rename Fr g _ _ _ => F6
      rename News g _ _ _ => N6
      exact ⟨rfl, _, _, D2, ys2, n2, _, _, rfl, F6, nw_cons N6 (by k_mem) (nw_cons N6 (by k_mem) (nw_cons N6 (by k_mem) (nw_cons N6 (by k_mem) News.nil))), hI2⟩
  intro h7 tk7 D7 ys7 n7 xh ps7 F7 N7 hI7
  clear F N off
  dsimp only at F7 N7 ⊢
  have hin : KBa.In home := fun n hn => kbin2 n (List.mem_append_right _ hn)
  refine wpC_execs_cons (wpC.of ?_)
  ktr_unf
  · rename decide (home = []) = true => he
    rw [of_decide_eq_true he] at hhl
    rw [← hhl] at hR1
    cases hR1
  rename Fr g _ _ _ => F8
  rename News g _ _ _ => N8
  rename KBw.bInts (KBy.picked _ _ _) = _ => hb3
  rw [← hbl, List.length_append, Nat.min_eq_left (Nat.le_add_right _ _), List.drop_left, Nat.add_sub_cancel_left, List.take_length] at hb3
  have he : (byteArr home).toList = (KBy.picked (byteArr (back ++ home)) (some (R.length : Int)) none).toList := bints_inj ((KBa.ints_make hin).trans (by rw [← hbl]; exact hb3.symm))
  rw [he, beq_self_eq_true]
  exact ret _ _ _ F8.keep (N8 (145, tabObj ps7) (by k_mem)).1 (N8 (16, tabObj qs) (by k_mem)).1
set_option maxRecDepth 100000 in
set_option maxHeartbeats 8000000 in
theorem law_end {g h : Heap} {L' : Addr} {tk : Nat} {gs : Array GenState} {s : Shared} {Q : Flow → Shared → Prop} {E : Value → Shared → Prop} {dp un : Nat} {fr : Option (List Env)} {gd : Option (List Code)} {m0 : Str → Option Value} {xpairs xgone xagain xfar xspread xnear xtaken xballs : Value}
    {ps qs : Array Value} {z c ll lf : Addr} {oz : Obj} {vf vl : List Value} {nf nl nc : Nat} {R last back home hA hB fs1 fs2 : List Int} {P1 P2 : Prof} {room a b wv : Int} {bb : Bool} {t0 t1 t4 t5 : Tok}
    (F : Fr g L' h (fun y => if y = Str.ofString "pairs" then some xpairs else if y = Str.ofString "gone" then some xgone else if y = Str.ofString "last" then some (.ref ll) else if y = Str.ofString "again" then some xagain else if y = Str.ofString "far" then some xfar else if y = Str.ofString "spread" then some xspread else if y = Str.ofString "near" then some xnear else if y = Str.ofString "taken" then some xtaken else if y = Str.ofString "balls" then some xballs else if y = Str.ofString "first" then some (.ref lf) else if y = Str.ofString "backward" then some (.bool bb) else if y = Str.ofString "way" then some (.int wv t5) else if y = Str.ofString "room" then some (.int room t4) else if y = Str.ofString "cells" then some (.ref c) else m0 y))
    (N : News g L' h [(145, tabObj ps), (16, tabObj qs), (ll, W.listOf vl.toArray nl), (lf, W.listOf vf.toArray nf), (c, W.listOf [Value.int a t0, Value.int b t1].toArray nc), (z, oz)])
    (off0 : ∀ q ∈ [(ll, W.listOf vl.toArray nl), (lf, W.listOf vf.toArray nf), (c, W.listOf [Value.int a t0, Value.int b t1].toArray nc), (z, oz)], q.1 ≠ 145 ∧ q.1 ≠ 16)
    (X : (hd.heap_1 w.params).In g) (T : Top p loose mean mg mb g) (hsm : g.get? sysModules ≠ none) (TS : TabS ps lamPos lamQual z oz) (hIf : IntsAre vf R) (hIl : IntsAre vl last)
    (hR : R.length ≤ 40) (hd : dp + 30 < recursionLimit) (hu : un + 200 < cLine) (hroom : 1 ≤ room ∧ room ≤ 3) (hway : -3 ≤ wv ∧ wv ≤ 3 ∧ wv ≠ 0) (FR : FinRun room bb R last back home hA hB fs1 fs2 P1 P2)
    (ret : ∀ h' tk' ps', Keeps g h' → h'.get? 145 = some (tabObj ps') → h'.get? 16 = some (tabObj qs) → Q (.ret (.bool true)) { s with heap := h', toks := tk', gens := gs }) :
    wpC (model prog w) ((arr dp un fr gd).deeper (envOfC (Str.ofString "law") (lawScope w) L' 172 (.ref 171))) (execs ((lawBody w).drop 19) (envOfC (Str.ofString "law") (lawScope w) L' 172 (.ref 171))) Q E { s with heap := h, toks := tk, gens := gs } := by
  dsimp only [lawBody, lawRec, lawScope, List.drop, RecAt.mk] at *
  have hne := FR.hne
  have hR1 := FR.hR1
  have hbl := FR.hbl
  have hhl := FR.hhl
  have kbin := FR.bin
  have kbin2 := FR.bin2
  have hsw := FR.sw
  refine wpC_execs_cons (wpC_Assign_Name (wpC_Call_name ?_))
  ktr_unf
  refine wpC_callWith1 (P := fun h => (Mine.hd.heap_1 w.params).In h) (fun h X => keeps_K (K := Mine.hd.heap_1 w.params) (by k_is) h X) ?_
  ktr_unf
  rename Fr g _ _ _ => F1
  rename News g _ _ _ => N1
  have C1 := fun t t' => (tells_swap (prog := prog) (w := w) (p := p) (loose := loose) (mean := mean) (mg := mg) (mb := mb) ((last ++ R).map fun n => n.toNat.toUInt8) R.length t t' hR1 (by rw [List.length_map, List.length_append, hne, Nat.mul_two]) (by rw [List.length_map, List.length_append]; omega))
  refine TellsC.use (C1 _ _) F1 X T (by show dp + 1 + 6 < _; exact room_le (k := 7) (by assumption) (by decide)) (by show un + 3 + 40 < _; exact room_le (k := 43) (by assumption) (by decide)) trivial ?_
  rintro v h2 tk2 k2 F2 ⟨t2, rfl⟩
  rw [hsw]
  have N2 := led_keep N1 k2
  clear F1 N1
  ktr_unf
  refine wpC_execs_cons (wpC.of ?_)
  ktr_unf
  rename Fr g _ _ _ => F3
  rename News g _ _ _ => N3
  rename KBw.bInts (KBy.picked _ _ _) = _ => hb3
  rw [List.take_append_of_le_length (by rw [hbl]; exact Nat.min_le_left _ _), List.take_of_length_le (by rw [hbl, List.length_append, hbl]; omega)] at hb3
  refine list_bytes hb3 rfl F3 N3 (by omega) ?_
  intro D4 h4 tk4 ys4 n4 F4 N4 off4 hI4
  clear F3 N3
  ktr_unf
  rename Fr g _ _ _ => F5
  rename News g _ _ _ => N5
  have hoff : ∀ q ∈ [(D4, W.listOf ys4.toArray n4), (lf, W.listOf vf.toArray nf), (c, W.listOf [Value.int a t0, Value.int b t1].toArray nc), (z, oz)], q.1 ≠ 145 ∧ q.1 ≠ 16 := fun q hq => by
    rcases List.mem_cons.mp hq with rfl | hq
    · exact ⟨Ne.symm (off4 (145, tabObj ps) (by k_mem)), Ne.symm (off4 (16, tabObj qs) (by k_mem))⟩
    · exact off0 q (.tail _ hq)
  have N6 := nw_cons N5 (x := (145, tabObj ps)) (by k_mem) (nw_cons N5 (x := (16, tabObj qs)) (by k_mem) (nw_cons N5 (x := (D4, _)) (by k_mem) (nw_cons N5 (x := (lf, _)) (by k_mem) (nw_cons N5 (x := (c, _)) (by k_mem) (nw_cons N5 (x := (z, oz)) (by k_mem) News.nil)))))
  exact law_end2 F5 N6 hoff (Ne.symm (off4 (z, oz) (by k_mem))) X T hsm TS hIf hI4 hR hd hu kbin2 hbl hhl FR.hAl FR.hBl hroom hway FR.r1 FR.c1 FR.c2 FR.r2 hR1 ret
end

end
section
theorem pick_ends {vs : List Value} {ns : List Int} (hi : IntsAre vs ns) (v : Value) {y : Int} (h : 0 ≤ y) (hy : y ≤ vs.length) : IntsAre (slicePick (vs ++ [v]).toArray none (some y) none).toList (ns.take y.toNat) := by
  have e : sliceBounds none (some y) none (vs ++ [v]).toArray.size = (((0 : Nat) : Int), ((min y.toNat (vs ++ [v]).toArray.size : Nat) : Int), 1) := by
    simp only [sliceBounds, Option.getD_none, show (1 : Int) > 0 by decide, if_true, if_neg (show ¬ (y < 0) by omega)]
    congr 1
    congr 1
    omega
  rw [kmk_pick_nat _ e]
  show IntsAre (((vs ++ [v]).drop 0).take (min y.toNat (vs ++ [v]).toArray.size - 0)) _
  have h1 : y.toNat ≤ vs.length := by omega
  rw [List.drop_zero, Nat.sub_zero, List.size_toArray, kmk_take_min, List.take_append_of_le_length h1]
  exact hi.take _
section
variable {prog : Program} {w : World} {p : Program} {loose : List Str} {mean : ExcName → Option Value} {mg mb : Str → Option Value}
set_option maxRecDepth 100000 in
set_option maxHeartbeats 8000000 in
theorem law_mid {g h : Heap} {L' : Addr} {tk : Nat} {gs : Array GenState} {s : Shared} {Q : Flow → Shared → Prop} {E : Value → Shared → Prop} {dp un : Nat} {fr : Option (List Env)} {gd : Option (List Code)} {m0 : Str → Option Value} {xfar xnear : Value}
    {ps qs : Array Value} {z c ll lf lg p1 p2 p3 d1 d2 d3 : Addr} {oz : Obj} {vf vl yg : List Value} {nf nl nc n : Nat} {R last gn back home hA hB fs1 fs2 : List Int} {P1 P2 : Prof} {x : Str} {SP C1 C3 : Prof} {room a b wv pairs : Int} {bb : Bool} {t0 t1 t3 t4 t5 tg a1 a2 a3 a4 b1 b2 b3 b4 e1 e2 e3 e4 : Tok}
    (F : Fr g L' h (fun y => if y = Str.ofString "gone" then some (.ref lg) else if y = Str.ofString "last" then some (.ref ll) else if y = Str.ofString "again" then some (.ref p3) else if y = Str.ofString "far" then some xfar else if y = Str.ofString "spread" then some (.ref p2) else if y = Str.ofString "near" then some xnear else if y = Str.ofString "taken" then some (.ref p1) else if y = Str.ofString "balls" then some (.int R.sum t3) else if y = Str.ofString "first" then some (.ref lf) else if y = Str.ofString "backward" then some (.bool bb) else if y = Str.ofString "way" then some (.int wv t5) else if y = Str.ofString "room" then some (.int room t4) else if y = Str.ofString "cells" then some (.ref c) else m0 y))
    (N : News g L' h [(145, tabObj ps), (16, tabObj qs), (lg, W.listOf (List.toArray (yg ++ [Value.str x tg])) 0), (ll, W.listOf vl.toArray nl), (p3, profO C3 e1 e2 e3 e4 d3), (p2, profO SP b1 b2 b3 b4 d2), (p1, profO C1 a1 a2 a3 a4 d1), (lf, W.listOf vf.toArray nf), (c, W.listOf [Value.int a t0, Value.int b t1].toArray nc), (z, oz)])
    (X : (hd.heap_1 w.params).In g) (T : Top p loose mean mg mb g) (hIf : IntsAre vf R) (hIg : IntsAre yg gn) (hgl : gn.length = n) (hsum : R.sum = (n : Int)) (hn : n ≤ 40) (hR : R.length ≤ 40) (hroom : 1 ≤ room ∧ room ≤ 3)
    (hx : x = Txt.mul (Str.ofString "known") ((R.length : Int) - 2 * R.sum))
    (hpairs : (gn.take (if R.sum < room then R.sum else room).toNat).sum = pairs) (hq1 : 7 * C1.2.1 = pairs) (hq3 : 7 * C3.2.1 = pairs) (hq2 : SP.2.1 = R.sum)
    (hIl : IntsAre vl last) (hsm : g.get? sysModules ≠ none) (TS : TabS ps lamPos lamQual z oz) (off0 : ∀ q ∈ [(ll, W.listOf vl.toArray nl), (lf, W.listOf vf.toArray nf), (c, W.listOf [Value.int a t0, Value.int b t1].toArray nc), (z, oz)], q.1 ≠ 145 ∧ q.1 ≠ 16)
    (hway : -3 ≤ wv ∧ wv ≤ 3 ∧ wv ≠ 0) (FR : FinRun room bb R last back home hA hB fs1 fs2 P1 P2) (ret : ∀ h' tk' ps', Keeps g h' → h'.get? 145 = some (tabObj ps') → h'.get? 16 = some (tabObj qs) → Q (.ret (.bool true)) { s with heap := h', toks := tk', gens := gs })
    (hd : dp + 30 < recursionLimit) (hu : un + 200 < cLine) :
    wpC (model prog w) ((arr dp un fr gd).deeper (envOfC (Str.ofString "law") (lawScope w) L' 172 (.ref 171))) (execs ((lawBody w).drop 16) (envOfC (Str.ofString "law") (lawScope w) L' 172 (.ref 171))) Q E { s with heap := h, toks := tk, gens := gs } := by
  dsimp only [lawBody, lawRec, lawScope, List.drop, RecAt.mk, profO] at *
  refine wpC_execs_cons (wpC.of ?_)
  repeat' ((fail_if_success (with_reducible show wpAny _ _ (subscriptTail _ _ _ _ _) _ _ _)); (fail_if_success (with_reducible show wpAny _ _ (getItem (Value.ref _) _) _ _ _)); tb_rel)
  have hlg : yg.length = n := (hIg.length).trans hgl
  refine item_listL (x := .str x tg) ⟨_, (N (lg, _) (by k_mem)).1, rfl, _, rfl⟩ (by rw [hsum]; exact Int.natCast_nonneg _) (by rw [hsum]; omega) (by rw [hsum, Int.toNat_natCast, ← hlg, List.getElem?_append_right (Nat.le_refl _), Nat.sub_self]; rfl) ?_
  repeat' ((fail_if_success (with_reducible show wpAny _ _ (compareOp _ _ _) _ _ _)); tb_rel)
  dsimp only
  subst hx
  ktr_unf
  · rename (_ != _) = true => hbad
    simp at hbad
  refine wpC_execs_cons (wpC.of ?_)
  ktr_unf
  rename Fr g _ _ _ => F2
  rename News g _ _ _ => N2
  have hk0 : 0 ≤ (if R.sum < room then R.sum else room) ∧ (if R.sum < room then R.sum else room) ≤ (yg.length : Int) := by
    split <;> omega
  refine LSm.sum_ints F2 N2 rfl ⟨_, (N2 _ (.head _)).1, rfl, _, by rw [Array.toArray_toList]⟩ (pick_ends hIg _ hk0.1 hk0.2) ?_
  intro h3 tk3 t9 F3 N3
  rw [hpairs]
  clear F2 N2 hk0
  dsimp only at F3 N3 ⊢
  ktr_unf
  refine wpC_execs_cons (wpC.of ?_)
  ktr_unf
  · rename Fr g _ _ _ => F5
    rename News g _ _ _ => N5
    have N6 := nw_cons N5 (x := (145, tabObj ps)) (by k_mem) (nw_cons N5 (x := (16, tabObj qs)) (by k_mem) (nw_cons N5 (x := (ll, _)) (by k_mem) (nw_cons N5 (x := (lf, _)) (by k_mem) (nw_cons N5 (x := (c, _)) (by k_mem) (nw_cons N5 (x := (z, oz)) (by k_mem) News.nil)))))
    exact law_end F5 N6 off0 X T hsm TS hIf hIl hR hd hu hroom hway FR ret
  · rename ¬(_ = _) => hbad
    exact absurd (by rw [hq1, hq3, hq2]) hbad
end

end
section
section
variable {prog : Program} {w : World} {p : Program} {loose : List Str} {mean : ExcName → Option Value} {mg mb : Str → Option Value}
set_option maxRecDepth 100000 in
set_option maxHeartbeats 8000000 in
theorem law_van {g h : Heap} {L' : Addr} {tk : Nat} {s : Shared} {Q : Flow → Shared → Prop} {E : Value → Shared → Prop} {dp un : Nat} {fr : Option (List Env)} {gd : Option (List Code)} {m0 : Str → Option Value}
    {ps : Array Value} {z c ll lf lr ln p1 p2 p3 d1 d2 d3 : Addr} {oz oL : Obj} {vf vl vr vn : List Value} {nf nl nr nn nc n lk : Nat} {R near far last fs1 fs2 : List Int} {SP NP : Prof} {num room a b wv : Int} {bb : Bool} {t0 t1 t3 t4 t5 tl a1 a2 a3 a4 b1 b2 b3 b4 e1 e2 e3 e4 : Tok}
    (F : Fr g L' h (fun y => if y = Str.ofString "last" then some (.ref ll) else if y = Str.ofString "again" then some (.ref p3) else if y = Str.ofString "far" then some (.ref lr) else if y = Str.ofString "spread" then some (.ref p2) else if y = Str.ofString "near" then some (.ref ln) else if y = Str.ofString "taken" then some (.ref p1) else if y = Str.ofString "balls" then some (.int R.sum t3) else if y = Str.ofString "first" then some (.ref lf) else if y = Str.ofString "backward" then some (.bool bb) else if y = Str.ofString "way" then some (.int wv t5) else if y = Str.ofString "room" then some (.int room t4) else if y = Str.ofString "cells" then some (.ref c) else m0 y))
    (N : News g L' h [(145, tabObj ps), (16, tabObj #[]), (ll, W.listOf vl.toArray nl), (p3, profO (carP room far) e1 e2 e3 e4 d3), (lr, W.listOf vr.toArray nr), (p2, profO SP b1 b2 b3 b4 d2), (ln, W.listOf vn.toArray nn), (p1, profO (carP room R) a1 a2 a3 a4 d1), (lf, W.listOf vf.toArray nf), (c, W.listOf [Value.int a t0, Value.int b t1].toArray nc), (L' + 1, oL), (z, oz)])
    (off : ∀ q ∈ [(ll, W.listOf vl.toArray nl), (p3, profO (carP room far) e1 e2 e3 e4 d3), (lr, W.listOf vr.toArray nr), (p2, profO SP b1 b2 b3 b4 d2), (ln, W.listOf vn.toArray nn), (p1, profO (carP room R) a1 a2 a3 a4 d1), (lf, W.listOf vf.toArray nf), (c, W.listOf [Value.int a t0, Value.int b t1].toArray nc), (L' + 1, oL), (z, oz)], q.1 ≠ 145 ∧ q.1 ≠ 16)
    (dC : oL.data = Data.cell (some (.int (lk : Int) tl))) (hlk8 : lk < 8) (hnz : ln ≠ z)
    (X : (hd.heap_1 w.params).In g) (T : Top p loose mean mg mb g) (C16 : CodeHd g 20 16) (hG : AllBare s.gens) (hsm : g.get? sysModules ≠ none) (TS : TabS ps lamPos lamQual z oz)
    (hIf : IntsAre vf R) (hIn : IntsAre vn near) (hIr : IntsAre vr far) (hIl : IntsAre vl last) (hroom : 1 ≤ room ∧ room ≤ 3) (hway : -3 ≤ wv ∧ wv ≤ 3 ∧ wv ≠ 0) (LR : LawRun num room bb R near far last fs1 SP fs2 NP n)
    (hdp : dp + 30 < recursionLimit) (hu : un + 200 < cLine)
    (ret : ∀ h' tk' gs' ps' qs', Keeps g h' → h'.get? 145 = some (tabObj ps') → h'.get? 16 = some (tabObj qs') → AllBare gs' → Q (.ret (.bool true)) { s with heap := h', toks := tk', gens := gs' }) :
    wpC (model prog w) ((arr dp un fr gd).deeper (envOfC (Str.ofString "law") (lawScope w) L' 172 (.ref 171))) (execs ((lawBody w).drop 13) (envOfC (Str.ofString "law") (lawScope w) L' 172 (.ref 171))) Q E { s with heap := h, toks := tk } := by
  dsimp only [lawBody, lawRec, lawScope, List.drop, RecAt.mk] at *
  have hlast := LR.ne
  refine wpC_execs_cons (wpC.of ?_)
  ktr_unf
  rename Fr g _ _ _ => F1
  rename News g _ _ _ => N1
  have N2 := news_sub (a := (145, tabObj ps) :: (16, tabObj #[]) :: _) N1 (fun q hq => .tail _ hq)
  refine rob_call F1 N2 off (by k_mem) TS (by k_mem) hIn LR.nl hnz LR.r2.run X T (by show dp + 1 + 10 < _; exact room_le (k := 11) (by assumption) (by decide)) (by show un + 3 + 100 < _; exact room_le (k := 103) (by assumption) (by decide)) ?_
  intro p4 d4 od4 x1 x2 x3 x4 z2 oz2 ps2 h3 tk3 F3 N3 off3 TS3 hz3 PA4
  clear F1 N1 N2
  dsimp only at N3 off3 ⊢
  ktr_unf
  refine mov_call F3 N3 off3 (by k_mem) (by k_mem) (by k_mem) PA4 hIn LR.nl LR.r2.ok LR.r2.to hsm X T (by show dp + 1 + 12 < _; exact room_le (k := 13) (by assumption) (by decide)) (by show un + 3 + 100 < _; exact room_le (k := 103) (by assumption) (by decide)) ?_
  intro lq vq nq h4 tk4 F4 N4 off4 hf4 hIq
  clear F3 N3 off3 hz3
  dsimp only at N4 off4 ⊢
  ktr_unf
  have N5 := nw_cons N4 (x := (145, tabObj ps2)) (by k_mem) (nw_cons N4 (x := (16, tabObj #[])) (by k_mem) (nw_cons N4 (x := (ll, _)) (by k_mem) (nw_cons N4 (x := (p3, _)) (by k_mem) (nw_cons N4 (x := (lr, _)) (by k_mem) (nw_cons N4 (x := (p2, _)) (by k_mem) (nw_cons N4 (x := (ln, _)) (by k_mem) (nw_cons N4 (x := (p1, _)) (by k_mem) (nw_cons N4 (x := (lf, _)) (by k_mem) (nw_cons N4 (x := (c, _)) (by k_mem) (nw_cons N4 (x := (L' + 1, oL)) (by k_mem) (nw_cons N4 (x := (z2, oz2)) (by k_mem) News.nil)))))))))))
  have off5 : ∀ q ∈ [(ll, W.listOf vl.toArray nl), (p3, profO (carP room far) e1 e2 e3 e4 d3), (lr, W.listOf vr.toArray nr), (p2, profO SP b1 b2 b3 b4 d2), (ln, W.listOf vn.toArray nn), (p1, profO (carP room R) a1 a2 a3 a4 d1), (lf, W.listOf vf.toArray nf), (c, W.listOf [Value.int a t0, Value.int b t1].toArray nc), (L' + 1, oL), (z2, oz2)], q.1 ≠ 145 ∧ q.1 ≠ 16 := fun q hq => by
    simp only [List.mem_cons, List.not_mem_nil, or_false] at hq
    rcases hq with h | h | h | h | h | h | h | h | h | h <;> subst h <;> exact off4 _ (by k_mem)
  clear N4 off4 hf4 off PA4 TS hnz
  refine wpC_execs_cons (wpC.of ?_)
  ktr_unf
  rename Fr g _ _ _ => F6
  rename News g _ _ _ => N6
  refine tells_vanish lf vf R lk n _ hIf LR.rl hlk8 LR.v1.sum LR.v1.le LR.v1.ne _ _ _ _ _ _ _ g #[] F6.keep X T (N6 (16, tabObj #[]) (by k_mem)).2.2 C16 (N6 (16, tabObj #[]) (by k_mem)).1 (by trivial) hG ⟨_, (N6 (lf, _) (by k_mem)).1, rfl, _, rfl⟩ (by show dp + 1 + 12 < _; exact room_le (k := 13) (by assumption) (by decide)) (by show un + 3 + 100 < _; exact room_le (k := 103) (by assumption) (by decide)) ?_
  intro h7 tk7 gs7 qs1 lg yg tg k7 h16a htr1 hG1 hgf hg2 hIg
  obtain ⟨F7, N7⟩ := led_16 F6 N6 k7 h16a off5
  obtain ⟨N8, off8⟩ := led_put F6 N6 N7 hgf hg2 off5
  clear N7 off5 F6 N6
  dsimp only at N8 ⊢
  ktr_unf
  refine wpC_execs_cons (wpC.of ?_)
  ktr_unf
  rename Fr g _ _ _ => F9
  rename News g _ _ _ => N9
  refine comp_vj (n := n) (lk := lk) (R := R) (ps := ps2) (qs := qs1) (items := [.ref ln, .ref lr, .ref ll]) F9 (by rfl) (by decide) (by rfl) (by decide) (by rfl) X T C16 hlk8 hG1 htr1 (by show dp + 1 + 12 < _; exact room_le (k := 13) (by assumption) (by decide)) (by show un + 3 + 100 < _; exact room_le (k := 103) (by assumption) (by decide)) off8 ?src (by simp) ?hit ?elt ?done
  case src =>
    intro v hv
    simp only [List.mem_cons, List.not_mem_nil, or_false] at hv
    rcases hv with rfl | rfl | rfl
    · exact ⟨ln, vn, _, near, rfl, by k_mem, hIn, LR.nl, LR.v2, LR.g2, LR.t2⟩
    · exact ⟨lr, vr, _, far, rfl, by k_mem, hIr, LR.fl, LR.v3, LR.g3, LR.t3⟩
    · exact ⟨ll, vl, _, last, rfl, by k_mem, hIl, LR.ll, LR.v4, LR.g4, LR.t4⟩
  case hit =>
    ktr_unf
    exact ⟨_, _, _, _, rfl, rfl, by assumption, And.left (by assumption), by assumption⟩
  case elt =>
    intro C v h tk gs nw m₃ Q' E' hns hm F38 N38 hsub hcall
    have N39 := news_sub (a := [(L' + 1, _)]) N38 (fun q hq => hsub _ (by rw [List.mem_singleton.mp hq]; k_mem))
    clear N38
    ktr_unf
    exact hcall _
  case done =>
    intro D nD ys nw h40 tk40 gs40 hJ F40 N40 off40
    obtain ⟨hG4, qs4, rest4, htr4, rfl, off4, hsub4, hres4, hlen4⟩ := hJ
    obtain ⟨y1, y2, y3, rfl⟩ := three ys hlen4
    obtain ⟨D1, u1, w1, rfl, m1, i1⟩ := hres4 y1 (.head _)
    obtain ⟨D2, u2, w2, rfl, m2, i2⟩ := hres4 y2 (.tail _ (.head _))
    obtain ⟨D3, u3, w3, rfl, m3, i3⟩ := hres4 y3 (.tail _ (.tail _ (.head _)))
    obtain ⟨N41, off41⟩ := led_more (xs := [(D1, _), (D2, _), (D3, _)]) N40 off40 off4 hsub4 (fun q hq => by
      simp only [List.mem_cons, List.not_mem_nil, or_false] at hq
      rcases hq with rfl | rfl | rfl
      · exact m1
      · exact m2
      · exact m3)
    simp only [List.cons_append, List.nil_append] at N41 off41
    clear N40 off40 off4 hsub4 hres4 m1 m2 m3 off8
    dsimp only
    repeat' ((fail_if_success (with_reducible show wpAny _ _ (compareOp _ _ _) _ _ _)); (fail_if_success (with_reducible show wpAny _ _ (binaryOp _ _ _) _ _ _)); tb_rel)
    dsimp only
    rename Fr g _ _ _ => F42
    rename News g _ _ _ => N42
    refine KMa.mul (vs := [.ref lg]) (ws := [.ref lg, .ref lg, .ref lg]) F42 N42 ⟨_, (N42 _ (.head _)).1, rfl, _, rfl⟩ (by decide) (by decide) (show 1 * 3 ≤ 256 by decide) rfl ?_
    intro M h43 F43 N43 l43
    dsimp only
    have hok1 := ok_tx (redN n R)
    refine ne_dataH (reads_three (N43 (D, _) (by k_mem)).1 (reads_vd (N43 (D1, _) (by k_mem)).1 i1) (reads_vd (N43 (D2, _) (by k_mem)).1 i2) (reads_vd (N43 (D3, _) (by k_mem)).1 i3))
      (reads_three (N43 (M, _) (by k_mem)).1 (reads_vd (N43 (lg, _) (by k_mem)).1 hIg) (reads_vd (N43 (lg, _) (by k_mem)).1 hIg) (reads_vd (N43 (lg, _) (by k_mem)).1 hIg)) (shaped_vd hok1 _) (shaped_vd hok1 _) (by show un + 3 + 64 < _; exact room_le (k := 67) (by assumption) (by decide)) ?_
    rw [PySem.SeqAt.eqv_refl _ (SeqAt.canLay_of_shaped (shaped_vd hok1 _))]
    ktr_unf
    rename Fr g _ _ _ => F44
    try dsimp only at F44
    have N44 := nw_cons N43 (x := (145, tabObj ps2)) (by k_mem) (nw_cons N43 (x := (16, tabObj qs4)) (by k_mem) (nw_cons N43 (x := (lg, _)) (by k_mem) (nw_cons N43 (x := (ll, _)) (by k_mem) (nw_cons N43 (x := (p3, _)) (by k_mem) (nw_cons N43 (x := (p2, _)) (by k_mem) (nw_cons N43 (x := (p1, _)) (by k_mem) (nw_cons N43 (x := (lf, _)) (by k_mem) (nw_cons N43 (x := (c, _)) (by k_mem) (nw_cons N43 (x := (z2, oz2)) (by k_mem) News.nil)))))))))
    have off44 : ∀ q ∈ [(ll, W.listOf vl.toArray nl), (lf, W.listOf vf.toArray nf), (c, W.listOf [Value.int a t0, Value.int b t1].toArray nc), (z2, oz2)], q.1 ≠ 145 ∧ q.1 ≠ 16 := fun q hq => by
      simp only [List.mem_cons, List.not_mem_nil, or_false] at hq
      rcases hq with h | h | h | h <;> subst h <;> exact off41 _ (by k_mem)
    obtain ⟨back, home, hA, hB, fs3, fs4, P3, P4, FR⟩ := LR.fin
    try dsimp only
    exact law_mid F44 N44 X T hIf hIg (goneL_len n R) LR.v1.sum LR.v1.le LR.rl hroom LR.x LR.q1 rfl (by rw [LR.q3]) LR.q2 hIl hsm TS3 off44 hway FR (fun h' tk' ps' k h1 h2 => ret h' tk' gs40 ps' qs4 k h1 h2 hG4) hdp hu
end

end
section
section
variable {prog : Program} {w : World} {p : Program} {loose : List Str} {mean : ExcName → Option Value} {mg mb : Str → Option Value}
set_option maxRecDepth 100000 in
set_option maxHeartbeats 8000000 in
theorem law_runs {g h : Heap} {L' : Addr} {tk : Nat} {s : Shared} {Q : Flow → Shared → Prop} {E : Value → Shared → Prop} {dp un : Nat} {fr : Option (List Env)} {gd : Option (List Code)} {m0 : Str → Option Value}
    {c lf : Addr} {oL : Obj} {vf : List Value} {nf nc n lk : Nat} {R near far last fs1 fs2 : List Int} {SP NP : Prof} {num room a b wv : Int} {bb : Bool} {t0 t1 t3 t4 t5 tl : Tok}
    (F : Fr g L' h (fun y => if y = Str.ofString "balls" then some (.int R.sum t3) else if y = Str.ofString "first" then some (.ref lf) else if y = Str.ofString "backward" then some (.bool bb) else if y = Str.ofString "way" then some (.int wv t5) else if y = Str.ofString "room" then some (.int room t4) else if y = Str.ofString "cells" then some (.ref c) else m0 y))
    (N : News g L' h [(145, tabObj #[]), (16, tabObj #[]), (lf, W.listOf vf.toArray nf), (c, W.listOf [Value.int a t0, Value.int b t1].toArray nc), (L' + 1, oL)])
    (off : ∀ q ∈ [(lf, W.listOf vf.toArray nf), (c, W.listOf [Value.int a t0, Value.int b t1].toArray nc), (L' + 1, oL)], q.1 ≠ 145 ∧ q.1 ≠ 16)
    (dC : oL.data = Data.cell (some (.int (lk : Int) tl))) (hlk8 : lk < 8) (hfc : lf ≠ c)
    (X : (hd.heap_1 w.params).In g) (T : Top p loose mean mg mb g) (C16 : CodeHd g 20 16) (hG : AllBare s.gens) (hsm : g.get? sysModules ≠ none)
    (hIf : IntsAre vf R) (hroom : 1 ≤ room ∧ room ≤ 3) (hway : -3 ≤ wv ∧ wv ≤ 3 ∧ wv ≠ 0) (LR : LawRun num room bb R near far last fs1 SP fs2 NP n)
    (hdp : dp + 30 < recursionLimit) (hu : un + 200 < cLine)
    (ret : ∀ h' tk' gs' ps' qs', Keeps g h' → h'.get? 145 = some (tabObj ps') → h'.get? 16 = some (tabObj qs') → AllBare gs' → Q (.ret (.bool true)) { s with heap := h', toks := tk', gens := gs' }) :
    wpC (model prog w) ((arr dp un fr gd).deeper (envOfC (Str.ofString "law") (lawScope w) L' 172 (.ref 171))) (execs ((lawBody w).drop 7) (envOfC (Str.ofString "law") (lawScope w) L' 172 (.ref 171))) Q E { s with heap := h, toks := tk } := by
  dsimp only [lawBody, lawRec, lawScope, List.drop, RecAt.mk] at *
  refine wpC_execs_cons (wpC.of ?_)
  ktr_unf
  rename Fr g _ _ _ => F1
  rename News g _ _ _ => N1
  refine car_call F1 N1 off (by k_mem) hIf LR.rl hroom hway X T (by show dp + 1 + 8 < _; exact room_le (k := 9) (by assumption) (by decide)) (by show un + 3 + 80 < _; exact room_le (k := 83) (by assumption) (by decide)) ?_
  intro p1 d1 od1 a1 a2 a3 a4 h2 tk2 F2 N2 off2 PA1
  clear F1 N1
  dsimp only at N2 off2 ⊢
  ktr_unf
  refine wpC_execs_cons (wpC.of ?_)
  ktr_unf
  rename Fr g _ _ _ => F3
  rename News g _ _ _ => N3
  refine mov_call F3 N3 off2 (by k_mem) (by k_mem) (by k_mem) PA1 hIf LR.rl LR.c1.ok LR.c1.to hsm X T (by show dp + 1 + 12 < _; exact room_le (k := 13) (by assumption) (by decide)) (by show un + 3 + 100 < _; exact room_le (k := 103) (by assumption) (by decide)) ?_
  intro ln vn nn h4 tk4 F4 N4 off4 hn4 hIn
  clear F3 N3 off2
  dsimp only at N4 off4 ⊢
  ktr_unf
  refine wpC_execs_cons (wpC.of ?_)
  ktr_unf
  rename Fr g _ _ _ => F5
  rename News g _ _ _ => N5
  refine rob_call F5 N5 off4 (z := c) (by k_mem) (.inl rfl) (by k_mem) hIf LR.rl hfc LR.r1.run X T (by show dp + 1 + 10 < _; exact room_le (k := 11) (by assumption) (by decide)) (by show un + 3 + 100 < _; exact room_le (k := 103) (by assumption) (by decide)) ?_
  intro p2 d2 od2 b1 b2 b3 b4 z oz ps h6 tk6 F6 N6 off6 TS6 hz6 PA2
  have hnz : ln ≠ z := hz6 (ln, W.listOf vn.toArray nn) (by k_mem) (hn4 (c, W.listOf [Value.int a t0, Value.int b t1].toArray nc) (by k_mem))
  clear F5 N5 off4 hn4 hz6
  dsimp only at N6 off6 ⊢
  ktr_unf
  refine wpC_execs_cons (wpC.of ?_)
  ktr_unf
  rename Fr g _ _ _ => F7
  rename News g _ _ _ => N7
  refine mov_call F7 N7 off6 (by k_mem) (by k_mem) (by k_mem) PA2 hIf LR.rl LR.r1.ok LR.r1.to hsm X T (by show dp + 1 + 12 < _; exact room_le (k := 13) (by assumption) (by decide)) (by show un + 3 + 100 < _; exact room_le (k := 103) (by assumption) (by decide)) ?_
  intro lr vr nr h8 tk8 F8 N8 off8 hn8 hIr
  clear F7 N7 off6 hn8
  dsimp only at N8 off8 ⊢
  ktr_unf
  refine wpC_execs_cons (wpC.of ?_)
  ktr_unf
  rename Fr g _ _ _ => F9
  rename News g _ _ _ => N9
  refine car_call F9 N9 off8 (by k_mem) hIr LR.fl hroom hway X T (by show dp + 1 + 8 < _; exact room_le (k := 9) (by assumption) (by decide)) (by show un + 3 + 80 < _; exact room_le (k := 83) (by assumption) (by decide)) ?_
  intro p3 d3 od3 e1 e2 e3 e4 h10 tk10 F10 N10 off10 PA3
  clear F9 N9 off8
  dsimp only at N10 off10 ⊢
  ktr_unf
  refine wpC_execs_cons (wpC.of ?_)
  ktr_unf
  rename Fr g _ _ _ => F11
  rename News g _ _ _ => N11
  refine mov_call F11 N11 off10 (by k_mem) (by k_mem) (by k_mem) PA3 hIr LR.fl LR.c2.ok LR.c2.to hsm X T (by show dp + 1 + 12 < _; exact room_le (k := 13) (by assumption) (by decide)) (by show un + 3 + 100 < _; exact room_le (k := 103) (by assumption) (by decide)) ?_
  intro ll vl nl h12 tk12 F12 N12 off12 hn12 hIl
  clear F11 N11 off10 hn12
  dsimp only at N12 off12 ⊢
  ktr_unf
  rename Fr g _ _ _ => F13
  rename News g _ _ _ => N13
  have N14 := nw_cons N13 (x := (145, tabObj ps)) (by k_mem) (nw_cons N13 (x := (16, tabObj #[])) (by k_mem) (nw_cons N13 (x := (ll, _)) (by k_mem) (nw_cons N13 (x := (p3, _)) (by k_mem) (nw_cons N13 (x := (lr, _)) (by k_mem) (nw_cons N13 (x := (p2, _)) (by k_mem) (nw_cons N13 (x := (ln, _)) (by k_mem) (nw_cons N13 (x := (p1, _)) (by k_mem) (nw_cons N13 (x := (lf, _)) (by k_mem) (nw_cons N13 (x := (c, _)) (by k_mem) (nw_cons N13 (x := (L' + 1, oL)) (by k_mem) (nw_cons N13 (x := (z, oz)) (by k_mem) News.nil)))))))))))
  have off14 : ∀ q ∈ [(ll, W.listOf vl.toArray nl), (p3, profO (carP room far) e1 e2 e3 e4 d3), (lr, W.listOf vr.toArray nr), (p2, profO SP b1 b2 b3 b4 d2), (ln, W.listOf vn.toArray nn), (p1, profO (carP room R) a1 a2 a3 a4 d1), (lf, W.listOf vf.toArray nf), (c, W.listOf [Value.int a t0, Value.int b t1].toArray nc), (L' + 1, oL), (z, oz)], q.1 ≠ 145 ∧ q.1 ≠ 16 := fun q hq => by
    simp only [List.mem_cons, List.not_mem_nil, or_false] at hq
    rcases hq with h | h | h | h | h | h | h | h | h | h <;> subst h <;> exact off12 _ (by k_mem)
  exact law_van F13 N14 off14 dC hlk8 hnz X T C16 hG hsm TS6 hIf hIn hIr hIl hroom hway LR hdp hu ret
end

end
section
theorem way_item {C : Prop} : ∀ i : Nat, i < 4 → (∀ (wv : Int) (T : Tok → Tok → Tok → Tok → Tok), -3 ≤ wv ∧ wv ≤ 3 ∧ wv ≠ 0 → (∀ a b c d : Tok, [Value.int 1 a, .int (-1) b, .int 3 c, .int (-2) d][i]? = some (.int wv (T a b c d))) → C) → C
  | 0, _, k => k 1 (fun a _ _ _ => a) (by decide) fun _ _ _ _ => rfl
  | 1, _, k => k (-1) (fun _ b _ _ => b) (by decide) fun _ _ _ _ => rfl
  | 2, _, k => k 3 (fun _ _ c _ => c) (by decide) fun _ _ _ _ => rfl
  | 3, _, k => k (-2) (fun _ _ _ d => d) (by decide) fun _ _ _ _ => rfl
section
variable {prog : Program} {w : World} {p : Program} {loose : List Str} {mean : ExcName → Option Value} {mg mb : Str → Option Value}
set_option maxRecDepth 100000 in
set_option maxHeartbeats 16000000 in
theorem tells_law (l : Addr) (vs : List Value) (ns : List Int) (hi : IntsAre vs ns) (hlen : ns.length ≤ 63) (dp un : Nat) (fr : Option (List Env)) (gd : Option (List Code)) (s : Shared) (Q E : Value → Shared → Prop) (h₀ : Heap)
    (k0 : Keeps h₀ s.heap) (X : (hd.heap_1 w.params).In h₀) (T : Top p loose mean mg mb h₀) (h145 : h₀.get? 145 = none) (h16 : h₀.get? 16 = none) (C16 : CodeHd h₀ 20 16) (hP145 : s.heap.get? 145 = some (tabObj #[])) (hP16 : s.heap.get? 16 = some (tabObj #[]))
    (hG : AllBare s.gens) (hl : h₀.IsList l vs.toArray) (hsm : h₀.get? sysModules ≠ none) (hd : dp + 30 < recursionLimit) (hu : un + 200 < cLine) (hok : ∀ num room bb, 1 ≤ num ∧ num ≤ 63 → 1 ≤ room ∧ room ≤ 3 → ∃ R near far last fs1 SP fs2 NP n, LawRun num room bb R near far last fs1 SP fs2 NP n)
    (ret : ∀ h' tk' gs' ps ps', (∀ b o, b ≠ 145 → b ≠ 16 → s.heap.get? b = some o → h'.get? b = some o) → h'.get? 145 = some (tabObj ps) → h'.get? 16 = some (tabObj ps') → AllBare gs' → Q (.bool true) { s with heap := h', toks := tk', gens := gs' }) :
    wpC (model prog w) (arr dp un fr gd) (call (.ref 172) [.ref l]) Q E s := by
  refine wpC_call ?_
  k_dflt (refine' enterCN (news := [(145, tabObj #[]), (16, tabObj #[])]) k0 X T ?kn ?k6 ?k7 ?k8 ?k9 ?kB ?kD ?_ ?c2 ?c3 ?c4; (case kn => (intro q hq; simp only [List.mem_cons, List.not_mem_nil, or_false] at hq; rcases hq with rfl | rfl; exact ⟨hP145, h145⟩; exact ⟨hP16, h16⟩)); (case k6 => k_is); (case k7 => k_is); (case k8 => first | exact room0 (by assumption) | ktr_room); (case k9 => exact BindsTo.of_eq rfl); (case kB => exact rfl); (case kD => decide +kernel); (case c2 => exact rfl); (case c3 => exact rfl); (case c4 => exact rfl); intro g L' h1 tk' cells' kg kg' kn F' N' Y' X' T' l1; k_cells Y'; (try simp only [List.cons_append, List.nil_append] at N'); (try k_lt l1); (try dsimp only); (try k_fold))
  have hlg : g.IsList l vs.toArray := hl.at fun o e => kg _ _ e
  have hsmg : g.get? sysModules ≠ none := fun e => by
    cases q : h₀.get? sysModules with
    | none => exact hsm q
    | some o => rw [kg _ _ q] at e; cases e
  rename Fr g _ _ _ => F1
  rename News g _ _ _ => N1
  have N1' := news_sub (a := (145, tabObj #[]) :: (16, tabObj #[]) :: [_]) N1 (fun q hq => by
    simp only [List.mem_cons, List.not_mem_nil, or_false] at hq ⊢
    rcases hq with h | h | h
    · exact .inr (.inl h)
    · exact .inr (.inr h)
    · exact .inl h)
  clear N1
  refine wpC_execs_cons (wpC.of ?_)
  ktr_unf
  refine (tells_cells l vs ns hi (by omega)).use F1 X' T' (by show dp + 1 + 6 < _; exact room_le (k := 7) (by assumption) (by decide)) (by show un + 3 + 40 < _; exact room_le (k := 43) (by assumption) (by decide)) (hlg.at fun o e => F1.keep l o e) ?_
  rintro v h2 tk2 k2 F2 ⟨c, t0, t1, nc, rfl, hc2, hcf⟩
  obtain ⟨N2, off2⟩ := led_add F1 N1' k2 hcf hc2 (fun q hq => by
    rw [List.mem_singleton.mp hq]
    exact ⟨Nat.ne_of_gt (Nat.lt_succ_of_lt l1.1), Nat.ne_of_gt (Nat.lt_succ_of_lt l1.2)⟩)
  clear F1 N1'
  generalize hab : (cellLoop ns ns.length) = ab at *
  obtain ⟨a, b⟩ := ab
  dsimp only at N2 ⊢
  ktr_unf
  rename Fr g _ _ _ => F3
  rename News g _ _ _ => N3
  refine endw_C (x := Str.ofString "room") (P := fun v => ∃ t, v = .int (1 + b.fmod 3) t) F3 N3 ?_ ?_
  · ktr_unf
    exact ⟨rfl, _, _, _, ⟨_, rfl⟩, rfl, by assumption, by assumption⟩
  clear F3 N3
  rintro h4 tk4 v4 ⟨t4, rfl⟩ F4 N4
  dsimp only at N4 ⊢
  refine endw_C (x := Str.ofString "way") (P := fun v => ∃ wv t, v = .int wv t ∧ -3 ≤ wv ∧ wv ≤ 3 ∧ wv ≠ 0) F4 N4 ?_ ?_
  · repeat' ((fail_if_success (with_reducible show wpAny _ _ (subscriptTail (Expr.List _ _) _ _ _) _ _ _)); tb_rel)
    rename Fr g _ _ _ => F5
    rename News g _ _ _ => N5
    have hk0 := Int.fmod_nonneg_of_pos (b.fdiv 3) (show (0 : Int) < 4 by decide)
    have hk1 := Int.fmod_lt_of_pos (b.fdiv 3) (show (0 : Int) < 4 by decide)
    refine way_item ((b.fdiv 3).fmod 4).toNat (way_lt b) fun wv T hb hx => ?_
    refine item_listR ⟨_, (N5 _ (.head _)).1, rfl, _, rfl⟩ hk0 (Int.lt_trans hk1 (by decide)) ((List.getElem?_toArray ..).trans (hx _ _ _ _)) ?_
    ktr_unf
    exact ⟨rfl, _, _, _, ⟨_, _, rfl, hb⟩, rfl, by assumption, fun q hq => (by assumption : News g _ _ (_ :: _)) q (.tail _ hq)⟩
  clear F4 N4
  rintro h5 tk5 v5 ⟨wv, t5, rfl, hw1, hw2, hw3⟩ F5 N5
  dsimp only at N5 ⊢
  refine endw_C (x := Str.ofString "backward") (P := fun v => ∃ bb, v = .bool bb) F5 N5 ?_ ?_
  · ktr_unf
    all_goals exact ⟨rfl, _, _, _, ⟨_, rfl⟩, rfl, by assumption, by assumption⟩
  clear F5 N5
  rintro h6 tk6 v6 ⟨bb, rfl⟩ F6 N6
  dsimp only at N6 ⊢
  refine wpC_execs_cons (wpC.of ?_)
  ktr_unf
  obtain ⟨lk, hlk, hlk8⟩ : ∃ lk : Nat, (b.fdiv 24).fmod 8 = (lk : Int) ∧ lk < 8 := by
    have h1 := Int.fmod_nonneg_of_pos (b.fdiv 24) (show (0 : Int) < 8 by decide)
    have h2 := Int.fmod_lt_of_pos (b.fdiv 24) (show (0 : Int) < 8 by decide)
    exact ⟨((b.fdiv 24).fmod 8).toNat, by omega, by omega⟩
  rename Fr g _ _ _ => F7
  rename News g _ _ _ => N7
  simp only [List.cons_append, List.nil_append] at N7
  rename _ = Data.cell (some _) => dC
  replace dC : _ = Data.cell (some (.int (lk : Int) _)) := dC.trans (by rw [← hlk]; rfl)
  refine wpC_execs_cons (wpC.of ?_)
  ktr_unf
  rename Fr g _ _ _ => F8
  rename News g _ _ _ => N8
  have hnum : 1 ≤ 1 + a.fmod 63 ∧ 1 + a.fmod 63 ≤ 63 := by
    have h1 := Int.fmod_nonneg_of_pos a (show (0 : Int) < 63 by decide)
    have h2 := Int.fmod_lt_of_pos a (show (0 : Int) < 63 by decide)
    omega
  have hroom : 1 ≤ 1 + b.fmod 3 ∧ 1 + b.fmod 3 ≤ 3 := by
    have h1 := Int.fmod_nonneg_of_pos b (show (0 : Int) < 3 by decide)
    have h2 := Int.fmod_lt_of_pos b (show (0 : Int) < 3 by decide)
    omega
  refine (tells_row (1 + a.fmod 63) (1 + b.fmod 3) _ _ hnum hroom).use F8 X' T' (by show dp + 1 + 6 < _; exact room_le (k := 7) (by assumption) (by decide)) (by show un + 3 + 40 < _; exact room_le (k := 43) (by assumption) (by decide)) trivial ?_
  generalize hnumE : 1 + a.fmod 63 = num at *
  generalize hroomE : 1 + b.fmod 3 = room at *
  rintro v h9 tk9 k9 F9 ⟨lf, vf, nf, rfl, hf2, hff, hIf⟩
  have hlfc : lf ≠ c := fun e => by
    have h1 := (N8 (c, _) (by k_mem)).1
    rw [← e, hff] at h1; cases h1
  obtain ⟨N9, off9⟩ := led_add F8 N8 k9 hff hf2 (fun q hq => by
    simp only [List.mem_cons, List.not_mem_nil, or_false] at hq
    rcases hq with rfl | rfl
    · exact off2 (c, _) (.head _)
    · exact ⟨Nat.ne_of_gt (Nat.lt_succ_of_lt l1.1), Nat.ne_of_gt (Nat.lt_succ_of_lt l1.2)⟩)
  obtain ⟨R, near, far, last, fs1, SP, fs2, NP, n, LR⟩ := hok num room bb hnum hroom
  have hR := LR.rl
  rw [LR.r] at hIf
  dsimp only at N9 ⊢
  ktr_unf
  refine wpC_execs_cons (wpC.of ?_)
  ktr_unf
  rename Fr g _ _ _ => F10
  rename News g _ _ _ => N10
  exact law_runs F10 N10 off9 dC hlk8 hlfc X' T' (C16.keeps kg) hG hsmg hIf hroom ⟨hw1, hw2, hw3⟩ LR hd hu (fun h' tk' gs' ps' qs' k h1 h2 hb => ret h' tk' gs' ps' qs' (fun b o hb1 hb2 e => k b o (kn b o (fun q hq => by
    simp only [List.mem_cons, List.not_mem_nil, or_false] at hq
    rcases hq with rfl | rfl
    · exact Ne.symm hb1
    · exact Ne.symm hb2) e)) h1 h2 hb)
end

end
section
/-- the first free box behind the ball, among the first n places -/
noncomputable def firstB (row fs : List Int) (ball : Int) : Nat → Option Nat
  | 0 => none
  | n + 1 => match firstB row fs ball n with
    | some j => some j
    | none => if row.getD n 0 = 0 ∧ ball < n ∧ (n : Int) ∉ fs then some n else none
noncomputable def freeB (row fs : List Int) (ball : Int) (n : Nat) : Option Nat := if row.getD n 0 = 0 ∧ ball < n ∧ (n : Int) ∉ fs then some n else none
theorem firstB_some {row fs : List Int} {ball : Int} {n j : Nat} (e : firstB row fs ball n = some j) : firstB row fs ball (n + 1) = some j := by
  show (match firstB row fs ball n with | some j => some j | none => freeB row fs ball n) = _
  rw [e]
theorem firstB_none {row fs : List Int} {ball : Int} {n : Nat} (e : firstB row fs ball n = none) : firstB row fs ball (n + 1) = freeB row fs ball n := by
  show (match firstB row fs ball n with | some j => some j | none => freeB row fs ball n) = _
  rw [e]
theorem firstB_lt {row fs : List Int} {ball : Int} : ∀ {n j : Nat}, firstB row fs ball n = some j → j < n
  | n + 1, j, h => by
    cases e : firstB row fs ball n with
    | some i =>
      rw [firstB_some e] at h
      have := firstB_lt e
      cases h; omega
    | none =>
      rw [firstB_none e] at h
      unfold freeB at h
      split at h
      · cases h; omega
      · cases h
/-- a rule that does not hold leaves all as it is -/
theorem step_no {size ball : Int} {fs : List Int} {a r : Int × Vd} (h : ¬ (ball < r.1 ∧ r.1 ∉ fs)) : allowStep size fs ball a r = a := by
  unfold allowStep lamV
  rw [if_neg h, if_neg (by decide)]
theorem step_up {size ball : Int} {fs : List Int} {a r : Int × Vd} (h : ball < r.1 ∧ r.1 ∉ fs) (hs : r.1 < size) (ha : a.1 < size - r.1) : allowStep size fs ball a r = (size - r.1, r.2) := by
  unfold allowStep lamV
  rw [if_pos h, if_pos (by omega), if_pos ha]
theorem step_low {size ball : Int} {fs : List Int} {a r : Int × Vd} (ha : size - r.1 < a.1) (h0 : r.1 < size) : allowStep size fs ball a r = a := by
  unfold allowStep lamV
  by_cases h : ball < r.1 ∧ r.1 ∉ fs
  · rw [if_pos h, if_pos (by omega), if_neg (by omega), if_neg (fun e => by omega)]
  · rw [if_neg h, if_neg (by decide)]
theorem step_keep {size ball : Int} {fs : List Int} {a r : Int × Vd} (ha : a.1 = size - r.1) (ht : a.2.truth = true) : allowStep size fs ball a r = a := by
  unfold allowStep lamV
  by_cases h : ball < r.1 ∧ r.1 ∉ fs
  · rw [if_pos h]
    split
    · rw [if_neg (by omega), if_neg (fun e => by rw [ht] at e; exact absurd e.2 (by decide))]
    · rfl
  · rw [if_neg h, if_neg (by decide)]
theorem step_turn {size ball : Int} {fs : List Int} {a r : Int × Vd} (h : ball < r.1 ∧ r.1 ∉ fs) (hs : r.1 < size) (ha : a.1 = size - r.1) (ht : a.2.truth = false) : allowStep size fs ball a r = (a.1, r.2) := by
  unfold allowStep lamV
  rw [if_pos h, if_pos (by omega), if_neg (by omega), if_pos ⟨ha.symm, ht⟩]
noncomputable def bestOf (size : Int) (a : Int × Vd) : Option Nat → Int × Vd
  | some j => (size - j, .at j)
  | none => a
theorem allow_fwd {row fs : List Int} {ball : Int} (hb : 0 ≤ ball) : ∀ n, n ≤ row.length → (rulesTo row n).foldl (allowStep row.length fs ball) (-1, .tt) = bestOf row.length (-1, .tt) (firstB row fs ball n)
  | 0, _ => rfl
  | n + 1, hn => by
    show (rulesTo row n ++ rulesAt row n).foldl _ _ = _
    rw [List.foldl_append, allow_fwd hb n (by omega)]
    have hlt : ((n : Nat) : Int) < row.length := by omega
    cases e : firstB row fs ball n with
    | some j =>
      have hj := firstB_lt e
      rw [firstB_some e]
      show List.foldl _ ((row.length : Int) - j, Vd.at j) _ = ((row.length : Int) - j, Vd.at j)
      have h1 : ∀ v : Vd, allowStep row.length fs ball ((row.length : Int) - j, Vd.at j) ((n : Int), v) = ((row.length : Int) - j, Vd.at j) := fun v => step_low (by show (row.length : Int) - n < row.length - j; omega) hlt
      unfold rulesAt
      split
      · split
        · rw [List.foldl_cons, h1, List.foldl_cons, h1]; rfl
        · rw [List.foldl_cons, h1]; rfl
      · rfl
    | none =>
      rw [firstB_none e]
      show List.foldl _ ((-1 : Int), Vd.tt) _ = _
      unfold rulesAt
      by_cases h0 : row.getD n 0 = 0
      · rw [if_pos h0]
        by_cases hv : ball < (n : Int) ∧ (n : Int) ∉ fs
        · rw [show freeB row fs ball n = some n from if_pos ⟨h0, hv⟩]
          have h1 : allowStep row.length fs ball (-1, .tt) ((n : Int), Vd.at n) = ((row.length : Int) - n, Vd.at n) := step_up hv hlt (by show (-1 : Int) < row.length - n; omega)
          have h2 : allowStep row.length fs ball ((row.length : Int) - n, Vd.at n) ((n : Int), Vd.ff) = ((row.length : Int) - n, Vd.at n) := step_keep rfl (decide_eq_true (by omega))
          split
          · rw [List.foldl_cons, h1, List.foldl_cons, h2]; rfl
          · rw [List.foldl_cons, h1]; rfl
        · rw [show freeB row fs ball n = none from if_neg (fun q => hv q.2)]
          have h1 : ∀ v : Vd, allowStep row.length fs ball (-1, .tt) ((n : Int), v) = (-1, .tt) := fun v => step_no hv
          split
          · rw [List.foldl_cons, h1, List.foldl_cons, h1]; rfl
          · rw [List.foldl_cons, h1]; rfl
      · rw [if_neg h0, show freeB row fs ball n = none from if_neg (fun q => h0 q.1)]; rfl
theorem allow_bwd {row fs : List Int} {ball : Int} (hb : 0 ≤ ball) : ∀ n (a : Int × Vd), n ≤ row.length → (∀ j : Nat, j < n → a.1 < row.length - j) → (rulesTo row n).reverse.foldl (allowStep row.length fs ball) a = bestOf row.length a (firstB row fs ball n)
  | 0, _, _, _ => rfl
  | n + 1, a, hn, ha => by
    show (rulesTo row n ++ rulesAt row n).reverse.foldl _ _ = _
    rw [List.reverse_append, List.foldl_append]
    have hlt : ((n : Nat) : Int) < row.length := by omega
    have han := ha n (Nat.lt_succ_self n)
    have key : (rulesAt row n).reverse.foldl (allowStep row.length fs ball) a = bestOf row.length a (freeB row fs ball n) := by
      unfold rulesAt
      by_cases h0 : row.getD n 0 = 0
      · rw [if_pos h0]
        by_cases hv : ball < (n : Int) ∧ (n : Int) ∉ fs
        · rw [show freeB row fs ball n = some n from if_pos ⟨h0, hv⟩]
          split
          · show List.foldl _ _ [((n : Int), Vd.ff), ((n : Int), Vd.at n)] = _
            rw [List.foldl_cons, step_up hv hlt han, List.foldl_cons, step_turn hv hlt rfl rfl]; rfl
          · show List.foldl _ _ [((n : Int), Vd.at n)] = _
            rw [List.foldl_cons, step_up hv hlt han]; rfl
        · rw [show freeB row fs ball n = none from if_neg (fun q => hv q.2)]
          split
          · show List.foldl _ _ [((n : Int), Vd.ff), ((n : Int), Vd.at n)] = _
            rw [List.foldl_cons, step_no hv, List.foldl_cons, step_no hv]; rfl
          · show List.foldl _ _ [((n : Int), Vd.at n)] = _
            rw [List.foldl_cons, step_no hv]; rfl
      · rw [if_neg h0, show freeB row fs ball n = none from if_neg (fun q => h0 q.1)]; rfl
    rw [key]
    cases hc : freeB row fs ball n with
    | some i =>
      have hi : i = n := by
        unfold freeB at hc
        split at hc
        · cases hc; rfl
        · cases hc
      subst hi
      show (rulesTo row i).reverse.foldl _ ((row.length : Int) - i, Vd.at i) = _
      rw [allow_bwd hb i _ (by omega) (fun j hj => by show (row.length : Int) - i < _; omega)]
      cases e : firstB row fs ball i with
      | some j => rw [firstB_some e]; rfl
      | none => rw [firstB_none e, hc]; rfl
    | none =>
      show (rulesTo row n).reverse.foldl _ a = _
      rw [allow_bwd hb n a (by omega) (fun j hj => ha j (by omega))]
      cases e : firstB row fs ball n with
      | some j => rw [firstB_some e]
      | none => rw [firstB_none e, hc]
/-- both orders of the rules answer alike -/
theorem allow_eq (row fs : List Int) (bb : Bool) {ball : Int} (hb : 0 ≤ ball) : allowF row.length fs (rulesOf row bb) ball = bestOf row.length (-1, .tt) (firstB row fs ball row.length) := by
  unfold allowF rulesOf
  cases bb with
  | true => exact allow_bwd hb _ _ (Nat.le_refl _) fun j hj => by show (-1 : Int) < _; omega
  | false => exact allow_fwd hb _ (Nat.le_refl _)
noncomputable def robQ (row : List Int) : Nat → Option (List Int × Prof)
  | 0 => some ([], (0, 0, 0, 0, []))
  | n + 1 => match robQ row n with
    | none => none
    | some (fs, P) => if row.getD n 0 = 1 then (match firstB row fs n row.length with
      | some k => if k < 100 then some (fs ++ [(k : Int)], addP (addP P (deedP (-1) n)) (deedP 1 k)) else none
      | none => none) else some (fs, P)
theorem rob_eq (row : List Int) (bb : Bool) : ∀ n, robLoop (rulesOf row bb) row n = robQ row n
  | 0 => rfl
  | n + 1 => by
    unfold robLoop robQ
    rw [rob_eq row bb n]
    cases robQ row n with
    | none => rfl
    | some x =>
      obtain ⟨fs, P⟩ := x
      unfold robStep
      dsimp only
      rw [allow_eq row fs bb (Int.natCast_nonneg n)]
      split
      · cases firstB row fs n row.length with
        | none => rfl
        | some k =>
          by_cases hk : k < 100
          · exact (if_pos ⟨Int.natCast_nonneg k, by omega⟩).trans (if_pos hk).symm
          · exact (if_neg (fun e => hk (by omega))).trans (if_neg hk).symm
      · rfl

end
section
noncomputable def dS : List (Int × Int) → Int → Int
  | [], _ => 0
  | p :: d, x => if p.1 = x then p.2 + dS d x else dS d x
theorem look_T (g : Int → Int) {ks : List Int} {k : Int} (h : k ∈ ks) : kdfLook (ks.map fun k => (k, g k)) k 0 = g k := look_tab g h
theorem put_T (g : Int → Int) {ks : List Int} {k : Int} (h : k ∈ ks) (v : Int) : kdfPut (ks.map fun k => (k, g k)) k v = ks.map fun x => (x, if x = k then v else g x) := by
  have ha : ((ks.map fun k => (k, g k)).any fun p => decide (p.1 = k)) = true := List.any_eq_true.mpr ⟨(k, g k), List.mem_map_of_mem (f := fun k => (k, g k)) h, decide_eq_true rfl⟩
  unfold kdfPut
  rw [if_pos ha, List.map_map]
  refine List.map_congr_left fun x _ => ?_
  show (if decide (x = k) = true then (x, v) else (x, g x)) = _
  by_cases e : x = k
  · rw [if_pos (decide_eq_true e), if_pos e]
  · rw [if_neg (fun q => e (of_decide_eq_true q)), if_neg e]
theorem one_T (g : Int → Int) {ks : List Int} {p : Int × Int} (h : p.1 ∈ ks) : addOne (ks.map fun k => (k, g k)) p = ks.map fun x => (x, if x = p.1 then g x + p.2 else g x) := by
  unfold addOne
  rw [look_T g h, put_T g h]
  refine List.map_congr_left fun x _ => ?_
  by_cases e : x = p.1
  · rw [if_pos e, if_pos e, e]
  · rw [if_neg e, if_neg e]
theorem fold_T {ks : List Int} : ∀ (d : List (Int × Int)) (g : Int → Int), (∀ p ∈ d, p.1 ∈ ks) → d.foldl addOne (ks.map fun k => (k, g k)) = ks.map fun x => (x, g x + dS d x)
  | [], g, _ => by
    show _ = ks.map fun x => (x, g x + 0)
    simp
  | p :: d, g, h => by
    rw [List.foldl_cons, one_T g (h p (.head _)), fold_T d _ fun q hq => h q (.tail _ hq)]
    refine List.map_congr_left fun x _ => ?_
    show (x, _ + dS d x) = (x, g x + if p.1 = x then p.2 + dS d x else dS d x)
    by_cases e : x = p.1
    · rw [if_pos e, if_pos e.symm, Int.add_assoc]
    · rw [if_neg e, if_neg (Ne.symm e)]
theorem copy_T (g : Int → Int) {ks : List Int} (hn : ks.Nodup) : copyC (ks.map fun k => (k, g k)) = ks.map fun k => (k, g k) := by
  unfold copyC
  rw [List.foldl_map, tab_fold g ks [] hn fun _ _ h => nomatch h]
  rfl
theorem addC_T (g : Int → Int) {ks : List Int} (hn : ks.Nodup) {d : List (Int × Int)} (h : ∀ p ∈ d, p.1 ∈ ks) : addC (tabOf g ks) d = ks.map fun x => (x, g x + dS d x) := by
  unfold addC
  rw [tab_map g hn, copy_T g hn, fold_T d g h]
/-- the row behind the deeds -/
noncomputable def aft (row : List Int) (d : List (Int × Int)) : List Int := (rangeKs 0 row.length).map fun x => row.getD x.toNat 0 + dS d x
theorem aft_len (row : List Int) (d : List (Int × Int)) : (aft row d).length = row.length := by
  unfold aft
  rw [List.length_map, rangeKs_length]
theorem aft_get {row : List Int} {d : List (Int × Int)} {x : Int} (h : x ∈ rangeKs 0 row.length) : (aft row d).getD x.toNat 0 = row.getD x.toNat 0 + dS d x := by
  obtain ⟨i, hi, rfl⟩ := List.mem_map.mp h
  have hi := List.mem_range.mp hi
  have e : ((0 : Int) + (i : Int)).toNat = i := by omega
  unfold aft rangeKs
  rw [e, List.getD_eq_getElem?_getD, List.map_map, List.getElem?_map, List.getElem?_range hi]
  show row.getD ((0 : Int) + (i : Int)).toNat 0 + dS d (0 + (i : Int)) = _
  rw [e]
theorem mem_keys {m : Nat} {k : Int} (h : 0 ≤ k ∧ k < m) : k ∈ rangeKs 0 m := List.mem_map.mpr ⟨k.toNat, List.mem_range.mpr (by omega), by omega⟩
theorem entry_add {row : List Int} {P : Prof} (h : ∀ p ∈ P.2.2.2.2, 0 ≤ p.1 ∧ p.1 < row.length) : (addP (entryP row 0) P).2.2.2.2 = (rangeKs 0 row.length).map fun x => (x, row.getD x.toNat 0 + dS P.2.2.2.2 x) :=
  addC_T _ (rangeKs_nodup _) fun p hp => mem_keys (h p hp)
/-- what is checked of a profile -/
structure PChk (row after : List Int) (P : Prof) : Prop where
  keys : ∀ p ∈ P.2.2.2.2, 0 ≤ p.1 ∧ p.1 < row.length
  nd : (P.2.2.2.2.map (·.1)).Nodup
  len : P.2.2.2.2.length ≤ 100
  nc : 0 ≤ P.2.1 ∧ P.2.1 ≤ 1000
  aft : aft row P.2.2.2.2 = after
  s1 : ((spotsOf after).length : Int) = P.1 + (spotsOf row).length
  s2 : (spotsOf after).sum = P.2.2.1 + (spotsOf row).sum
  s3 : ((spotsOf after).map fun k => k * k).sum = P.2.2.2.1 + ((spotsOf row).map fun k => k * k).sum
theorem PChk.to {row after : List Int} {P : Prof} (c : PChk row after P) : movedRow row P = after := by
  unfold movedRow
  rw [entry_add c.keys, List.map_map, List.map_map, ← c.aft]
  refine List.map_congr_left fun x hx => ?_
  exact look_T (fun x => row.getD x.toNat 0 + dS P.2.2.2.2 x) hx
theorem PChk.ok {row after : List Int} {P : Prof} (c : PChk row after P) (hl : row.length ≤ 40) : MovOk row P where
  len := c.len
  nd := c.nd
  nc := c.nc
  len2 := by rw [c.to, ← c.aft, aft_len]; exact hl
  nd2 := by
    rw [entry_add c.keys, List.map_map]
    show ((rangeKs 0 row.length).map fun x => x).Nodup
    rw [List.map_id']
    exact rangeKs_nodup _
  eq := by
    rw [c.to]
    have e5 : tabOf (fun k => after.getD k.toNat 0) (rangeKs 0 after.length) = (addP (entryP row 0) P).2.2.2.2 := by
      rw [entry_add c.keys, ← c.aft, aft_len, tab_map _ (rangeKs_nodup _)]
      exact List.map_congr_left fun x hx => by rw [aft_get hx]
    show (((spotsOf after).length : Int), P.2.1, (spotsOf after).sum, ((spotsOf after).map fun k => k * k).sum, tabOf (fun k => after.getD k.toNat 0) (rangeKs 0 after.length)) = (P.1 + _, P.2.1 + 0, P.2.2.1 + _, P.2.2.2.1 + _, (addP (entryP row 0) P).2.2.2.2)
    rw [e5, c.s1, c.s2, c.s3, Int.add_zero]
    rfl

end
section
noncomputable def flipAt (n k : Nat) : Nat := if k < n then n - 1 - k else n + (n - 1 - (k - n))
theorem inner_lt {n r : Nat} (h : r < n) : n - 1 - r < n := Nat.lt_of_le_of_lt (Nat.sub_le _ _) (Nat.sub_lt (Nat.lt_of_le_of_lt (Nat.zero_le _) h) Nat.one_pos)
theorem inner_inner {n r : Nat} (h : r < n) : n - 1 - (n - 1 - r) = r := Nat.sub_sub_self (Nat.le_sub_one_of_lt h)
theorem flip_lo {n k : Nat} (h : k < n) : flipAt n k = n - 1 - k := if_pos h
theorem flip_hi {n r : Nat} : flipAt n (n + r) = n + (n - 1 - r) := by
  unfold flipAt
  rw [if_neg (Nat.not_lt.mpr (Nat.le_add_right n r)), Nat.add_sub_cancel_left]
theorem two_cases {n k : Nat} (h : k < n * 2) : k < n ∨ ∃ r, r < n ∧ k = n + r := by
  by_cases hk : k < n
  · exact .inl hk
  · exact .inr ⟨k - n, Nat.sub_lt_left_of_lt_add (Nat.le_of_not_lt hk) (by rwa [Nat.mul_two] at h), (Nat.add_sub_of_le (Nat.le_of_not_lt hk)).symm⟩
theorem flip_of {n m : Nat} (h : m < n * 2) : n * (m / n) + n - 1 - m % n = flipAt n m := by
  rcases two_cases h with hm | ⟨r, hr, rfl⟩
  · rw [flip_lo hm, Nat.div_eq_of_lt hm, Nat.mod_eq_of_lt hm, Nat.mul_zero, Nat.zero_add]
  · have hn : 0 < n := Nat.lt_of_le_of_lt (Nat.zero_le _) hr
    rw [flip_hi, Nat.add_div_left r hn, Nat.div_eq_of_lt hr, Nat.add_mod_left, Nat.mod_eq_of_lt hr]
    show n * 1 + n - 1 - r = _
    rw [Nat.mul_one, Nat.add_sub_assoc hn, Nat.add_sub_assoc (Nat.le_sub_one_of_lt hr)]
theorem flip_flip {n m : Nat} (h : m < n * 2) : flipAt n (flipAt n m) = m := by
  rcases two_cases h with hm | ⟨r, hr, rfl⟩
  · rw [flip_lo hm, flip_lo (inner_lt hm), inner_inner hm]
  · rw [flip_hi, flip_hi, inner_inner hr]
theorem flip_lt {n m : Nat} (h : m < n * 2) : flipAt n m < n * 2 := by
  rw [Nat.mul_two]
  rcases two_cases h with hm | ⟨r, hr, rfl⟩
  · rw [flip_lo hm]
    exact Nat.lt_of_lt_of_le (inner_lt hm) (Nat.le_add_right n n)
  · rw [flip_hi]
    exact Nat.add_lt_add_left (inner_lt hr) n
theorem swap_get (l : List UInt8) {n : Nat} (hl : l.length = n * 2) : ∀ m, m ≤ n * 2 → ∀ k, k < n * 2 → (swapTo l n m)[k]? = some (if flipAt n k < m then l.getD (flipAt n k) 0 else 0)
  | 0, _, k, hk => by
    rw [if_neg (Nat.not_lt_zero _)]
    show (Array.replicate l.length (0 : UInt8))[k]? = _
    simp [hl, hk]
  | m + 1, hm, k, hk => by
    have ih := swap_get l hl m (Nat.le_of_succ_le hm) k hk
    show ((swapTo l n m).setIfInBounds (n * (m / n) + n - 1 - m % n) (l.getD m 0))[k]? = _
    rw [flip_of hm, Array.getElem?_setIfInBounds]
    by_cases e : flipAt n m = k
    · have hf : flipAt n k = m := by rw [← e, flip_flip hm]
      rw [if_pos e, if_pos (by rw [swapTo_size, hl, e]; exact hk), hf, if_pos (Nat.lt_succ_self m)]
    · have hf : flipAt n k ≠ m := fun q => e (by rw [← q, flip_flip hk])
      rw [if_neg e, ih]
      by_cases h2 : flipAt n k < m
      · rw [if_pos h2, if_pos (Nat.lt_succ_of_lt h2)]
      · rw [if_neg h2, if_neg (fun q => (Nat.lt_succ_iff_lt_or_eq.mp q).elim h2 hf)]
theorem swap_two (A B : List UInt8) {n : Nat} (ha : A.length = n) (hb : B.length = n) : swapTo (A ++ B) n (n * 2) = (A.reverse ++ B.reverse).toArray := by
  have hl : (A ++ B).length = n * 2 := by rw [List.length_append, ha, hb]; omega
  refine Array.ext_getElem? fun k => ?_
  by_cases hk : k < n * 2
  · rw [swap_get _ hl _ (Nat.le_refl _) k hk, if_pos (flip_lt hk), List.getElem?_toArray]
    rcases two_cases hk with h | ⟨r, hr, rfl⟩
    · rw [flip_lo h, List.getElem?_append_left (by rw [List.length_reverse, ha]; exact h), List.getElem?_reverse (by rw [ha]; exact h), List.getD_eq_getElem?_getD, List.getElem?_append_left (by rw [ha]; exact inner_lt h), ha, List.getElem?_eq_getElem (by rw [ha]; exact inner_lt h)]
      rfl
    · have e1 : n + r - n = r := Nat.add_sub_cancel_left _ _
      have e2 : n + (n - 1 - r) - n = n - 1 - r := Nat.add_sub_cancel_left _ _
      rw [flip_hi, List.getElem?_append_right (by rw [List.length_reverse, ha]; exact Nat.le_add_right n r), List.length_reverse, ha, e1, List.getElem?_reverse (by rw [hb]; exact hr), List.getD_eq_getElem?_getD, List.getElem?_append_right (by rw [ha]; exact Nat.le_add_right _ _), ha, hb, e2, List.getElem?_eq_getElem (by rw [hb]; exact inner_lt hr)]
      rfl
  · rw [Array.getElem?_eq_none (by rw [swapTo_size, hl]; omega), Array.getElem?_eq_none (by simp [ha, hb]; omega)]
theorem swap_rows {last R : List Int} (h : last.length = R.length) : swapTo ((last ++ R).map fun n => n.toNat.toUInt8) R.length (R.length * 2) = byteArr (last.reverse ++ R.reverse) := by
  rw [List.map_append, swap_two _ _ (by rw [List.length_map, h]) (by rw [List.length_map])]
  show _ = ((last.reverse ++ R.reverse).map fun n => n.toNat.toUInt8).toArray
  rw [List.map_append, List.map_reverse, List.map_reverse]

end
section
noncomputable def pchk (row after : List Int) (P : Prof) : Bool :=
  P.2.2.2.2.all (fun p => decide (0 ≤ p.1 ∧ p.1 < row.length)) && (decide ((P.2.2.2.2.map (·.1)).Nodup) && (decide (P.2.2.2.2.length ≤ 100) && (decide (0 ≤ P.2.1 ∧ P.2.1 ≤ 1000) && (decide (aft row P.2.2.2.2 = after) && (decide (((spotsOf after).length : Int) = P.1 + (spotsOf row).length) && (decide ((spotsOf after).sum = P.2.2.1 + (spotsOf row).sum) && decide (((spotsOf after).map fun k => k * k).sum = P.2.2.2.1 + ((spotsOf row).map fun k => k * k).sum)))))))
theorem pchk_ok {row after : List Int} {P : Prof} (h : pchk row after P = true) : PChk row after P := by
  simp only [pchk, Bool.and_eq_true, decide_eq_true_eq, List.all_eq_true] at h
  obtain ⟨h1, h2, h3, h4, h5, h6, h7, h8⟩ := h
  exact ⟨h1, h2, h3, h4, h5, h6, h7, h8⟩
noncomputable def carF (room : Int) (row : List Int) : List Int := aft row (carP room row).2.2.2.2
noncomputable def robF (row : List Int) : List Int := match robQ row row.length with
  | some (_, P) => aft row P.2.2.2.2
  | none => []
noncomputable def carC (room : Int) (row after : List Int) : Bool := pchk row after (carP room row)
noncomputable def robC (row after : List Int) : Bool := match robQ row row.length with
  | some (_, P) => pchk row after P
  | none => false
theorem carC_ok {room : Int} {row after : List Int} (hl : row.length ≤ 40) (h : carC room row after = true) : CarStep room row after ∧ after.length = row.length :=
  ⟨⟨(pchk_ok h).ok hl, (pchk_ok h).to⟩, by rw [← (pchk_ok h).aft, aft_len]⟩
theorem robC_ok {row after : List Int} (bb : Bool) (hl : row.length ≤ 40) (h : robC row after = true) : ∃ fs P, RobStep bb row after fs P ∧ robQ row row.length = some (fs, P) ∧ after.length = row.length := by
  unfold robC at h
  cases e : robQ row row.length with
  | none => rw [e] at h; cases h
  | some x =>
    obtain ⟨fs, P⟩ := x
    rw [e] at h
    exact ⟨fs, P, ⟨(rob_eq row bb row.length).trans e, (pchk_ok h).ok hl, (pchk_ok h).to⟩, rfl, by rw [← (pchk_ok h).aft, aft_len]⟩
/-- the length of the text of a row -/
noncomputable def txl : List Int → Int
  | [] => 0
  | b :: r => if b = 1 then txl r + 2 else txl r + 5
theorem txl_eq : ∀ r : List Int, ((tx r).length : Int) = txl r
  | [] => rfl
  | b :: r => by
    rw [tx_cons, List.length_append]
    unfold txl
    rw [← txl_eq r]
    split
    · show ((2 + (tx r).length : Nat) : Int) = _
      omega
    · show ((5 + (tx r).length : Nat) : Int) = _
      omega
noncomputable def goneF : Nat → List Int → List Int
  | 0, _ => []
  | n + 1, r => (txl r - txl (red r)) :: goneF n (red r)
theorem gone_eq : ∀ (n : Nat) (r : List Int), goneL n r = goneF n r
  | 0, _ => rfl
  | n + 1, r => by
    show (((tx r).length : Int) - ((tx (red r)).length : Int)) :: goneL n (red r) = _
    rw [txl_eq, txl_eq, gone_eq n (red r)]
    rfl
theorem redN_add : ∀ (i j : Nat) (r : List Int), redN (i + j) r = redN j (redN i r)
  | 0, j, r => by rw [Nat.zero_add]; rfl
  | i + 1, j, r => by
    rw [Nat.add_right_comm]
    exact redN_add i j (red r)
theorem van_ok {row : List Int} {n k : Nat} (hs : row.sum = (n : Int)) (hn : n ≤ 40) (hr : redN n row = List.replicate k 0) (hk : 1 ≤ k) : VanOk row n := ⟨hs, hn, fun i hi e => by
  have h1 : redN n row = redN (n - i) (redN i row) := by rw [← redN_add]; congr 1; omega
  have h2 := redN_len (n - i) (redN i row)
  rw [← h1, hr, e, List.length_replicate, List.length_nil] at h2
  omega⟩
theorem known_text : ∀ k : Nat, k < 10 → mkS (tx (List.replicate k 0)) = Txt.mul (Str.ofString "known") (k : Int) := by decide +kernel
/-- all that is checked of a row; n balls, k places left -/
noncomputable def lawC (room : Int) (R : List Int) (n k : Nat) (near far last : List Int) : Bool :=
  decide (R.length ≤ 40) && (decide (1 ≤ R.length) && (decide (R.sum = (n : Int)) && (decide (near.sum = (n : Int)) && (decide (far.sum = (n : Int)) && (decide (last.sum = (n : Int)) &&
  (decide (n ≤ 40) && (decide (1 ≤ k ∧ k < 10) && (decide ((R.length : Int) - 2 * R.sum = (k : Int)) &&
  (carC room R near && (robC R far && (carC room far last && (robC near last &&
  (decide (redN n R = List.replicate k 0) && (decide (redN n near = List.replicate k 0) && (decide (redN n far = List.replicate k 0) && (decide (redN n last = List.replicate k 0) &&
  (decide (goneF n near = goneF n R) && (decide (goneF n far = goneF n R) && (decide (goneF n last = goneF n R) &&
  (decide (((goneF n R).take (if R.sum < room then R.sum else room).toNat).sum = 7 * (carP room R).2.1) && (decide ((carP room far).2.1 = (carP room R).2.1) &&
  ((match robQ R R.length with | some (_, P) => decide (P.2.1 = R.sum) | none => false) &&
  (R.all (fun x => decide (0 ≤ x ∧ x < 256)) && last.all (fun x => decide (0 ≤ x ∧ x < 256)))))))))))))))))))))))))
noncomputable def lawD (room : Int) (back home hA hB : List Int) : Bool := robC back hA && (carC room hA home && (carC room back hB && robC hB home))
noncomputable def lawE (room : Int) (R : List Int) : Bool := lawC room R R.sum.toNat (R.length - 2 * R.sum.toNat) (carF room R) (robF R) (carF room (robF R)) && lawD room (carF room (robF R)).reverse R.reverse (robF (carF room (robF R)).reverse) (carF room (carF room (robF R)).reverse)
theorem in_rev {l : List Int} (h : ∀ x ∈ l, 0 ≤ x ∧ x < 256) : ∀ x ∈ l.reverse, 0 ≤ x ∧ x < 256 := fun x hx => h x (List.mem_reverse.mp hx)
theorem in_app {l r : List Int} (h : ∀ x ∈ l, 0 ≤ x ∧ x < 256) (h2 : ∀ x ∈ r, 0 ≤ x ∧ x < 256) : KBa.In (l ++ r) := fun x hx => (List.mem_append.mp hx).elim (h x) (h2 x)
theorem law_sound {num room : Int} (bb : Bool) (h : lawE room (rowOf num room) = true) : ∃ R near far last fs1 SP fs2 NP n, LawRun num room bb R near far last fs1 SP fs2 NP n := by
  generalize hR : rowOf num room = R at h
  unfold lawE at h
  generalize carF room R = near at h
  generalize robF R = far at h
  generalize carF room far = last at h
  generalize robF last.reverse = hA at h
  generalize carF room last.reverse = hB at h
  generalize R.sum.toNat = n at h
  generalize R.length - 2 * n = k at h
  simp only [lawC, lawD, Bool.and_eq_true, decide_eq_true_eq, List.all_eq_true] at h
  obtain ⟨⟨a1, a2, a3, a4, a5, a6, a7, a8, a9, b1, b2, b3, b4, c1, c2, c3, c4, d1, d2, d3, e1, e2, e3, i1, i2⟩, f1, f2, f3, f4⟩ := h
  obtain ⟨k1, l1⟩ := carC_ok a1 b1
  obtain ⟨fs1, SP, k2, q2, l2⟩ := robC_ok bb a1 b2
  have hfl : far.length ≤ 40 := by rw [l2]; exact a1
  have hnl : near.length ≤ 40 := by rw [l1]; exact a1
  obtain ⟨k3, l3⟩ := carC_ok hfl b3
  obtain ⟨fs2, NP, k4, _, l4⟩ := robC_ok bb hnl b4
  have hll : last.length = R.length := l3.trans l2
  have hbl : last.reverse.length = R.length := by rw [List.length_reverse, hll]
  have hb40 : last.reverse.length ≤ 40 := by rw [hbl]; exact a1
  obtain ⟨fs3, P3, k5, _, l5⟩ := robC_ok bb hb40 f1
  have hA40 : hA.length ≤ 40 := by rw [l5]; exact hb40
  obtain ⟨k6, _⟩ := carC_ok hA40 f2
  obtain ⟨k7, l7⟩ := carC_ok hb40 f3
  have hB40 : hB.length ≤ 40 := by rw [l7]; exact hb40
  obtain ⟨fs4, P4, k8, _, _⟩ := robC_ok bb hB40 f4
  rw [q2] at e3
  refine ⟨R, near, far, last, fs1, SP, fs2, NP, n, ⟨hR, a1, k1, hnl, k2, hfl, k3, by rw [hll]; exact a1, fun e => ?_, k4, van_ok a3 a7 c1 a8.1, van_ok a4 a7 c2 a8.1, van_ok a5 a7 c3 a8.1, van_ok a6 a7 c4 a8.1,
    by rw [gone_eq, gone_eq, d1], by rw [gone_eq, gone_eq, d2], by rw [gone_eq, gone_eq, d3], by rw [c1, c2], by rw [c1, c3], by rw [c1, c4], ?_, by rw [gone_eq]; exact e1, e2, of_decide_eq_true e3, last.reverse, R.reverse, hA, hB, fs3, fs4, P3, P4, ⟨hll, a2, hbl, List.length_reverse, hA40, hB40, in_app i2 i1, in_app (in_rev i2) (in_rev i1), swap_rows hll, k5, k6, k7, k8⟩⟩⟩
  · rw [e] at hll
    rw [← hll] at a2
    cases a2
  · rw [c1, a9]
    exact known_text k a8.2

end
section
theorem law_1a : ∀ n, n < 7 → lawE 1 (rowOf (((n + 0 : Nat) : Int) + 1) 1) = true := by decide +kernel
theorem law_1b : ∀ n, n < 7 → lawE 1 (rowOf (((n + 7 : Nat) : Int) + 1) 1) = true := by decide +kernel
theorem law_1c : ∀ n, n < 7 → lawE 1 (rowOf (((n + 14 : Nat) : Int) + 1) 1) = true := by decide +kernel
theorem law_1d : ∀ n, n < 7 → lawE 1 (rowOf (((n + 21 : Nat) : Int) + 1) 1) = true := by decide +kernel
theorem law_1e : ∀ n, n < 7 → lawE 1 (rowOf (((n + 28 : Nat) : Int) + 1) 1) = true := by decide +kernel
theorem law_1f : ∀ n, n < 7 → lawE 1 (rowOf (((n + 35 : Nat) : Int) + 1) 1) = true := by decide +kernel
theorem law_1g : ∀ n, n < 7 → lawE 1 (rowOf (((n + 42 : Nat) : Int) + 1) 1) = true := by decide +kernel
theorem law_1h : ∀ n, n < 7 → lawE 1 (rowOf (((n + 49 : Nat) : Int) + 1) 1) = true := by decide +kernel
theorem law_1i : ∀ n, n < 7 → lawE 1 (rowOf (((n + 56 : Nat) : Int) + 1) 1) = true := by decide +kernel
theorem law_2a : ∀ n, n < 7 → lawE 2 (rowOf (((n + 0 : Nat) : Int) + 1) 2) = true := by decide +kernel
theorem law_2b : ∀ n, n < 7 → lawE 2 (rowOf (((n + 7 : Nat) : Int) + 1) 2) = true := by decide +kernel
theorem law_2c : ∀ n, n < 7 → lawE 2 (rowOf (((n + 14 : Nat) : Int) + 1) 2) = true := by decide +kernel
theorem law_2d : ∀ n, n < 7 → lawE 2 (rowOf (((n + 21 : Nat) : Int) + 1) 2) = true := by decide +kernel
theorem law_2e : ∀ n, n < 7 → lawE 2 (rowOf (((n + 28 : Nat) : Int) + 1) 2) = true := by decide +kernel
theorem law_2f : ∀ n, n < 7 → lawE 2 (rowOf (((n + 35 : Nat) : Int) + 1) 2) = true := by decide +kernel
theorem law_2g : ∀ n, n < 7 → lawE 2 (rowOf (((n + 42 : Nat) : Int) + 1) 2) = true := by decide +kernel
theorem law_2h : ∀ n, n < 7 → lawE 2 (rowOf (((n + 49 : Nat) : Int) + 1) 2) = true := by decide +kernel
theorem law_2i : ∀ n, n < 7 → lawE 2 (rowOf (((n + 56 : Nat) : Int) + 1) 2) = true := by decide +kernel
theorem law_3a : ∀ n, n < 7 → lawE 3 (rowOf (((n + 0 : Nat) : Int) + 1) 3) = true := by decide +kernel
theorem law_3b : ∀ n, n < 7 → lawE 3 (rowOf (((n + 7 : Nat) : Int) + 1) 3) = true := by decide +kernel
theorem law_3c : ∀ n, n < 7 → lawE 3 (rowOf (((n + 14 : Nat) : Int) + 1) 3) = true := by decide +kernel
theorem law_3d : ∀ n, n < 7 → lawE 3 (rowOf (((n + 21 : Nat) : Int) + 1) 3) = true := by decide +kernel
theorem law_3e : ∀ n, n < 7 → lawE 3 (rowOf (((n + 28 : Nat) : Int) + 1) 3) = true := by decide +kernel
theorem law_3f : ∀ n, n < 7 → lawE 3 (rowOf (((n + 35 : Nat) : Int) + 1) 3) = true := by decide +kernel
theorem law_3g : ∀ n, n < 7 → lawE 3 (rowOf (((n + 42 : Nat) : Int) + 1) 3) = true := by decide +kernel
theorem law_3h : ∀ n, n < 7 → lawE 3 (rowOf (((n + 49 : Nat) : Int) + 1) 3) = true := by decide +kernel
theorem law_3i : ∀ n, n < 7 → lawE 3 (rowOf (((n + 56 : Nat) : Int) + 1) 3) = true := by decide +kernel
theorem law_sev {room : Int} (k : Nat) (h : ∀ n, n < 7 → lawE room (rowOf (((n + k : Nat) : Int) + 1) room) = true) {num : Int} (h1 : (k : Int) + 1 ≤ num) (h2 : num ≤ k + 7) : lawE room (rowOf num room) = true := by
  have := h (num - 1 - k).toNat (by omega)
  rwa [show (((num - 1 - k).toNat + k : Nat) : Int) + 1 = num by omega] at this
theorem law_fit {room : Int} (f : ∀ k : Nat, k < 9 → ∀ n, n < 7 → lawE room (rowOf (((n + 7 * k : Nat) : Int) + 1) room) = true) {num : Int} (h : 1 ≤ num ∧ num ≤ 63) : lawE room (rowOf num room) = true :=
  law_sev (7 * ((num - 1).toNat / 7)) (f ((num - 1).toNat / 7) (by omega)) (by omega) (by omega)
theorem law_nine {Q : Nat → Prop} (a : Q 0) (b : Q 1) (c : Q 2) (d : Q 3) (e : Q 4) (f : Q 5) (g : Q 6) (h : Q 7) (i : Q 8) : ∀ k : Nat, k < 9 → Q k
  | 0, _ => a
  | 1, _ => b
  | 2, _ => c
  | 3, _ => d
  | 4, _ => e
  | 5, _ => f
  | 6, _ => g
  | 7, _ => h
  | 8, _ => i
theorem law_plain : ∀ (num room : Int) (bb : Bool), 1 ≤ num ∧ num ≤ 63 → 1 ≤ room ∧ room ≤ 3 → ∃ R near far last fs1 SP fs2 NP n, LawRun num room bb R near far last fs1 SP fs2 NP n := fun num room bb hn hr => by
  have h : room = 1 ∨ room = 2 ∨ room = 3 := by omega
  rcases h with rfl | rfl | rfl
  · exact law_sound bb (law_fit (law_nine (Q := fun k => ∀ n, n < 7 → lawE 1 (rowOf (((n + 7 * k : Nat) : Int) + 1) 1) = true) law_1a law_1b law_1c law_1d law_1e law_1f law_1g law_1h law_1i) hn)
  · exact law_sound bb (law_fit (law_nine (Q := fun k => ∀ n, n < 7 → lawE 2 (rowOf (((n + 7 * k : Nat) : Int) + 1) 2) = true) law_2a law_2b law_2c law_2d law_2e law_2f law_2g law_2h law_2i) hn)
  · exact law_sound bb (law_fit (law_nine (Q := fun k => ∀ n, n < 7 → lawE 3 (rowOf (((n + 7 * k : Nat) : Int) + 1) 3) = true) law_3a law_3b law_3c law_3d law_3e law_3f law_3g law_3h law_3i) hn)

end
section
theorem good_true {cw : ClaimW} {cl : Str → Option Addr} {mean : ExcName → Option Value} {args : List WData} {s₁ : Shared} {tabs : List (Addr × Addr)} (hT : TabsAt tabs s₁.heap) (hr : ∀ cls, cw.raises args cls = false) (hp : cw.post args (.bool true) args = true) {h' : Heap} {tk' : Nat} {gs' : Array GenState}
    (keep : ∀ b o, b ∉ tabs.map (·.2) → s₁.heap.get? b = some o → h'.get? b = some o) (hgr : GrownAll tabs h') (hb : AllBare gs') : GoodWG cw cl mean args s₁ (.ok (.ret (.bool true))) { s₁ with heap := h', toks := tk', gens := gs' } := by
  have grown : ∀ b o, b ∈ tabs.map (·.2) → s₁.heap.get? b = some o → isCodeTable s₁.heap b ∧ o = tabObj #[] ∧ ∃ ps, h'.get? b = some (tabObj ps) := fun b o hb e => by
    obtain ⟨q, hq, rfl⟩ := List.mem_map.mp hb
    have e2 := (hT q hq).2
    rw [e] at e2
    exact ⟨((hT q hq).1.tab (hT q hq).2).isCodeTable, Option.some.inj e2, hgr.get q hq⟩
  refine ⟨.inl ⟨_, _, [], rfl, hr, .bool true, hp, fun _ => ⟨List.nodup_nil, fun _ h => nomatch h⟩⟩, ⟨fun b o e => ?_, fun b o e => ?_⟩, rfl, hb⟩
  · by_cases hb : b ∈ tabs.map (·.2)
    · obtain ⟨ht, rfl, ps, hP⟩ := grown b o hb e
      exact .inr (.inl ⟨ht, rfl, #[], ps, rfl, by rw [Array.empty_append]; exact hP⟩)
    · exact .inl (keep b o hb e)
  · by_cases hb : b ∈ tabs.map (·.2)
    · obtain ⟨_, _, ps, hP⟩ := grown b o hb e
      exact ⟨_, hP⟩
    · exact ⟨o, keep b o hb e⟩
theorem tab_is {p : Program} {loose : List Str} {mean : ExcName → Option Value} {mg mb : Str → Option Value} {h : Heap} {K : Frag} {x : Str} {c P : Addr} (T : Top p loose mean mg mb h) (X : K.In h) (hr : ((recsOf p).find? (fun e => e.name == x)).isSome = true) (ht : tabIn K x = some (c, P)) : CodeHd h c P ∧ h.get? P = some (tabObj #[]) := by
  cases e : (recsOf p).find? (fun e => e.name == x) with
  | none => rw [e] at hr; cases hr
  | some d => exact tab_of T X e ht
set_option maxRecDepth 100000 in
set_option maxHeartbeats 8000000 in
theorem main_holds : PySem.Challenge.rw_jc0017_01.Holds := by
  refine hd ?_
  k_fill
  intro w s₀ s₁ mg mb G Y fa o pm cd doc dV kV ho hdd hcd hD hmg hg args vals as hpre hlay hrd hwl hlo
  have KX := km_in_of Y
  km_tabs Y
  have X := (Ground.X G).1
  have V := (Ground.X G).2
  refine Ground.open G ?_
  intro T B D TE TW
  try (refine guard_noD D (by decide +kernel) ?_; clear D)
  km_lay T hmg ho hdd cd
  wrow_args hpre hlay hrd hwl hlo
  have e172 : mg (Str.ofString "law") = some (.ref 172) := mg_of KX T.g (by kernel_rfl)
  have hfa : fa = 172 := by
    have h1 : mg (Str.ofString "law") = some (.ref fa) := hmg
    rw [e172] at h1
    cases h1; rfl
  subst hfa
  have t16 : CodeHd s₁.heap 20 16 ∧ s₁.heap.get? 16 = some (tabObj #[]) := tab_is T KX (x := Str.ofString "_platform") (by kernel_rfl) (by kernel_rfl)
  have hT : TabsAt [(149, 145), (20, 16)] s₁.heap := fun q hq => by
    rcases List.mem_cons.mp hq with rfl | hq
    · exact hT9 _ (.head _)
    · rw [List.mem_singleton.mp hq]; exact t16
  have hsm := T.seer (by decide +kernel)
  have T2 := ghost_top hT T
  have K2 := ghost_K hT KX (by kernel_rfl)
  rename IntsAre _ _ => hI
  rename Heap.IsList _ _ _ => hLs
  have hsg : (ghostOf s₁.heap [(149, 145), (20, 16)]).get? sysModules ≠ none := by
    obtain ⟨mm, hns, _⟩ := hsm.mods
    obtain ⟨o2, es, ep, e, r⟩ := ghost_ns hT hns
    rw [e]
    nofun
  refine tells_law (h₀ := ghostOf s₁.heap [(149, 145), (20, 16)]) _ _ _ hI (by omega) _ _ _ _ s₁ _ _ (fun b o e => of_hideAll _ e) K2 T2 (hideAll_none _ (.head _)) (hideAll_none _ (.tail _ (.head _))) ?c16 (hT _ (.head _)).2 t16.2 (by rw [hg]; exact AllBare.of_eq rfl) (ghost_list hT hLs) hsg ?d1 ?d2 law_plain ?ret
  case c16 => exact (ghost_code hT).2.1
  case d1 => decide +kernel
  case d2 => decide +kernel
  case ret =>
    intro h' tk' gs' ps ps' hk h145 h16 hb
    refine good_true hT (fun _ => rfl) ?_ (fun b o hb' e => hk b o (fun q => hb' (q ▸ .head _)) (fun q => hb' (q ▸ .tail _ (.head _))) e) ⟨⟨ps, h145⟩, ⟨ps', h16⟩, trivial⟩ hb
    wrow_post

end
end Mine
theorem PySem.Challenge.cw_jc0017_01_holds : PySem.Challenge.rw_jc0017_01.Holds :=
  Mine.main_holds
