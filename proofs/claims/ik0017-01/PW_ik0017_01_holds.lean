import PyProof.Rows.All
import Wide.All
import OpenK.AllK
import Wide.FinOn
import Lean
import PySem.Challenge.RW_ik0017_01
set_option Elab.async false
namespace Mine

section

open _root_.PySem _root_.PySem.W _root_.PyProof.Rows _root_.PySem.W.X _root_.PySem.Calls
/-- the goal put aside, so that a step by cases does not copy it -/
theorem aside {G : Prop} (k : ∀ X : Prop, (G → X) → X) : G := k G id
theorem fa_cons {α : Type} {P : α → Prop} {a : α} {l : List α} (h : P a) (k : ∀ p ∈ l, P p) : ∀ p ∈ a :: l, P p := List.forall_mem_cons.mpr ⟨h, k⟩
/-- the built-ins that hold a bytearray while they run -/
noncomputable def hold : Code → Bool
  | .builtin id _ => ["bytearray.__contains__", "bytearray.__mod__", "bytearray.__rmod__", "_struct.pack_into.held", "bytearray.find.held"].contains id || Builtin.Bytes.decodersThatHold.contains id
  | _ => false
/-- none of them is on the stack -/
def Nd (Γ : Ctx) : Prop := ∀ x ∈ Γ.below, hold x.1 = false
def wpN {α : Type} (M : Model) (A : Around) (t : Sem α) (Q : α → Shared → Prop) (E : Value → Shared → Prop) (s : Shared) : Prop :=
  ∀ Γ p, Γ.In A → hold Γ.code = false → Nd Γ → Sem.wp M Γ t (fun a _ s' => Q a s') (fun e _ s' => E e s') p s
def codeN (M : Model) (A : Around) (c : Code) (R : Result → Shared → Prop) (s : Shared) : Prop :=
  ∀ Γ p, Γ.code = c → Γ.Below A → Nd Γ → wpCode M Γ R p s
section
variable {α β : Type} {M : Model} {A : Around} {E : Value → Shared → Prop} {s : Shared}
theorem wpN_any {t : Sem α} {Q : α → Shared → Prop} (h : wpAny M A t Q E s) : wpN M A t Q E s := fun Γ p a _ _ => h Γ p a
theorem wpN_mono {t : Sem α} {Q Q' : α → Shared → Prop} {E' : Value → Shared → Prop} (h : wpN M A t Q E s) (hQ : ∀ a s, Q a s → Q' a s) (hE : ∀ e s, E e s → E' e s) : wpN M A t Q' E' s :=
  fun Γ p a b c => Sem.wp_mono M Γ t (fun x _ y => hQ x y) (fun x _ y => hE x y) p s (h Γ p a b c)
theorem wpN_bind {m : Sem α} {f : α → Sem β} {Q : β → Shared → Prop} (h : wpN M A m (fun a s' => wpN M A (f a) Q E s') E s) : wpN M A (m >>= f) Q E s := fun Γ p a b c => by
  rw [Sem.wp_bind']
  exact Sem.wp_mono M Γ m (fun x p' s' k => k Γ p' a b c) (fun _ _ _ k => k) p s (h Γ p a b c)
/-- a step that does not look at the stack, then the rest -/
theorem wpN_step {m : Sem α} {f : α → Sem β} {Q : β → Shared → Prop} (h : wpAny M A m (fun a s' => wpN M A (f a) Q E s') E s) : wpN M A (m >>= f) Q E s := wpN_bind (wpN_any h)
theorem wpN_onRaise {m : Sem α} {k : Value → Sem Unit} {Q : α → Shared → Prop} (h : wpN M A m Q (fun e s' => wpN M A (k e) (fun _ s'' => E e s'') E s') s) : wpN M A (m.onRaise k) Q E s := fun Γ p a b c => by
  rw [Sem.wp_onRaise]
  exact Sem.wp_mono M Γ m (fun _ _ _ q => q) (fun x p' s' q => q Γ p' a b c) p s (h Γ p a b c)
theorem wpN_holding {vs : List Value} {m : Sem α} {Q : α → Shared → Prop} (h : wpN M A m Q E s) : wpN M A (holding vs m) Q E s := fun Γ p a b c => by rw [Sem.wp_holding]; exact h Γ p a b c
theorem wpN_call {f : Value} {pos : List Value} {kw : List (Str × Value)} {Q : Value → Shared → Prop}
    (h : codeN M A (.call f ⟨pos, kw⟩) (fun r s' => match r with | .ok (.ret v) => Q v s' | .ok _ => False | .error e => E e s') s) : wpN M A (call f pos kw) Q E s := fun Γ p a b c => by
  rw [Sem.wp_cmd_call]
  refine h (Γ.enter (.call f ⟨pos, kw⟩) none p) p rfl (a.enter _ none p (by intro x; cases x)) ?_
  intro x hx
  rcases List.mem_cons.mp hx with rfl | hx
  · exact b
  · exact c x hx
theorem codeN_mono {c : Code} {R R' : Result → Shared → Prop} (h : codeN M A c R s) (k : ∀ r s, R r s → R' r s) : codeN M A c R' s := fun Γ p a b d => wpCode_mono k (h Γ p a b d)
theorem codeN_any {c : Code} {R : Result → Shared → Prop} (h : codeAny M A c R s) : codeN M A c R s := fun Γ p a b _ => h Γ p a b
theorem codeN_tree {c : Code} {R : Result → Shared → Prop} (hc : hold c = false)
    (h : wpN M (A.under c) (M.den c) (fun fin s' => match fin with | .done f => R (.ok f) s' | .again c' => c'.quiet = true ∧ codeN M A c' R s') (fun e s' => R (.error e) s') s) : codeN M A c R s := fun Γ p a b d => by
  rw [wpCode_iff_wp, a]
  refine Sem.wp_mono M Γ _ (fun fin p' s' q => ?_) (fun _ _ _ q => q) p s (h Γ p (a ▸ b.in) (by rw [a]; exact hc) d)
  cases fin with
  | done f => exact q
  | again c' => exact ⟨q.1, q.2 (Γ.goto c') p' rfl (b.goto c') d⟩
end
/-- the run that the claim speaks of starts with the claim's caller alone on the stack -/
theorem ends_N {prog : Program} {w : World} {t : Sem Fin} {s : Shared} {R : Result → Shared → Prop} (hreg : s.asleep)
    (h : wpN (model prog w) callerA t (fun fin s' => ∃ f, fin = .done f ∧ (R (.ok f) s' ∧ leftWithCleanup s'.gens = false)) (fun e s' => R (.error e) s' ∧ leftWithCleanup s'.gens = false) s) :
    ∃ n r s' s'', runN (denote table) prog w n s ⟨t, .builtin "claim.caller" {}, default, []⟩ = .halted (outcomeOf r) s' ∧
      schedN (denote table) prog w n (.single s ⟨t, .builtin "claim.caller" {}, default, []⟩) = .halted (outcomeOf r) s' ∧ s'.forget = s''.forget ∧ R r s'' := by
  have h1 := h ⟨.builtin "claim.caller" {}, none, none, [], none⟩ default caller_in (by decide +kernel) (fun _ q => (List.not_mem_nil q).elim)
  obtain ⟨n, r, s₁, s₂, a, b, c, d⟩ := wp_halts_full (M := model prog w) (R := R) hreg (Sem.wp_mono _ _ t (fun fin p' s' q => by
    obtain ⟨f, rfl, k⟩ := q
    exact k) (fun _ _ _ q => q) default s h1)
  exact ⟨n, r, s₂, s₁, b, a, c, d⟩

theorem callFrom_N {c : ClaimW} {tree : List Value → Sem Fin} {w : World} {s : Shared} {free : Addr → Prop} {gens : Prop} {kept : Heap → Prop} (hz : s.asleep) (hgens : s.gens = #[])
    (spec : ∀ args, c.pre args = true → WData.layableAll args = true → ∀ ord : List DictEntry → List DictEntry, (∀ l, (ord l).Perm l) →
      ∃ vs s₁, layAllW c.records (classAt s.heap) w.params ord args s = some (vs, s₁) ∧
        wpN (model c.prog w) callerA (tree vs) (fun fin s' => ∃ f, fin = .done f ∧ (c.Ends s args vs s₁ (.ok f) s' ∧ s'.os = s.os ∧ AllBare s'.gens ∧ kept s'.heap))
          (fun e s' => c.Ends s args vs s₁ (.error e) s' ∧ s'.os = s.os ∧ AllBare s'.gens ∧ kept s'.heap) s₁) :
    c.CallFrom (fun vs => ⟨tree vs, .builtin "claim.caller" {}, default, []⟩) w free gens kept s := by
  intro args hpre hlay ord hord
  obtain ⟨vs, s₁, hl, h⟩ := spec args hpre hlay ord hord
  have rest := layAllW_rest _ _ _ hl
  obtain ⟨k, r, s', s'', hrun, hsched, hf, he, ho, hk⟩ := ends_N (R := fun r s' => c.Ends s args vs s₁ r s' ∧ s'.os = s.os ∧ kept s'.heap) (Shared.asleep_of_life rest.2.2.2 hz)
    (wpN_mono h (fun fin s' ⟨f, e, a, b, d, g⟩ => ⟨f, e, ⟨a, b, g⟩, leftWithCleanup_false_of_bare d⟩) fun e s' ⟨a, b, d, g⟩ => ⟨⟨a, b, g⟩, leftWithCleanup_false_of_bare d⟩)
  obtain ⟨eh, _, _, eo, _⟩ := Shared.forget_eq hf
  replace he := he.congr eh
  rw [← eh] at hk
  rw [← eo] at ho
  have life : s'.heap.life = s.heap.life := (runN_life _ _ _ hrun).trans rest.2.2.2
  refine ⟨vs, s₁, hl, k, _, s', hsched, ?_, (fun _ i x hx => by rw [hgens] at hx; simp at hx), hk, by rw [life], Shared.rest_eq ho⟩
  rcases he with ⟨v, rfl, a, b, d, g, i⟩ | ⟨e, ob, cls, rfl, a, b, d, g, i⟩
  · exact .inl ⟨v, rfl, a, b, d, fun x o y _ => g x o y, i⟩
  · exact .inr ⟨e, ob, cls, rfl, a, b, d, g, fun x o y _ => i x o y⟩
abbrev WalkT (q : Program) (loose : List Str) (XP : (Str → Option Value) → Heap → Prop) (YP : World → Heap → Prop) (r : RowW) (d : DefRec) (kwd : List (Str × Expr)) (run : Value → List Value → Sem Value) : Prop :=
  ∀ (w : World) (s₀ s₁ : Shared) (mg mb : Str → Option Value), Ground q loose r.records XP w s₀ mg mb s₁.heap → YP w s₁.heap → ∀ (a : Addr) (o : Obj) (pm cd doc dV kV : Value), s₁.heap.get? a = some o →
    o.data = .func { docDef d.name d.params d.body d.scope pm cd doc with defaults := dV, kwdefaults := kV } → s₁.heap.CodeRec cd d.name → Dflts mg s₁.heap d.params kwd dV kV → mg d.name = some (.ref a) → s₁.gens = #[] →
    ∀ (args : List WData) (vals : List Value) (as : List Addr), r.claim.pre args = true → WData.layableAll args = true → ReadsAllW r.records (classAt s₀.heap) s₁.heap vals args as → WellAll w.params s₁.heap vals args → (∀ a ∈ as, (a == sysModules) = false) →
      wpN (model r.prog w) callerA (run (.ref a) vals) (fun v s' => GoodWG r.claim (classAt s₀.heap) (ExcName.means s₀.heap) args s₁ (.ok (.ret v)) s')
        (fun e s' => GoodWG r.claim (classAt s₀.heap) (ExcName.means s₀.heap) args s₁ (.error e) s') s₁
/-- the library's head, with the caller alone on the stack kept in mind -/
theorem PySem.W.holds_open {r : OpenRow} {q : Program} {loose : List Str} {Xt : Shared → Bool} {XP : (Str → Option Value) → Heap → Prop} {α : Type} {Yf : Shared → α} {Ya : World → α} {YP : World → Heap → Prop} {d : DefRec} {kwd : List (Str × Expr)} {N : Nat}
    (left : LeftO r.prog q loose Xt Yf Ya N) (hY : ∀ w s, Yf s = Ya w → YP w s.heap) (hYk : ∀ w h h', YP w h → (∀ b o, h.get? b = some o → h'.get? b = some o) → YP w h')
    (hX : ∀ s, Xt s = true → XP (s.heap.nsMap mainGlobals) s.heap) (hXk : ∀ mg h h', XP mg h → (∀ b o, h.get? b = some o → h'.get? b = some o) → XP mg h')
    (hdef : defOf q r.name = some (d, kwd)) (hp : r.prog.theDef r.name = some (d.params, d.body, d.scope)) (hk : kwWritten? d.params.kwonlyargs d.params.kw_defaults = some kwd) (hRf : ∀ s, Xt s = true → RecFacts r.records s.heap) (hwr : (!r.writes || r.records.isEmpty) = true)
    (k1 : r.wellSaid = true) (ok : (chainsOk q && opensWell r.prog && (frees r.toRowW && r.within.isEmpty)) = true) (hb : r.prog.bare) (hw : r.toRowW.promised)
    (call : WalkT q loose XP YP r.toRowW d kwd fun f vs => PySem.call f vs) : r.Holds := by
  obtain ⟨ok1, ok2⟩ := Bool.and_eq_true_iff.mp ok
  obtain ⟨hch, o1⟩ := Bool.and_eq_true_iff.mp ok1
  obtain ⟨k5, k6⟩ := Bool.and_eq_true_iff.mp ok2
  obtain ⟨hsame, hu, ha, hap, hm⟩ := frees_parts k5
  refine ⟨k1, hw, ⟨⟨hb, o1, by show r.makers.map _ = []; rw [hm]; rfl⟩, hw.witness, fun w => ⟨(left.behind hX hch w).1, fun s' hs' => ?_⟩⟩⟩
  obtain ⟨s₀, hf, hg0, s, hT, hz, hgens, hg, GX, y⟩ := (left.behind (XP := fun mg h => XP mg h ∧ RecFacts r.records h) (fun s hs => ⟨hX s hs, hRf s hs⟩) hch w).2 s' hs'
  have G0 : Ground q loose [] XP w s (s.heap.nsMap mainGlobals) (s.heap.nsMap builtinsNs) s.heap := ⟨GX.T, GX.B, GX.D, GX.TE, GX.TD, GX.W, GX.X.1, GX.cls, GX.has, GX.apart, GX.once, GX.K⟩
  have RF := GX.X.2
  refine ⟨s₀, hf, hg0, s, hT, fun n hn => ?_, RF.1, RF.2.1, ?_⟩
  · obtain rfl : n = r.name := by split at hn <;> simp_all
    exact pinned_of_view hg G0 hdef hp hk
  have G : Ground q loose r.records XP w s _ _ s.heap := RF.ground G0
  refine callFrom_N (c := r.toRowW.claim) (tree := fun vs => do match ← nsGet mainNs r.name with
      | some f => do ret (← PySem.call f vs)
      | none => unsupported "claim.caller:no-such-global") hz (Array.eq_empty_of_size_eq_zero (beq_iff_eq.mp hgens)) fun args hpre hlay ord hord => ?_
  have hgens := Array.eq_empty_of_size_eq_zero (beq_iff_eq.mp hgens)
  obtain ⟨⟨vs, s₁⟩, hl⟩ := Option.isSome_iff_exists.mp (layAllW_isSome (P := w.params) (ord := ord) G.has args r.toRowW.args s (pre_splitW hpre).1)
  have keeps := layAllW_keeps _ _ _ hl
  have rest := layAllW_rest _ _ _ hl
  obtain ⟨as, hrd, hin, hold⟩ := reads_layAllW hord _ _ _ hl hlay s₁.heap (fun _ _ e => e)
  have L : Laid r.records w s s₁ args vs as := ⟨⟨ord, hord, hl⟩, hrd, hin, hold, keeps, rest.1.trans hgens, rest.2.2.1⟩
  have G1 := G.keeps hXk keeps
  have hi := ident_freeW hu ha hap
  have hwi : r.toRowW.claim.within = [] := List.isEmpty_iff.mp k6
  obtain ⟨a, o, pm, cd, doc, dV, kV, h1, h2, h3, h4, h5⟩ := G1.fn hdef
  have run := call w s s₁ _ _ G1 (hYk _ _ _ (hY w s y) keeps) a o pm cd doc dV kV h2 h3 h4 h5 (defOf_name hdef ▸ h1) L.gens args vs as hpre hlay L.reads L.well (L.low G.low)
  refine ⟨vs, s₁, hl, wpN_step (wpAny_nsGet G1.T.g ?_)⟩
  rw [h1]
  refine wpN_bind (wpN_mono run (fun v s' g => ?_) fun e s' g => ?_)
  · have z := g.laid (c := r.toRowW.claim) hsame hwi hi L
    exact fun _ _ _ _ _ => ⟨_, rfl, z.1, z.2.1, z.2.2, fun q => ⟨namesKept_of hT hg _ keeps g.2.1.old, noTable hwr q⟩⟩
  · have z := g.laid (c := r.toRowW.claim) hsame hwi hi L
    exact ⟨z.1, z.2.1, z.2.2, fun q => ⟨namesKept_of hT hg _ keeps g.2.1.old, noTable hwr q⟩⟩

end

section

open _root_.PySem _root_.PySem.W _root_.PyProof.Rows _root_.PySem.W.X _root_.PySem.Calls
set_option maxRecDepth 100000
/-- the run of the top over a tree of objects, with the library's fast twins -/
noncomputable def goF (p : Program) (w : World) : Nat → SharedT → Thread → Option SharedT
  | 0, _, _ => none
  | n + 1, s, t => match through t with
    | true => some s
    | false => match PySem.W.Fast.tw6613529449190102663 11 (some (.ref 6)) t with
      | false => none
      | true => match PySem.W.Fast.tw10156331382660048174 (PySem.W.Fast.tw11892475500146522536 PySem.W.Fast.tw14364793385576792824) p w s t with
        | some (s', t') => goF p w n s' t'
        | none => none
theorem goF_top {p : Program} {w : World} : ∀ {n : Nat} {s s' : SharedT} {t : Thread}, goF p w n s t = some s' → topRun treeTable p w 11 (some (.ref 6)) n s.abs t = some s'.abs
  | 0, _, _, _, h => by cases h
  | n + 1, s, s', t, h => by
    unfold goF at h
    rw [← PySem.W.Fast.te6613529449190102663, ← PySem.W.Fast.te10156331382660048174, ← PySem.W.Fast.te11892475500146522536, ← PySem.W.Fast.te14364793385576792824] at h
    unfold topRun
    cases ht : through t with
    | true => rw [ht] at h; cases h; rfl
    | false =>
      rw [ht] at h
      cases hk : stepOk 11 (some (.ref 6)) t with
      | false => rw [hk] at h; cases h
      | true =>
        rw [hk] at h
        cases hs : stepT (denote treeTable) p w s t with
        | none => rw [hs] at h; cases h
        | some r => obtain ⟨s₂, t₂⟩ := r; rw [hs] at h; rw [stepT_spec hs]; exact goF_top h
/-- the start-up's eleven objects as a tree -/
noncomputable def tr0 (P : Params) : BT := [boot_o_0 P, boot_o_1 P, boot_o_2 P, boot_o_3 P, boot_o_4 P, boot_o_5 P, boot_o_6 P, boot_o_7 P, boot_o_8 P, boot_o_9 P, boot_o_10 P].zipIdx.foldl (fun t x => t.ins x.2 x.1) .nil
theorem heap0 (P : Params) : boot_heap P = absHeap (tr0 P) 11 {} := by kernel_rfl
noncomputable def obsT (as : List Addr) (s : SharedT) : List (Option Obj) := as.map fun a => match Nat.blt a s.n with
  | true => (match s.tree.get a with | some o => alive o | none => none)
  | false => none
theorem obsT_eq {s : SharedT} : ∀ {as : List Addr} {l : List Obj}, obsT as s = l.map some → as.map s.abs.heap.get? = l.map some
  | [], [], _ => rfl
  | [], _ :: _, h => by cases h
  | _ :: _, [], h => by cases h
  | a :: as, x :: l, h => by
    obtain ⟨h1, h2⟩ := List.cons.inj h
    dsimp only at h1
    refine List.cons_eq_cons.mpr ⟨?_, obsT_eq h2⟩
    cases hb : Nat.blt a s.n with
    | false => rw [hb] at h1; cases h1
    | true =>
      rw [hb] at h1
      have hb := Nat.blt_eq.mp hb
      dsimp only at h1
      cases hg : s.tree.get a with
      | none => rw [hg] at h1; cases h1
      | some o =>
        rw [hg] at h1
        exact (abs_get hb hg).trans h1
noncomputable def okF (p : Program) (w : World) (s : Shared) : Bool := staticsOk (PySem.W.Fast.tw5923862056798008813 p.main.body) (boot_heap w.params) s.heap && namesBound p s.heap && gensDone s && laidKept (boot_heap w.params) s.heap
noncomputable def seenF (p q : Program) (loose : List Str) (Xt : Shared → Bool) (s : Shared) :=
  (PySem.W.Fast.tw5160383126252970620 ((PySem.W.Fast.tw3399658132070893891 q).map (·.name)) (PySem.W.Fast.tw5991557255702980513 q) [] { s with gens := #[] }, s.heap.bltView,
   PySem.W.Fast.tw10880121769531294198 s.heap (PySem.W.Fast.tw821141287760084731 q loose) ((PySem.W.Fast.tw3399658132070893891 q).map (·.name)) ((PySem.W.Fast.tw7409074990110511671 q).map (·.1)) ((PySem.W.Fast.tw13664370479719496447 q (PySem.W.Fast.tw821141287760084731 q loose)).map (·.name)) &&
     PySem.W.Fast.tw14722251495701143533 s.heap (PySem.W.Fast.tw5923862056798008813 p.main.body) && s.heap.isNs mainGlobals && s.heap.isNs builtinsNs && PySem.W.Fast.tw10994771534591457954 q s.heap && Xt s && (if true then s.gens.size == 0 else !leftWithCleanup s.gens),
   PySem.W.Fast.tw479339242167458305 q s, PySem.W.Fast.tw16090120013241838585 q (PySem.W.Fast.tw3247288618530077131 q) s, PySem.W.Fast.tw2386780881361962483 q (PySem.W.Fast.tw821141287760084731 q loose) s, PySem.W.Fast.tw11698064438423848299 q loose s, PySem.W.Fast.tw7317090234206586261 q s, PySem.W.Fast.tw7369524293546568484 q loose s)
theorem seenF_eq {p q : Program} {loose : List Str} {Xt : Shared → Bool} {s : Shared} : seenF p q loose Xt s = openSeen q loose (importedModules p.main.body) Xt true s := by
  unfold seenF openSeen
  rw [← PySem.W.Fast.te5160383126252970620, ← PySem.W.Fast.te3399658132070893891, ← PySem.W.Fast.te5991557255702980513, ← PySem.W.Fast.te10880121769531294198, ← PySem.W.Fast.te821141287760084731, ← PySem.W.Fast.te7409074990110511671,
    ← PySem.W.Fast.te13664370479719496447, ← PySem.W.Fast.te14722251495701143533, ← PySem.W.Fast.te5923862056798008813, ← PySem.W.Fast.te10994771534591457954, ← PySem.W.Fast.te479339242167458305, ← PySem.W.Fast.te16090120013241838585,
    ← PySem.W.Fast.te3247288618530077131, ← PySem.W.Fast.te2386780881361962483, ← PySem.W.Fast.te11698064438423848299, ← PySem.W.Fast.te7317090234206586261, ← PySem.W.Fast.te7369524293546568484]
theorem left_F {p q : Program} {loose : List Str} {Xt : Shared → Bool} {K : Params → Frag} {as : List Addr} {e : ∀ P, as = (K P).map (·.1)} {N M : Nat}
    (hp : opening p = plainProg p.main.scope.names) (hf : ∀ s, fenceModules? p s = some s) (hN : Nat.ble 600 N = true) (le : Nat.ble M N = true)
    (all : ∀ (w : World) (os : OsState), (goF p w M ⟨tr0 w.params, 11, {}, #[], boot_drawn, boot_toks, os⟩ (topStub p)).map (fun s => (okF p w s.abs, seenF p q loose Xt s.abs, obsT as s)) =
      some (true, openGood q loose, ((K w.params).map (·.2)).map some)) :
    LeftO p q loose Xt (Hook.obs (kHook K as e)) (Hook.val (kHook K as e)) N := fun w => by
  obtain ⟨⟨h, gs, d, k, os⟩, a, a'⟩ := Option.map_eq_some_iff.mp (boot_open hp hN hf w)
  obtain ⟨rfl, rfl, rfl, rfl⟩ : h = boot_heap w.params ∧ gs = Array.mk [] ∧ d = boot_drawn ∧ k = boot_toks := by simpa using a'
  obtain ⟨s, g, g'⟩ := Option.map_eq_some_iff.mp (all w os)
  obtain ⟨l1, l2⟩ := Prod.mk.inj g'
  obtain ⟨l2, l3⟩ := Prod.mk.inj l2
  have r := topRun_mono (N - M) _ _ _ _ (goF_top g)
  rw [show M + (N - M) = N by have := Nat.le_of_ble_eq_true le; omega] at r
  unfold SharedT.abs at r
  dsimp only at r
  rw [← heap0] at r
  have z1 : ((boot_heap w.params).isNs mainGlobals && (Array.mk [] : Array GenState).size == 0) = true := by kernel_rfl
  have z2 : (boot_heap w.params).objs.size = 11 := by kernel_rfl
  have z3 : (boot_heap w.params).nsMap mainGlobals "__annotations__" = some (.ref 6) := by kernel_rfl
  unfold okF at l1
  rw [← PySem.W.Fast.te5923862056798008813] at l1
  have t : topFrom treeTable p w N ⟨boot_heap w.params, Array.mk [], boot_drawn, boot_toks, os⟩ = some s.abs := by
    unfold topFrom
    dsimp only
    rw [z1, z2, z3, r]
    show (match staticsOk (importedModules p.main.body) (boot_heap w.params) s.abs.heap && namesBound p s.abs.heap && gensDone s.abs && laidKept (boot_heap w.params) s.abs.heap with | true => _ | false => _) = _
    rw [l1]
    rfl
  unfold openEnds
  rw [a]
  show (topFrom treeTable p w N _).map _ = _
  rw [t]
  rw [seenF_eq] at l2
  refine congrArg some (Prod.ext l2 ?_)
  show as.map s.abs.heap.get? = (K w.params).map fun p => some p.2
  rw [obsT_eq l3, List.map_map]
  rfl

end

section

open _root_.PySem _root_.PySem.W _root_.PyProof.Rows _root_.PySem.W.X _root_.PySem.Calls
noncomputable def vw : Program := view PySem.Challenge.pw_ik0017_01 [0, 2, 4, 6, 7, 8, 10, 11, 12, 13, 14, 15, 16, 17, 19, 20, 21, 22, 23]
noncomputable def lo : List Str := [Str.ofString "filterfalse", Str.ofString "UnsupportedOperation", Str.ofString "IOBase", Str.ofString "BufferedIOBase", Str.ofString "TextIOBase", Str.ofString "BytesIO", Str.ofString "StringIO"]
theorem saidL : PySem.Challenge.rw_ik0017_01.wellSaid = true := by
  delta OpenLaw.wellSaid OpenRow.wellSaid OpenRow.partSaid looksOpen
  repeat' (with_reducible refine look_both ?_ ?_)
  all_goals decide +kernel
theorem openL : opening PySem.Challenge.pw_ik0017_01 = plainProg PySem.Challenge.pw_ik0017_01.main.scope.names := by kernel_rfl
theorem fenceL (s : Shared) : fenceModules? PySem.Challenge.pw_ik0017_01 s = some s := by kernel_rfl
local macro_rules | `(tactic| k_head) => `(tactic| x_head)
local macro_rules | `(tactic| o_law) => `(tactic| refine holds_law saidL fun said => ?_)
local macro_rules | `(tactic| o_head $H) => `(tactic|
  refine Mine.PySem.W.holds_open (q := vw) (loose := lo) (Xt := fun s => xlAt vw [] s && recOk (RowW.records (OpenRow.toRowW (OpenLaw.row PySem.Challenge.rw_ik0017_01))) s) (XP := XL vw []) (Yf := Hook.obs $H) (Ya := Hook.val $H) (YP := Hook.says $H) (N := 9086)
    (left_F (M := 9086) openL fenceL (by decide) (by decide) fun w os => by kernel_rfl)
    (Hook.of $H) (Hook.keeps $H) (fun s e => xl_of s (Bool.and_eq_true_iff.mp e).1) XL.keeps (by rfl) (by rfl) (by rfl) (fun s e => recFacts_of (Bool.and_eq_true_iff.mp e).2) (by rfl) (by assumption) (by decide +kernel) ⟨rfl, rfl, rfl, rfl, rfl, by decide +kernel⟩ ?hw ?hc)
set_option maxRecDepth 100000 in
set_option maxHeartbeats 8000000 in
open_top hd for PySem.Challenge.rw_ik0017_01

end

section

open _root_.PySem _root_.PySem.W _root_.PyProof.Rows _root_.PyProof.V _root_.PySem.Calls _root_.PySem.SeqAt
set_option maxRecDepth 100000
section
variable {M : Model} {A : Around} {E : Value → Shared → Prop} {s : Shared} {env : Env}
theorem execs_N {st : Stmt} {rest : List Stmt} {Q : Flow → Shared → Prop} (h : wpN M A (exec st env) (fun f s' => match f with | .next => wpN M A (execs rest env) Q E s' | f => Q f s') E s) : wpN M A (execs (st :: rest) env) Q E s := by
  rw [execs_cons]
  refine wpN_bind (wpN_mono h (fun f s' q => ?_) fun _ _ q => q)
  cases f <;> first | exact q | exact wpN_any (wpAny_pure q)
theorem execs_nil_N {Q : Flow → Shared → Prop} (h : Q .next s) : wpN M A (execs [] env) Q E s := wpN_any (wpAny_execs_nil h)
theorem assign_N {x : Str} {pos' pos : Pos} {value : PySem.Expr} {Q : Flow → Shared → Prop} (h : wpN M A (eval value env) (fun v s₁ => wpN M A (bindName env x v) (fun _ => Q .next) E s₁) E s)
    (hs : swapsWith value (some (.Name x pos')) pos.line env = pure false := by rfl) : wpN M A (exec (.Assign [.Name x pos'] value pos) env) Q E s := by
  rw [exec_Assign_Name (hs := hs)]
  refine wpN_step (wpAny_standAt (wpN_bind (wpN_mono h (fun v s₁ q => ?_) fun _ _ q => q)))
  exact wpN_step (wpAny_standAt (wpN_bind (wpN_mono q (fun _ _ q => wpN_any (wpAny_pure q)) fun _ _ q => q)))
theorem callName_N {id : Str} {p pos : Pos} {args : List PySem.Expr} {Q : Value → Shared → Prop}
    (h : wpAny M A (eval (.Name id p) env) (fun f s₁ => wpN M A (callWith pos f [] (backTo pos (starEach args env)) []) Q E s₁) E s) : wpN M A (eval (.Call (.Name id p) args [] pos) env) Q E s := by
  rw [arm_eval_Call_Name']
  exact wpN_step h
theorem callWith_N {pos : Pos} {f : Value} {t : Sem Value} {Q : Value → Shared → Prop}
    (h : wpAny M A t (fun v s₁ => wpAny M A (keeperOf f) (fun k s₂ => k = .machine ∧ wpN M A (call f [v]) Q E s₂) E s₁) E s) : wpN M A (callWith pos f [] [(false, t)] []) Q E s := by
  unfold callWith
  refine wpN_step (wpAny_holding ?_)
  refine evalArgs_plain (Calls.spliced_cons (wpAny_mono h (fun v s₁ q => Calls.spliced_nil ?_) fun _ _ q => q))
  refine wpN_step (wpAny_standAt (wpN_step (wpAny_mono q (fun k s₂ q => ?_) fun _ _ q => q)))
  obtain ⟨rfl, q⟩ := q
  refine wpN_bind (m := call f [v]) ?_
  exact wpN_mono q (fun r s₃ q => wpN_step (wpAny_holding (wpAny_point (wpN_any (wpAny_pure q))))) fun _ _ q => q
end
section
variable {prog : Program} {w : World} {A : Around} {R : Result → Shared → Prop} {s : Shared}
theorem func_N {body : List Stmt} {env : Env}
    (h : wpN (model prog w) (A.deeper env) (execs body env) (fun f s' => R (.ok (.ret (match f with | .ret v => v | _ => .none))) s')
      (fun e s' => wpN (model prog w) (A.deeper env) (leaving env e) (fun _ s'' => R (.error e) s'') (fun e' s'' => R (.error e') s'') s') s) :
    codeN (model prog w) A (.func body env) R s := by
  refine codeN_tree rfl ?_
  show wpN _ (A.deeper env) (do point; match ← (execs body env).onRaise (leaving env) with | .ret v => ret v | _ => ret .none) _ _ s
  refine wpN_step (wpAny_point (wpN_bind (wpN_onRaise (wpN_mono h (fun f s' q => ?_) fun _ _ q => q))))
  cases f <;> exact wpN_any (wpAny_pure q)
theorem function_N {a : Addr} {args : Args} {o : Obj} {fd : FuncData} {body : List Stmt} (hroom : A.depth < recursionLimit) (ho : s.heap.get? a = some o)
    (hd : o.data = .func fd) (hco : fd.scope.isCoroutine = false) (hgen : fd.scope.isGenerator = false) (hbody : fd.body = .stmts body) (hcd : s.heap.CodeRec fd.code fd.qualname)
    (h : wpAny (model prog w) A.in1 (bindArgs fd args) (fun binds s₁ => wpAny (model prog w) A.in1 (newFunctionEnv fd.scope fd.globals fd.closure binds (fd.qualname ++ ".<locals>.") (some a) fd.code none fd.builtins)
        (fun env s₂ => s₂.heap.NoLimit ∧ codeN (model prog w) A (.func body env) R s₂) (fun e s' => R (.error e) s') s₁) (fun e s' => R (.error e) s') s) :
    codeN (model prog w) A (.call (.ref a) args) R s := by
  refine codeN_tree rfl ?_
  show wpN _ A.in1 (callAny (.ref a) args) _ _ s
  simp only [callAny]
  refine wpN_step (wpAny_load ho ?_)
  obtain ⟨c, oc, vs, tq, hc, hoc, hdc, hq⟩ := hcd
  rw [hc] at h
  simp only [hd, callFunction, hco, hgen, hbody, hc]
  refine wpN_step (m := field (.ref c) 1) (wpAny_field hoc hdc hq (wpN_step (wpAny_pure ?_)))
  refine wpN_step (wpAny_mono h (fun binds s₁ q => ?_) fun _ _ q => q)
  refine wpN_step (wpAny_mono q (fun env s₂ q => ?_) fun _ _ q => q)
  exact wpN_step (wpAny_enterFrame q.1 hroom (wpN_any (wpAny_pure ⟨rfl, q.2⟩)))
/-- entering the law: a def with cells -/
theorem cells_N {name : Str} {params : Arguments} {body : List Stmt} {scope : Scope} {pm cd doc : Value} {a : Addr} {o : Obj} {args : List Value} {binds : List (Str × Value)}
    (hroom : A.depth < recursionLimit) (ho : s.heap.get? a = some o) (hdata : o.data = .func (Calls.docDef name params body scope pm cd doc)) (hlim : s.heap.NoLimit) (hcd : s.heap.CodeRec cd name)
    (hbind : bindArgs (Calls.docDef name params body scope pm cd doc) ⟨args, []⟩ = pure binds)
    (hkind : ∀ x ∈ binds, scope.names.lookup x.1 = some .local ∨ (scope.names.lookup x.1 = some .cell ∧ ((cellsFrom (s.heap.objs.size + 1) scope.names []).lookup x.1).isSome = true))
    (hnd : ((cellsFrom 0 scope.names []).map (·.1)).Nodup)
    (h : ∀ h₁ tk cells, Fr s.heap s.heap.objs.size h₁ (bindL (envOfC name scope s.heap.objs.size a cd).kindOf binds fun _ => none) → News s.heap s.heap.objs.size h₁ cells →
      CellsAre (bindC (envOfC name scope s.heap.objs.size a cd).kindOf binds fun _ => none) (cellsFrom (s.heap.objs.size + 1) scope.names []) cells →
      wpN (model prog w) (A.deeper (envOfC name scope s.heap.objs.size a cd)) (execs body (envOfC name scope s.heap.objs.size a cd))
        (fun f s' => R (.ok (.ret (match f with | .ret v => v | _ => .none))) s')
        (fun e s' => wpN (model prog w) (A.deeper (envOfC name scope s.heap.objs.size a cd)) (leaving (envOfC name scope s.heap.objs.size a cd) e) (fun _ s'' => R (.error e) s'') (fun e' s'' => R (.error e') s'') s')
        { s with heap := h₁, toks := tk })
    (hco : scope.isCoroutine = false := by rfl) (hgen : scope.isGenerator = false := by rfl) (hk : scope.kind = .function := by rfl) : codeN (model prog w) A (.call (.ref a) ⟨args, []⟩) R s := by
  refine function_N (fd := Calls.docDef name params body scope pm cd doc) hroom ho hdata hco hgen rfl hcd ?_
  rw [hbind]
  refine wpAny_pure (wpAny_newFunctionEnv_cells hk hkind fun env he s₁ x => ?_)
  subst he
  refine ⟨hlim.keeps x.toInCall.keep, func_N ?_⟩
  obtain ⟨h₁, tk, rfl, _⟩ := x.done
  have X : Cl s.heap.objs.size (cellsFrom (s.heap.objs.size + 1) scope.names []) h₁ _ := ⟨x.cell, x.apart, x.above⟩
  obtain ⟨cells, N, Y⟩ := Cl.news (h₀ := s.heap) (Nat.le_refl _) fun n c hm => ⟨X.cell n c (lookup_of_mem_nodup (cellsFrom_names scope.names 0 (s.heap.objs.size + 1) [] [] rfl ▸ hnd) hm), X.above n c hm⟩
  exact h h₁ tk cells ⟨x.toInCall.ns, x.toInCall.keep, x.toInCall.fresh⟩ N Y
end

end

section

open _root_.PySem _root_.PySem.W _root_.PyProof.Rows _root_.PySem.Calls
set_option maxRecDepth 100000
noncomputable abbrev PG := PySem.Challenge.rw_ik0017_01.row.prog

noncomputable def isD (o : Obj) : Bool := match o.data with | .dict .. => true | _ => false

/-- h' keeps what h has, but for the addresses in X; the frames fs up to their slots -/
def Kp (X fs : List Addr) (h h' : Heap) : Prop :=
  ∀ (b : Nat) (o : Obj), b ∉ X → h.get? b = some o → ∃ o', h'.get? b = some o' ∧ (o' = o ∨ (b ∈ fs ∧ ∃ sl, o' = { o with slots := sl }))
theorem Kp.of_keep {X fs} {h h' : Heap} (k : ∀ b o, b ∉ X → h.get? b = some o → h'.get? b = some o) : Kp X fs h h' := fun b o hb e => ⟨o, k b o hb e, .inl rfl⟩
theorem Kp.refl (X fs) (h : Heap) : Kp X fs h h := .of_keep fun _ _ _ e => e
theorem Kp.trans {X fs} {h h₁ h₂ : Heap} (a : Kp X fs h h₁) (b : Kp X fs h₁ h₂) : Kp X fs h h₂ := by
  intro x o hx e
  obtain ⟨o1, e1, c1⟩ := a x o hx e
  obtain ⟨o2, e2, c2⟩ := b x o1 hx e1
  refine ⟨o2, e2, ?_⟩
  rcases c1 with rfl | ⟨n1, sl1, rfl⟩
  · exact c2
  · rcases c2 with rfl | ⟨_, sl2, rfl⟩
    · exact .inr ⟨n1, sl1, rfl⟩
    · exact .inr ⟨n1, sl2, rfl⟩
theorem Kp.mono {X Y fs : List Addr} {h h' : Heap} (k : Kp X fs h h') (s : ∀ b ∈ X, b ∈ Y) : Kp Y fs h h' := fun b o hb e => k b o (fun q => hb (s b q)) e
theorem Kp.more {X fs gs : List Addr} {h h' : Heap} (k : Kp X fs h h') (s : ∀ b ∈ fs, b ∈ gs) : Kp X gs h h' := fun b o hb e =>
  let ⟨o', e', c⟩ := k b o hb e; ⟨o', e', c.imp id fun ⟨q, r⟩ => ⟨s b q, r⟩⟩
/-- addresses that h does not have may be left out -/
theorem Kp.drop {X Y fs : List Addr} {h h' : Heap} (k : Kp X fs h h') (s : ∀ b ∈ X, b ∈ Y ∨ h.get? b = none) : Kp Y fs h h' := fun b o hb e =>
  k b o (fun q => (s b q).elim hb fun z => by rw [z] at e; cases e) e
theorem Kp.dropF {X fs gs : List Addr} {h h' : Heap} (k : Kp X fs h h') (s : ∀ b ∈ fs, b ∈ gs ∨ h.get? b = none) : Kp X gs h h' := fun b o hb e => by
  obtain ⟨o', e', c⟩ := k b o hb e
  rcases c with rfl | ⟨q, r⟩
  · exact ⟨_, e', .inl rfl⟩
  · exact ⟨_, e', (s b q).elim (fun q => .inr ⟨q, r⟩) fun z => by rw [z] at e; cases e⟩
theorem Kp.get {X fs} {h h' : Heap} (k : Kp X fs h h') {b : Nat} {o : Obj} (e : h.get? b = some o) (hb : b ∉ X) (hf : b ∉ fs) : h'.get? b = some o := by
  obtain ⟨o', e', c⟩ := k b o hb e
  rcases c with rfl | ⟨d, _⟩
  · exact e'
  · exact absurd d hf
theorem Kp.slots {X fs} {h h' : Heap} (k : Kp X fs h h') {b : Nat} {o : Obj} (e : h.get? b = some o) (hb : b ∉ X) : ∃ sl, h'.get? b = some { o with slots := sl } := by
  obtain ⟨o', e', c⟩ := k b o hb e
  rcases c with rfl | ⟨_, sl, rfl⟩
  · exact ⟨_, e'⟩
  · exact ⟨_, e'⟩
theorem Kp.ns {X fs} {h h' : Heap} (k : Kp X fs h h') {L : Addr} {m : Str → Option Value} (hn : h.Ns L m) (hL : L ∉ X) : h'.Ns L m := by
  obtain ⟨o, es, ep, ho, hd, r⟩ := hn
  obtain ⟨sl, e'⟩ := k.slots ho hL
  exact ⟨_, es, ep, e', hd, r⟩
theorem isD_of_ns {h : Heap} {L : Addr} {m : Str → Option Value} (hn : h.Ns L m) : ∃ o, h.get? L = some o ∧ isD o = true := by
  obtain ⟨o, es, ep, ho, hd, _⟩ := hn
  exact ⟨o, ho, by simp [isD, hd]⟩

/-- the frames on the stack -/
def StkL (h : Heap) (l : List Env) : Prop := ∀ env ∈ l, env.scope.kind ≠ .module ∧ ∃ (L : Nat) (o : Obj), env.frame = some L ∧ h.get? L = some o ∧ isD o = true
theorem StkL.kp {X fs} {h h' : Heap} {l : List Env} (s : StkL h l) (k : Kp X fs h h') (hX : ∀ b ∈ X, ∀ o, h.get? b = some o → isD o = false) : StkL h' l := by
  intro env he
  obtain ⟨a, L, o, hf, ho, hd⟩ := s env he
  obtain ⟨sl, e'⟩ := k.slots ho (fun q => by have := hX L q o ho; rw [hd] at this; cases this)
  exact ⟨a, L, _, hf, e', hd⟩
theorem StkL.keep {h h' : Heap} {l : List Env} (s : StkL h l) (k : ∀ b o, h.get? b = some o → h'.get? b = some o) : StkL h' l :=
  s.kp (Kp.of_keep (X := []) (fs := []) fun b o _ e => k b o e) (by simp)
theorem StkL.fun {h base : Heap} : ∀ {l : List Env}, StkL h l → (∀ b ∈ l.filterMap (·.frame), base.get? b = none) → h.FunFrames base l
  | [], _, _ => trivial
  | env :: l, s, hb => by
    obtain ⟨a, L, o, hf, ho, hd⟩ := s env (.head _)
    rw [List.filterMap_cons, hf] at hb
    exact ⟨a, ⟨L, o, hf, hb L (.head _), ho, fun vs q => by simp [isD, q] at hd⟩, StkL.fun (fun e he => s e (.tail _ he)) fun b q => hb b (.tail _ q)⟩
theorem StkL.cons {h : Heap} {l : List Env} {env : Env} {L : Nat} {m : Str → Option Value} (s : StkL h l) (hk : env.scope.kind ≠ .module) (hf : env.frame = some L) (hn : h.Ns L m) : StkL h (env :: l) := by
  intro e he
  rcases List.mem_cons.mp he with rfl | he
  · obtain ⟨o, ho, hd⟩ := isD_of_ns hn
    exact ⟨hk, L, o, hf, ho, hd⟩
  · exact s e he

theorem heap_low (P : Params) : ((hd.heap_1 P).all fun p => Nat.blt p.1 670) = true := by kernel_rfl
theorem lookup_low {P : Params} {a : Nat} {o : Obj} (e : (hd.heap_1 P).lookup a = some o) : a < 670 := by
  have h1 := heap_low P
  generalize hd.heap_1 P = K at h1 e
  induction K with
  | nil => cases e
  | cons p r ih =>
    obtain ⟨b, o'⟩ := p
    rw [List.all_cons, Bool.and_eq_true] at h1
    rw [List.lookup_cons] at e
    split at e
    · rename_i q; have : a = b := by simpa using q
      subst this; exact Nat.le_of_ble_eq_true h1.1
    · exact ih h1.2 e
/-- what stands below 670 is kept -/
def Low (h h' : Heap) : Prop := ∀ (b : Nat) (o : Obj), b < 670 → h.get? b = some o → h'.get? b = some o
theorem Low.of_keep {h h' : Heap} (k : ∀ b o, h.get? b = some o → h'.get? b = some o) : Low h h' := fun b o _ e => k b o e
theorem Kp.low {X fs} {h h' : Heap} (k : Kp X fs h h') (hX : ∀ (b : Nat), b ∈ X → 670 ≤ b) (hf : ∀ (b : Nat), b ∈ fs → 670 ≤ b) : Low h h' := fun b o hb e =>
  k.get e (fun q => by have := hX _ q; omega) (fun q => by have := hf _ q; omega)
theorem Low.hide {h : Heap} {fs : List Addr} (hf : ∀ (b : Nat), b ∈ fs → 670 ≤ b) : Low h (hideAll h fs) := fun b o hb e => hideAll_get _ e (fun q => by have := hf _ q; omega)
theorem Low.K {P : Params} {h h' : Heap} (k : Low h h') (x : (hd.heap_1 P).In h) : (hd.heap_1 P).In h' := fun a o e => k _ _ (lookup_low e) (x a o e)
theorem ns_low {h h' : Heap} {a : Addr} {m : Str → Option Value} (hn : h.Ns a m) (k : ∀ o, h.get? a = some o → h'.get? a = some o) : h'.Ns a m :=
  let ⟨o, es, ep, ho, r⟩ := hn; ⟨o, es, ep, k o ho, r⟩
theorem Low.T {p : Program} {loose : List Str} {mg mb : Str → Option Value} {h h' : Heap} (k : Low h h') (T : TopRead p loose mg mb h) : TopRead p loose mg mb h' :=
  ⟨ns_low T.g fun o e => k _ o (by decide) e, ns_low T.b fun o e => k _ o (by decide) e, let ⟨mc, a, b⟩ := T.nolimit; ⟨mc, ns_low a fun o e => k _ o (by decide) e, b⟩, T.builtins, T.free⟩

/-- what a call of the text's own wants of the state -/
structure Pre (w : World) (b : Nat) (fs : List Addr) (p : Program) (loose : List Str) (mg mb : Str → Option Value) (A : Around) (h : Heap) : Prop where
  X : (hd.heap_1 w.params).In h
  T : TopRead p loose mg mb h
  low : ∀ (b : Nat), b ∈ fs → 670 ≤ b
  handled : A.handled = none
  depth : A.depth ≤ b
  units : A.units ≤ b
  stk : ∃ l, A.frames = some l ∧ l.filterMap (·.frame) = fs ∧ StkL h l
theorem Pre.size {w bd fs p loose mg mb A h} (H : Pre w bd fs p loose mg mb A h) : 670 ≤ h.objs.size := by
  have e : (hd.heap_1 w.params).lookup 669 ≠ none := by
    have : ((hd.heap_1 w.params).lookup 669).isSome = true := by kernel_rfl
    intro q; rw [q] at this; cases this
  cases q : (hd.heap_1 w.params).lookup 669 with
  | none => exact absurd q e
  | some o => exact Heap.lt_size (H.X _ _ q)
theorem Pre.kp {w bd fs p loose mg mb A} {h h' : Heap} {X gs : List Addr} (H : Pre w bd fs p loose mg mb A h) (k : Kp X gs h h') (hg : ∀ (b : Nat), b ∈ gs → 670 ≤ b) (hX : ∀ (b : Nat), b ∈ X → 670 ≤ b ∧ ∀ o, h.get? b = some o → isD o = false) : Pre w bd fs p loose mg mb A h' :=
  ⟨(k.low (fun b q => (hX b q).1) hg).K H.X, (k.low (fun b q => (hX b q).1) hg).T H.T, H.low, H.handled, H.depth, H.units, let ⟨l, a, b, c⟩ := H.stk; ⟨l, a, b, c.kp k fun b q => (hX b q).2⟩⟩
theorem Pre.keep {w bd fs p loose mg mb A} {h h' : Heap} (H : Pre w bd fs p loose mg mb A h) (k : ∀ b o, h.get? b = some o → h'.get? b = some o) : Pre w bd fs p loose mg mb A h' :=
  H.kp (Kp.of_keep (X := []) (fs := []) fun b o _ e => k b o e) (by simp) (by simp)

theorem Pre.deeper {w bd fs p loose mg mb A} {h : Heap} {L : Nat} {m : Str → Option Value} {name : Str} {scope : Scope} {a : Addr} {cd : Value} (H : Pre w bd fs p loose mg mb A h) (hn : h.Ns L m) (hL : 670 ≤ L) (hk : scope.kind = .function := by rfl) :
    Pre w (bd + 3) (L :: fs) p loose mg mb (A.deeper (envOf name scope L a cd)) h := by
  refine ⟨H.X, H.T, fun b hb => ?_, H.handled, by have := H.depth; show A.depth + 1 ≤ _; omega, by have := H.units; show A.units + 3 ≤ _; omega, ?_⟩
  · rcases List.mem_cons.mp hb with rfl | hb
    · exact hL
    · exact H.low b hb
  · obtain ⟨l, h1, h2, h3⟩ := H.stk
    exact ⟨_, Around.frames_deeper h1, by rw [List.filterMap_cons, h2]; rfl, h3.cons (by show scope.kind ≠ .module; rw [hk]; decide) rfl hn⟩
theorem Pre.notin {w bd fs p loose mg mb A} {h : Heap} (H : Pre w bd fs p loose mg mb A h) {a : Nat} {o : Obj} (e : h.get? a = some o) (hd : isD o = false) : a ∉ fs := by
  obtain ⟨l0, _, a2, a3⟩ := H.stk
  intro hb
  rw [← a2] at hb
  obtain ⟨env, h5, h6⟩ := List.mem_filterMap.mp hb
  obtain ⟨_, L, o', q1, q2, q3⟩ := a3 env h5
  rw [q1] at h6; cases h6
  rw [e] at q2; cases q2
  rw [hd] at q3; cases q3

theorem Pre.alive {w bd fs p loose mg mb A} {h : Heap} (H : Pre w bd fs p loose mg mb A h) {a : Nat} (ha : a ∈ fs) : ∃ o, h.get? a = some o ∧ isD o = true := by
  obtain ⟨l0, _, a2, a3⟩ := H.stk
  rw [← a2] at ha
  obtain ⟨env, h5, h6⟩ := List.mem_filterMap.mp ha
  obtain ⟨_, L, o', q1, q2, q3⟩ := a3 env h5
  rw [q1] at h6; cases h6
  exact ⟨o', q2, q3⟩

inductive Gives (fs : List Addr) (s : Shared) (P : Heap → Value → Prop) (r : Result) (s' : Shared) : Prop where
  | mk (v : Value) (h' : Heap) (tk : Nat) (e1 : r = .ok (.ret v)) (e2 : s' = { s with heap := h', toks := tk }) (e3 : Kp [] fs s.heap h') (e4 : P h' v)

theorem after_fr {fs : List Addr} {base h h' : Heap} {X : List Addr} {L : Addr} {m : Str → Option Value} (F : Fr base L h m) (k : Kp X fs h h') (hX : L ∉ X) (hb : ∀ b, b ∈ X ∨ (b ∈ fs ∧ b ≠ L) → base.get? b = none) : Fr base L h' m := by
  refine ⟨k.ns F.ns hX, fun b o e => ?_, F.above⟩
  obtain ⟨o', e', c⟩ := k b o (fun q => by rw [hb b (.inl q)] at e; cases e) (F.keep b o e)
  rcases c with rfl | ⟨c1, _⟩
  · exact e'
  · by_cases q : b = L
    · subst q; exact absurd (Heap.lt_size e) (Nat.not_lt.mpr F.above)
    · rw [hb b (.inr ⟨c1, q⟩)] at e; cases e
theorem after_news {fs : List Addr} {base h h' : Heap} {X : List Addr} {L : Addr} {news : List (Addr × Obj)} (N : News base L h news) (k : Kp X fs h h') (hn : ∀ p ∈ news, p.1 ∉ X ∧ p.1 ∉ fs) : News base L h' news :=
  fun p hp => ⟨k.get (N p hp).1 (hn p hp).1 (hn p hp).2, (N p hp).2⟩
theorem fresh_none {h : Heap} {b : Addr} (hb : h.objs.size ≤ b) : h.get? b = none := by
  cases q : h.get? b with
  | none => rfl
  | some o => exact absurd (Heap.lt_size q) (Nat.not_lt.mpr hb)

/-- what a raise would come to, put aside -/
theorem hide_E {M : Model} {A : Around} {env : Env} {body : List Stmt} {Q : Flow → Shared → Prop} {E : Value → Shared → Prop} {s : Shared} (hp : PassesOwn M A env E) (h : ∀ E', PassesOwn M A env E' → wpAny M A (execs body env) Q E' s) : wpAny M A (execs body env) Q E s := h E hp
/-- entering a def of the text: its frame over any base -/
theorem enterG {K : Frag} {w : World} {A : Around} {s : Shared} {R : Result → Shared → Prop} {p : Program} {loose : List Str} {mg mb : Str → Option Value} (g : Heap)
    {f : Addr} {args : Args} {binds : List (Str × Value)} {name qual : Str} {params : Arguments} {body : List Stmt} {scope : Scope} {dV kV doc pm cdv ct oc : Value} {an od : Option Addr} {osl : Array (Option Value)}
    (X : K.In s.heap) (T : TopRead p loose mg mb s.heap) (hroom : A.depth < recursionLimit)
    (ho : K.lookup f = some ⟨oc, od, .func (fnOf name qual params body scope dV kV doc pm an cdv ct), osl⟩) (hcd : codeIn K cdv qual = true)
    (hg : ∀ b o, g.get? b = some o → s.heap.get? b = some o) (hsz : g.objs.size ≤ s.heap.objs.size)
    (hbind : BindsTo s (fnOf name qual params body scope dV kV doc pm an cdv ct) args binds) (hloc : ∀ y ∈ binds, scope.names.lookup y.1 = some .local)
    (h : ∀ h₁, Fr g s.heap.objs.size h₁ (fun y => binds.reverse.lookup y) → (∀ b o, s.heap.get? b = some o → h₁.get? b = some o) →
      wpAny (model PG w) (A.deeper (envOf qual scope s.heap.objs.size f cdv)) (execs body (envOf qual scope s.heap.objs.size f cdv))
        (fun fl s' => R (.ok (.ret (match fl with | .ret v => v | _ => .none))) s')
        (fun e s' => wpAny (model PG w) (A.deeper (envOf qual scope s.heap.objs.size f cdv)) (leaving (envOf qual scope s.heap.objs.size f cdv) e) (fun _ s'' => R (.error e) s'') (fun e' s'' => R (.error e') s'') s')
        { s with heap := h₁, toks := s.toks + binds.length })
    (hco : scope.isCoroutine = false) (hgen : scope.isGenerator = false) (hk : scope.kind = .function)
    (hcell : ∀ x ∈ scope.names, x.2 ≠ .cell) : codeAny (model PG w) A (.call (.ref f) args) R s := by
  refine codeAny_call_def (fd := fnOf name qual params body scope dV kV doc pm an cdv ct) (body := body) (binds := binds) hroom (X _ _ ho) rfl T.nolimit (codeRec_of X hcd) rfl hbind hcell hloc (fun h₁ hns hk₁ => ?_) hco hgen hk
  exact h h₁ ⟨hns, fun b o e => hk₁ b o (hg b o e), hsz⟩ hk₁

end

section

open _root_.PySem _root_.PySem.W _root_.PyProof.Rows _root_.PySem.Calls
set_option maxRecDepth 100000
theorem lc_lookup : typeLookup (.type "list") "__contains__" = pure (some (.builtin "list.__contains__")) := slot_list_contains.lookup
theorem lc_type : typeOf (.builtin "list.__contains__") = pure (.type "wrapper_descriptor") := by show builtinType _ = _; rw [builtinType_eq_fast]; kernel_rfl
theorem wd_set : typeLookup (.type "wrapper_descriptor") "__set__" = pure none := by rw [typeLookup_type, builtinLookup_eq_fast]; kernel_rfl
theorem wd_del : typeLookup (.type "wrapper_descriptor") "__delete__" = pure none := by rw [typeLookup_type, builtinLookup_eq_fast]; kernel_rfl
theorem slot_wd : Slot "wrapper_descriptor" "__get__" "wrapper_descriptor.__get__" :=
  .of (owner := "wrapper_descriptor") (n := "__get__") (by rw [typeLookup_type, builtinLookup_eq_fast]; kernel_rfl) (by decide +kernel) (by decide +kernel) (by decide +kernel)
    (by first | exact .inl (by decide +kernel) | exact .inr (by decide +kernel)) (by rw [isSubtype_type]; kernel_rfl)
theorem entry_wd : entryFor table "wrapper_descriptor.__get__" = some Builtin.«wrapper_descriptor.__get__» := entryFor_of_tree (by kernel_rfl)
theorem args_wd (a b c : Value) : argsOk "wrapper_descriptor.__get__" ⟨[a, b, c], []⟩ := by unfold argsOk; kernel_rfl

theorem list_sub : isSubtype (.type "list") (.type "list") = pure true := by rw [isSubtype_type]; kernel_rfl

abbrev wrapObj (id : String) (a : Value) : Obj := { cls := .type "method-wrapper", data := .fields #[.builtin id, a] }

set_option maxHeartbeats 4000000 in
theorem wd_get_contains (a : Addr) (xs : Array Value) (k : Nat) :
    Meets (Builtin.«wrapper_descriptor.__get__» ⟨[.builtin "list.__contains__", .ref a, .type "list"], []⟩) (fun A R s => s.heap.get? a = some { cls := .type "list", dict := none, data := .seq xs k, slots := #[] } ∧
      ∀ h', h' = s.heap.push (wrapObj "list.__contains__" (.ref a)) → R (.ok (.ret (.ref s.heap.objs.size))) { s with heap := h' }) :=
  Meets.of_wp fun prog w A R s hs => by
    obtain ⟨hp, g, d, tk, os⟩ := s
    obtain ⟨hx, hs⟩ := hs
    have hT : (⟨hp, g, d, tk, os⟩ : Shared).TypeIs (.ref a) "list" := ⟨_, hx, rfl⟩
    have f2 := lc_type
    have f3 := list_sub
    have f4 : ".".intercalate ("list.__contains__".cutAt '.').dropLast = "list" := by decide +kernel
    unfold Builtin.«wrapper_descriptor.__get__»
    repeat (any_goals (first | assumption | wp_step))
    rw [f4]
    repeat (any_goals (first | assumption | wp_step))
    exact ⟨_, rfl, hs _ rfl⟩

set_option maxHeartbeats 4000000 in
theorem getattribute_contains (a : Addr) (xs : Array Value) (k : Nat) (u : Tok) :
    Meets (Builtin.«object.__getattribute__» ⟨[.ref a, .str "__contains__" u], []⟩) (fun A R s => s.heap.get? a = some { cls := .type "list", dict := none, data := .seq xs k, slots := #[] } ∧
      ∀ h', h' = s.heap.push (wrapObj "list.__contains__" (.ref a)) → R (.ok (.ret (.ref s.heap.objs.size))) { s with heap := h' }) :=
  Meets.of_wp fun prog w A R s hs => by
    obtain ⟨hp, g, d, tk, os⟩ := s
    obtain ⟨hx, hs⟩ := hs
    have hT : (⟨hp, g, d, tk, os⟩ : Shared).TypeIs (.ref a) "list" := ⟨_, hx, rfl⟩
    have hT2 : (⟨hp, g, d, tk, os⟩ : Shared).TypeIs (.builtin "list.__contains__") "wrapper_descriptor" := lc_type
    have f1 := lc_lookup
    have f2 := lc_type
    have f3 := slot_wd.lookup
    have f4 := wd_set
    have f5 := wd_del
    unfold Builtin.«object.__getattribute__»
    repeat (any_goals (first | assumption | ((with_reducible show wpAny _ _ (call (Value.builtin "wrapper_descriptor.__get__") _ _) _ _ _); refine call_meets slot_wd hT2 entry_wd (args_wd _ _ _) (wd_get_contains a xs k) ⟨hx, fun h' e => ?_⟩) | wp_step))
    exact wpAny_pure ⟨_, rfl, hs _ e⟩

theorem getAttr_contains {prog : Program} {w : World} {A : Around} {E : Value → Shared → Prop} {s : Shared} {a : Addr} {xs : Array Value} {k : Nat} {Q : Value → Shared → Prop}
    (hx : s.heap.get? a = some { cls := .type "list", data := .seq xs k }) (h : ∀ tk, Q (.ref s.heap.objs.size) { s with heap := s.heap.push (wrapObj "list.__contains__" (.ref a)), toks := tk }) :
    wpAny (model prog w) A (getAttr (.ref a) "__contains__" true) Q E s := by
  obtain ⟨hp, g, d, tk, os⟩ := s
  have hT : ∀ tk', (⟨hp, g, d, tk', os⟩ : Shared).TypeIs (.ref a) "list" := fun _ => ⟨_, hx, rfl⟩
  have f3 := F.slot_list_getattribute.lookup
  have f4 := F.slot_list_getattribute.bind (.ref a)
  have f5 := am_list_getattr_none
  unfold getAttr getAttrBy
  repeat (any_goals (first | assumption | exact hT _ | ((with_reducible show wpAny _ _ (call (Value.builtin "list.__getattribute__") _ _) _ _ _); refine call_meets F.slot_list_getattribute (hT _) am_entry_list_getattribute (F.args_list_getattribute_2 _ _) (getattribute_contains a xs k _) ⟨hx, fun h' e => ?_⟩) | wp_step))
  subst e
  show wpAny _ _ (handedOut _) _ _ _
  unfold handedOut
  repeat (any_goals (first | assumption | wp_step))
  exact h _

theorem getAttr_containsK {prog : Program} {w : World} {A : Around} {E : Value → Shared → Prop} {s : Shared} {h₀ : Heap} {L : Addr} {m : Str → Option Value} {news : List (Addr × Obj)} {a : Addr} {xs : Array Value} {k : Nat} {Q : Value → Shared → Prop}
    (F : Fr h₀ L s.heap m) (N : News h₀ L s.heap news) (hx : s.heap.get? a = some { cls := .type "list", data := .seq xs k })
    (h : ∀ q h' tk, Fr h₀ L h' m → News h₀ L h' ((q, wrapObj "list.__contains__" (.ref a)) :: news) → (∀ p ∈ news, p.1 < q) → Q (.ref q) { s with heap := h', toks := tk }) :
    wpAny (model prog w) A (getAttr (.ref a) "__contains__" true) Q E s :=
  getAttr_contains hx fun tk => h _ _ tk (F.push _) (N.push F _) fun p hp => Heap.lt_size (N p hp).1

end

section

open _root_.PySem _root_.PySem.W _root_.PyProof.Rows _root_.PySem.Calls
set_option maxRecDepth 100000
abbrev itObj (l : Addr) (i : Nat) : Obj := { cls := .type "list_iterator", data := .fields #[.ref l, .int i 0] }
theorem apart_of {h : Heap} {a b : Nat} {o1 o2 : Obj} (h1 : h.get? a = some o1) (h2 : h.get? b = some o2) (hc : o1.cls ≠ o2.cls) : a ≠ b := by
  rintro rfl
  rw [h1] at h2
  exact hc (congrArg Obj.cls (Option.some.inj h2))
theorem isList_of {h : Heap} {l : Addr} {vs : Array Value} {n : Nat} (e : h.get? l = some (W.listOf vs n)) : h.IsList l vs := ⟨_, e, rfl, n, rfl⟩
theorem iter_of {h : Heap} {it l : Addr} {i : Nat} (e : h.get? it = some (itObj l i)) : h.IsListIter it l i := ⟨_, e, rfl, rfl⟩
def Halt (P : Prop) : Prop := P
theorem halt_here {α : Type} {M : Model} {A : Around} {t : Sem α} {Q : α → Shared → Prop} {E : Value → Shared → Prop} {s : Shared} (h : Halt (wpAny M A t Q E s)) : wpAny M A t Q E s := h
section
variable {prog : Program} {w : World} {A : Around} {E : Value → Shared → Prop} {s : Shared} {h₀ : Heap} {L : Addr} {m : Str → Option Value} {news : List (Addr × Obj)}
theorem iter_listK {l : Addr} {vs : Array Value} {n : Nat} {Q : Value → Shared → Prop} (F : Fr h₀ L s.heap m) (N : News h₀ L s.heap news) (hl : s.heap.get? l = some (W.listOf vs n))
    (h : ∀ I h', Fr h₀ L h' m → News h₀ L h' ((I, itObj l 0) :: news) → (∀ p ∈ news, p.1 < I) → Q (.ref I) { s with heap := h' }) :
    wpAny (model prog w) A (call (.builtin "iter") [.ref l]) Q E s := by
  refine call_function_entry (by decide +kernel) (by decide +kernel) kdk_entry_iter (kdk_args_iter _) ?_
  unfold Builtin.«iter»
  refine wpAny_bind (m := someArgs "iter" 1 2 _) (wpAny_of_eq (a := [Value.ref l]) (by first | rfl | kernel_rfl) ?_)
  show wpAny _ _ (pyIter (.ref l) >>= _) _ _ _
  refine wpAny_bind (wpAny_pyIter_list (isList_of hl) ?_)
  exact wpAny_pure ⟨_, rfl, h _ _ (F.push _) (News.push F N _ rfl) (fun q hq => Heap.lt_size (N q hq).1)⟩
end
section
variable {prog : Program} {w : World} {A : Around} {E : Value → Shared → Prop} {s : Shared} {h₀ : Heap} {L : Addr} {m : Str → Option Value} {news : List (Addr × Obj)}
theorem it_step (l : Addr) (i : Nat) : Obj.mapFields (·.setIfInBounds 1 (rawInt ((i : Int) + 1))) (itObj l i) = itObj l (i + 1) := by
  simp [Obj.mapFields, rawInt]
theorem next_head {it : Addr} {Q : Value → Shared → Prop} (hT : s.TypeIs (.ref it) "list_iterator") (h : wpAny (model prog w) A.in1 (callSpecial? (.ref it) "__next__") (fun r s' => ∃ v, r = some v ∧ Q v s') E s) :
    wpAny (model prog w) A (call (.builtin "next") [.ref it]) Q E s := by
  refine call_function_entry (by decide +kernel) (by decide +kernel) kdk_entry_next (kdk_args_next _) ?_
  unfold Builtin.«next»
  refine wpAny_bind (m := someArgs "next" 1 2 _) (wpAny_of_eq (a := [Value.ref it]) (by first | rfl | kernel_rfl) ?_)
  refine wpAny_bind (wpAny_specialOf hT slot_listiter_next.lookup ?_)
  show wpAny _ _ (callSpecial? (.ref it) "__next__" >>= _) _ _ _
  refine wpAny_bind (wpAny_mono h (fun r s' hr => ?_) fun _ _ e => e)
  obtain ⟨v, rfl, hq⟩ := hr
  exact wpAny_pure ⟨v, rfl, hq⟩
theorem next_list_item {it l : Addr} {j nl : Nat} {vs : Array Value} {v : Value} {Q : Value → Shared → Prop} (hit : s.heap.get? it = some (itObj l j)) (hl : s.heap.get? l = some (W.listOf vs nl)) (hx : vs[j]? = some v)
    (hQ : ∀ h', h'.get? it = some (itObj l (j + 1)) → Heap.SameBut it s.heap h' → Q v { s with heap := h' }) : wpAny (model prog w) A (call (.builtin "next") [.ref it]) Q E s := by
  refine next_head (iter_of hit).typeIs ?_
  refine wpAny_callSpecial?_slot (name := Str.ofString "__next__") (iter_of hit).typeIs slot_listiter_next (wpAny_call_entry slot_listiter_next (iter_of hit).typeIs entry_listiter_next ?_ (args_listiter_next _))
  show wpAny _ _ (field (.ref it) 0 >>= _) _ _ s
  refine wpAny_bind (wpAny_field hit rfl (x := .ref l) rfl ?_)
  show wpAny _ _ (if (Value.ref l == Value.none) = true then _ else _) _ _ s
  rw [if_neg (show ¬ ((Value.ref l == Value.none) = true) from Bool.false_ne_true)]
  show wpAny _ _ (field (.ref it) 1 >>= _) _ _ s
  refine wpAny_bind (wpAny_field hit rfl (x := .int j 0) rfl ?_)
  show wpAny _ _ (seqItems? (.ref l) >>= _) _ _ s
  refine wpAny_bind (wpAny_seqItems hl rfl ?_)
  simp only [Int.toNat_natCast, hx]
  refine wpAny_bind (wpAny_setField hit rfl (by simp) (wpAny_pure ⟨v, rfl, v, rfl, hQ _ ?_ (Heap.SameBut.update ..)⟩))
  rw [Heap.get?_update_self _ hit (by rw [it_step]; rfl), it_step]
theorem next_list_end {it l : Addr} {j nl : Nat} {vs : Array Value} {Q : Value → Shared → Prop} (hh : A.handled = none) (hit : s.heap.get? it = some (itObj l j)) (hl : s.heap.get? l = some (W.listOf vs nl)) (hx : vs[j]? = none)
    (hE : ∀ h' e, (∀ b o, b ≠ it → s.heap.get? b = some o → h'.get? b = some o) → s.heap.get? e = none → (∃ ob vs, h'.get? e = some ob ∧ ob.cls = .type "StopIteration" ∧ ob.data = .fields vs ∧ vs[1]? = some .none) → E (.ref e) { s with heap := h' }) :
    wpAny (model prog w) A (call (.builtin "next") [.ref it]) Q E s := by
  refine next_head (iter_of hit).typeIs ?_
  refine wpAny_callSpecial?_slot (name := Str.ofString "__next__") (iter_of hit).typeIs slot_listiter_next (wpAny_call_entry slot_listiter_next (iter_of hit).typeIs entry_listiter_next ?_ (args_listiter_next _))
  show wpAny _ _ (field (.ref it) 0 >>= _) _ _ s
  refine wpAny_bind (wpAny_field hit rfl (x := .ref l) rfl ?_)
  show wpAny _ _ (if (Value.ref l == Value.none) = true then _ else _) _ _ s
  rw [if_neg (show ¬ ((Value.ref l == Value.none) = true) from Bool.false_ne_true)]
  show wpAny _ _ (field (.ref it) 1 >>= _) _ _ s
  refine wpAny_bind (wpAny_field hit rfl (x := .int j 0) rfl ?_)
  show wpAny _ _ (seqItems? (.ref l) >>= _) _ _ s
  refine wpAny_bind (wpAny_seqItems hl rfl ?_)
  simp only [Int.toNat_natCast, hx]
  refine wpAny_bind (wpAny_rule (wpAny_bind (wpAny_setField hit rfl (by simp) ?_)))
  show wpAny _ _ (newExc (.type "StopIteration") [] >>= _) _ _ _
  refine wpAny_bind ?_
  simp only [newExc, newTuple]
  refine wpAny_bind (wpAny_newObj_type ?_ (by size_fits))
  refine wpAny_bind (m := firstArgMember _ _) (wpAny_of_eq (a := Value.none) (by first | rfl | (simp only [firstArgMember]; rfl)) ?_)
  refine wpAny_newObj_type ?_ (by size_fits)
  simp only [raiseNew]
  refine wpAny_bind (wpAny_handled ?_)
  rw [show A.in1.in1.handled = none from hh]
  refine wpAny_bind (wpAny_pure (wpAny_throw ?_))
  have k : Heap.ExtBut it s.heap ((s.heap.update it (Obj.mapFields (·.setIfInBounds 0 Value.none))).push { cls := .type "tuple", data := .seq ([] : List Value).toArray }) := (Heap.SameBut.update ..).extBut.push _
  refine hE _ _ (fun b o hb e => Heap.get?_push_of_some _ (k b o hb e)) ?_ ⟨_, _, Heap.get?_push_size _ rfl, rfl, rfl, rfl⟩
  exact fresh_none (by simp only [Heap.size_push, Heap.size_after_update]; exact Nat.le_succ _)
end
section
variable {prog : Program} {w : World} {A : Around} {E : Value → Shared → Prop} {s : Shared} {h₀ : Heap} {L : Addr} {m : Str → Option Value} {news : List (Addr × Obj)}
theorem contains_bound (k : Addr) (v : Value) : checkBoundCall "list.__contains__" ⟨[.ref k, v], []⟩ = pure () := by kernel_rfl
theorem contains_call {q k : Addr} {nk : Nat} {ws : Array Value} {v : Value} {Q : Value → Shared → Prop} (e : Value → Bool) (hq : s.heap.get? q = some (wrapObj "list.__contains__" (.ref k))) (hk : s.heap.get? k = some (W.listOf ws nk))
    (he : ∀ y, y ∈ ws → MeetsSeq.EqGives y v (e y)) (h : Q (.bool (ws.any e)) s) : wpAny (model prog w) A (call (.ref q) [v]) Q E s := by
  refine wpAny_call (codeAny_of_tree ?_)
  show wpAny _ _ (callAny (.ref q) _) _ _ _
  obtain ⟨hp, g, d, tk, os⟩ := s
  refine nd_load hq ?_
  show wpAny _ _ (checkBoundCall "list.__contains__" ⟨[.ref k, v], []⟩ >>= fun _ => again (.builtin "list.__contains__" ⟨[.ref k, v], []⟩)) _ _ _
  rw [contains_bound]
  refine wpAny_bind (wpAny_pure (wpAny_pure ⟨plainId_quiet (by decide +kernel) _, codeAny_builtin F.entry_list_contains ?_⟩))
  rw [Around.under_plainId (by decide +kernel) _]
  refine wpAny_mono (SeqInW.list_containsW k ws nk none #[] v e he prog w A (wants Q E) ⟨hp, g, d, tk, os⟩ ⟨hk, h⟩) (fun fin s' hf => ?_) fun _ _ e => e
  cases fin with
  | done f => cases f <;> exact hf
  | again c => exact hf
end
def Back (I : Nat → Shared → Prop) (n : Nat) (s : Shared) : Prop := ∃ m, m < n ∧ I m s
section
variable {prog : Program} {w : World} {A : Around} {s : Shared} {env : Env}
theorem while_own {test : PySem.Expr} {body : List Stmt} {pos : Pos} {Q : Flow → Shared → Prop} {E : Value → Shared → Prop} (I : Nat → Shared → Prop)
    (turn : ∀ n s, I n s → wpAny (model prog w) A (isTrue test env (eval test env)) (fun b s₂ => if b = true then wpAny (model prog w) A (execs body env) (fun f s₃ => match f with | .next => Back I n s₃ | .cont => Back I n s₃ | .brk => Q .next s₃ | .ret v => Q (.ret v) s₃) E s₂ else Q .next s₂) E s)
    (n : Nat) (h : I n s) (hE : PassesOwn (model prog w) A env E := by passes_own) : wpAny (model prog w) A (exec (.While test body [] pos) env) Q E s := by
  refine wpAny_While (codeAny_whileLoop (R := fun r s' => match r with | .ok f => Q f s' | .error e => cameBackBy (model prog w) A env E e s') I (fun n s hI => ?_) n h)
  refine wpAny_passesOwn hE (wpAny_mono (turn n s hI) (fun b s₂ hb => ?_) fun _ _ z => z)
  cases b with
  | true =>
    simp only [if_true] at hb ⊢
    refine wpAny_passesOwn hE (wpAny_mono hb (fun f s₃ h₃ => ?_) fun _ _ z => z)
    cases f <;> exact h₃
  | false =>
    simp only [Bool.false_eq_true, if_false] at hb ⊢
    exact wpAny_execs_nil hb
end
section
variable {prog : Program} {w : World} {A : Around} {E : Value → Shared → Prop} {s : Shared} {h₀ : Heap} {L : Addr} {m : Str → Option Value}
theorem next_itemK {it l : Addr} {j nl : Nat} {vs : Array Value} {v : Value} {Q : Value → Shared → Prop} (F : Fr h₀ L s.heap m) (N : News h₀ L s.heap [(it, itObj l j)]) (hl : s.heap.get? l = some (W.listOf vs nl)) (hx : vs[j]? = some v)
    (h : ∀ h', Fr h₀ L h' m → News h₀ L h' [(it, itObj l (j + 1))] → Q v { s with heap := h' }) : wpAny (model prog w) A (call (.builtin "next") [.ref it]) Q E s := by
  obtain ⟨a, b, c⟩ := N _ (List.Mem.head _)
  refine next_list_item a hl hx fun h' e sb => h h' ?_ ?_
  · exact after_fr (X := [it]) (fs := []) F (Kp.of_keep fun b' o hb e => sb.extBut b' o (by simpa using hb) e) (by simpa using Ne.symm b) (fun b' hb => by rcases hb with hb | ⟨hb, _⟩; (rw [List.mem_singleton.mp hb]; exact c); cases hb)
  · intro p hp
    obtain rfl := List.mem_singleton.mp hp
    exact ⟨e, b, c⟩
end
def WrapP (q : Addr) (id : String) (a : Value) (h : Heap) : Prop := h.get? q = some (wrapObj id a)
section
variable {M : Model} {A : Around} {E : Value → Shared → Prop} {s : Shared} {env : Env} {pos : Pos} {first : List Value} {Q : Value → Shared → Prop}
theorem keeps_wrap {q : Addr} {id : String} {a : Value} (h : Heap) (x : WrapP q id a h) : ∃ k, (k = Keeper.frame ∨ k = Keeper.machine ∨ k = Keeper.boundFrame) ∧ Looks M h (keeperOf (.ref q)) k :=
  ⟨.machine, .inr (.inl rfl), (Looks.ld (part := none) x).andThen .now⟩
theorem callWith_wrap {q : Addr} {id : String} {a : Value} {e : PySem.Expr} {rest : List PySem.Expr} (_x : WrapP q id a s.heap) (h : wpAny M A (spliced (backTo pos (starEach (e :: rest) env))) (fun vs s₁ => WrapP q id a s₁.heap ∧ wpAny M A (call (.ref q) (first ++ vs)) Q E s₁) E s)
    (he : starEach (e :: rest) env = (false, eval e env) :: starEach rest env := by rfl) (hplain : (backTo pos (starEach rest env)).any (·.1) = false := by rfl) :
    wpAny M A (callWith pos (.ref q) first (backTo pos (starEach (e :: rest) env)) []) Q E s := by
  rw [he] at h ⊢
  exact callWith_of (by show ((false || (backTo pos (starEach rest env)).any (·.1)) || false) = false; rw [hplain]; rfl) keeps_wrap (evalArgs_plain h)
end

/-- a new exception leaves the frame in which it was raised: what stood is kept, the frames up to their slots -/
theorem leave_first {M : Model} {A : Around} {E : Value → Shared → Prop} {s' : Shared} {h₀ : Heap} {X fs : List Addr} {l₀ : List Env} {name : Str} {scope : Scope} {a : Addr} {cd : Value} {e : Nat} {m : Str → Option Value} {Q : Unit → Shared → Prop} {cls : String}
    (hfr : A.frames = some l₀) (hfs : l₀.filterMap (·.frame) = fs) (hst : StkL h₀ l₀) (hk : scope.kind = .function) (k : Kp X [] h₀ s'.heap) (hX : ∀ b ∈ X, ∀ o, h₀.get? b = some o → isD o = false) (hn : s'.heap.Ns h₀.objs.size m)
    (he : h₀.get? e = none) (hob : ∃ ob vs, s'.heap.get? e = some ob ∧ ob.cls = .type cls ∧ ob.data = .fields vs ∧ vs[1]? = some .none)
    (h : ∀ h', Kp X fs h₀ h' → (∃ oe, h'.get? e = some oe ∧ oe.cls = .type cls) → Q () { s' with heap := h' }) :
    wpAny M (A.deeper (envOf name scope h₀.objs.size a cd)) (leaving (envOf name scope h₀.objs.size a cd) (.ref e)) Q E s' := by
  obtain ⟨ob, vs, h1, h2, h3, h4⟩ := hob
  have hf : ∀ b ∈ fs, ∃ o, h₀.get? b = some o ∧ isD o = true := by
    intro b hb
    rw [← hfs] at hb
    obtain ⟨env, h5, h6⟩ := List.mem_filterMap.mp hb
    obtain ⟨_, L, o, q1, q2, q3⟩ := hst env h5
    rw [q1] at h6; cases h6
    exact ⟨o, q2, q3⟩
  refine wpAny_leaving_first (base := hideAll h₀ (X ++ fs)) (env := envOf name scope h₀.objs.size a cd) (outer := l₀) (L := h₀.objs.size) (Around.frames_deeper hfr) ?_ rfl h1 ?_ ?_ h3 h4 ?_
  · refine StkL.fun (StkL.cons (hst.kp k hX) (by show scope.kind ≠ .module; rw [hk]; decide) rfl hn) ?_
    intro b hb
    rw [List.filterMap_cons] at hb
    rcases List.mem_cons.mp hb with rfl | hb
    · exact fresh_none (Nat.le_of_eq (hideAll_size _ _))
    · rw [hfs] at hb
      exact hideAll_none _ (List.mem_append.mpr (.inr hb))
  · intro b o e'
    have hb : b ∉ X ++ fs := fun q => by rw [hideAll_none _ q] at e'; cases e'
    exact k.get (of_hideAll _ e') (fun q => hb (List.mem_append.mpr (.inl q))) (by simp)
  · cases q : (hideAll h₀ (X ++ fs)).get? e with
    | none => rfl
    | some o => rw [of_hideAll _ q] at he; cases he
  · rintro h' ⟨k1, _, ⟨oe, _, _, _, _, t1, t2, _⟩, k4⟩
    refine h h' (fun b o hb e' => ?_) ⟨oe, t1, t2.trans h2⟩
    have e1 := k.get e' hb (by simp)
    by_cases hbf : b ∈ fs
    · obtain ⟨o', e2, d2⟩ := hf b hbf
      rw [e'] at e2; cases e2
      obtain ⟨sl, q⟩ := k4 b o e1 (fun vs q => by simp [isD, q] at d2)
      exact ⟨_, q, .inr ⟨hbf, sl, rfl⟩⟩
    · exact ⟨o, k1 b o (hideAll_get _ e' (by simp [hb, hbf])), .inl rfl⟩

end

open _root_.PySem _root_.PySem.W _root_.PyProof.Rows _root_.PySem.Calls
local macro_rules | `(tactic| walk_at "lst") => `(tactic| first | exact News.get (by assumption) (by k_mem) | assumption | exact Fr.keep (by assumption) _ _ (by assumption))
section

open _root_.PySem _root_.PySem.W _root_.PyProof.Rows _root_.PySem.Calls
set_option maxRecDepth 100000
local macro_rules | `(tactic| walk_at "call builtin:iter") => `(tactic| (k_here; refine' iter_listK ?F ?N ?a ?_; (case F => k_asm); (case N => k_asm); (case a => walk_at "lst"); k_whole; intro q' h' F' N' l1; k_lt l1; (try k_sweep)))
set_option maxHeartbeats 8000000 in
theorem mk_ff {w : World} {b : Nat} {fs : List Addr} {d u : Nat} {fr : Option (List Env)} {gs : Option (List Code)} {s : Shared} {p : Program} {loose : List Str} {mg mb : Str → Option Value} {q l : Addr} {vs : Array Value} {nl : Nat}
   (H : Pre w b fs p loose mg mb ⟨none, d, fr, gs, u⟩ s.heap) (hb : b ≤ 900) (hl : s.heap.get? l = some (W.listOf vs nl)) :
   codeAny (model PG w) ⟨none, d, fr, gs, u⟩ (.call (.ref 54) ⟨[.ref q, .ref l], []⟩) (fun r s' => ∃ (x dx it : Addr) (h' : Heap) (tk : Nat), r = .ok (.ret (.ref x)) ∧ s' = { s with heap := h', toks := tk} ∧
     (∀ b o, s.heap.get? b = some o → h'.get? b = some o) ∧ s.heap.get? x = none ∧ s.heap.get? it = none ∧ x ≠ it ∧ h'.get? x = some ⟨.ref 54, some dx, .plain, #[some (.ref q), some (.ref it)]⟩ ∧ h'.get? it = some (itObj l 0) ∧ h'.get? dx = some emptyDict ∧ @LE.le Nat _ s.heap.objs.size it ∧ s.heap.get? dx = none) s := by
  have hdep := H.depth
  dsimp only at hdep
  obtain ⟨h, g, dr, t, os⟩ := s
  refine make_core (C := 54) (init := .ref 36) (makes_of (C := 54) H.X (by k_is)) (looks_findIn (t := .ref 54) (r := some (.ref 36)) H.X (by k_is)) (fun self => bind_fn (f := 36) H.X self (by k_is)) (.inl rfl) ?_
  have k0 : ∀ b o, h.get? b = some o → ((h.push emptyDict).push (instObj 54 h.objs.size)).get? b = some o := fun b o e => Heap.get?_push_of_some _ (Heap.get?_push_of_some _ e)
  have X1 : (hd.heap_1 w.params).In ((h.push emptyDict).push (instObj 54 h.objs.size)) := fun a o e => k0 a o (H.X a o e)
  have T1 := H.T.keeps k0
  have hx : ((h.push emptyDict).push (instObj 54 h.objs.size)).get? (h.objs.size + 1) = some (instObj 54 h.objs.size) := by heap_get
  have hdx : ((h.push emptyDict).push (instObj 54 h.objs.size)).get? (h.objs.size) = some emptyDict := by heap_get
  have hl1 := k0 _ _ hl
  have hA : (⟨none, d, fr, gs, u⟩ : Around).under (.builtin "type.__call__" ⟨.ref 54 :: [.ref q, .ref l], []⟩) = ⟨none, d + 1, fr, gs, u + 1⟩ := rfl
  rw [hA]
  generalize hH : ((h.push emptyDict).push (instObj 54 h.objs.size)) = H1 at *
  generalize hX : h.objs.size + 1 = x at *
  refine enterG (K := hd.heap_1 w.params) h (binds := [("self", .ref x), ("function", .ref q), ("iterable", .ref l)]) X1 T1 (by simp only [recursionLimit]; omega) (by k_is) (by k_is) k0 (by rw [← hH]; simp; omega) (BindsTo.of_eq rfl) (locs rfl) ?_ rfl rfl rfl (by decide)
  intro h₁ F k1
  refine hide_E (by passes_own) fun E hE => ?_
  have N : News h H1.objs.size h₁ [(x, instObj 54 h.objs.size), (h.objs.size, emptyDict)] := by
    intro p hp
    rcases List.mem_cons.mp hp with rfl | hp
    · exact ⟨k1 _ _ hx, Nat.ne_of_lt (Heap.lt_size hx), fresh_none (by rw [← hX]; exact Nat.le_succ _)⟩
    · obtain rfl := List.mem_singleton.mp hp
      exact ⟨k1 _ _ hdx, Nat.ne_of_lt (Heap.lt_size hdx), fresh_none (Nat.le_refl _)⟩
  clear hA
  have X := H.X
  have T := H.T
  k_steps
  rename News _ _ _ _ => N'
  rename Fr _ _ _ _ => F'
  refine ⟨rfl, x, h.objs.size, _, _, _, rfl, rfl, F'.keep, fresh_none (by rw [← hX]; exact Nat.le_succ _), (N' _ (List.Mem.head _)).2.2, ?_, (N' _ (List.Mem.tail _ (List.Mem.head _))).1, (N' _ (List.Mem.head _)).1, (N' _ (List.Mem.tail _ (List.Mem.tail _ (List.Mem.head _)))).1, Nat.le_of_lt (And.right (by assumption : x < _ ∧ h.objs.size < _)), fresh_none (Nat.le_refl _)⟩
  intro e
  have a := (N' _ (List.Mem.head _)).1
  have b := (N' _ (List.Mem.tail _ (List.Mem.head _))).1
  rw [← e, b] at a
  cases a

end

section

open _root_.PySem _root_.PySem.W _root_.PyProof.Rows _root_.PySem.Calls
set_option maxRecDepth 100000
/-- x == y of two ints or two texts -/
noncomputable def eqv (x y : Value) : Bool := match y, x with
  | .int a _, .int b _ => a == b
  | .str a _, .str b _ => a == b
  | _, _ => false
noncomputable def keepb (ws : Array Value) (v : Value) : Bool := !(ws.any (eqv v))
abbrev ffObj (dx : Addr) (q it : Addr) : Obj := ⟨.ref 54, some dx, .plain, #[some (.ref q), some (.ref it)]⟩

theorem inst_base {h₀ h : Heap} {L x C dx : Addr} {m : Str → Option Value} {od : Obj} {sl : Array (Option Value)} (F : Fr h₀ L h m) (h1 : h₀.get? x = some ⟨.ref C, some dx, .plain, sl⟩) (h2 : h₀.get? dx = some od) :
    InstAt h x ⟨.ref C, some dx, .plain, sl⟩ C (some od) := ⟨F.keep _ _ h1, rfl, rfl, F.keep _ _ h2⟩

local macro_rules | `(tactic| walk_at "exec While Constant cons nil") => `(tactic| refine halt_here ?_)
local macro_rules | `(tactic| k_inst) => `(tactic| exact inst_base (by k_asm) (by assumption) (by assumption))

local macro_rules | `(tactic| walk_at "call builtin:next") => `(tactic| (k_here; refine' next_itemK ?F ?N ?l ?v ?_; (case F => k_asm); (case N => k_asm); (case l => walk_at "lst"); (case v => assumption); k_whole; intro h' F' N'; (try k_sweep)))
local macro_rules | `(tactic| walk_at "call ref") => `(tactic| (k_here; refine' contains_call (eqv _) ?q ?k ?e ?_; (case q => walk_at "lst"); (case k => walk_at "lst"); (case e => assumption); k_whole))
local macro_rules | `(tactic| walk_at "callWith ref") => `(tactic| (k_here; refine' callWith_wrap ?q ?_; (case q => walk_at "lst"); k_whole; try dsimp only [List.nil_append, List.cons_append]))
local macro_rules | `(tactic| walk_at "And") => `(tactic| ((with_reducible show WrapP _ _ _ _ ∧ _); refine ⟨by k_dflt (walk_at "lst"), ?_⟩; try dsimp only [List.nil_append, List.cons_append]))
structure FFIn (h : Heap) (x dx q it k l : Nat) (od : Obj) (ws vs : Array Value) (nk nl i : Nat) : Prop where
  hx : h.get? x = some (ffObj dx q it)
  hdx : h.get? dx = some od
  hq : h.get? q = some (wrapObj "list.__contains__" (.ref k))
  hk : h.get? k = some (W.listOf ws nk)
  hl : h.get? l = some (W.listOf vs nl)
  hit : h.get? it = some (itObj l i)
  xi : x ≠ it
  dxi : dx ≠ it
  itn : 670 ≤ it

def NextR (s : Shared) (fs : List Addr) (it l : Nat) (ws vs : Array Value) (i : Nat) (r : Result) (s' : Shared) : Prop :=
  ∃ (h' : Heap) (tk : Nat), s' = { s with heap := h', toks := tk} ∧ Kp [it] fs s.heap h' ∧
     ((∃ (j : Nat) (v : Value), i ≤ j ∧ vs[j]? = some v ∧ keepb ws v = true ∧ (∀ m v', i ≤ m → m < j → vs[m]? = some v' → keepb ws v' = false) ∧ r = .ok (.ret v) ∧ h'.get? it = some (itObj l (j + 1))) ∨
      ((∀ m v', i ≤ m → vs[m]? = some v' → keepb ws v' = false) ∧ ∃ e oe, r = .error (.ref e) ∧ h'.get? e = some oe ∧ oe.cls = .type "StopIteration"))

theorem frItem {h₀ : Heap} {L : Addr} {h : Heap} {c : Option Value} {v : Value} {m : Str → Option Value} {x : Str} (F : Fr h₀ L h (fun y => if y = x then some v else if y = x then c else m y)) : Fr h₀ L h (fun y => if y = x then some v else m y) := by
  have : (fun y => if y = x then some v else if y = x then c else m y) = (fun y => if y = x then some v else m y) := by funext y; split <;> simp_all
  rw [← this]; exact F

set_option maxHeartbeats 8000000 in
theorem next_ff {w : World} {b : Nat} {fs : List Addr} {d u : Nat} {fr : Option (List Env)} {gs : Option (List Code)} {s : Shared} {p : Program} {loose : List Str} {mg mb : Str → Option Value} {x dx q it k l : Nat} {od : Obj} {ws vs : Array Value} {nk nl i : Nat}
   (H : Pre w b fs p loose mg mb ⟨none, d, fr, gs, u⟩ s.heap) (hb : b ≤ 900) (I : FFIn s.heap x dx q it k l od ws vs nk nl i) (hi : i ≤ vs.size) (hEq : ∀ v ∈ vs, ∀ y ∈ ws, MeetsSeq.EqGives y v (eqv v y)) :
   codeAny (model PG w) ⟨none, d, fr, gs, u⟩ (.call (.ref 50) ⟨[.ref x], []⟩) (NextR s fs it l ws vs i) s := by
  have hdep := H.depth
  dsimp only at hdep
  have X := H.X
  have T := H.T
  have hit := I.hit
  have hlow : Low s.heap (hideAll s.heap [it]) := by
    refine Low.hide ?_
    intro b hb
    rw [List.mem_singleton.mp hb]; exact I.itn
  generalize hR : NextR s fs it l ws vs i = R
  refine enterG (K := hd.heap_1 w.params) (hideAll s.heap [it]) (binds := [("self", .ref x)]) X T (by simp only [recursionLimit]; omega) (by k_is) (by k_is) (fun b o e => of_hideAll _ e) (Nat.le_of_eq (hideAll_size _ _)) (BindsTo.of_eq rfl) (locs rfl) ?_ rfl rfl rfl (by decide)
  intro h₁ F k1
  have N : News (hideAll s.heap [it]) s.heap.objs.size h₁ [(it, itObj l i)] := by
    intro p hp
    obtain rfl := List.mem_singleton.mp hp
    exact ⟨k1 _ _ hit, Nat.ne_of_lt (Heap.lt_size hit), hideAll_none _ (by simp)⟩
  have hne : ∀ b o, s.heap.get? b = some o → b ≠ it → (hideAll s.heap [it]).get? b = some o := fun b o e n => hideAll_get [it] e (by simpa using n)
  have hx := hne _ _ I.hx I.xi
  have hdx := hne _ _ I.hdx I.dxi
  have hq := hne _ _ I.hq (apart_of I.hq hit (by show Value.type _ ≠ Value.type _; decide))
  have hk := hne _ _ I.hk (apart_of I.hk hit (by show Value.type _ ≠ Value.type _; decide))
  have hl := hne _ _ I.hl (apart_of I.hl hit (by show Value.type _ ≠ Value.type _; decide))
  clear X T
  have X := hlow.K H.X
  have T := hlow.T H.T
  generalize hG : hideAll s.heap [it] = G at *
  k_steps
  rename Fr _ _ _ _ => F0
  rename News _ _ _ _ => N0
  show wpAny _ _ _ _ _ _
  refine while_own (fun n s' => ∃ (h : Heap) (tk j : Nat) (c : Option Value), s' = { s with heap := h, toks := tk } ∧ n = vs.size - j ∧ i ≤ j ∧ j ≤ vs.size ∧ (∀ m v', i ≤ m → m < j → vs[m]? = some v' → keepb ws v' = false) ∧
    Fr G s.heap.objs.size h (fun y => if y = Str.ofString "item" then c else if y = Str.ofString "func" then some (.ref q) else List.lookup y [(Str.ofString "self", Value.ref x)].reverse) ∧ News G s.heap.objs.size h [(it, itObj l j)]) ?_ (vs.size - i) ?_
  · intro n s' hpat2
    refine aside fun X hX => ?_
    obtain ⟨h, tk, j, c, rfl, hn, hij, hj, hno, F, N⟩ := hpat2
    refine hX ?_
    clear hX X
    clear F0 N0
    by_cases hlt : j < vs.size
    · have hv : vs[j]? = some vs[j] := by simp [hlt]
      generalize vs[j] = v at hv
      have he := hEq v (Array.mem_of_getElem? hv)
      k_steps
      · rename Fr _ _ _ _ => F1
        rename News _ _ _ _ => N1
        rename (Array.any _ _ = true) => ha
        show Back _ _ _
        refine ⟨vs.size - (j + 1), by omega, _, _, j + 1, some v, rfl, rfl, by omega, by omega, ?_, frItem F1, N1⟩
        intro m v' a b e
        by_cases q : m < j
        · exact hno m v' a q e
        · obtain rfl : m = j := by omega
          rw [hv] at e; cases e
          unfold keepb; rw [ha]; rfl
      · rename Fr _ _ _ _ => F1
        rename News _ _ _ _ => N1
        rename (Array.any _ _ = false) => ha
        show R _ _
        subst hR
        refine ⟨_, _, rfl, Kp.of_keep fun b o hb e => F1.keep _ _ (hne b o e (by simpa using hb)), .inl ⟨j, v, hij, hv, by unfold keepb; rw [ha]; rfl, hno, rfl, (N1 _ (List.Mem.head _)).1⟩⟩
    · have hv : vs[j]? = none := by simp; omega
      k_steps
      refine next_list_end rfl (N _ (List.Mem.head _)).1 (F.keep _ _ hl) hv ?_
      intro h' e hk' he' hob
      refine aside fun X hX => ?_
      obtain ⟨l₀, q1, q2, q3⟩ := H.stk
      refine hX ?_
      clear hX X
      have hne0 := (N _ (List.Mem.head _)).2.1
      have kk : Kp [it] [] s.heap h' := Kp.of_keep fun b o hb e => hk' b o (by simpa using hb) (F.keep _ _ (hne b o e (by simpa using hb)))
      have hns : h'.Ns s.heap.objs.size _ := (Kp.of_keep (X := [it]) (fs := []) fun b o hb e => hk' b o (by simpa using hb) e).ns F.ns (by simpa using Ne.symm hne0)
      have hes : s.heap.get? e = none := by
        cases q : s.heap.get? e with
        | none => rfl
        | some o =>
          exfalso
          by_cases z : e = it
          · subst z; rw [(N _ (List.Mem.head _)).1] at he'; cases he'
          · rw [F.keep _ _ (hne e o q z)] at he'; cases he'
      refine leave_first (A := ⟨none, d, fr, gs, u⟩) (X := [it]) q1 q2 q3 rfl kk ?_ hns hes hob ?_
      · intro b hb o e
        rw [List.mem_singleton.mp hb, hit] at e
        cases e; rfl
      · intro h'' k'' he''
        refine aside fun X hX => ?_
        obtain ⟨oe, w1, w2⟩ := he''
        refine hX ?_
        clear hX X
        subst hR
        refine ⟨h'', _, rfl, k'', .inr ⟨fun m v' a b => hno m v' a ?_ b, e, oe, rfl, w1, w2⟩⟩
        have : m < vs.size := (Array.getElem?_eq_some_iff.mp b).1
        omega
  · refine ⟨_, _, i, none, rfl, rfl, Nat.le_refl _, hi, fun m v' a b => by omega, ?_, N0⟩
    have : (fun y => if y = Str.ofString "item" then none else if y = Str.ofString "func" then some (Value.ref q) else List.lookup y [(Str.ofString "self", Value.ref x)].reverse) = (fun y => if y = Str.ofString "func" then some (Value.ref q) else List.lookup y [(Str.ofString "self", Value.ref x)].reverse) := by
      funext y
      by_cases e : y = Str.ofString "item"
      · subst e; rfl
      · rw [if_neg e]
    rw [this]
    exact F0

end

section

open _root_.PySem _root_.PySem.W _root_.PyProof.Rows _root_.PySem.Calls
set_option maxRecDepth 100000
theorem filter_next {α : Type} (f : α → Bool) : ∀ (l : List α) (i j : Nat) (v : α), i ≤ j → l[j]? = some v → f v = true → (∀ m v', i ≤ m → m < j → l[m]? = some v' → f v' = false) → (l.drop i).filter f = v :: (l.drop (j + 1)).filter f
  | [], _, _, _, _, e, _, _ => by simp at e
  | a :: l, 0, 0, v, _, e, hf, _ => by simp at e; subst e; simp [hf]
  | a :: l, 0, j + 1, v, _, e, hf, hn => by
    have ha := hn 0 a (Nat.le_refl _) (Nat.succ_pos _) rfl
    have ih := filter_next f l 0 j v (Nat.zero_le _) (by simpa using e) hf fun m v' _ b c => hn (m + 1) v' (Nat.zero_le _) (by omega) (by simpa using c)
    simp only [List.drop_zero] at ih ⊢
    rw [List.filter_cons, ha]
    simpa using ih
  | a :: l, i + 1, 0, v, h, _, _, _ => by omega
  | a :: l, i + 1, j + 1, v, h, e, hf, hn => by
    have ih := filter_next f l i j v (by omega) (by simpa using e) hf fun m v' a b c => hn (m + 1) v' (by omega) (by omega) (by simpa using c)
    simpa using ih
theorem filter_done {α : Type} (f : α → Bool) (l : List α) (i : Nat) (hn : ∀ (m : Nat) v', i ≤ m → l[m]? = some v' → f v' = false) : (l.drop i).filter f = [] := by
  rw [List.filter_eq_nil_iff]
  intro a ha
  obtain ⟨k, hk⟩ := List.mem_iff_getElem?.mp ha
  rw [List.getElem?_drop] at hk
  rw [hn (i + k) a (Nat.le_add_right _ _) hk]; simp

section
variable {w : World} {b : Nat} {fs : List Addr} {d u : Nat} {fr : Option (List Env)} {gs : Option (List Code)} {s : Shared} {p : Program} {loose : List Str} {mg mb : Str → Option Value} {x dx q it k l : Nat} {od : Obj} {ws vs : Array Value} {nk nl i : Nat} {E : Value → Shared → Prop}
theorem FFIn.inst (I : FFIn s.heap x dx q it k l od ws vs nk nl i) : InstAt s.heap x (ffObj dx q it) 54 (some od) := ⟨I.hx, rfl, rfl, I.hdx⟩

theorem py_next_ff {Q : Option Value → Shared → Prop} (H : Pre w b fs p loose mg mb ⟨none, d, fr, gs, u⟩ s.heap) (hb : b ≤ 900) (I : FFIn s.heap x dx q it k l od ws vs nk nl i) (hi : i ≤ vs.size) (hEq : ∀ v ∈ vs, ∀ y ∈ ws, MeetsSeq.EqGives y v (eqv v y))
    (item : ∀ j v h' tk, i ≤ j → vs[j]? = some v → keepb ws v = true → (∀ m v', i ≤ m → m < j → vs[m]? = some v' → keepb ws v' = false) → Kp [it] fs s.heap h' → h'.get? it = some (itObj l (j + 1)) → Q (some v) { s with heap := h', toks := tk })
    (done : ∀ h' tk, (∀ m v', i ≤ m → vs[m]? = some v' → keepb ws v' = false) → Kp [it] fs s.heap h' → Q none { s with heap := h', toks := tk }) :
    wpAny (model PG w) ⟨none, d, fr, gs, u⟩ (pyNext (.ref x)) Q E s := by
  unfold pyNext
  refine wpAny_bind (wpAny_attempt (special_fn (name := "__next__") (args := []) (f := 50) H.X I.inst (by k_is) (by k_is) (wpAny_call (codeAny_mono (next_ff H hb I hi hEq) fun r s' hr => ?_))))
  obtain ⟨h', tk, rfl, kk, ⟨j, v, a1, a2, a3, a4, rfl, a6⟩ | ⟨a1, e, oe, rfl, a3, a4⟩⟩ := hr
  · exact wpAny_pure (item j v h' tk a1 a2 a3 a4 kk a6)
  · refine wpAny_bind (wpAny_isInstance (T := "StopIteration") (b := true) ⟨_, a3, a4⟩ isSubtype_stop ?_)
    exact wpAny_pure (done h' tk a1 kk)

theorem iter_fn (H : Pre w b fs p loose mg mb ⟨none, d, fr, gs, u⟩ s.heap) (hb : b ≤ 900) :
    codeAny (model PG w) ⟨none, d, fr, gs, u⟩ (.call (.ref 43) ⟨[.ref x], []⟩) (fun r s' => ∃ h' tk, r = .ok (.ret (.ref x)) ∧ s' = { s with heap := h', toks := tk } ∧ ∀ b o, s.heap.get? b = some o → h'.get? b = some o) s := by
  have hdep := H.depth
  dsimp only at hdep
  have X := H.X
  have T := H.T
  refine enterG (K := hd.heap_1 w.params) s.heap (binds := [("self", .ref x)]) X T (by simp only [recursionLimit]; omega) (by k_is) (by k_is) (fun b o e => e) (Nat.le_refl _) (BindsTo.of_eq rfl) (locs rfl) ?_ rfl rfl rfl (by decide)
  intro h₁ F k1
  refine hide_E (by passes_own) fun E hE => ?_
  have N := News.nil (h₀ := s.heap) (h := h₁) (L := s.heap.objs.size)
  k_steps

theorem py_iter_ff {Q : Value → Shared → Prop} {h₀ : Heap} {L : Addr} {m : Str → Option Value} (F : Fr h₀ L s.heap m) (X₀ : (hd.heap_1 w.params).In h₀) (H : Pre w b fs p loose mg mb ⟨none, d, fr, gs, u⟩ s.heap) (hb : b ≤ 900) (I : FFIn s.heap x dx q it k l od ws vs nk nl i)
    (h : ∀ h' tk, (∀ b o, s.heap.get? b = some o → h'.get? b = some o) → Q (.ref x) { s with heap := h', toks := tk }) : wpAny (model PG w) ⟨none, d, fr, gs, u⟩ (pyIter (.ref x)) Q E s := by
  refine owit_iter (f := 43) F X₀ I.inst (by k_is) (by k_is) (wpAny_call (codeAny_mono (iter_fn H hb) fun r s' hr => ?_))
  refine aside fun X hX => ?_
  obtain ⟨h', tk, rfl, rfl, kk⟩ := hr
  refine hX ?_
  clear hX X
  exact owit_it (g := .ref 50) (od := some od) (F.keeps kk) X₀ ⟨kk _ _ I.hx, rfl, rfl, kk _ _ I.hdx⟩ (by k_is) (h h' tk kk)

theorem hint_ff {Q : Bool → Shared → Prop} (X : (hd.heap_1 w.params).In s.heap) (I : FFIn s.heap x dx q it k l od ws vs nk nl i) (h : Q true s) : wpAny (model PG w) ⟨none, d, fr, gs, u⟩ (Builtin.List.listLengthHint (.ref x)) Q E s := by
  unfold Builtin.List.listLengthHint
  have l1 : Looks (model PG w) s.heap (specialOf (.ref x) "__len__") none := (I.inst.type).andThen (looks_findIn (t := .ref 54) X (by k_is))
  have l2 : Looks (model PG w) s.heap (specialOf (.ref x) "__length_hint__") none := (I.inst.type).andThen (looks_findIn (t := .ref 54) X (by k_is))
  refine wpAny_bind (l1.here ?_)
  refine wpAny_bind (l2.here ?_)
  exact wpAny_pure h

theorem FFIn.kp {h h' : Heap} {X : List Addr} {j : Nat} (I : FFIn h x dx q it k l od ws vs nk nl i) (kk : Kp X fs h h') (hX : ∀ b ∈ X, b ≠ x ∧ b ≠ dx ∧ b ≠ q ∧ b ≠ k ∧ b ≠ l) (hf : x ∉ fs ∧ dx ∉ fs ∧ q ∉ fs ∧ k ∉ fs ∧ l ∉ fs) (hit : h'.get? it = some (itObj l j)) :
    FFIn h' x dx q it k l od ws vs nk nl j :=
  ⟨kk.get I.hx (fun z => (hX _ z).1 rfl) hf.1, kk.get I.hdx (fun z => (hX _ z).2.1 rfl) hf.2.1, kk.get I.hq (fun z => (hX _ z).2.2.1 rfl) hf.2.2.1, kk.get I.hk (fun z => (hX _ z).2.2.2.1 rfl) hf.2.2.2.1, kk.get I.hl (fun z => (hX _ z).2.2.2.2 rfl) hf.2.2.2.2, hit, I.xi, I.dxi, I.itn⟩

inductive ExtR (s : Shared) (fs : List Addr) (it S : Nat) (res : Value) (out : List Value) (r : Result) (s' : Shared) : Prop where
  | mk (h' : Heap) (tk c' : Nat) (e1 : r = .ok (.ret res)) (e2 : s' = { s with heap := h', toks := tk }) (e3 : Kp [it, S] fs s.heap h') (e4 : h'.get? S = some (W.listOf out.toArray c'))

theorem extend_ff {S : Nat} {res : Value} (hb : b ≤ 890) (hEq : ∀ v ∈ vs, ∀ y ∈ ws, MeetsSeq.EqGives y v (eqv v y)) (hS670 : 670 ≤ S) (hit670 : 670 ≤ it) (hf : x ∉ fs ∧ dx ∉ fs ∧ q ∉ fs ∧ k ∉ fs ∧ l ∉ fs) (hfs : ∀ (b : Nat), b ∈ fs → 670 ≤ b)
    (hS : S ≠ x ∧ S ≠ dx ∧ S ≠ q ∧ S ≠ k ∧ S ≠ l ∧ S ≠ it ∧ S ∉ fs) (hI : it ≠ x ∧ it ≠ dx ∧ it ≠ q ∧ it ≠ k ∧ it ≠ l) :
    ∀ (n i : Nat) (s : Shared) (acc : List Value) (c : Nat), vs.size - i = n → i ≤ vs.size → Pre w b fs p loose mg mb ⟨none, d, fr, gs, u⟩ s.heap → FFIn s.heap x dx q it k l od ws vs nk nl i → s.heap.get? S = some (W.listOf acc.toArray c) → acc.length + (vs.size - i) ≤ 100000 →
    codeAny (model PG w) ⟨none, d, fr, gs, u⟩ (.builtin "list.extend.loop" ⟨[.ref S, .ref x, res], []⟩) (ExtR s fs it S res (acc ++ (vs.toList.drop i).filter (keepb ws))) s := by
  intro n
  induction n using Nat.strongRecOn with
  | ind n ih =>
    intro i s acc c hn hi H I hSo hlen
    refine codeAny_builtin F.entry_extend_loop ?_
    rw [Around.under_plainId F.plain_extend_loop _]
    show wpAny _ ⟨none, d, fr, gs, u + 1⟩ (pyNext (.ref x) >>= _) _ _ s
    have H1 : Pre w (b + 1) fs p loose mg mb ⟨none, d, fr, gs, u + 1⟩ s.heap := ⟨H.X, H.T, H.low, rfl, Nat.le_succ_of_le H.depth, Nat.succ_le_succ H.units, H.stk⟩
    refine wpAny_bind (py_next_ff H1 (by omega) I hi hEq (fun j v h' tk hij hv hk hno kk hit' => ?_) (fun h' tk hno kk => ?_))
    · have hS' : h'.get? S = some (W.listOf acc.toArray c) := kk.get hSo (by simpa using hS.2.2.2.2.2.1) hS.2.2.2.2.2.2
      have hj : j < vs.size := (Array.getElem?_eq_some_iff.mp hv).1
      show wpAny _ _ (updateSeq S (·.push v) >>= _) _ _ _
      refine wpAny_bind ?_
      have up := Heap.get?_update_self (Obj.mapSeq (·.push v)) hS' rfl
      have oth : ∀ b o, b ≠ S → h'.get? b = some o → (h'.update S (Obj.mapSeq (·.push v))).get? b = some o := fun b o hb e => (Heap.get?_update_other _ _ (Ne.symm hb)).trans e
      have k2 : Kp [it, S] fs s.heap (h'.update S (Obj.mapSeq (·.push v))) := (kk.mono (by simp)).trans (Kp.of_keep fun b o hb e => oth b o (fun z => hb (by simp [z])) e)
      have e2 : Obj.mapSeq (·.push v) (W.listOf acc.toArray c) = W.listOf (acc ++ [v]).toArray (c + 1) := by simp [Obj.mapSeq]
      refine wpAny_updateSeq hS' rfl (wpAny_pure ⟨plainId_quiet F.plain_extend_loop _, ?_⟩) (by simp [sizeLine]; omega) (by simp [sizeLine]; omega)
      have H2 : Pre w b fs p loose mg mb ⟨none, d, fr, gs, u⟩ (h'.update S (Obj.mapSeq (·.push v))) := H.kp k2 hfs (by
        intro b hb
        rcases List.mem_cons.mp hb with rfl | hb
        · exact ⟨hit670, fun o e => by rw [I.hit] at e; cases e; rfl⟩
        · obtain rfl := List.mem_singleton.mp hb
          exact ⟨hS670, fun o e => by rw [hSo] at e; cases e; rfl⟩)
      have I2 : FFIn (h'.update S (Obj.mapSeq (·.push v))) x dx q it k l od ws vs nk nl (j + 1) := I.kp k2 (by
        intro b hb
        rcases List.mem_cons.mp hb with rfl | hb
        · exact hI
        · obtain rfl := List.mem_singleton.mp hb
          exact ⟨hS.1, hS.2.1, hS.2.2.1, hS.2.2.2.1, hS.2.2.2.2.1⟩) hf (oth _ _ (Ne.symm hS.2.2.2.2.2.1) hit')
      refine codeAny_mono (ih (vs.size - (j + 1)) (by omega) (j + 1) _ (acc ++ [v]) (c + 1) rfl (by omega) H2 I2 (up.trans (by rw [e2])) (by simp; omega)) ?_
      intro r s' hpat2
      refine aside fun X hX => ?_
      obtain ⟨h2, tk2, c2, rfl, rfl, k3, e3⟩ := hpat2
      refine hX ?_
      clear hX X
      refine ⟨h2, tk2, c2, rfl, rfl, k2.trans k3, ?_⟩
      rw [e3, filter_next (keepb ws) vs.toList i j v hij (by simpa using hv) hk (fun m v' a b e => hno m v' a b (by simpa using e))]
      simp
    · have hS' : h'.get? S = some (W.listOf acc.toArray c) := kk.get hSo (by simpa using hS.2.2.2.2.2.1) hS.2.2.2.2.2.2
      refine wpAny_pure ⟨h', tk, c, rfl, rfl, kk.mono (by simp), ?_⟩
      rw [hS', filter_done (keepb ws) vs.toList i (fun m v' a e => hno m v' a (by simpa using e))]
      simp
end

end

section

open _root_.PySem _root_.PySem.W _root_.PyProof.Rows _root_.PySem.Calls
set_option maxRecDepth 100000
section
variable {w : World} {b : Nat} {fs : List Addr} {d u : Nat} {fr : Option (List Env)} {gs : Option (List Code)} {s : Shared} {p : Program} {loose : List Str} {mg mb : Str → Option Value} {x dx q it k l : Nat} {od : Obj} {ws vs : Array Value} {nk nl : Nat} {E : Value → Shared → Prop}
theorem list_ff {Q : Value → Shared → Prop} {h₀ : Heap} {L : Addr} {m : Str → Option Value} (F : Fr h₀ L s.heap m) (X₀ : (hd.heap_1 w.params).In h₀) (H : Pre w b fs p loose mg mb ⟨none, d, fr, gs, u⟩ s.heap) (hb : b ≤ 800) (I : FFIn s.heap x dx q it k l od ws vs nk nl 0)
    (hEq : ∀ v ∈ vs, ∀ y ∈ ws, MeetsSeq.EqGives y v (eqv v y)) (hlen : vs.size ≤ 100000) (hf : x ∉ fs ∧ dx ∉ fs ∧ q ∉ fs ∧ k ∉ fs ∧ l ∉ fs) (hI : it ≠ x ∧ it ≠ dx ∧ it ≠ q ∧ it ≠ k ∧ it ≠ l)
    (h : ∀ h' tk c, Kp [it] fs s.heap h' → h'.get? s.heap.objs.size = some (W.listOf (vs.toList.filter (keepb ws)).toArray c) → Q (.ref s.heap.objs.size) { s with heap := h', toks := tk }) :
    wpAny (model PG w) ⟨none, d, fr, gs, u⟩ (call (.type "list") [.ref x]) Q E s := by
  have hlow : ∀ b ∈ fs, b < s.heap.objs.size := by
    intro b hb
    refine aside fun X hX => ?_
    obtain ⟨l0, _, a2, a3⟩ := H.stk
    refine hX ?_
    clear hX X
    rw [← a2] at hb
    refine aside fun X hX => ?_
    obtain ⟨env, h5, h6⟩ := List.mem_filterMap.mp hb
    refine hX ?_
    clear hX X
    refine aside fun X hX => ?_
    obtain ⟨_, L, o, q1, q2, q3⟩ := a3 env h5
    refine hX ?_
    clear hX X
    rw [q1] at h6; cases h6
    exact Heap.lt_size q2
  refine callType_codes (Q₁ := fun obj s₁ => obj = .ref s.heap.objs.size ∧ s₁ = { s with heap := s.heap.push { cls := .type "list", data := .seq #[] } }) PySem.F.called_list (PySem.F.typeCall_list_1 _) PySem.F.entry_list_init
    (code_list_new _ ⟨rfl, rfl⟩) fun obj s₁ h₁ => ?_
  obtain ⟨rfl, rfl⟩ := h₁
  have hS : (s.heap.push { cls := .type "list", data := .seq #[] }).get? s.heap.objs.size = some { cls := .type "list", data := .seq #[] } := Heap.get?_push_size _ rfl
  refine ⟨⟨_, hS, rfl⟩, PySem.F.args_list_init_2 _ _, ?_⟩
  have hS670 := H.size
  have k0 : ∀ b o, s.heap.get? b = some o → (s.heap.push { cls := .type "list", data := .seq #[] }).get? b = some o := fun b o e => Heap.get?_push_of_some _ e
  generalize hSz : s.heap.objs.size = S at *
  have hne : ∀ b o, s.heap.get? b = some o → b ≠ S := fun b o e => Nat.ne_of_lt (hSz ▸ Heap.lt_size e)
  show wpAny _ ⟨none, d, fr, gs, u + 1 + 1⟩ (do let old ← Builtin.List.listItems (.ref S); Builtin.List.listUpdate (.ref S) (fun _ => #[]); letGo old.toList.reverse; Builtin.List.listExtendWith (.ref S) (.ref x) .none) _ _ _
  refine wpAny_bind ?_
  unfold Builtin.List.listItems
  refine wpAny_bind (wpAny_seqItems hS rfl (wpAny_pure ?_))
  show wpAny _ _ (updateSeq S (fun _ => #[]) >>= fun _ => letGo (#[] : Array Value).toList.reverse >>= fun _ => Builtin.List.listExtendWith (.ref S) (.ref x) .none) _ _ _
  refine wpAny_bind (wpAny_updateSeq hS rfl ?_)
  have hS₂ := Heap.get?_update_self (Obj.mapSeq (fun _ => (#[] : Array Value))) hS rfl
  have k1 : ∀ b o, s.heap.get? b = some o → ((s.heap.push { cls := .type "list", data := .seq #[] }).update S (Obj.mapSeq (fun _ => (#[] : Array Value)))).get? b = some o :=
    fun b o e => (Heap.get?_update_other _ _ (Ne.symm (hne b o e))).trans (k0 b o e)
  refine wpAny_bind (wpAny_letGo ?_)
  generalize hH1 : (s.heap.push { cls := .type "list", data := .seq #[] }).update S (Obj.mapSeq (fun _ => (#[] : Array Value))) = H1 at *
  have e0 : Obj.mapSeq (fun _ => (#[] : Array Value)) { cls := .type "list", data := .seq #[] } = W.listOf #[] 0 := by simp [Obj.mapSeq]
  rw [e0] at hS₂
  unfold Builtin.List.listExtendWith
  have P1 : Pre w (b + 2) fs p loose mg mb ⟨none, d, fr, gs, u + 1 + 1⟩ H1 := ⟨fun a o e => k1 a o (H.X a o e), H.T.keeps k1, H.low, rfl, by have := H.depth; dsimp only at this ⊢; omega, by have := H.units; dsimp only at this ⊢; omega, let ⟨l, a, b, c⟩ := H.stk; ⟨l, a, b, c.keep k1⟩⟩
  have I1 : FFIn H1 x dx q it k l od ws vs nk nl 0 := ⟨k1 _ _ I.hx, k1 _ _ I.hdx, k1 _ _ I.hq, k1 _ _ I.hk, k1 _ _ I.hl, k1 _ _ I.hit, I.xi, I.dxi, I.itn⟩
  have I1' := I1
  refine wpAny_bind (I1.inst (s := { s with heap := H1 }).type.here ?_)
  have h1 : Builtin.List.listSameRef (.ref S) (.ref x) = false := by
    have : S ≠ x := Ne.symm (hne _ _ I.hx)
    simp [Builtin.List.listSameRef, this]
  simp only [h1, show (Value.ref 54 == Value.type "list") = false from rfl, show (Value.ref 54 == Value.type "tuple") = false from rfl, Bool.or_false, Bool.false_eq_true, if_false]
  refine wpAny_bind (py_iter_ff (s := { s with heap := H1, toks := _ }) (F.keeps k1) X₀ P1 (by omega) I1 (fun h2 tk2 k2 => ?_))
  have k12 : ∀ b o, s.heap.get? b = some o → h2.get? b = some o := fun b o e => k2 b o (k1 b o e)
  have hS3 := k2 _ _ hS₂
  have I2 : FFIn h2 x dx q it k l od ws vs nk nl 0 := ⟨k12 _ _ I.hx, k12 _ _ I.hdx, k12 _ _ I.hq, k12 _ _ I.hk, k12 _ _ I.hl, k12 _ _ I.hit, I.xi, I.dxi, I.itn⟩
  refine wpAny_bind (wpAny_holding (hint_ff (s := { s with heap := h2, toks := tk2 }) (P1.keep k2).X I2 ?_))
  refine wpAny_ite_split (fun _ => ?_) (fun z => absurd rfl z)
  refine wpAny_bind (wpAny_rule ?_)
  refine wpAny_bind ?_
  show wpAny _ _ (updateSeq S (·.push .none) >>= fun _ => updateSeq S (·.pop)) _ _ _
  refine wpAny_bind (wpAny_updateSeq hS3 rfl ?_)
  have hS4 := Heap.get?_update_self (Obj.mapSeq (·.push Value.none)) hS3 rfl
  refine wpAny_updateSeq (hz := by seq_fits) hS4 rfl ?_
  have hS5 := Heap.get?_update_self (Obj.mapSeq (·.pop)) hS4 rfl
  have e1 : Obj.mapSeq (·.pop) (Obj.mapSeq (·.push Value.none) (W.listOf #[] 0)) = W.listOf ([] : List Value).toArray 2 := by simp [Obj.mapSeq]
  rw [e1] at hS5
  have k3 : ∀ b o, s.heap.get? b = some o → ((h2.update S (Obj.mapSeq (·.push Value.none))).update S (Obj.mapSeq (·.pop))).get? b = some o :=
    fun b o e => (Heap.get?_update_other _ _ (Ne.symm (hne b o e))).trans ((Heap.get?_update_other _ _ (Ne.symm (hne b o e))).trans (k12 b o e))
  generalize hH3 : (h2.update S (Obj.mapSeq (·.push Value.none))).update S (Obj.mapSeq (·.pop)) = H3 at *
  have P3 : Pre w (b + 2) fs p loose mg mb ⟨none, d, fr, gs, u + 1⟩ H3 := ⟨fun a o e => k3 a o (H.X a o e), H.T.keeps k3, H.low, rfl, by have := H.depth; dsimp only at this ⊢; omega, by have := H.units; dsimp only at this ⊢; omega, let ⟨l, a, b, c⟩ := H.stk; ⟨l, a, b, c.keep k3⟩⟩
  have I3 : FFIn H3 x dx q it k l od ws vs nk nl 0 := ⟨k3 _ _ I.hx, k3 _ _ I.hdx, k3 _ _ I.hq, k3 _ _ I.hk, k3 _ _ I.hl, k3 _ _ I.hit, I.xi, I.dxi, I.itn⟩
  refine wpAny_pure ⟨plainId_quiet PySem.F.plain_extend_loop _, ?_⟩
  refine codeAny_mono (extend_ff (S := S) (res := .none) (by omega) hEq hS670 I.itn hf H.low ⟨Ne.symm (hne _ _ I.hx), Ne.symm (hne _ _ I.hdx), Ne.symm (hne _ _ I.hq), Ne.symm (hne _ _ I.hk), Ne.symm (hne _ _ I.hl), Ne.symm (hne _ _ I.hit), fun z => absurd (hlow _ z) (Nat.lt_irrefl _)⟩ hI (vs.size) 0 _ [] 2 rfl (Nat.zero_le _) P3 I3 hS5 (by simpa using hlen)) ?_
  intro r s' hpat2
  refine aside fun X hX => ?_
  obtain ⟨h4, tk4, c4, rfl, rfl, k4, e4⟩ := hpat2
  refine hX ?_
  clear hX X
  refine ⟨rfl, h h4 tk4 c4 (((Kp.of_keep (X := [it, S]) (fs := fs) fun b o _ e => k3 b o e).trans k4).drop ?_) (by rw [e4]; simp)⟩
  intro b hb
  rcases List.mem_cons.mp hb with rfl | hb
  · exact .inl (by simp)
  · obtain rfl := List.mem_singleton.mp hb
    exact .inr (fresh_none (Nat.le_of_eq hSz))
end

end

section

open _root_.PySem _root_.PySem.W _root_.PyProof.Rows _root_.PySem.Calls
set_option maxRecDepth 100000
local macro_rules | `(tactic| walk_at "getAttr ref") => `(tactic| (k_here; (with_reducible show wpAny _ _ (getAttr (Value.ref _) (Str.ofString "__contains__") true) _ _ _); refine' getAttr_containsK ?F ?N ?a ?_; (case F => k_asm); (case N => k_asm); (case a => walk_at "lst"); k_whole; intro q' h' tk' F' N' l1; k_lt l1; (try k_sweep)))
local macro_rules | `(tactic| walk_at "call ref") => `(tactic| refine halt_here ?_)
local macro_rules | `(tactic| walk_at "call type:list") => `(tactic| refine halt_here ?_)
inductive FilR (s : Shared) (fs : List Addr) (out : List Value) (r : Result) (s' : Shared) : Prop where
  | mk (a : Nat) (h' : Heap) (tk c : Nat) (e1 : r = .ok (.ret (.ref a))) (e2 : s' = { s with heap := h', toks := tk }) (e3 : Kp [] fs s.heap h') (e4 : s.heap.get? a = none) (e5 : h'.get? a = some (W.listOf out.toArray c))

set_option maxHeartbeats 8000000 in
theorem filt {w : World} {b : Nat} {fs : List Addr} {d u : Nat} {fr : Option (List Env)} {gs : Option (List Code)} {s : Shared} {p : Program} {loose : List Str} {mg mb : Str → Option Value} {l k : Nat} {ws vs : Array Value} {nk nl : Nat}
    (H : Pre w b fs p loose mg mb ⟨none, d, fr, gs, u⟩ s.heap) (hb : b ≤ 700) (hl : s.heap.get? l = some (W.listOf vs nl)) (hk : s.heap.get? k = some (W.listOf ws nk)) (hEq : ∀ v ∈ vs, ∀ y ∈ ws, MeetsSeq.EqGives y v (eqv v y)) (hlen : vs.size ≤ 100000) :
   codeAny (model PG w) ⟨none, d, fr, gs, u⟩ (.call (.ref 65) ⟨[.ref l, .ref k], []⟩) (FilR s fs (vs.toList.filter (keepb ws))) s := by
  have hdep := H.depth
  dsimp only at hdep
  have X := H.X
  have T := H.T
  generalize hR : FilR s fs (vs.toList.filter (keepb ws)) = R
  refine enterG (K := hd.heap_1 w.params) s.heap (binds := [("flist", .ref l), ("skip", .ref k)]) X T (by simp only [recursionLimit]; omega) (by k_is) (by k_is) (fun _ _ e => e) (Nat.le_refl _) (BindsTo.of_eq rfl) (locs rfl) ?_ rfl rfl rfl (by decide)
  intro h₁ F k1
  refine hide_E (by passes_own) fun E hE => ?_
  have N := News.nil (h₀ := s.heap) (h := h₁) (L := s.heap.objs.size)
  k_steps
  rename Fr _ _ _ _ => F1
  rename News _ _ _ _ => N1
  show wpAny _ _ _ _ _ _
  refine wpAny_call (codeAny_mono (mk_ff (Pre.deeper (H.keep F1.keep) F1.ns H.size) (by omega) (F1.keep _ _ hl)) ?_)
  intro r s' hpat2
  refine aside fun X hX => ?_
  obtain ⟨x, dx, it, h2, tk2, rfl, rfl, k2, hx0, hit0, hxit, hx, hit, hdx, hsz, hdx0⟩ := hpat2
  refine hX ?_
  clear hX X
  dsimp only at *
  have F2 := F1.keeps k2
  k_steps
  have hq := k2 _ _ (N1 _ (List.Mem.head _)).1
  have hk2 := k2 _ _ (F1.keep _ _ hk)
  have hl2 := k2 _ _ (F1.keep _ _ hl)
  have kk : ∀ b o, s.heap.get? b = some o → h2.get? b = some o := fun b o e => k2 b o (F1.keep b o e)
  have hn2 := F2.ns
  have hL := H.size
  have hit670 : 670 ≤ it := Nat.le_trans (Nat.le_trans hL (Nat.le_of_lt F1.ns.lt)) hsz
  have I : FFIn h2 x dx _ it k l emptyDict ws vs nk nl 0 := ⟨hx, hdx, hq, hk2, hl2, hit, hxit, apart_of hdx hit (by show Value.type _ ≠ Value.type _; decide), hit670⟩
  have P2 := Pre.deeper (A := ⟨none, d, fr, gs, u⟩) (name := Str.ofString "_filter") (a := 65) (cd := .ref 64) (scope := { kind := .function, names := [], isGenerator := false, isCoroutine := false }) (H.keep kk) hn2 hL
  have hnf : ∀ {a : Nat} {o : Obj}, h2.get? a = some o → isD o = false → a ∉ s.heap.objs.size :: fs := fun e hd => P2.notin e hd
  have hxfs : x ∉ s.heap.objs.size :: fs := hnf hx rfl
  show wpAny _ _ _ _ _ _
  refine list_ff (s := ⟨h2, _, _, _, _⟩) F2 X (Pre.deeper (A := ⟨none, d, fr, gs, u⟩) (H.keep kk) hn2 hL) (by omega) I hEq hlen ⟨hnf hx rfl, ?_, hnf hq rfl, hnf hk2 rfl, hnf hl2 rfl⟩ ⟨Ne.symm hxit, apart_of hit hdx (by show Value.type _ ≠ Value.type _; decide), apart_of hit hq (by show Value.type _ ≠ Value.type _; decide), apart_of hit hk2 (by show Value.type _ ≠ Value.type _; decide), apart_of hit hl2 (by show Value.type _ ≠ Value.type _; decide)⟩ ?_
  · intro q
    refine aside fun X hX => ?_
    obtain ⟨o, e, _⟩ := (Pre.deeper (A := ⟨none, d, fr, gs, u⟩) (name := Str.ofString "_filter") (a := 65) (cd := .ref 64) (scope := { kind := .function, names := [], isGenerator := false, isCoroutine := false }) (H.keep F1.keep) F1.ns hL).alive q
    refine hX ?_
    clear hX X
    rw [hdx0] at e; cases e
  · intro h' tk c k3 e3
    subst hR
    refine ⟨_, h', tk, c, rfl, rfl, ?_, ?_, e3⟩
    · refine (((Kp.of_keep (X := []) (fs := s.heap.objs.size :: fs) fun b o _ e => kk b o e).mono (by simp)).trans k3).drop (Y := []) ?_ |>.dropF ?_
      · intro b hb
        obtain rfl := List.mem_singleton.mp hb
        exact .inr (by
          cases q : s.heap.get? b with
          | none => rfl
          | some o => rw [F1.keep _ _ q] at hit0; cases hit0)
      · intro b hb
        rcases List.mem_cons.mp hb with rfl | hb
        · exact .inr (fresh_none (Nat.le_refl _))
        · exact .inl hb
    · cases q : s.heap.get? h2.objs.size with
      | none => rfl
      | some o => exact absurd (Heap.lt_size (kk _ _ q)) (Nat.lt_irrefl _)

end

section

open _root_.PySem _root_.PySem.W _root_.PyProof.Rows _root_.PyProof.V _root_.PySem.Calls _root_.PySem.SeqAt
set_option maxRecDepth 100000
/-! codes: ints, or texts of one sign -/
noncomputable def enc : Bool → Nat → PyData
  | false, c => .int (c : Int)
  | true, c => .str ⟨#[c]⟩
def Cd : Bool → Value → Nat → Prop
  | false, v, c => ∃ t, v = .int (c : Int) t
  | true, v, c => ∃ t, c < 256 ∧ v = .str ⟨#[c]⟩ t
inductive CA (κ : Bool) : List Value → List Nat → Prop
  | nil : CA κ [] []
  | cons {v c vs cs} : Cd κ v c → CA κ vs cs → CA κ (v :: vs) (c :: cs)
theorem CA.one {κ v c} (h : Cd κ v c) : CA κ [v] [c] := .cons h .nil
theorem CA.length {κ} : ∀ {vs cs}, CA κ vs cs → vs.length = cs.length
  | _, _, .nil => rfl
  | _, _, .cons _ r => by simp [CA.length r]
theorem CA.append {κ} : ∀ {vs cs us ds}, CA κ vs cs → CA κ us ds → CA κ (vs ++ us) (cs ++ ds)
  | _, _, _, _, .nil, h => h
  | _, _, _, _, .cons a r, h => .cons a (r.append h)
theorem CA.take {κ} : ∀ {vs cs} (k : Nat), CA κ vs cs → CA κ (vs.take k) (cs.take k)
  | _, _, 0, _ => .nil
  | _, _, _ + 1, .nil => .nil
  | _, _, k + 1, .cons a r => .cons a (r.take k)
theorem CA.drop {κ} : ∀ {vs cs} (k : Nat), CA κ vs cs → CA κ (vs.drop k) (cs.drop k)
  | _, _, 0, h => h
  | _, _, _ + 1, .nil => .nil
  | _, _, k + 1, .cons _ r => r.drop k
theorem CA.mem {κ} : ∀ {vs cs} {v : Value}, CA κ vs cs → v ∈ vs → ∃ c, c ∈ cs ∧ Cd κ v c
  | _, _, v, .nil, h => nomatch h
  | _, _, v, .cons a r, h => by
    rcases List.mem_cons.mp h with rfl | h
    · exact ⟨_, .head _, a⟩
    · obtain ⟨c, h1, h2⟩ := r.mem h
      exact ⟨c, .tail _ h1, h2⟩
theorem CA.at {κ} : ∀ {vs cs} {i : Nat} {c : Nat}, CA κ vs cs → cs[i]? = some c → ∃ v, vs[i]? = some v ∧ Cd κ v c
  | _, _, _, _, .nil, h => by simp at h
  | _, _, 0, _, .cons a r, h => by simp at h; subst h; exact ⟨_, rfl, a⟩
  | _, _, i + 1, _, .cons a r, h => by
    obtain ⟨v, h1, h2⟩ := r.at (i := i) (by simpa using h)
    exact ⟨v, by simpa using h1, h2⟩
theorem eqv_cd {κ v c y d} (a : Cd κ v c) (b : Cd κ y d) : eqv v y = (d == c) := by
  cases κ <;> first | obtain ⟨t, rfl⟩ := a | obtain ⟨t, _, rfl⟩ := a
  all_goals first | obtain ⟨u, rfl⟩ := b | obtain ⟨u, _, rfl⟩ := b
  · show ((d : Int) == (c : Int)) = _
    rw [Bool.eq_iff_iff, beq_iff_eq, beq_iff_eq]; omega
  · show ((⟨#[d]⟩ : Str) == ⟨#[c]⟩) = _
    rw [Bool.eq_iff_iff, beq_iff_eq, beq_iff_eq]; simp
theorem any_cd {κ v c} (a : Cd κ v c) : ∀ {ws ds}, CA κ ws ds → ws.any (eqv v) = ds.contains c
  | _, _, .nil => rfl
  | _, _, .cons b r => by
    rw [List.any_cons, any_cd a r, eqv_cd a b, List.contains_cons]
    congr 1
    rw [Bool.eq_iff_iff, beq_iff_eq, beq_iff_eq]; exact eq_comm
noncomputable def keepc (ds : List Nat) (c : Nat) : Bool := !ds.contains c
theorem keepb_cd {κ v c ws ds} (a : Cd κ v c) (b : CA κ ws ds) : keepb ws.toArray v = keepc ds c := by
  unfold keepb keepc; rw [List.any_toArray, any_cd a b]
theorem CA.filter {κ ws ds} (b : CA κ ws ds) : ∀ {vs cs}, CA κ vs cs → CA κ (vs.filter (keepb ws.toArray)) (cs.filter (keepc ds))
  | _, _, .nil => .nil
  | _, _, .cons a r => by
    rw [List.filter_cons, List.filter_cons, keepb_cd a b]
    split
    · exact .cons a (CA.filter b r)
    · exact CA.filter b r
theorem CA.eqs {κ vs cs ws ds} (a : CA κ vs cs) (b : CA κ ws ds) : ∀ v ∈ vs.toArray, ∀ y ∈ ws.toArray, MeetsSeq.EqGives y v (eqv v y) := by
  intro v hv y hy
  obtain ⟨c, _, hc⟩ := a.mem (by simpa using hv)
  obtain ⟨d, _, hd⟩ := b.mem (by simpa using hy)
  cases κ <;> first | obtain ⟨t, rfl⟩ := hc | obtain ⟨t, _, rfl⟩ := hc
  all_goals first | obtain ⟨u, rfl⟩ := hd | obtain ⟨u, _, rfl⟩ := hd
  · exact MeetsSeq.EqGives.int _ _ _ _
  · exact eqGives_str _ _ _ _

theorem CA.reads {κ} {h : Heap} : ∀ {vs cs}, CA κ vs cs → ReadsAll h vs (cs.map (enc κ)) []
  | _, _, .nil => .nil
  | _, _, .cons a r => by
    have q : ∀ {v c}, Cd κ v c → Reads h v (enc κ c) [] := fun {v c} a => by
      cases κ <;> first | obtain ⟨t, rfl⟩ := a | obtain ⟨t, _, rfl⟩ := a
      · exact .int _ _
      · exact .str _ _
    simpa using ReadsAll.cons (q a) (CA.reads (h := h) r)
theorem reads_codes {κ} {h : Heap} {a n vs cs} (e : h.get? a = some (W.listOf vs.toArray n)) (r : CA κ vs cs) : Reads h (.ref a) (.list (cs.map (enc κ))) [a] :=
  Reads.list e rfl rfl (by simpa using r.reads)
theorem canLay_codes (κ) : ∀ {vs : List Value} {cs : List Nat}, CA κ vs cs → PyData.canLayAll0 (cs.map (enc κ)) = true
  | _, _, .nil => by simp [PyData.canLayAll0]
  | _, _, .cons a r => by
    have h1 := canLay_codes κ r
    cases κ
    · simp [PyData.canLayAll0, PyData.canLay0, enc] at h1 ⊢; exact h1
    · obtain ⟨_, h2, _⟩ := a
      simp [PyData.canLayAll0, PyData.canLay0, enc, PyData.strOk] at h1 ⊢
      exact ⟨by omega, h1⟩
theorem depth_codes (κ) : ∀ cs : List Nat, PyData.depthAll (cs.map (enc κ)) ≤ 1
  | [] => by simp [PyData.depthAll]
  | n :: r => by
    have := depth_codes κ r
    cases κ <;> simp only [List.map_cons, PyData.depthAll, enc, PyData.depth] at this ⊢ <;> omega
theorem shaped_codes {κ} {vs : List Value} {cs : List Nat} (a : CA κ vs cs) : shaped (.list (cs.map (enc κ))) = true := by
  have h1 := depth_codes κ cs
  have h2 : PyData.depth (.list (cs.map (enc κ))) ≤ 64 := by simp only [PyData.depth]; omega
  show (PyData.canLay0 (.list (cs.map (enc κ))) && decide (PyData.depth (.list (cs.map (enc κ))) ≤ 64)) = true
  rw [Bool.and_eq_true]
  exact ⟨by simp only [PyData.canLay0]; exact canLay_codes κ a, decide_eq_true h2⟩
theorem noMix_codes (κ) : ∀ ns ms : List Nat, noMixAll (ns.map (enc κ)) (ms.map (enc κ)) = true
  | [], [] => by simp [noMixAll]
  | [], _ :: _ => by simp [noMixAll]
  | _ :: _, [] => by simp [noMixAll]
  | n :: r, k :: q => by cases κ <;> simp [noMixAll, noMix, enc, noMix_codes _ r q]
theorem same_enc (κ) (a b : Nat) : Spec.same (enc κ a) (enc κ b) = decide (a = b) := by
  cases κ <;> simp only [enc, Spec.same] <;> rw [Bool.eq_iff_iff, beq_iff_eq, decide_eq_true_iff]
  · omega
  · simp
theorem same_codes (κ) (ns ms : List Nat) : Spec.sameAll (ns.map (enc κ)) (ms.map (enc κ)) = decide (ns = ms) := sameAll_map (same_enc κ) ns ms

/-! lists of refs to lists of codes -/
inductive LL (κ : Bool) (M : Nat → Obj → Prop) : List Value → List (List Nat) → Prop
  | nil : LL κ M [] []
  | cons {a n ws cs vs css} : M a (W.listOf (List.toArray ws) n) → CA κ ws cs → LL κ M vs css → LL κ M (.ref a :: vs) (cs :: css)
theorem LL.length {κ M} : ∀ {vs css}, LL κ M vs css → vs.length = css.length
  | _, _, .nil => rfl
  | _, _, .cons _ _ r => by simp [LL.length r]
theorem LL.append {κ M} : ∀ {vs css us dss}, LL κ M vs css → LL κ M us dss → LL κ M (vs ++ us) (css ++ dss)
  | _, _, _, _, .nil, h => h
  | _, _, _, _, .cons a b r, h => .cons a b (r.append h)
theorem LL.mono {κ} {M M' : Nat → Obj → Prop} (f : ∀ (a n : Nat) (ws : List Value), M a (W.listOf ws.toArray n) → M' a (W.listOf ws.toArray n)) : ∀ {vs css}, LL κ M vs css → LL κ M' vs css
  | _, _, .nil => .nil
  | _, _, .cons a b r => .cons (f _ _ _ a) b (r.mono f)
theorem LL.at {κ M} : ∀ {vs css} {i : Nat} {cs : List Nat}, LL κ M vs css → css[i]? = some cs → ∃ a n ws, vs[i]? = some (.ref a) ∧ M a (W.listOf (List.toArray ws) n) ∧ CA κ ws cs
  | _, _, _, _, .nil, h => by simp at h
  | _, _, 0, _, .cons a b r, h => by simp at h; subst h; exact ⟨_, _, _, rfl, a, b⟩
  | _, _, i + 1, _, .cons _ _ r, h => by
    obtain ⟨a, n, ws, h1, h2, h3⟩ := r.at (i := i) (by simpa using h)
    exact ⟨a, n, ws, by simpa using h1, h2, h3⟩
abbrev inH (h : Heap) (a : Nat) (o : Obj) : Prop := h.get? a = some o
abbrev inN (news : List (Addr × Obj)) (a : Nat) (o : Obj) : Prop := (a, o) ∈ news

/-! the base is laid anew -/
noncomputable def noObj : Obj := ⟨.none, none, .freed, #[]⟩
noncomputable def restr (base h : Heap) : Heap := ⟨Array.ofFn (n := base.objs.size) fun i => if (base.get? i).isSome then h.objs.getD i noObj else noObj, h.life⟩
theorem restr_size (base h : Heap) : (restr base h).objs.size = base.objs.size := by simp [restr]
theorem restr_get {base h : Heap} {b : Nat} {o o' : Obj} (e : base.get? b = some o) (e' : h.get? b = some o') : (restr base h).get? b = some o' := by
  have hb : b < base.objs.size := Heap.lt_size e
  have hb' : b < h.objs.size := Heap.lt_size e'
  unfold Heap.get? at e' ⊢
  have h1 : (restr base h).objs[b]? = some h.objs[b] := by
    simp [restr, hb, e, Array.getD_eq_getD_getElem?, hb']
  have h2 : h.objs[b]? = some h.objs[b] := by simp [hb']
  rw [h1]; rw [h2] at e'
  exact e'
theorem restr_none {base h : Heap} {b : Nat} (e : base.get? b = none) : (restr base h).get? b = none := by
  unfold Heap.get?
  by_cases hb : b < base.objs.size
  · have h1 : (restr base h).objs[b]? = some noObj := by simp [restr, hb, e]
    rw [h1]; rfl
  · have h1 : (restr base h).objs[b]? = none := by simp [restr]; omega
    rw [h1]
theorem restr_of {base h : Heap} {b : Nat} {o : Obj} (e : (restr base h).get? b = some o) (hl : ∀ b o, base.get? b = some o → ∃ o', h.get? b = some o') : h.get? b = some o := by
  cases q : base.get? b with
  | none => rw [restr_none q] at e; cases e
  | some o1 =>
    obtain ⟨o', e'⟩ := hl b o1 q
    rw [restr_get q e'] at e
    rw [e', ← e]
theorem rebase {fs : List Addr} {base h₁ h₂ : Heap} {L : Addr} {m : Str → Option Value} {news : List (Addr × Obj)} (F : Fr base L h₁ m) (N : News base L h₁ news) (k : Kp [] (L :: fs) h₁ h₂) (hn : ∀ p ∈ news, p.1 ∉ fs) :
    ∃ g, Kp [] fs base g ∧ Fr g L h₂ m ∧ News g L h₂ news ∧ ∀ b, base.get? b = none → g.get? b = none := by
  have hl : ∀ b o, base.get? b = some o → ∃ o', h₂.get? b = some o' := fun b o e => let ⟨o', e', _⟩ := k b o (by simp) (F.keep b o e); ⟨o', e'⟩
  refine ⟨restr base h₂, ?_, ⟨k.ns F.ns (by simp), fun b o e => restr_of e hl, by rw [restr_size]; exact F.above⟩, ?_, fun b e => restr_none e⟩
  · intro b o _ e
    obtain ⟨o', e', c⟩ := k b o (by simp) (F.keep b o e)
    refine ⟨o', restr_get e e', c.imp id ?_⟩
    rintro ⟨a1, a2⟩
    refine ⟨?_, a2⟩
    rcases List.mem_cons.mp a1 with rfl | a1
    · exact absurd (Heap.lt_size e) (Nat.not_lt.mpr F.above)
    · exact a1
  · intro p hp
    obtain ⟨a1, a2, a3⟩ := N p hp
    exact ⟨k.get a1 (by simp) (by simp [a2, hn p hp]), a2, restr_none a3⟩

section
variable {prog : Program} {w : World} {A : Around} {E : Value → Shared → Prop} {s : Shared} {h₀ : Heap} {L : Addr} {m : Str → Option Value} {news : List (Addr × Obj)}
theorem pick_take (vs : List Value) (k : Nat) : slicePick vs.toArray none (some (k : Int)) none = (vs.take k).toArray := by
  have e : sliceBounds none (some (k : Int)) none vs.toArray.size = (((0 : Nat) : Int), ((min k vs.toArray.size : Nat) : Int), 1) := by
    simp only [sliceBounds, Option.getD_none, show (1 : Int) > 0 by decide, if_true, if_neg (show ¬ ((k : Int) < 0) by omega)]
    congr 1
    congr 1
    omega
  rw [kmk_pick_nat _ e, List.size_toArray, Nat.sub_zero, List.drop_zero, kmk_take_min]
theorem pick_drop (vs : List Value) (k : Nat) : slicePick vs.toArray (some (k : Int)) none none = (vs.drop k).toArray := by
  have e : sliceBounds (some (k : Int)) none none vs.toArray.size = (((min k vs.toArray.size : Nat) : Int), ((vs.toArray.size : Nat) : Int), 1) := by
    simp only [sliceBounds, Option.getD_none, show (1 : Int) > 0 by decide, if_true, if_neg (show ¬ ((k : Int) < 0) by omega)]
    congr 1
    omega
  rw [kmk_pick_nat _ e, List.size_toArray]
  congr 1
  show ((vs.drop (min k vs.length)).take _) = _
  rw [kmk_drop_min, List.take_of_length_le]
  simp; omega
theorem slice_to {value slice : PySem.Expr} {l : Addr} {n k : Nat} {vs : List Value} {vu : Value} {Q : Value → Shared → Prop} (F : Fr h₀ L s.heap m) (N : News h₀ L s.heap news) (hl : s.heap.get? l = some (W.listOf vs.toArray n)) (pu : IsPart vu (some (k : Int)))
    (h : ∀ D h', Fr h₀ L h' m → News h₀ L h' ((D, W.listOf (vs.take k).toArray 0) :: news) → (∀ p ∈ news, p.1 < D) → Q (.ref D) { s with heap := h' })
    (hs : subscripted slice false (.ref l) (.ref s.heap.objs.size) = operate [.ref s.heap.objs.size, .ref l] (getItem (.ref l) (.ref s.heap.objs.size))) (ht : ∀ r, letTemporaryGo value (.ref l) r = pure ()) (hz : vs.length ≤ 100000) :
    wpAny (model prog w) A (subscriptTail value slice (.ref l) (.ref s.heap.objs.size)) Q E { s with heap := s.heap.push { cls := .type "slice", data := .fields #[.none, vu, .none] } } :=
  kmk_slice F N (isList_of hl) .none pu (fun D h' F' N' l1 => h D h' F' (pick_take vs k ▸ N') l1) hs ht (by simp [sizeLine]; omega)
theorem slice_from {value slice : PySem.Expr} {l : Addr} {n k : Nat} {vs : List Value} {vl : Value} {Q : Value → Shared → Prop} (F : Fr h₀ L s.heap m) (N : News h₀ L s.heap news) (hl : s.heap.get? l = some (W.listOf vs.toArray n)) (pl : IsPart vl (some (k : Int)))
    (h : ∀ D h', Fr h₀ L h' m → News h₀ L h' ((D, W.listOf (vs.drop k).toArray 0) :: news) → (∀ p ∈ news, p.1 < D) → Q (.ref D) { s with heap := h' })
    (hs : subscripted slice false (.ref l) (.ref s.heap.objs.size) = operate [.ref s.heap.objs.size, .ref l] (getItem (.ref l) (.ref s.heap.objs.size))) (ht : ∀ r, letTemporaryGo value (.ref l) r = pure ()) (hz : vs.length ≤ 100000) :
    wpAny (model prog w) A (subscriptTail value slice (.ref l) (.ref s.heap.objs.size)) Q E { s with heap := s.heap.push { cls := .type "slice", data := .fields #[vl, .none, .none] } } :=
  kmk_slice F N (isList_of hl) pl .none (fun D h' F' N' l1 => h D h' F' (pick_drop vs k ▸ N') l1) hs ht (by simp [sizeLine]; omega)
theorem add_own {l b : Addr} {n k : Nat} {vs us : List Value} {Q : Value → Shared → Prop} (F : Fr h₀ L s.heap m) (N : News h₀ L s.heap news) (hl : s.heap.get? l = some (W.listOf vs.toArray n)) (hb : s.heap.get? b = some (W.listOf us.toArray k))
    (h : ∀ D h', Fr h₀ L h' m → News h₀ L h' ((D, W.listOf (vs ++ us).toArray 0) :: news) → (∀ p ∈ news, p.1 < D) → Q (.ref D) { s with heap := h' })
    (hz : vs.length + us.length ≤ 100000) : wpAny (model prog w) A (binaryOp .Add (.ref l) (.ref b)) Q E s :=
  add_arrays F N (isList_of hl) (isList_of hb) (fun h' F' N' => h _ h' F' (by simpa using N') fun p hp => Heap.lt_size (N p hp).1) (by simp [sizeLine]; omega)
theorem ne_own {κ : Bool} {l b : Addr} {n k : Nat} {vs us : List Value} {cs ds : List Nat} {Q : Value → Shared → Prop} (hl : s.heap.get? l = some (W.listOf vs.toArray n)) (hb : s.heap.get? b = some (W.listOf us.toArray k)) (hi : CA κ vs cs) (hj : CA κ us ds)
    (hu : A.units + 64 < cLine) (h : Q (.bool (!decide (cs = ds))) s) : wpAny (model prog w) A (compareOp .NotEq (.ref l) (.ref b)) Q E s :=
  ne_dataH_same (reads_codes hl hi) (reads_codes hb hj) (shaped_codes hi) (shaped_codes hj) hu (by simp only [noMix]; exact noMix_codes κ cs ds) (by simp only [Spec.same]; rw [same_codes]; exact h)
theorem item_own {value slice : PySem.Expr} {l : Addr} {n k : Nat} {t : Tok} {vs : List Value} {v : Value} {Q : Value → Shared → Prop} (hl : s.heap.get? l = some (W.listOf vs.toArray n)) (hk : k < 2 ^ 63) (hx : vs[k]? = some v) (h : Q v s)
    (hs : subscripted slice false (.ref l) (.int (k : Int) t) = operate [.ref l, .int (k : Int) t] (getItem (.ref l) (.int (k : Int) t)) := by with_unfolding_all rfl) :
    wpAny (model prog w) A (subscriptTail value slice (.ref l) (.int (k : Int) t)) Q E s :=
  tail_any (isList_of hl).typeIs slot_list_getitem.lookup (wpAny_getItem_list (isList_of hl) (by omega) (by omega) (by simpa using hx) h) hs
end
theorem filtK {w : World} {b : Nat} {fs : List Addr} {d u : Nat} {fr : Option (List Env)} {gs : Option (List Code)} {s : Shared} {p : Program} {loose : List Str} {mg mb : Str → Option Value} {E : Value → Shared → Prop} {κ : Bool} {l k : Nat} {vs ws : List Value} {cs ds : List Nat} {nk nl : Nat} {Q : Value → Shared → Prop}
    (H : Pre w b fs p loose mg mb ⟨none, d, fr, gs, u⟩ s.heap) (hb : b ≤ 700) (hl : s.heap.get? l = some (W.listOf vs.toArray nl)) (hk : s.heap.get? k = some (W.listOf ws.toArray nk)) (hv : CA κ vs cs) (hw : CA κ ws ds) (hlen : vs.length ≤ 100000)
    (h : ∀ (a : Nat) h' tk c us, Kp [] fs s.heap h' → s.heap.get? a = none → h'.get? a = some (W.listOf (List.toArray us) c) → CA κ us (cs.filter (keepc ds)) → Q (.ref a) { s with heap := h', toks := tk }) :
    wpAny (model PG w) ⟨none, d, fr, gs, u⟩ (call (.ref 65) [.ref l, .ref k]) Q E s := by
  refine wpAny_call (codeAny_mono (filt H hb hl hk (hv.eqs hw) (by simpa using hlen)) ?_)
  rintro r s' ⟨a, h', tk, c, rfl, rfl, a1, a2, a3⟩
  exact h a h' tk c _ a1 a2 a3 (by simpa using hw.filter hv)

end

section

open _root_.PySem _root_.PySem.W _root_.PyProof.Rows _root_.PyProof.V _root_.PySem.Calls _root_.PySem.SeqAt
set_option maxRecDepth 100000
/-- where a loop's items come from: n of them, from the iterator at it -/
structure Src (prog : Program) (w : World) (A : Around) (it : Nat) (n : Nat) (val : Nat → Value → Prop) (io : Nat → Obj → Prop) (G : Heap → Prop) : Prop where
  item : ∀ (j : Nat) (s : Shared) (o : Obj) (Q : Option Value → Shared → Prop) (E : Value → Shared → Prop), j < n → s.heap.get? it = some o → io j o → G s.heap →
    (∀ v h o' tk, val j v → h.get? it = some o' → io (j + 1) o' → Heap.ExtBut it s.heap h → Q (some v) { s with heap := h, toks := tk }) → wpAny (model prog w) A (pyNext (.ref it)) Q E s
  done : ∀ (s : Shared) (o : Obj) (Q : Option Value → Shared → Prop) (E : Value → Shared → Prop), s.heap.get? it = some o → io n o → G s.heap →
    (∀ h tk, Heap.ExtBut it s.heap h → Q none { s with heap := h, toks := tk }) → wpAny (model prog w) A (pyNext (.ref it)) Q E s
def LIo (l : Nat) (j : Nat) (o : Obj) : Prop := o.cls = .type "list_iterator" ∧ o.data = .fields #[.ref l, .int j 0]
theorem src_list {prog : Program} {w : World} {A : Around} (hh : A.handled = none) (it l n : Nat) (vs : List Value) : Src prog w A it vs.length (fun j v => vs[j]? = some v) (LIo l) (fun h => h.get? l = some (W.listOf vs.toArray n)) where
  item j s o Q E hj ho hio hl h := by
    refine wpAny_pyNext_list_item ⟨o, ho, hio.1, hio.2⟩ (isList_of hl) (x := vs[j]) (by simp [hj]) fun h' hi sb => ?_
    refine aside fun X hX => ?_
    obtain ⟨o', e', c1, c2⟩ := hi
    refine hX ?_
    clear hX X
    exact h _ _ o' _ (by simp [hj]) e' ⟨c1, c2⟩ sb.extBut
  done s o Q E ho hio hl h := by
    refine wpAny_pyNext_list_end hh ⟨o, ho, hio.1, hio.2⟩ (isList_of hl) (by simp) fun h' sb => ?_
    exact h _ _ sb
def RIo (a : Int) (n : Nat) (c : Int) (j : Nat) (o : Obj) : Prop := o = { cls := .type "range_iterator", data := .fields #[rawInt (a + j * c), rawInt ((n : Int) - j), rawInt c] }
theorem src_range {prog : Program} {w : World} {A : Around} (hh : A.handled = none) (it n : Nat) (a c : Int) : Src prog w A it n (fun j v => ∃ t, v = .int (a + j * c) t) (RIo a n c) (fun _ => True) where
  item j s o Q E hj ho hio _ h := by
    subst hio
    refine wpAny_pyNext_range_item (x := a + j * c) (left := (n : Int) - j) (step := c) ho (by omega) fun h' hi sb => ?_
    refine h _ _ _ _ ⟨_, rfl⟩ hi ?_ sb.extBut
    unfold RIo
    congr 4
    · rw [show ((j + 1 : Nat) : Int) = (j : Int) + 1 from rfl, Int.add_mul, Int.one_mul, Int.add_assoc]
    · congr 2
      omega
  done s o Q E ho hio _ h := by
    subst hio
    exact wpAny_pyNext_range_end hh (x := a + n * c) (left := (n : Int) - n) (step := c) ho (by omega) fun h' sb => h _ _ sb

def ForGoal (prog : Program) (w : World) (A : Around) (x : Str) (px : Pos) (body : List Stmt) (env : Env) (Q : Flow → Shared → Prop) (E : Value → Shared → Prop) (it : Value) (s₂ : Shared) : Prop :=
  codeAny (model prog w) A (.forLoop (.Name x px) it body [] env) (fun r s' => match r with | .ok f => Q f s' | .error e => cameBackBy (model prog w) A env E e s') s₂
section
variable {prog : Program} {w : World} {A : Around} {env : Env} {s : Shared} {x : Str} {px pos : Pos} {iter : PySem.Expr} {body : List Stmt} {Q : Flow → Shared → Prop} {E : Value → Shared → Prop}
theorem for_start (h : wpAny (model prog w) A (eval iter env) (fun xv s₁ => wpAny (model prog w) A (pyIter xv) (ForGoal prog w A x px body env Q E) E s₁) E s) (hs : ∀ x, foldedSetIterable iter env x = pure x := by intro _; rfl) :
    wpAny (model prog w) A (exec (.For (.Name x px) iter body [] pos) env) Q E s := wpAny_For h hs
inductive TurnN (g : Array GenState) (d : Drawn) (os : OsState) (L it : Nat) (io' : Obj → Prop) (P' : Heap → (Str → Option Value) → List (Addr × Obj) → Prop) (s₃ : Shared) : Prop where
  | mk (base : Heap) (m : Str → Option Value) (news : List (Addr × Obj)) (o : Obj) (h : Heap) (tk : Nat) (news' : List (Addr × Obj)) (e1 : s₃ = ⟨h, g, d, tk, os⟩) (e2 : io' o) (e3 : Fr base L h m) (e4 : News base L h news') (e5 : (it, o) ∈ news') (e6 : (∀ p ∈ news, p ∈ news')) (e7 : P' base m news)
/-- how a turn ends -/
def TurnR (s : Shared) (L it : Nat) (io' : Obj → Prop) (P' : Heap → (Str → Option Value) → List (Addr × Obj) → Prop) (Q : Flow → Shared → Prop) : Flow → Shared → Prop
  | .ret v, s₃ => Q (.ret v) s₃
  | .brk, s₃ => Q .next s₃
  | _, s₃ => TurnN s.gens s.drawn s.os L it io' P' s₃
theorem for_own {it n : Nat} {val : Nat → Value → Prop} {io : Nat → Obj → Prop} {G : Heap → Prop} (S : Src prog w A it n val io G) (hx : env.kindOf x = some .local)
    (hp : (env.scope.kind == .class || (env.scope.kind == .module && env.locals != env.globals)) = false)
    (P : Nat → Heap → (Str → Option Value) → List (Addr × Obj) → Prop) {base : Heap} {m : Str → Option Value} {news : List (Addr × Obj)} {o : Obj}
    (F : Fr base env.locals s.heap m) (N : News base env.locals s.heap ((it, o) :: news)) (hio : io 0 o) (h0 : P 0 base m news)
    (hG : ∀ j base m news h, P j base m news → Fr base env.locals h m → News base env.locals h news → G h)
    (hne : ∀ j base m news, P j base m news → ∀ p ∈ news, p.1 ≠ it)
    (step : ∀ j v base m news o (s₁ : Shared), (∃ h tk, s₁ = { s with heap := h, toks := tk }) → j < n → val j v → io (j + 1) o → P j base m news → Fr base env.locals s₁.heap (fun y => if y = x then some v else m y) → News base env.locals s₁.heap ((it, o) :: news) →
      wpAny (model prog w) A (execs body env) (TurnR s env.locals it (io (j + 1)) (P (j + 1)) Q) E s₁)
    (hQ : ∀ base m news h tk, P n base m news → Fr base env.locals h m → News base env.locals h news → Q .next { s with heap := h, toks := tk })
    (hE : PassesOwn (model prog w) A env E := by passes_own) : ForGoal prog w A x px body env Q E (.ref it) s := by
  refine codeAny_forLoop (fun k s' => ∃ j base m news o h tk, s' = { s with heap := h, toks := tk } ∧ io j o ∧ Fr base env.locals h m ∧ News base env.locals h ((it, o) :: news) ∧ P j base m news ∧ j ≤ n ∧ k = n + 1 - j) ?_ (n + 1)
    ⟨0, base, m, news, o, s.heap, s.toks, rfl, hio, F, N, h0, Nat.zero_le _, rfl⟩
  intro k s' hpat2
  refine aside fun X hX => ?_
  obtain ⟨j, base, m, news, o, h, tk, rfl, hio, F, N, hP, hj, rfl⟩ := hpat2
  refine hX ?_
  clear hX X
  refine aside fun X hX => ?_
  obtain ⟨i1, i2, i3⟩ := N _ (.head _)
  refine hX ?_
  clear hX X
  have Nn : News base env.locals h news := fun p hp => N p (.tail _ hp)
  have g := hG _ _ _ _ _ hP F Nn
  have keep : ∀ {h'}, Heap.ExtBut it h h' → Fr base env.locals h' m ∧ News base env.locals h' news := fun {h'} sb =>
    ⟨after_fr (X := [it]) (fs := []) F (Kp.of_keep fun b o hb e => sb b o (by simpa using hb) e) (by simpa using Ne.symm i2) (fun b' hb => by rcases hb with hb | ⟨hb, _⟩; (rw [List.mem_singleton.mp hb]; exact i3); cases hb),
      fun p hp => ⟨sb _ _ (hne _ _ _ _ hP p hp) (Nn p hp).1, (Nn p hp).2⟩⟩
  by_cases hlt : j < n
  · refine S.item j _ o _ _ hlt i1 hio g fun v h₁ o' tk₁ hv e' hio' sb => ?_
    obtain ⟨F₁, N₁⟩ := keep sb
    have N₁' : News base env.locals h₁ ((it, o') :: news) := by
      intro p hp
      rcases List.mem_cons.mp hp with rfl | hp
      · exact ⟨e', i2, i3⟩
      · exact N₁ p hp
    refine wpAny_assign_Name (wpAny_storeName_local hx F₁.ns (fun h₂ hn₂ hs₂ => ?_) hp)
    have F₂ := F₁.set hn₂ hs₂
    refine wpAny_passesOwn hE (wpAny_mono (step j v base m news o' _ ⟨_, _, rfl⟩ hlt hv hio' hP F₂ (N₁'.set hs₂)) (fun f s₃ h₃ => ?_) fun _ _ e => e)
    have go : TurnN s.gens s.drawn s.os env.locals it (io (j + 1)) (P (j + 1)) s₃ → _ := fun ⟨b2, m2, n2, o2, h2, t2, n3, e2, q1, q2, q3, q5, q6, q4⟩ =>
      (⟨n + 1 - (j + 1), by omega, j + 1, b2, m2, n2, o2, h2, t2, e2, q1, q2, (fun p hp => (List.mem_cons.mp hp).elim (fun z => z ▸ q3 _ q5) fun z => q3 _ (q6 _ z)), q4, hlt, rfl⟩ : ∃ m', m' < n + 1 - j ∧ ∃ j base m news o h tk, s₃ = { s with heap := h, toks := tk } ∧ io j o ∧ Fr base env.locals h m ∧ News base env.locals h ((it, o) :: news) ∧ P j base m news ∧ j ≤ n ∧ m' = n + 1 - j)
    cases f with
    | ret v => exact h₃
    | brk => exact h₃
    | cont => exact go h₃
    | next => exact go h₃
  · obtain rfl : j = n := by omega
    refine S.done _ o _ _ i1 hio g fun h₁ tk₁ sb => wpAny_execs_nil ?_
    obtain ⟨F₁, N₁⟩ := keep sb
    exact hQ _ _ _ _ _ hP F₁ N₁
/-- at the list's iterator -/
theorem for_list {l k : Nat} {vs : List Value} (hh : A.handled = none) (hx : env.kindOf x = some .local)
    (hp : (env.scope.kind == .class || (env.scope.kind == .module && env.locals != env.globals)) = false)
    (P : Nat → Nat → Heap → (Str → Option Value) → List (Addr × Obj) → Prop) {base : Heap} {m : Str → Option Value} {news : List (Addr × Obj)}
    (F : Fr base env.locals s.heap m) (N : News base env.locals s.heap news) (hl : s.heap.get? l = some (W.listOf vs.toArray k)) (h0 : P s.heap.objs.size 0 base m news)
    (hG : ∀ it j base m news h, P it j base m news → Fr base env.locals h m → News base env.locals h news → h.get? l = some (W.listOf vs.toArray k))
    (hne : ∀ it j base m news, P it j base m news → ∀ p ∈ news, p.1 ≠ it)
    (step : ∀ it j v base m news o (s₁ : Shared), (∃ h tk, s₁ = { s with heap := h, toks := tk }) → j < vs.length → vs[j]? = some v → LIo l (j + 1) o → P it j base m news → Fr base env.locals s₁.heap (fun y => if y = x then some v else m y) → News base env.locals s₁.heap ((it, o) :: news) →
      wpAny (model prog w) A (execs body env) (TurnR s env.locals it (LIo l (j + 1)) (P it (j + 1)) Q) E s₁)
    (hQ : ∀ it base m news h tk, P it vs.length base m news → Fr base env.locals h m → News base env.locals h news → Q .next { s with heap := h, toks := tk })
    (hE : PassesOwn (model prog w) A env E := by passes_own) : wpAny (model prog w) A (pyIter (.ref l)) (ForGoal prog w A x px body env Q E) E s := by
  refine wpAny_pyIter_list (isList_of hl) ?_
  refine for_own (src_list hh _ l k vs) hx hp (P s.heap.objs.size) (o := { cls := .type "list_iterator", data := .fields #[.ref l, .int 0 0] }) (F.push _) (News.push F N _ rfl) ⟨rfl, rfl⟩ h0 (hG _) (hne _) ?_ ?_ hE
  · intro j v b2 m2 n2 o2 s₁ hpat7
    refine aside fun X hX => ?_
    obtain ⟨h, tk, rfl⟩ := hpat7
    refine hX ?_
    clear hX X
    exact step _ j v b2 m2 n2 o2 _ ⟨h, tk, rfl⟩
  · exact hQ _
theorem for_range {r : Nat} {a c e : Int} {t u v : Tok} {n : Nat} (hh : A.handled = none) (hx : env.kindOf x = some .local)
    (hp : (env.scope.kind == .class || (env.scope.kind == .module && env.locals != env.globals)) = false)
    (P : Nat → Nat → Heap → (Str → Option Value) → List (Addr × Obj) → Prop) {base : Heap} {m : Str → Option Value} {news : List (Addr × Obj)}
    (F : Fr base env.locals s.heap m) (N : News base env.locals s.heap news) (hr : IsRange s.heap r a e c t u v) (hsmall : Builtin.Range.small a e c = true) (hn : Builtin.Range.rangeSize a e c = n) (h0 : P s.heap.objs.size 0 base m news)
    (hne : ∀ it j base m news, P it j base m news → ∀ p ∈ news, p.1 ≠ it)
    (step : ∀ it j t base m news o (s₁ : Shared), (∃ h tk, s₁ = { s with heap := h, toks := tk }) → j < n → RIo a n c (j + 1) o → P it j base m news → Fr base env.locals s₁.heap (fun y => if y = x then some (.int (a + j * c) t) else m y) → News base env.locals s₁.heap ((it, o) :: news) →
      wpAny (model prog w) A (execs body env) (TurnR s env.locals it (RIo a n c (j + 1)) (P it (j + 1)) Q) E s₁)
    (hQ : ∀ it base m news h tk, P it n base m news → Fr base env.locals h m → News base env.locals h news → Q .next { s with heap := h, toks := tk })
    (hE : PassesOwn (model prog w) A env E := by passes_own) : wpAny (model prog w) A (pyIter (.ref r)) (ForGoal prog w A x px body env Q E) E s := by
  refine wpAny_pyIter_range hr hsmall ?_
  refine for_own (src_range hh _ n a c) hx hp (P s.heap.objs.size) (o := { cls := .type "range_iterator", data := .fields #[rawInt a, rawInt (Builtin.Range.rangeSize a e c), rawInt c] }) (F.push _) (News.push F N _ rfl) ?_ h0 (fun _ _ _ _ _ _ _ _ => trivial) (hne _) ?_ ?_ hE
  · unfold RIo; rw [hn]; simp
  · intro j v b2 m2 n2 o2 s₁ hpat7 hj hpat9
    refine aside fun X hX => ?_
    obtain ⟨h, tk, rfl⟩ := hpat7
    obtain ⟨t, rfl⟩ := hpat9
    refine hX ?_
    clear hX X
    exact step _ j t b2 m2 n2 o2 _ ⟨h, tk, rfl⟩ hj
  · exact hQ _
end

end

section

open _root_.PySem _root_.PySem.W _root_.PyProof.Rows _root_.PyProof.V _root_.PySem.Calls _root_.PySem.SeqAt
set_option maxRecDepth 100000
abbrev inF (h h' : Heap) (a : Nat) (o : Obj) : Prop := h'.get? a = some o ∧ h.get? a = none
def AllL (news : List (Addr × Obj)) : Prop := ∀ p ∈ news, ∃ vs n, p.2 = W.listOf vs n
theorem AllL.isD {news} (h : AllL news) : ∀ p ∈ news, isD p.2 = false := fun p hp => by obtain ⟨vs, n, e⟩ := h p hp; rw [e]; rfl
theorem AllL.cons {news a vs n} (h : AllL news) : AllL ((a, W.listOf vs n) :: news) := by
  intro p hp
  rcases List.mem_cons.mp hp with rfl | hp
  · exact ⟨_, _, rfl⟩
  · exact h p hp
theorem nd_cons {news : List (Addr × Obj)} {a o} (h : ∀ p ∈ news, isD p.2 = false) (e : isD o = false := by rfl) : ∀ p ∈ ((a, o) :: news), isD p.2 = false := by
  intro p hp
  rcases List.mem_cons.mp hp with rfl | hp
  · exact e
  · exact h p hp
theorem LIo.nd {l j o} (h : LIo l j o) : isD o = false := by unfold isD; rw [h.2]
theorem RIo.nd {a n c j o} (h : RIo a n c j o) : isD o = false := by unfold RIo at h; rw [h]; rfl
theorem ne_cons {news : List (Addr × Obj)} {a it : Addr} {o} (h : ∀ p ∈ news, p.1 ≠ it) (e : a ≠ it) : ∀ p ∈ ((a, o) :: news), p.1 ≠ it := by
  intro p hp
  rcases List.mem_cons.mp hp with rfl | hp
  · exact e
  · exact h p hp

theorem sub_refl {n : List (Addr × Obj)} : ∀ p ∈ n, p ∈ n := fun _ h => h
theorem sub_cons {n N : List (Addr × Obj)} {x : Addr × Obj} (h : x ∈ N) (k : ∀ p ∈ n, p ∈ N) : ∀ p ∈ (x :: n), p ∈ N := fun p hp => (List.mem_cons.mp hp).elim (fun z => z ▸ h) fun z => k p z
theorem sub_tail {n N : List (Addr × Obj)} {x : Addr × Obj} (k : ∀ p ∈ n, p ∈ N) : ∀ p ∈ n, p ∈ x :: N := fun p hp => .tail _ (k p hp)
theorem units_ok {d u : Nat} {fr : Option (List Env)} {gs : Option (List Code)} {name : Str} {scope : Scope} {L a : Addr} {cd : Value} (h : u ≤ 9000) : ((⟨none, d, fr, gs, u⟩ : Around).deeper (envOf name scope L a cd)).units + 64 < cLine := by
  show u + 3 + 64 < cLine
  simp only [cLine]; omega

theorem len_own {prog : Program} {w : World} {A : Around} {E : Value → Shared → Prop} {s : Shared} {l : Addr} {n : Nat} {vs : List Value} {Q : Value → Shared → Prop} (hl : s.heap.get? l = some (W.listOf vs.toArray n)) (hfit : vs.length ≤ 100000) (h : Q (.int (vs.length : Int) (s.toks + 1)) { s with toks := s.toks + 1 + 1 }) :
    wpAny (model prog w) A (call (.builtin "len") [.ref l]) Q E s := Calls.call_len_list (isList_of hl) (by simp; omega) (by simpa using h)
theorem in_own {prog : Program} {w : World} {A : Around} {E : Value → Shared → Prop} {s : Shared} {κ : Bool} {l : Addr} {n : Nat} {vs : List Value} {cs : List Nat} {v : Value} {c : Nat} {Q : Value → Shared → Prop} (hl : s.heap.get? l = some (W.listOf vs.toArray n)) (hc : CA κ vs cs) (hv : Cd κ v c) (h : Q (.bool (cs.contains c)) s) :
    wpAny (model prog w) A (compareOp .In v (.ref l)) Q E s := by
  refine SeqInW.in_listW (eqv v) (fun y hy => (CA.one hv).eqs hc v (by simp) y hy) (isList_of hl) ?_
  rw [List.any_toArray, any_cd hv hc]
  exact h

theorem kp_none {fs : List Addr} {h h' : Heap} {a : Nat} (k : Kp [] fs h h') (e : h'.get? a = none) : h.get? a = none := by
  cases q : h.get? a with
  | none => rfl
  | some o =>
    obtain ⟨o', e', _⟩ := k _ _ (by simp) q
    rw [e] at e'; cases e'
theorem size_down (n : Nat) : Builtin.Range.rangeSize ((n : Int) - 1) (-1) (-1) = (n : Int) := by
  rw [rangeSize_downNat]; omega
theorem small_down (n : Nat) (h : n ≤ 100000) : Builtin.Range.small ((n : Int) - 1) (-1) (-1) = true := by
  unfold Builtin.Range.small
  rw [size_down]
  simp only [Builtin.Range.rangeFitsLong, Bool.and_eq_true, decide_eq_true_eq, Bool.or_eq_true, beq_iff_eq]
  simp
  omega

theorem bitOr_nat (a b : Nat) : Builtin.bitOr (a : Int) (b : Int) = ((a ||| b : Nat) : Int) := by
  rw [PyProof.Rows.bitOr_and, PyProof.Rows.bitAnd_pp (by omega) (by omega)]
  have := PyProof.Rows.nat_or_add_and a b
  simp only [Int.toNat_natCast]
  omega
theorem slice_from_succ {prog : Program} {w : World} {A : Around} {E : Value → Shared → Prop} {s : Shared} {h₀ : Heap} {L : Addr} {m : Str → Option Value} {news : List (Addr × Obj)} {value slice : PySem.Expr} {l : Addr} {n k : Nat} {vs : List Value} {t : Tok} {Q : Value → Shared → Prop} (F : Fr h₀ L s.heap m) (N : News h₀ L s.heap news) (hl : s.heap.get? l = some (W.listOf vs.toArray n))
    (h : ∀ D h', Fr h₀ L h' m → News h₀ L h' ((D, W.listOf (vs.drop (k + 1)).toArray 0) :: news) → (∀ p ∈ news, p.1 < D) → Q (.ref D) { s with heap := h' })
    (hs : subscripted slice false (.ref l) (.ref s.heap.objs.size) = operate [.ref s.heap.objs.size, .ref l] (getItem (.ref l) (.ref s.heap.objs.size))) (ht : ∀ r, letTemporaryGo value (.ref l) r = pure ()) (hz : vs.length ≤ 100000) :
    wpAny (model prog w) A (subscriptTail value slice (.ref l) (.ref s.heap.objs.size)) Q E { s with heap := s.heap.push { cls := .type "slice", data := .fields #[.int ((k : Int) + 1) t, .none, .none] } } :=
  slice_from (k := k + 1) F N hl (IsPart.int _ _) h hs ht hz

theorem filtW {w : World} {b : Nat} {fs : List Addr} {d u : Nat} {fr : Option (List Env)} {gs : Option (List Code)} {s : Shared} {p : Program} {loose : List Str} {mg mb : Str → Option Value} {E : Value → Shared → Prop} {κ : Bool} {l k : Nat} {vs ws : List Value} {cs ds : List Nat} {nk nl : Nat} {Q : Value → Shared → Prop}
    {base : Heap} {L : Nat} {m : Str → Option Value} {news : List (Addr × Obj)} {name : Str} {scope : Scope} {ad : Addr} {cd : Value}
    (HB : Pre w b fs p loose mg mb ⟨none, d, fr, gs, u⟩ base) (F : Fr base L s.heap m) (N : News base L s.heap news) (hb : b ≤ 690) (hL : 670 ≤ L) (hl : s.heap.get? l = some (W.listOf vs.toArray nl)) (hk : s.heap.get? k = some (W.listOf ws.toArray nk)) (hv : CA κ vs cs) (hw : CA κ ws ds)
    (hnd : ∀ p ∈ news, isD p.2 = false)
    (h : ∀ (a : Nat) g h' tk c us, Kp [] fs base g → Pre w b fs p loose mg mb ⟨none, d, fr, gs, u⟩ g → Fr g L h' m → News g L h' ((a, W.listOf (List.toArray us) c) :: news) → (∀ p ∈ news, p.1 ≠ a) → CA κ us (cs.filter (keepc ds)) → Q (.ref a) { s with heap := h', toks := tk })
    (hlen : vs.length ≤ 100000) (hk2 : scope.kind = .function := by rfl) :
    wpAny (model PG w) ((⟨none, d, fr, gs, u⟩ : Around).deeper (envOf name scope L ad cd)) (call (.ref 65) [.ref l, .ref k]) Q E s := by
  have H1 : Pre w b fs p loose mg mb ⟨none, d, fr, gs, u⟩ s.heap := HB.keep F.keep
  have H2 := Pre.deeper (name := name) (scope := scope) (a := ad) (cd := cd) H1 F.ns hL hk2
  refine filtK H2 (by omega) hl hk hv hw hlen fun a h' tk c us kk h0 ha hu => ?_
  have hn : ∀ p ∈ news, p.1 ∉ fs := fun p hp => H1.notin (N p hp).1 (hnd p hp)
  obtain ⟨g, k1, F1, N1, hz⟩ := rebase F N kk hn
  refine h a g h' tk c us k1 (HB.kp k1 HB.low (by simp)) F1 ?_ (fun p hp q => by rw [← q, (N p hp).1] at h0; cases h0) hu
  intro p hp
  rcases List.mem_cons.mp hp with rfl | hp
  · refine ⟨ha, ?_, ?_⟩
    · rintro rfl
      obtain ⟨o, ho, _⟩ := isD_of_ns F.ns
      rw [h0] at ho; cases ho
    · refine hz a ?_
      cases q' : base.get? a with
      | none => rfl
      | some o' => rw [F.keep _ _ q'] at h0; cases h0
  · exact N1 p hp

end

local macro_rules | `(tactic| walk_at "subm") => `(tactic| first | exact sub_refl | (refine sub_cons (by k_mem) ?_; walk_at "subm") | (refine sub_tail ?_; walk_at "subm"))

section

open _root_.PySem _root_.PySem.W _root_.PyProof.Rows _root_.PyProof.V _root_.PySem.Calls _root_.PySem.SeqAt
set_option maxRecDepth 100000
local macro_rules | `(tactic| k_mem) => `(tactic| first | exact List.Mem.head _ | assumption | (refine' List.Mem.tail _ ?_; k_mem))
local macro_rules | `(tactic| walk_at "exec For Name Name cons nil") => `(tactic| (k_here; k_dflt (refine' for_start ?_); k_whole))
local macro_rules | `(tactic| walk_at "pyIter ref") => `(tactic| refine halt_here ?_)
local macro_rules | `(tactic| walk_at "call ref") => `(tactic| refine halt_here ?_)
local macro_rules | `(tactic| walk_at "binaryOp Add ref ref") => `(tactic| (k_here; (with_reducible show wpAny _ _ (binaryOp _ (Value.ref _) (Value.ref _)) _ _ _); k_dflt (refine' add_own ?F ?N ?a ?b ?_ ?z; (case F => k_asm); (case N => k_asm); (case a => walk_at "lst"); (case b => walk_at "lst"); (case z => ((try simp only [List.length_append, List.length_cons, List.length_nil, List.length_take, List.length_drop]); omega))); k_whole; intro D' h' F' N' l1; (try k_lt l1); (try k_sweep)))
local macro_rules | `(tactic| walk_at "compareOp NotEq ref ref") => `(tactic| (k_here; (with_reducible show wpAny _ _ (compareOp CmpOp.NotEq (Value.ref _) (Value.ref _)) _ _ _); k_dflt (refine' ne_own ?a ?b ?i ?j ?u ?_; (case a => walk_at "lst"); (case b => walk_at "lst"); (case i => assumption); (case j => assumption); (case u => exact units_ok (by omega))); k_whole))
local macro_rules | `(tactic| walk_at "subscriptTail Name Slice ref ref") => `(tactic| (k_here; (with_reducible show wpAny _ _ (subscriptTail _ (PySem.Expr.Slice none _ none _) (Value.ref _) (Value.ref _)) _ _ _); k_dflt (refine' slice_to (k := 1) ?F ?N ?l ?q ?_ ?s ?t ?z; (case F => k_asm); (case N => k_asm); (case l => walk_at "lst"); (case q => exact IsPart.int _ _); (case s => with_unfolding_all rfl); (case t => kmk_pure); (case z => omega)); k_whole; intro D' h' F' N' l1; (try k_lt l1); (try k_sweep)))
local macro_rules | `(tactic| walk_at "subscriptTail Name Slice ref ref") => `(tactic| (k_here; (with_reducible show wpAny _ _ (subscriptTail _ (PySem.Expr.Slice (some _) none none _) (Value.ref _) (Value.ref _)) _ _ _); k_dflt (refine' slice_from (k := 1) ?F ?N ?l ?q ?_ ?s ?t ?z; (case F => k_asm); (case N => k_asm); (case l => walk_at "lst"); (case q => exact IsPart.int _ _); (case s => with_unfolding_all rfl); (case t => kmk_pure); (case z => omega)); k_whole; intro D' h' F' N' l1; (try k_lt l1); (try k_sweep)))

local macro_rules | `(tactic| walk_at "loceq") => `(tactic| (funext y; (try dsimp only); repeat' (first | rfl | (split; (rename_i h; subst h; first | rfl | contradiction)))))
noncomputable def fstep (ns row : List Nat) : List Nat :=
  let l := ns.filter (keepc (row.take 1))
  if (row.drop 1).filter (keepc ns) = row.drop 1 then l else l ++ row.take 1
noncomputable def forthL : List (List Nat) → List Nat → List (List Nat)
  | [], ns => [ns]
  | row :: rows, ns => ns :: forthL rows (fstep ns row)
noncomputable def lastN (rows : List (List Nat)) (ns : List Nat) : List Nat := rows.foldl fstep ns
/-- the value of a law's walk -/
inductive WalkR (κ : Bool) (s : Shared) (fs : List Addr) (css : List (List Nat)) (r : Result) (s' : Shared) : Prop where
  | mk (a : Nat) (h' : Heap) (tk c : Nat) (vs : List Value) (e1 : r = .ok (.ret (.ref a))) (e2 : s' = { s with heap := h', toks := tk }) (e3 : Kp [] fs s.heap h') (e4 : s.heap.get? a = none) (e5 : h'.get? a = some (W.listOf vs.toArray c)) (e6 : LL κ (inF s.heap h') vs css)

inductive ForthP (κ : Bool) (s0 : Heap) (fs : List Addr) (it : Nat) (rows : Nat) (name : Value) (rcs : List (List Nat)) (ncs : List Nat) (j : Nat) (base : Heap) (m : Str → Option Value) (news : List (Addr × Obj)) : Prop where
  | mk (an aw nn nw : Nat) (ns wvs : List Value) (left row : Option Value) (e1 : Kp [] fs s0 base) (e2 : AllL news) (e3 : (∀ p ∈ news, p.1 ≠ it)) (e4 : m = (fun y => if y = Str.ofString "walk" then some (.ref aw) else if y = Str.ofString "names" then some (.ref an) else if y = Str.ofString "left" then left else if y = Str.ofString "row" then row else List.lookup y [(Str.ofString "rows", Value.ref rows), (Str.ofString "name", name)].reverse)) (e5 : (an, W.listOf ns.toArray nn) ∈ news) (e6 : CA κ ns (lastN (rcs.take j) ncs)) (e7 : ns.length ≤ 1 + j) (e8 : (aw, W.listOf wvs.toArray nw) ∈ news) (e9 : LL κ (inN news) wvs (forthL (rcs.take j) ncs)) (e10 : wvs.length = j + 1)

set_option maxHeartbeats 8000000 in
theorem forth {w : World} {b : Nat} {fs : List Addr} {d u : Nat} {fr : Option (List Env)} {gs : Option (List Code)} {s : Shared} {p : Program} {loose : List Str} {mg mb : Str → Option Value} {κ : Bool} {rows nr : Nat} {rvs : List Value} {rcs : List (List Nat)} {name : Value} {c : Nat}
    (H : Pre w b fs p loose mg mb ⟨none, d, fr, gs, u⟩ s.heap) (hb : b ≤ 680) (hrows : s.heap.get? rows = some (W.listOf rvs.toArray nr)) (hR : LL κ (inH s.heap) rvs rcs) (hn : Cd κ name c) (hlen : rcs.length ≤ 100) (hrow : ∀ r ∈ rcs, r.length ≤ 100) :
   codeAny (model PG w) ⟨none, d, fr, gs, u⟩ (.call (.ref 650) ⟨[.ref rows, name], []⟩) (WalkR κ s fs (forthL rcs [c])) s := by
  have hdep := H.depth
  dsimp only at hdep
  have hun := H.units
  dsimp only at hun
  have X := H.X
  have T := H.T
  have hL := H.size
  generalize hRR : WalkR κ s fs (forthL rcs [c]) = R
  refine enterG (K := hd.heap_1 w.params) s.heap (binds := [("rows", .ref rows), ("name", name)]) X T (by simp only [recursionLimit]; omega) (by k_is) (by k_is) (fun _ _ e => e) (Nat.le_refl _) (BindsTo.of_eq rfl) (locs rfl) ?_ rfl rfl rfl (by decide)
  intro h₁ F k1
  refine hide_E (by passes_own) fun E hE => ?_
  have N := News.nil (h₀ := s.heap) (h := h₁) (L := s.heap.objs.size)
  k_steps
  rename Fr _ _ _ _ => F0
  rename News _ _ _ _ => N0
  show wpAny _ _ _ _ _ _
  refine for_list (hE := hE) rfl rfl rfl (fun it => ForthP κ s.heap fs it rows name rcs [c]) F0 N0 (F0.keep _ _ hrows) ?_ ?_ ?_ ?_ ?_
  · refine ⟨_, _, _, _, _, _, none, none, Kp.refl _ _ _, AllL.cons (AllL.cons (fun _ h => nomatch h)), fun p hp => Nat.ne_of_lt (Heap.lt_size (N0 p hp).1), ?_, List.Mem.tail _ (List.Mem.head _), CA.one hn, Nat.le_refl _, List.Mem.head _, .cons (List.Mem.tail _ (List.Mem.head _)) (CA.one hn) .nil, rfl⟩
    funext y
    by_cases h1 : y = Str.ofString "left"
    · subst h1; rfl
    by_cases h2 : y = Str.ofString "row"
    · subst h2; rfl
    simp only [h1, h2, if_false]
  · intro it j base m news h hpat6 F _
    refine aside fun X hX => ?_
    obtain ⟨an, aw, nn, nw, ns, wvs, left, row, kB, _⟩ := hpat6
    refine hX ?_
    clear hX X
    exact F.keep _ _ (kB.get hrows (by simp) (H.notin hrows rfl))
  · intro it j base m news hpat5
    refine aside fun X hX => ?_
    obtain ⟨an, aw, nn, nw, ns, wvs, left, row, k1, k2, k3, _⟩ := hpat5
    refine hX ?_
    clear hX X
    exact k3
  · intro it j v base m news o s₁ hs1 hj hv hio hP F N
    refine aside fun X hX => ?_
    obtain ⟨h2, tk2, rfl⟩ := hs1
    refine hX ?_
    clear hX X
    refine aside fun X hX => ?_
    obtain ⟨an, aw, nn, nw, ns, wvs, left, row, kB, hA, hit, rfl, mN, caN, lenN, mW, llW, lenW⟩ := hP
    refine hX ?_
    clear hX X
    replace F : Fr base s.heap.objs.size _ _ := F
    replace N : News base s.heap.objs.size _ _ := N
    try dsimp only at F N
    clear X T
    have HB := H.kp kB H.low (by simp)
    have X := HB.X
    have T := HB.T
    have hj' : j < rcs.length := by rw [← hR.length]; exact hj
    refine aside fun X hX => ?_
    obtain ⟨ra, na, ws, e1, e2, e3⟩ := hR.at (i := j) (cs := rcs[j]) (by simp [hj'])
    refine hX ?_
    clear hX X
    rw [hv] at e1; cases e1
    have hra := kB.get e2 (by simp) (H.notin e2 rfl)
    have rl := hrow _ (List.getElem_mem hj')
    have rl2 := e3.length
    have ca1 := e3.take 1
    have ca2 := e3.drop 1
    k_steps
    show wpAny _ _ _ _ _ _
    rename Fr _ _ _ _ => Fo
    rename News _ _ _ _ => No
    refine filtW HB Fo No (by omega) hL (by walk_at "lst") (by walk_at "lst") caN ca1 (nd_cons (nd_cons hA.isD hio.nd)) ?_ (by omega)
    intro a g h3 tk3 c3 us kg HB2 F N hne hu
    clear X T
    have X := HB2.X
    have T := HB2.T
    replace hra := kg.get hra (by simp) (HB.notin hra rfl)
    replace kB := kB.trans kg
    have lu : us.length ≤ 1 + j := by
      rw [hu.length]
      refine Nat.le_trans (List.length_filter_le _ _) ?_
      rw [← caN.length]; exact lenN
    have hai := Ne.symm (hne (_, o) (by k_mem))
    dsimp only at hai
    clear kg Fo No hne
    k_steps
    show wpAny _ _ _ _ _ _
    rename Fr _ _ _ _ => Fo
    rename News _ _ _ _ => No
    refine filtW HB2 Fo No (by omega) hL (by walk_at "lst") (by walk_at "lst") ca2 caN (nd_cons (nd_cons (nd_cons (nd_cons hA.isD hio.nd)))) ?_ (by simp only [List.length_drop]; omega)
    intro a2 g2 h4 tk4 c4 us2 kg HB3 F N hne2 hu2
    clear X T
    have X := HB3.X
    have T := HB3.T
    replace hra := kg.get hra (by simp) (HB2.notin hra rfl)
    replace kB := kB.trans kg
    clear kg Fo No
    iterate 9 (first | (k_unfold; (try dsimp only)) | (k_end; wrow_close) | walk1 | (dsimp only; walk1) | (leave1; walk_say "STEP leave1"; try dsimp only))
    have hst : lastN (rcs.take (j + 1)) [c] = fstep (lastN (rcs.take j) [c]) rcs[j] := by
      unfold lastN
      rw [List.take_succ_eq_append_getElem hj', List.foldl_append]; rfl
    have hforth : ∀ (rows : List (List Nat)) (r ns : List Nat), forthL (rows ++ [r]) ns = forthL rows ns ++ [fstep (lastN rows ns) r] := by
      intro rows
      induction rows with
      | nil => intros; rfl
      | cons q rows ih => intro r ns; show ns :: forthL (rows ++ [r]) (fstep ns q) = _; rw [ih]; rfl
    have hfo : forthL (rcs.take (j + 1)) [c] = forthL (rcs.take j) [c] ++ [fstep (lastN (rcs.take j) [c]) rcs[j]] := by
      rw [List.take_succ_eq_append_getElem hj', hforth]
    by_cases hc : (rcs[j].drop 1).filter (keepc (lastN (rcs.take j) [c])) = rcs[j].drop 1
    · rw [decide_eq_true hc]
      have hfs : fstep (lastN (rcs.take j) [c]) rcs[j] = (lastN (rcs.take j) [c]).filter (keepc (rcs[j].take 1)) := if_pos hc
      rw [hfs] at hst hfo
      k_steps
      rename Fr _ _ _ _ => F9
      rename News _ _ _ _ => N9
      refine ⟨g2, _, (_, W.listOf (wvs ++ [Value.ref a]).toArray 0) :: (a, W.listOf us.toArray c3) :: news, o, _, _, _, rfl, hio, F9, N9, by k_mem, by walk_at "subm", ?_⟩
      refine ⟨a, _, _, _, _, _, some (.ref a), some (.ref ra), kB, hA.cons.cons, ne_cons (ne_cons hit hai) (Nat.ne_of_gt (by omega)), by walk_at "loceq", by k_mem, hst ▸ hu, Nat.le_trans lu (by omega), by k_mem, ?_, by simp [lenW]⟩
      rw [hfo]
      exact (llW.mono (fun _ _ _ h => .tail _ (.tail _ h))).append (.cons (by k_mem) hu .nil)
    · rw [decide_eq_false hc]
      have hfs : fstep (lastN (rcs.take j) [c]) rcs[j] = (lastN (rcs.take j) [c]).filter (keepc (rcs[j].take 1)) ++ rcs[j].take 1 := if_neg hc
      rw [hfs] at hst hfo
      k_steps
      rename Fr _ _ _ _ => F9
      rename News _ _ _ _ => N9
      refine ⟨g2, _, (_, W.listOf (wvs ++ [Value.ref _]).toArray 0) :: (_, W.listOf (us ++ ws.take 1).toArray 0) :: news, o, _, _, _, rfl, hio, F9, N9, by k_mem, by walk_at "subm", ?_⟩
      refine ⟨_, _, _, _, _, _, some (.ref _), some (.ref ra), kB, hA.cons.cons, ne_cons (ne_cons hit (Nat.ne_of_gt (by omega))) (Nat.ne_of_gt (by omega)), by walk_at "loceq", by k_mem, hst ▸ hu.append ca1, ?_, by k_mem, ?_, by simp [lenW]⟩
      · simp only [List.length_append, List.length_take]; omega
      · rw [hfo]
        exact (llW.mono (fun _ _ _ h => .tail _ (.tail _ h))).append (.cons (by k_mem) (hu.append ca1) .nil)
  · intro it base m news h tk hP F N
    refine aside fun X hX => ?_
    obtain ⟨an, aw, nn, nw, ns, wvs, left, row, kB, hA, hit, rfl, mN, caN, lenN, mW, llW, lenW⟩ := hP
    refine hX ?_
    clear hX X
    replace F : Fr base s.heap.objs.size _ _ := F
    replace N : News base s.heap.objs.size _ _ := N
    clear X T
    have HB := H.kp kB H.low (by simp)
    have X := HB.X
    have T := HB.T
    rw [hR.length, List.take_length] at llW
    k_steps
    rename Fr _ _ _ _ => F9
    rename News _ _ _ _ => N9
    show R _ _
    subst hRR
    refine ⟨aw, _, _, _, _, rfl, rfl, kB.trans (Kp.of_keep fun b o _ e => F9.keep b o e), ?_, (N9 _ mW).1, llW.mono fun a n ws q => ⟨(N9 _ q).1, kp_none kB (N9 _ q).2.2⟩⟩
    cases q : s.heap.get? aw with
    | none => rfl
    | some o =>
      refine aside fun X hX => ?_
      obtain ⟨o', e', _⟩ := kB _ _ (by simp) q
      refine hX ?_
      clear hX X
      rw [(N9 _ mW).2.2] at e'; cases e'


local macro_rules | `(tactic| walk_at "exec For Name Call cons nil") => `(tactic| (k_here; k_dflt (refine' for_start ?_); k_whole))
local macro_rules | `(tactic| walk_at "exec For Name Subscript cons nil") => `(tactic| (k_here; k_dflt (refine' for_start ?_); k_whole))
local macro_rules | `(tactic| walk_at "call builtin:len") => `(tactic| (k_here; (with_reducible show wpAny _ _ (call (Value.builtin "len") [Value.ref _]) _ _ _); k_dflt (refine' len_own ?a ?z ?_; (case a => walk_at "lst"); (case z => omega)); k_whole))
local macro_rules | `(tactic| walk_at "compareOp In") => `(tactic| (k_here; (with_reducible show wpAny _ _ (compareOp CmpOp.In _ (Value.ref _)) _ _ _); k_dflt (refine' in_own ?a ?b ?c ?_; (case a => walk_at "lst"); (case b => assumption); (case c => assumption)); k_whole))
local macro_rules | `(tactic| walk_at "subscriptTail Name Name ref int") => `(tactic| (k_here; (with_reducible show wpAny _ _ (subscriptTail _ _ (Value.ref _) (Value.int _ _)) _ _ _); k_dflt (refine' item_own ?a ?z ?x ?_ ?s; (case a => walk_at "lst"); (case x => assumption); (case z => omega); (case s => with_unfolding_all rfl)); k_whole))
local macro_rules | `(tactic| walk_at "subscriptTail Name Constant ref int") => `(tactic| (k_here; (with_reducible show wpAny _ _ (subscriptTail _ _ (Value.ref _) (Value.int _ _)) _ _ _); k_dflt (refine' item_own (k := 0) ?a ?z ?x ?_ ?s; (case a => walk_at "lst"); (case x => assumption); (case z => omega); (case s => with_unfolding_all rfl)); k_whole))

noncomputable def back1 (ns row : List Nat) : List Nat :=
  if ns.contains (row.headD 0) then
    let n1 := ns.filter (keepc (row.take 1))
    n1 ++ (row.drop 1).filter (keepc n1)
  else ns
noncomputable def backS : List (List Nat) → List Nat → List Nat
  | [], ns => ns
  | row :: rows, ns => back1 (backS rows ns) row
noncomputable def backW : List (List Nat) → List Nat → List (List Nat)
  | [], ns => [ns]
  | row :: rows, ns => backS (row :: rows) ns :: backW rows ns
noncomputable def backK : Nat → List (List Nat) → List Nat → List Nat
  | _, [], _ => []
  | i, row :: rows, ns => if (backS rows ns).contains (row.headD 0) then i :: backK (i + 1) rows ns else backK (i + 1) rows ns
inductive BackR (s : Shared) (fs : List Addr) (css : List (List Nat)) (ks : List Nat) (r : Result) (s' : Shared) : Prop where
  | mk (t a k : Nat) (h' : Heap) (tk c c2 : Nat) (vs kvs : List Value) (e1 : r = .ok (.ret (.ref t))) (e2 : s' = { s with heap := h', toks := tk }) (e3 : Kp [] fs s.heap h') (e4 : s.heap.get? t = none) (e5 : s.heap.get? a = none) (e6 : s.heap.get? k = none) (e7 : h'.get? t = some { cls := .type "tuple", data := .seq [Value.ref a, Value.ref k].toArray }) (e8 : h'.get? a = some (W.listOf vs.toArray c)) (e9 : LL false (inF s.heap h') vs css) (e10 : h'.get? k = some (W.listOf kvs.toArray c2)) (e11 : CA false kvs ks)

inductive BackP (s0 : Heap) (fs : List Addr) (it : Nat) (rows : Nat) (name : Value) (rcs : List (List Nat)) (ncs : List Nat) (j : Nat) (base : Heap) (m : Str → Option Value) (news : List (Addr × Obj)) : Prop where
  | mk (an aw ak nn nw nk : Nat) (ns wvs kvs : List Value) (place row : Option Value) (e1 : Kp [] fs s0 base) (e2 : AllL news) (e3 : (∀ p ∈ news, p.1 ≠ it)) (e4 : m = (fun y => if y = Str.ofString "walk" then some (.ref aw) else if y = Str.ofString "kept" then some (.ref ak) else if y = Str.ofString "names" then some (.ref an) else if y = Str.ofString "row" then row else if y = Str.ofString "place" then place else List.lookup y [(Str.ofString "rows", Value.ref rows), (Str.ofString "name", name)].reverse)) (e5 : (an, W.listOf ns.toArray nn) ∈ news) (e6 : CA false ns (backS (rcs.drop (rcs.length - j)) ncs)) (e7 : ns.length ≤ 1 + j * 100) (e8 : (aw, W.listOf wvs.toArray nw) ∈ news) (e9 : LL false (inN news) wvs (backW (rcs.drop (rcs.length - j)) ncs)) (e10 : wvs.length = j + 1) (e11 : (ak, W.listOf kvs.toArray nk) ∈ news) (e12 : CA false kvs (backK (rcs.length - j) (rcs.drop (rcs.length - j)) ncs)) (e13 : kvs.length ≤ j)

set_option maxHeartbeats 8000000 in
theorem back {w : World} {b : Nat} {fs : List Addr} {d u : Nat} {fr : Option (List Env)} {gs : Option (List Code)} {s : Shared} {p : Program} {loose : List Str} {mg mb : Str → Option Value} {rows nr : Nat} {rvs : List Value} {rcs : List (List Nat)} {name : Value} {c : Nat}
    (H : Pre w b fs p loose mg mb ⟨none, d, fr, gs, u⟩ s.heap) (hb : b ≤ 680) (hrows : s.heap.get? rows = some (W.listOf rvs.toArray nr)) (hR : LL false (inH s.heap) rvs rcs) (hn : Cd false name c) (hlen : rcs.length ≤ 100) (hrow : ∀ r ∈ rcs, r.length ≤ 100 ∧ r ≠ []) :
   codeAny (model PG w) ⟨none, d, fr, gs, u⟩ (.call (.ref 657) ⟨[.ref rows, name], []⟩) (BackR s fs (backW rcs [c]) (backK 0 rcs [c])) s := by
  have hdep := H.depth
  dsimp only at hdep
  have hun := H.units
  dsimp only at hun
  have X := H.X
  have T := H.T
  have hL := H.size
  have hRl := hR.length
  generalize hRR : BackR s fs (backW rcs [c]) (backK 0 rcs [c]) = R
  refine enterG (K := hd.heap_1 w.params) s.heap (binds := [("rows", .ref rows), ("name", name)]) X T (by simp only [recursionLimit]; omega) (by k_is) (by k_is) (fun _ _ e => e) (Nat.le_refl _) (BindsTo.of_eq rfl) (locs rfl) ?_ rfl rfl rfl (by decide)
  intro h₁ F k1
  refine hide_E (by passes_own) fun E hE => ?_
  have N := News.nil (h₀ := s.heap) (h := h₁) (L := s.heap.objs.size)
  k_steps
  rename Fr _ _ _ _ => F0
  rename News _ _ _ _ => N0
  show wpAny _ _ _ _ _ _
  refine for_range (hE := hE) (n := rcs.length) rfl rfl rfl (fun it => BackP s.heap fs it rows name rcs [c]) F0 N0 (by assumption) ?_ ?_ ?_ ?_ ?_ ?_
  · rw [hRl]; exact small_down _ (by omega)
  · rw [hRl]; exact size_down _
  · have e0 : rcs.drop (rcs.length - 0) = [] := by rw [Nat.sub_zero, List.drop_length]
    refine ⟨_, _, _, _, _, _, _, _, _, none, none, Kp.refl _ _ _, AllL.cons (AllL.cons (AllL.cons (fun _ h => nomatch h))), fun p hp => Nat.ne_of_lt (Heap.lt_size (N0 p hp).1), ?_, List.Mem.tail _ (List.Mem.tail _ (List.Mem.head _)), e0 ▸ CA.one hn, Nat.le_refl _, List.Mem.tail _ (List.Mem.head _), e0 ▸ .cons (List.Mem.tail _ (List.Mem.tail _ (List.Mem.head _))) (CA.one hn) .nil, rfl, List.Mem.head _, e0 ▸ .nil, Nat.le_refl _⟩
    walk_at "loceq"
  · intro it j base m news hpat5
    refine aside fun X hX => ?_
    obtain ⟨an, aw, ak, nn, nw, nk, ns, wvs, kvs, left, row, k1, k2, k3, _⟩ := hpat5
    refine hX ?_
    clear hX X
    exact k3
  · intro it j t base m news o s₁ hs1 hj hio hP F N
    refine aside fun X hX => ?_
    obtain ⟨h2, tk2, rfl⟩ := hs1
    refine hX ?_
    clear hX X
    refine aside fun X hX => ?_
    obtain ⟨an, aw, ak, nn, nw, nk, ns, wvs, kvs, place, row, kB, hA, hit, rfl, mN, caN, lenN, mW, llW, lenW, mK, caK, lenK⟩ := hP
    refine hX ?_
    clear hX X
    replace F : Fr base s.heap.objs.size _ _ := F
    replace N : News base s.heap.objs.size _ _ := N
    try dsimp only at F N
    clear X T
    have HB := H.kp kB H.low (by simp)
    have X := HB.X
    have T := HB.T
    obtain ⟨q, hq⟩ : ∃ q, q = rcs.length - 1 - j := ⟨_, rfl⟩
    have hpl : ((rvs.length : Int) - 1) + (j : Int) * (-1) = (q : Int) := by rw [hRl]; omega
    rw [hpl] at F
    have hq' : q < rcs.length := by omega
    refine aside fun X hX => ?_
    obtain ⟨ra, na, ws, e1, e2, e3⟩ := hR.at (i := q) (cs := rcs[q]) (by simp [hq'])
    refine hX ?_
    clear hX X
    have hra := kB.get e2 (by simp) (H.notin e2 rfl)
    have hro := kB.get hrows (by simp) (H.notin hrows rfl)
    have rl := (hrow _ (List.getElem_mem hq')).1
    have rnil := (hrow _ (List.getElem_mem hq')).2
    have rl2 := e3.length
    have ca1 := e3.take 1
    have ca2 := e3.drop 1
    have hdrop : rcs.drop (rcs.length - (j + 1)) = rcs[q] :: rcs.drop (rcs.length - j) := by
      rw [show rcs.length - (j + 1) = q by omega, show rcs.length - j = q + 1 by omega]
      exact List.drop_eq_getElem_cons hq'
    have hqj : rcs.length - (j + 1) = q := by omega
    have hqj2 : rcs.length - j = q + 1 := by omega
    obtain ⟨v0, hv0, hc0⟩ : ∃ v0, ws[0]? = some v0 ∧ Cd false v0 (rcs[q].headD 0) := by
      cases hrq : rcs[q] with
      | nil => exact absurd hrq rnil
      | cons a r => rw [hrq] at e3; cases e3 with | cons a1 a2 => exact ⟨_, rfl, a1⟩
    k_steps
    · show wpAny _ _ _ _ _ _
      rename _ = true => hc
      rename Fr _ _ _ _ => Fo
      rename News _ _ _ _ => No
      refine filtW HB Fo No (by omega) hL (by walk_at "lst") (by walk_at "lst") caN ca1 (nd_cons (nd_cons hA.isD hio.nd)) ?_ (by omega)
      intro a g h3 tk3 c3 us kg HB2 F N hne hu
      clear X T
      have X := HB2.X
      have T := HB2.T
      replace hra := kg.get hra (by simp) (HB.notin hra rfl)
      replace kB := kB.trans kg
      have lu : us.length ≤ 1 + j * 100 := by
        rw [hu.length]
        refine Nat.le_trans (List.length_filter_le _ _) ?_
        rw [← caN.length]; exact lenN
      have hai := Ne.symm (hne (_, o) (by k_mem))
      dsimp only at hai
      clear kg Fo No hne
      k_steps
      show wpAny _ _ _ _ _ _
      rename Fr _ _ _ _ => Fo
      rename News _ _ _ _ => No
      refine filtW HB2 Fo No (by omega) hL (by walk_at "lst") (by walk_at "lst") ca2 hu (nd_cons (nd_cons (nd_cons (nd_cons hA.isD hio.nd)))) ?_ (by simp only [List.length_drop]; omega)
      intro a2 g2 h4 tk4 c4 us2 kg HB3 F N hne2 hu2
      clear X T
      have X := HB3.X
      have T := HB3.T
      replace hra := kg.get hra (by simp) (HB2.notin hra rfl)
      replace kB := kB.trans kg
      have lu2 : us2.length ≤ 100 := by
        rw [hu2.length]
        refine Nat.le_trans (List.length_filter_le _ _) ?_
        rw [List.length_drop]; omega
      clear kg Fo No hne2
      k_steps
      rename Fr _ _ _ _ => F9
      rename News _ _ _ _ => N9
      have hb1 : backS (rcs.drop (rcs.length - (j + 1))) [c] = (backS (rcs.drop (rcs.length - j)) [c]).filter (keepc (rcs[q].take 1)) ++ (rcs[q].drop 1).filter (keepc ((backS (rcs.drop (rcs.length - j)) [c]).filter (keepc (rcs[q].take 1)))) := by
        rw [hdrop]; exact if_pos hc
      have hb2 : backK (rcs.length - (j + 1)) (rcs.drop (rcs.length - (j + 1))) [c] = q :: backK (rcs.length - j) (rcs.drop (rcs.length - j)) [c] := by
        rw [hdrop, hqj, hqj2]; exact if_pos (hqj2 ▸ hc)
      have hb3 : backW (rcs.drop (rcs.length - (j + 1))) [c] = backS (rcs.drop (rcs.length - (j + 1))) [c] :: backW (rcs.drop (rcs.length - j)) [c] := by
        rw [hdrop]; rfl
      rw [hb1] at hb3
      refine ⟨g2, _, (_, W.listOf ([Value.ref _] ++ wvs).toArray 0) :: (_, W.listOf ([Value.int (q : Int) t] ++ kvs).toArray 0) :: (_, W.listOf (us ++ us2).toArray 0) :: news, o, _, _, _, rfl, hio, F9, N9, by k_mem, by walk_at "subm", ?_⟩
      refine ⟨_, _, _, _, _, _, _, _, _, some (.int (q : Int) t), some (.ref ra), kB, AllL.cons (AllL.cons (AllL.cons hA)), ne_cons (ne_cons (ne_cons hit (Nat.ne_of_gt (by omega))) (Nat.ne_of_gt (by omega))) (Nat.ne_of_gt (by omega)), by walk_at "loceq", by k_mem, hb1 ▸ hu.append hu2, ?_, by k_mem, ?_, by simp [lenW], by k_mem, ?_, by simp; omega⟩
      · simp only [List.length_append]; omega
      · rw [hb3]
        exact .cons (by k_mem) (hu.append hu2) (llW.mono (fun _ _ _ h => .tail _ (.tail _ (.tail _ h))))
      · rw [hb2]
        exact .cons ⟨_, rfl⟩ caK
    · rename _ = false => hc
      rename Fr _ _ _ _ => F9
      rename News _ _ _ _ => N9
      have hb1 : backS (rcs.drop (rcs.length - (j + 1))) [c] = backS (rcs.drop (rcs.length - j)) [c] := by
        rw [hdrop]; exact if_neg (by rw [hc]; decide)
      have hb2 : backK (rcs.length - (j + 1)) (rcs.drop (rcs.length - (j + 1))) [c] = backK (rcs.length - j) (rcs.drop (rcs.length - j)) [c] := by
        rw [hdrop, hqj, hqj2]; exact if_neg (by rw [← hqj2, hc]; decide)
      have hb3 : backW (rcs.drop (rcs.length - (j + 1))) [c] = backS (rcs.drop (rcs.length - (j + 1))) [c] :: backW (rcs.drop (rcs.length - j)) [c] := by
        rw [hdrop]; rfl
      rw [hb1] at hb3
      refine ⟨base, _, (_, W.listOf ([Value.ref an] ++ wvs).toArray 0) :: news, o, _, _, _, rfl, hio, F9, N9, by k_mem, by walk_at "subm", ?_⟩
      refine ⟨_, _, _, _, _, _, _, _, _, some (.int (q : Int) t), some (.ref ra), kB, AllL.cons hA, ne_cons hit (Nat.ne_of_gt (by omega)), by walk_at "loceq", by k_mem, hb1 ▸ caN, by omega, by k_mem, ?_, by simp [lenW], by k_mem, ?_, by omega⟩
      · rw [hb3]
        exact .cons (by k_mem) caN (llW.mono (fun _ _ _ h => .tail _ h))
      · rw [hb2]
        exact caK
  · intro it base m news h tk hP F N
    refine aside fun X hX => ?_
    obtain ⟨an, aw, ak, nn, nw, nk, ns, wvs, kvs, place, row, kB, hA, hit, rfl, mN, caN, lenN, mW, llW, lenW, mK, caK, lenK⟩ := hP
    refine hX ?_
    clear hX X
    replace F : Fr base s.heap.objs.size _ _ := F
    replace N : News base s.heap.objs.size _ _ := N
    clear X T
    have HB := H.kp kB H.low (by simp)
    have X := HB.X
    have T := HB.T
    have e0 : rcs.drop (rcs.length - rcs.length) = rcs := by rw [Nat.sub_self, List.drop_zero]
    rw [e0] at llW caK
    rw [Nat.sub_self] at caK
    k_steps
    rename Fr _ _ _ _ => F9
    rename News _ _ _ _ => N9
    show R _ _
    subst hRR
    have t1 := N9 _ (List.Mem.head _)
    have t2 := N9 _ (.tail _ mW)
    have t3 := N9 _ (.tail _ mK)
    exact ⟨_, aw, ak, _, _, _, _, _, _, rfl, rfl, kB.trans (Kp.of_keep fun b o _ e => F9.keep b o e), kp_none kB t1.2.2, kp_none kB t2.2.2, kp_none kB t3.2.2, t1.1, t2.1, llW.mono fun a n ws q => ⟨(N9 _ (.tail _ q)).1, kp_none kB (N9 _ (.tail _ q)).2.2⟩, t3.1, caK⟩


local macro_rules | `(tactic| walk_at "subscriptTail Name Slice ref ref") => `(tactic| (k_here; (with_reducible show wpAny _ _ (subscriptTail _ (PySem.Expr.Slice none _ none _) (Value.ref _) (Value.ref _)) _ _ _); k_dflt (refine' slice_to ?F ?N ?l ?q ?_ ?s ?t ?z; (case F => k_asm); (case N => k_asm); (case l => walk_at "lst"); (case q => with_reducible exact IsPart.int _ _); (case s => with_unfolding_all rfl); (case t => kmk_pure); (case z => omega)); k_whole; intro D' h' F' N' l1; (try k_lt l1); (try k_sweep)))
local macro_rules | `(tactic| walk_at "subscriptTail Name Slice ref ref") => `(tactic| (k_here; (with_reducible show wpAny _ _ (subscriptTail _ (PySem.Expr.Slice (some _) none none _) (Value.ref _) (Value.ref _)) _ _ _); k_dflt (refine' slice_from_succ ?F ?N ?l ?_ ?s ?t ?z; (case F => k_asm); (case N => k_asm); (case l => walk_at "lst"); (case s => with_unfolding_all rfl); (case t => kmk_pure); (case z => omega)); k_whole; intro D' h' F' N' l1; (try k_lt l1); (try k_sweep)))

noncomputable def markOf (marks : List Nat) (place : Nat) (row : List Nat) : Nat := (row.drop 1).foldl (fun m n => m ||| marks.getD n 0) (2 ^ (4 + place))
noncomputable def markStep (marks : List Nat) (place : Nat) (row : List Nat) : List Nat := marks.take (row.headD 0) ++ [markOf marks place row] ++ marks.drop (row.headD 0 + 1)
noncomputable def marksL : Nat → List (List Nat) → List Nat → List Nat
  | _, [], ms => ms
  | i, row :: rows, ms => marksL (i + 1) rows (markStep ms i row)
theorem marksL_append : ∀ (rows : List (List Nat)) (i : Nat) (r ms : List Nat), marksL i (rows ++ [r]) ms = markStep (marksL i rows ms) (i + rows.length) r
  | [], _, _, _ => rfl
  | q :: rows, i, r, ms => by
    show marksL (i + 1) (rows ++ [r]) _ = markStep (marksL (i + 1) rows _) _ _
    rw [marksL_append rows, List.length_cons, Nat.add_assoc, Nat.add_comm 1]
inductive MarkR (s : Shared) (fs : List Addr) (ms : List Nat) (r : Result) (s' : Shared) : Prop where
  | mk (a : Nat) (h' : Heap) (tk c : Nat) (vs : List Value) (e1 : r = .ok (.ret (.ref a))) (e2 : s' = { s with heap := h', toks := tk }) (e3 : Kp [] fs s.heap h') (e4 : s.heap.get? a = none) (e5 : h'.get? a = some (W.listOf vs.toArray c)) (e6 : CA false vs ms)
inductive MarkP (base0 : Heap) (it : Nat) (rows : Nat) (rcs : List (List Nat)) (j : Nat) (base : Heap) (m : Str → Option Value) (news : List (Addr × Obj)) : Prop where
  | mk (am nm : Nat) (ms : List Value) (name mark place : Option Value) (e1 : base = base0) (e2 : (∀ p ∈ news, p.1 ≠ it)) (e3 : m = (fun y => if y = Str.ofString "marks" then some (.ref am) else if y = Str.ofString "name" then name else if y = Str.ofString "mark" then mark else if y = Str.ofString "place" then place else List.lookup y [(Str.ofString "rows", Value.ref rows)].reverse)) (e4 : (am, W.listOf ms.toArray nm) ∈ news) (e5 : CA false ms (marksL 0 (rcs.take j) [1, 2, 4, 8])) (e6 : ms.length = 4)

inductive MarkIn (base0 : Heap) (D : Nat) (wsd : List Value) (it : Nat) (o : Obj) (news0 : List (Addr × Obj)) (am rows : Nat) (pl : Value) (g : Nat → Nat) (it2 : Nat) (i : Nat) (base : Heap) (m : Str → Option Value) (news : List (Addr × Obj)) : Prop where
  | mk (t : Tok) (name : Option Value) (e1 : base = base0) (e2 : (∀ p ∈ news, p.1 ≠ it2)) (e3 : (D, W.listOf wsd.toArray 0) ∈ news) (e4 : (it, o) ∈ news) (e5 : (∀ p ∈ news0, p ∈ news)) (e6 : m = (fun y => if y = Str.ofString "mark" then some (.int (g i : Int) t) else if y = Str.ofString "name" then name else if y = Str.ofString "place" then some pl else if y = Str.ofString "marks" then some (.ref am) else List.lookup y [(Str.ofString "rows", Value.ref rows)].reverse))
theorem fold_take (ms row : List Nat) (place i : Nat) (h : i < row.length) : (row.take (i + 1)).foldl (fun m n => m ||| ms.getD n 0) (2 ^ (4 + place)) = (row.take i).foldl (fun m n => m ||| ms.getD n 0) (2 ^ (4 + place)) ||| ms.getD row[i] 0 := by
  rw [List.take_succ_eq_append_getElem h, List.foldl_append]; rfl

set_option maxHeartbeats 8000000 in
theorem marks {w : World} {b : Nat} {fs : List Addr} {d u : Nat} {fr : Option (List Env)} {gs : Option (List Code)} {s : Shared} {p : Program} {loose : List Str} {mg mb : Str → Option Value} {rows nr : Nat} {rvs : List Value} {rcs : List (List Nat)}
    (H : Pre w b fs p loose mg mb ⟨none, d, fr, gs, u⟩ s.heap) (hb : b ≤ 680) (hrows : s.heap.get? rows = some (W.listOf rvs.toArray nr)) (hR : LL false (inH s.heap) rvs rcs) (hlen : rcs.length ≤ 100) (hrow : ∀ r ∈ rcs, r.length ≤ 100 ∧ r ≠ [] ∧ ∀ n ∈ r, n < 4) :
   codeAny (model PG w) ⟨none, d, fr, gs, u⟩ (.call (.ref 664) ⟨[.ref rows], []⟩) (MarkR s fs (marksL 0 rcs [1, 2, 4, 8])) s := by
  have hdep := H.depth
  dsimp only at hdep
  have X := H.X
  have T := H.T
  have hL := H.size
  have hRl := hR.length
  generalize hRR : MarkR s fs (marksL 0 rcs [1, 2, 4, 8]) = R
  refine enterG (K := hd.heap_1 w.params) s.heap (binds := [("rows", .ref rows)]) X T (by simp only [recursionLimit]; omega) (by k_is) (by k_is) (fun _ _ e => e) (Nat.le_refl _) (BindsTo.of_eq rfl) (locs rfl) ?_ rfl rfl rfl (by decide)
  intro h₁ F k1
  refine hide_E (by passes_own) fun E hE => ?_
  have N := News.nil (h₀ := s.heap) (h := h₁) (L := s.heap.objs.size)
  k_steps
  rename Fr _ _ _ _ => F0
  rename News _ _ _ _ => N0
  show wpAny _ _ _ _ _ _
  refine for_range (hE := hE) (n := rcs.length) rfl rfl rfl (fun it => MarkP s.heap it rows rcs) F0 N0 (by assumption) ?_ ?_ ?_ ?_ ?_ ?_
  · exact small_one (by omega) (by omega) (by omega) (by omega)
  · rw [hRl, rangeSize_nat]; omega
  · refine ⟨_, _, _, none, none, none, rfl, fun p hp => Nat.ne_of_lt (Heap.lt_size (N0 p hp).1), by walk_at "loceq", List.Mem.head _, .cons ⟨_, rfl⟩ (.cons ⟨_, rfl⟩ (.cons ⟨_, rfl⟩ (.cons ⟨_, rfl⟩ .nil))), rfl⟩
  · intro it j base m news hpat5
    refine aside fun X hX => ?_
    obtain ⟨an, aw, ms, name, mark, place, k1, k2, _⟩ := hpat5
    refine hX ?_
    clear hX X
    exact k2
  · intro it j t base m news o s₁ hs1 hj hio hP F N
    refine aside fun X hX => ?_
    obtain ⟨h2, tk2, rfl⟩ := hs1
    refine hX ?_
    clear hX X
    refine aside fun X hX => ?_
    obtain ⟨am, nm, ms, name, mark, place, rfl, hit, rfl, mM, caM, lenM⟩ := hP
    refine hX ?_
    clear hX X
    replace F : Fr s.heap s.heap.objs.size _ _ := F
    replace N : News s.heap s.heap.objs.size _ _ := N
    try dsimp only at F N
    have hpl : (0 : Int) + (j : Int) * 1 = (j : Int) := by omega
    rw [hpl] at F
    have hj' : j < rcs.length := by omega
    refine aside fun X hX => ?_
    obtain ⟨ra, na, ws, e1, e2, e3⟩ := hR.at (i := j) (cs := rcs[j]) (by simp [hj'])
    refine hX ?_
    clear hX X
    refine aside fun X hX => ?_
    obtain ⟨rl, rnil, r4⟩ := hrow _ (List.getElem_mem hj')
    refine hX ?_
    clear hX X
    have rl2 := e3.length
    have ca2 := e3.drop 1
    k_steps
    rename_i D h3 F3 N3 l3
    show wpAny _ _ _ _ _ _
    have hpw : (2 : Int) ^ ((4 + (j : Int)).toNat) = ((2 ^ (4 + j) : Nat) : Int) := by
      rw [show (4 + (j : Int)).toNat = 4 + j by omega]; simp
    rw [hpw] at F3
    obtain ⟨t9, F3⟩ : ∃ t9, Fr s.heap s.heap.objs.size h3 (fun y => if y = Str.ofString "mark" then some (.int ((2 ^ (4 + j) : Nat) : Int) t9) else if y = Str.ofString "place" then some (.int j t) else if y = Str.ofString "marks" then some (.ref am) else if y = Str.ofString "name" then name else if y = Str.ofString "mark" then mark else if y = Str.ofString "place" then place else List.lookup y [(Str.ofString "rows", Value.ref rows)].reverse) := ⟨_, F3⟩
    generalize hms : marksL 0 (rcs.take j) [1, 2, 4, 8] = msN at caM
    refine for_list (hE := hE) rfl rfl rfl (fun it2 => MarkIn s.heap D (ws.drop 1) it o news am rows (.int j t) (fun i => ((rcs[j].drop 1).take i).foldl (fun m n => m ||| msN.getD n 0) (2 ^ (4 + j))) it2) F3 N3 (by walk_at "lst") ?_ ?_ ?_ ?_ ?_
    · exact ⟨t9, name, rfl, fun p hp => Nat.ne_of_lt (Heap.lt_size (N3 p hp).1), by k_mem, by k_mem, by walk_at "subm", by walk_at "loceq"⟩
    · intro it2 i base m news2 h hpat6 F N
      refine aside fun X hX => ?_
      obtain ⟨t2, nm2, rfl, q1, q2, q3, q4, rfl⟩ := hpat6
      refine hX ?_
      clear hX X
      exact (N _ q2).1
    · intro it2 i base m news2 hpat5
      refine aside fun X hX => ?_
      obtain ⟨t2, nm2, rfl, q1, q2, q3, q4, rfl⟩ := hpat5
      refine hX ?_
      clear hX X
      exact q1
    · intro it2 i v base m news2 o2 s₁ hs1 hi hv hio2 hP F N
      refine aside fun X hX => ?_
      obtain ⟨h4, tk4, rfl⟩ := hs1
      refine hX ?_
      clear hX X
      refine aside fun X hX => ?_
      obtain ⟨t2, nm2, rfl, q1, q2, q3, q4, rfl⟩ := hP
      refine hX ?_
      clear hX X
      replace F : Fr s.heap s.heap.objs.size _ _ := F
      replace N : News s.heap s.heap.objs.size _ _ := N
      clear F3 N3
      try dsimp only at F N
      have hi' : i < (rcs[j].drop 1).length := by rw [← ca2.length]; exact hi
      refine aside fun X hX => ?_
      obtain ⟨v2, w1, ⟨tn, w2⟩⟩ := ca2.at (i := i) (c := (rcs[j].drop 1)[i]) (by simp [hi'])
      refine hX ?_
      clear hX X
      rw [hv] at w1; cases w1
      subst w2
      have hn4 : (rcs[j].drop 1)[i] < 4 := r4 _ (List.mem_of_mem_drop (List.getElem_mem hi'))
      have hft := fold_take msN (rcs[j].drop 1) j i hi'
      generalize (rcs[j].drop 1)[i] = nn at *
      have mlen : msN.length = 4 := by rw [← caM.length]; exact lenM
      refine aside fun X hX => ?_
      obtain ⟨vm, w3, ⟨tm, w4⟩⟩ := caM.at (i := nn) (c := msN.getD nn 0) (by rw [List.getD_eq_getElem?_getD]; simp [show nn < msN.length by omega])
      refine hX ?_
      clear hX X
      subst w4
      have mM2 := q4 _ mM
      dsimp only at *
      k_steps
      rename Fr _ _ _ _ => F9
      rename News _ _ _ _ => N9
      rw [bitOr_nat, ← hft] at F9
      refine ⟨s.heap, _, news2, o2, _, _, _, rfl, hio2, F9, N9, by k_mem, by walk_at "subm", ?_⟩
      exact ⟨tk4, some (.int (nn : Int) tn), rfl, q1, q2, q3, q4, by walk_at "loceq"⟩
    · intro it2 base m news2 h tk hP F N
      refine aside fun X hX => ?_
      obtain ⟨t2, nm2, rfl, q1, q2, q3, q4, rfl⟩ := hP
      refine hX ?_
      clear hX X
      replace F : Fr s.heap s.heap.objs.size _ _ := F
      replace N : News s.heap s.heap.objs.size _ _ := N
      clear F3 N3
      try dsimp only at F N
      have mM2 := q4 _ mM
      obtain ⟨v0, hv0, ⟨t0, w0⟩⟩ : ∃ v0, ws[0]? = some v0 ∧ Cd false v0 (rcs[j].headD 0) := by
        cases hrq : rcs[j] with
        | nil => exact absurd hrq rnil
        | cons a r => rw [hrq] at e3; cases e3 with | cons a1 a2 => exact ⟨_, rfl, a1⟩
      subst w0
      have h04 : rcs[j].headD 0 < 4 := by
        cases hrq : rcs[j] with
        | nil => exact absurd hrq rnil
        | cons a r => exact r4 a (by rw [hrq]; exact .head _)
      have hall : ((rcs[j].drop 1).take (ws.drop 1).length) = rcs[j].drop 1 := by rw [ca2.length, List.take_length]
      rw [hall] at F
      k_steps
      rename Fr _ _ _ _ => F9
      rename News _ _ _ _ => N9
      have hst : marksL 0 (rcs.take (j + 1)) [1, 2, 4, 8] = markStep msN j rcs[j] := by
        rw [List.take_succ_eq_append_getElem hj', marksL_append, hms, List.length_take, Nat.min_eq_left (by omega), Nat.zero_add]
      have hoc : o.cls = .type "range_iterator" := by unfold RIo at hio; rw [hio]
      have caN : CA false (ms.take (rcs[j].headD 0) ++ [Value.int ((((rcs[j].drop 1).foldl (fun m n => m ||| msN.getD n 0) (2 ^ (4 + j)) : Nat)) : Int) t2] ++ ms.drop (rcs[j].headD 0 + 1)) (markStep msN j rcs[j]) :=
        ((caM.take _).append (CA.one ⟨_, rfl⟩)).append (caM.drop _)
      refine ⟨s.heap, _, (_, W.listOf (ms.take (rcs[j].headD 0) ++ [Value.int ((((rcs[j].drop 1).foldl (fun m n => m ||| msN.getD n 0) (2 ^ (4 + j)) : Nat)) : Int) t2] ++ ms.drop (rcs[j].headD 0 + 1)).toArray 0) :: news, o, _, _, _, rfl, hio, F9, N9, by k_mem, sub_cons (by k_mem) ?_, ?_⟩
      · intro p hp
        have := q4 p hp
        k_mem
      · refine ⟨_, _, _, some (.int ((rcs[j].headD 0 : Nat) : Int) t0), some (.int ((((rcs[j].drop 1).foldl (fun m n => m ||| msN.getD n 0) (2 ^ (4 + j)) : Nat)) : Int) t2), some (.int (j : Int) t), rfl, ne_cons hit (apart_of (N9 _ (List.Mem.head _)).1 (N9 _ (show (it, o) ∈ _ by have := q3; k_mem)).1 (by rw [hoc]; show Value.type _ ≠ Value.type _; decide)), by walk_at "loceq", by k_mem, hst ▸ caN, ?_⟩
        simp only [List.length_append, List.length_take, List.length_drop, List.length_cons, List.length_nil]; omega
  · intro it base m news h tk hP F N
    refine aside fun X hX => ?_
    obtain ⟨am, nm, ms, name, mark, place, rfl, hit, rfl, mM, caM, lenM⟩ := hP
    refine hX ?_
    clear hX X
    replace F : Fr s.heap s.heap.objs.size _ _ := F
    replace N : News s.heap s.heap.objs.size _ _ := N
    rw [List.take_length] at caM
    k_steps
    rename Fr _ _ _ _ => F9
    rename News _ _ _ _ => N9
    show R _ _
    subst hRR
    exact ⟨_, _, _, _, _, rfl, rfl, Kp.of_keep fun b o _ e => F9.keep b o e, (N9 _ mM).2.2, (N9 _ mM).1, caM⟩


theorem floordiv_own {prog : Program} {w : World} {A : Around} {E : Value → Shared → Prop} {s : Shared} {a b : Int} {t u : Tok} {Q : Value → Shared → Prop} (hb : b ≠ 0 ∧ b.natAbs < 1073741824) (h : Q (.int (a.fdiv b) s.toks) { s with toks := s.toks + 1 }) : wpAny (model prog w) A (binaryOp .FloorDiv (.int a t) (.int b u)) Q E s :=
  floordiv_int hb.1 h (Or.inl (PyProof.noPylong_small hb.2))
local macro_rules | `(tactic| walk_at "binaryOp FloorDiv int int") => `(tactic| (k_here; k_dflt (refine' floordiv_own ?e ?_; (case e => assumption)); k_whole))
noncomputable def figs (n : Nat) : Nat → List Nat
  | 0 => []
  | k + 1 => figs n k ++ (if n / 4 / 5 ^ k % 5 < 4 then [n / 4 / 5 ^ k % 5] else [])
noncomputable def rowL (n : Nat) : List Nat := n % 4 :: figs n 3
theorem fig_int (n j : Nat) : (((n : Int).fdiv 4).fdiv ((5 : Int) ^ ((j : Int)).toNat)).fmod 5 = ((n / 4 / 5 ^ j % 5 : Nat) : Int) := by
  rw [Int.fmod_eq_emod_of_nonneg _ (by decide), Int.fdiv_eq_ediv_of_nonneg _ (Int.le_of_lt (Int.pow_pos (by decide))), Int.fdiv_eq_ediv_of_nonneg _ (by decide)]
  simp
theorem mod4_int (n : Nat) : (n : Int).fmod 4 = ((n % 4 : Nat) : Int) := by
  rw [Int.fmod_eq_emod_of_nonneg _ (by decide)]; simp
inductive RowP (base0 : Heap) (it : Nat) (n : Nat) (tn : Tok) (j : Nat) (base : Heap) (m : Str → Option Value) (news : List (Addr × Obj)) : Prop where
  | mk (ar nr : Nat) (rv : List Value) (figure place : Option Value) (e1 : base = base0) (e2 : ar ≠ it) (e3 : m = (fun y => if y = Str.ofString "row" then some (.ref ar) else if y = Str.ofString "figure" then figure else if y = Str.ofString "place" then place else List.lookup y [(Str.ofString "number", Value.int (n : Int) tn)].reverse)) (e4 : news = [(ar, W.listOf rv.toArray nr)]) (e5 : CA false rv (n % 4 :: figs n j)) (e6 : rv.length ≤ 1 + j)

set_option maxHeartbeats 8000000 in
theorem row {w : World} {b : Nat} {fs : List Addr} {d u : Nat} {fr : Option (List Env)} {gs : Option (List Code)} {s : Shared} {p : Program} {loose : List Str} {mg mb : Str → Option Value} {n : Nat} {tn : Tok}
    (H : Pre w b fs p loose mg mb ⟨none, d, fr, gs, u⟩ s.heap) (hb : b ≤ 680) (hn : n < 500) :
   codeAny (model PG w) ⟨none, d, fr, gs, u⟩ (.call (.ref 643) ⟨[.int (n : Int) tn], []⟩) (MarkR s fs (rowL n)) s := by
  have hdep := H.depth
  dsimp only at hdep
  have X := H.X
  have T := H.T
  have hL := H.size
  generalize hRR : MarkR s fs (rowL n) = R
  refine enterG (K := hd.heap_1 w.params) s.heap (binds := [("number", .int (n : Int) tn)]) X T (by simp only [recursionLimit]; omega) (by k_is) (by k_is) (fun _ _ e => e) (Nat.le_refl _) (BindsTo.of_eq rfl) (locs rfl) ?_ rfl rfl rfl (by decide)
  intro h₁ F k1
  refine hide_E (by passes_own) fun E hE => ?_
  have N := News.nil (h₀ := s.heap) (h := h₁) (L := s.heap.objs.size)
  k_steps
  rename Fr _ _ _ _ => F0
  rename News _ _ _ _ => N0
  show wpAny _ _ _ _ _ _
  refine for_range (hE := hE) (n := 3) rfl rfl rfl (fun it => RowP s.heap it n tn) F0 N0 (by assumption) ?_ ?_ ?_ ?_ ?_ ?_
  · exact small_one (by omega) (by omega) (by omega) (by omega)
  · rw [rangeSize_nat]; omega
  · refine ⟨_, _, [_], none, none, rfl, Nat.ne_of_lt (Heap.lt_size (N0 _ (List.Mem.head _)).1), by walk_at "loceq", rfl, ?_, Nat.le_refl _⟩
    rw [mod4_int]
    exact CA.one ⟨_, rfl⟩
  · intro it j base m news hpat5
    refine aside fun X hX => ?_
    obtain ⟨ar, nr, rv, fig, place, rfl, k1, rfl, rfl, _⟩ := hpat5
    refine hX ?_
    clear hX X
    intro p hp
    obtain rfl := List.mem_singleton.mp hp
    exact k1
  · intro it j t base m news o s₁ hs1 hj hio hP F N
    refine aside fun X hX => ?_
    obtain ⟨h2, tk2, rfl⟩ := hs1
    refine hX ?_
    clear hX X
    refine aside fun X hX => ?_
    obtain ⟨ar, nr, rv, fig, place, rfl, hit, rfl, rfl, caR, lenR⟩ := hP
    refine hX ?_
    clear hX X
    replace F : Fr s.heap s.heap.objs.size _ _ := F
    replace N : News s.heap s.heap.objs.size _ _ := N
    try dsimp only at F N
    have hpl : (0 : Int) + (j : Int) * 1 = (j : Int) := by omega
    rw [hpl] at F
    have h5 : ((5 : Int) ^ ((j : Int)).toNat) ≠ 0 ∧ ((5 : Int) ^ ((j : Int)).toNat).natAbs < 1073741824 := by
      rcases (by omega : j = 0 ∨ j = 1 ∨ j = 2) with rfl | rfl | rfl <;> decide
    k_steps
    · rename _ < _ => hlt
      rename Fr _ _ _ _ => F9
      rename News _ _ _ _ => N9
      rw [fig_int] at F9 N9 hlt
      obtain ⟨t9, F9⟩ : ∃ t9, Fr s.heap s.heap.objs.size _ (fun y => if y = Str.ofString "figure" then some (.int ((n / 4 / 5 ^ j % 5 : Nat) : Int) t9) else if y = Str.ofString "place" then some (.int (j : Int) t) else if y = Str.ofString "row" then some (.ref ar) else if y = Str.ofString "figure" then fig else if y = Str.ofString "place" then place else List.lookup y [(Str.ofString "number", Value.int (n : Int) tn)].reverse) := ⟨_, F9⟩
      obtain ⟨t8, N9⟩ : ∃ t8, News s.heap s.heap.objs.size _ [(it, o), (ar, W.listOf (rv ++ [Value.int ((n / 4 / 5 ^ j % 5 : Nat) : Int) t8]).toArray (nr + 1))] := ⟨_, by rw [List.push_toArray] at N9; exact N9⟩
      refine ⟨s.heap, _, [(ar, W.listOf (rv ++ [Value.int ((n / 4 / 5 ^ j % 5 : Nat) : Int) t8]).toArray (nr + 1))], o, _, _, _, rfl, hio, F9, N9, by k_mem, sub_tail sub_refl, ?_⟩
      refine ⟨ar, nr + 1, _, some (.int ((n / 4 / 5 ^ j % 5 : Nat) : Int) t9), some (.int (j : Int) t), rfl, hit, by walk_at "loceq", rfl, ?_, by simp; omega⟩
      have : figs n (j + 1) = figs n j ++ [n / 4 / 5 ^ j % 5] := by
        show figs n j ++ _ = _
        rw [if_pos (by omega)]
      rw [this]
      exact caR.append (CA.one ⟨_, rfl⟩)
    · rename ¬ _ < _ => hlt
      rename Fr _ _ _ _ => F9
      rename News _ _ _ _ => N9
      rw [fig_int] at F9 hlt
      obtain ⟨t9, F9⟩ : ∃ t9, Fr s.heap s.heap.objs.size _ (fun y => if y = Str.ofString "figure" then some (.int ((n / 4 / 5 ^ j % 5 : Nat) : Int) t9) else if y = Str.ofString "place" then some (.int (j : Int) t) else if y = Str.ofString "row" then some (.ref ar) else if y = Str.ofString "figure" then fig else if y = Str.ofString "place" then place else List.lookup y [(Str.ofString "number", Value.int (n : Int) tn)].reverse) := ⟨_, F9⟩
      refine ⟨s.heap, _, [(ar, W.listOf rv.toArray nr)], o, _, _, _, rfl, hio, F9, N9, by k_mem, sub_tail sub_refl, ?_⟩
      refine ⟨ar, nr, _, some (.int ((n / 4 / 5 ^ j % 5 : Nat) : Int) t9), some (.int (j : Int) t), rfl, hit, by walk_at "loceq", rfl, ?_, by omega⟩
      have : figs n (j + 1) = figs n j := by
        show figs n j ++ _ = _
        rw [if_neg (by omega), List.append_nil]
      rw [this]
      exact caR
  · intro it base m news h tk hP F N
    refine aside fun X hX => ?_
    obtain ⟨ar, nr, rv, fig, place, rfl, hit, rfl, rfl, caR, lenR⟩ := hP
    refine hX ?_
    clear hX X
    replace F : Fr s.heap s.heap.objs.size _ _ := F
    replace N : News s.heap s.heap.objs.size _ _ := N
    k_steps
    rename Fr _ _ _ _ => F9
    rename News _ _ _ _ => N9
    show R _ _
    subst hRR
    have q := N9 _ (List.Mem.head _)
    exact ⟨_, _, _, _, _, rfl, rfl, Kp.of_keep fun b o _ e => F9.keep b o e, q.2.2, q.1, caR⟩

end

section

open _root_.PySem _root_.PySem.W _root_.PyProof.Rows _root_.PyProof.V _root_.PySem.Calls _root_.PySem.SeqAt
set_option maxRecDepth 100000
theorem AllL.append {a b} (h : AllL a) (k : AllL b) : AllL (a ++ b) := fun p hp => (List.mem_append.mp hp).elim (h p) (k p)
theorem named {α : Type} (v : α) : ∃ x, x = v := ⟨v, rfl⟩
theorem haltP {P : Prop} (h : Halt P) : P := h
section
variable {prog : Program} {w : World} {A : Around} {E : Value → Shared → Prop} {s : Shared} {h₀ : Heap} {L : Addr} {m : Str → Option Value} {env : Env}
theorem comp_rest {elt : PySem.Expr} {x : Str} {scope : Scope} {cl : List (Str × Addr)} {S : List (Addr × Obj) → Prop} {P : Nat → Value → Prop} {Fin : List Value → List (Addr × Obj) → Prop} {n : Nat}
    (J : Nat → List Value → List (Addr × Obj) → Prop)
    (turn : ∀ i ys news v I oI C oC D m₂ h tk (E' : Value → Shared → Prop), i < n → P i v → J i ys news → LCg.NsObj oC m₂ → m₂ x = some v → Fr h₀ L h m → News h₀ L h ((I, oI) :: (C, oC) :: (D, LCg.lst ys) :: news) → LCg.Off3 I C D news → ((@Ne Nat I C) ∧ (@Ne Nat I D) ∧ (@Ne Nat C D)) →
      wpAny (model prog w) A (eval elt (compEnvC scope cl C env)) (LCg.CompEnd h₀ L m { s with heap := h, toks := tk } I oI C oC D (LCg.lst ys) S (fun y news' => J (i + 1) (ys ++ [y]) news')) E' { s with heap := h, toks := tk })
    (fin : ∀ ys news, J n ys news → Fin ys news) {news : List (Addr × Obj)} (h0 : J 0 [] news) : LCg.CompRest prog w A h₀ L m env elt x scope cl s S P Fin n 0 [] news := by
  have key : ∀ (k i : Nat) (ys : List Value) (news : List (Addr × Obj)), i + k = n → J i ys news → LCg.CompRest prog w A h₀ L m env elt x scope cl s S P Fin k i ys news := by
    intro k
    induction k with
    | zero => intro i ys news hi hJ; obtain rfl : i = n := by omega
              exact LCg.CompRest.zero (fin _ _ hJ)
    | succ k ih =>
      intro i ys news hi hJ
      refine LCg.CompRest.succ ?_
      intro v I oI C oC D m₂ h tk E' hv hC hx F N off ne
      refine wpAny_mono (turn i ys news v I oI C oC D m₂ h tk E' (by omega) hv hJ hC hx F N off ne) (fun y s₂ hq => ?_) fun _ _ e => e
      obtain ⟨h', tk', nw, e, F', N', off', hS, hJ'⟩ := hq
      exact ⟨h', tk', nw, e, F', N', off', hS, ih (i + 1) _ _ (by omega) hJ'⟩
  exact key n 0 [] news (by omega) h0
end

theorem LL.snoc {κ : Bool} {M : Nat → Obj → Prop} {a n : Nat} {ws : List Value} {cs : List Nat} {vs css} (h : LL κ M vs css) (e : M a (W.listOf ws.toArray n)) (c : CA κ ws cs) : LL κ M (vs ++ [.ref a]) (css ++ [cs]) := h.append (.cons e c .nil)
theorem off3_mid {I C D : Addr} {conc conc' tail : List (Addr × Obj)} {x : Addr × Obj} (h : LCg.Off3 I C D (conc ++ tail)) (hc : ∀ p ∈ conc', ∃ q ∈ conc, q.1 = p.1) (hx : x.1 ≠ I ∧ x.1 ≠ C ∧ x.1 ≠ D) : LCg.Off3 I C D (conc' ++ x :: tail) :=
  LCg.Off3.of fun p hp => by
    rcases List.mem_append.mp hp with hp | hp
    · obtain ⟨q, hq, e⟩ := hc p hp
      have := h.mem q (List.mem_append_left _ hq)
      rw [e] at this; exact this
    · rcases List.mem_cons.mp hp with rfl | hp
      · exact hx
      · exact h.mem p (List.mem_append_right _ hp)
/-- a comprehension whose elements are new lists of codes -/
theorem comp_lists {prog : Program} {w : World} {A : Around} {s : Shared} {h₀ : Heap} {L : Addr} {m : Str → Option Value} {env : Env} {elt : PySem.Expr} {x : Str} {scope : Scope} {cl : List (Str × Addr)} {S : List (Addr × Obj) → Prop} {P : Nat → Value → Prop} {Fin : List Value → List (Addr × Obj) → Prop} {n : Nat}
    (κ : Bool) (rcs : List (List Nat)) (Cn : Nat → List (Addr × Obj) → Prop) (hn : rcs.length = n)
    (hS : ∀ i conc tail, Cn i conc → S (conc ++ tail))
    (turn : ∀ i conc tail ys v I oI C oC D m₂ h tk (E' : Value → Shared → Prop), (hi : i < rcs.length) → P i v → Cn i conc → AllL tail → LCg.NsObj oC m₂ → m₂ x = some v → Fr h₀ L h m → News h₀ L h ((I, oI) :: (C, oC) :: (D, LCg.lst ys) :: (conc ++ tail)) → LCg.Off3 I C D (conc ++ tail) → ((@Ne Nat I C) ∧ (@Ne Nat I D) ∧ (@Ne Nat C D)) →
      wpAny (model prog w) A (eval elt (compEnvC scope cl C env)) (fun y s' => ∃ h' tk' a c vs conc', y = .ref a ∧ s' = { s with heap := h', toks := tk' } ∧ Fr h₀ L h' m ∧ News h₀ L h' ((a, W.listOf (List.toArray vs) c) :: (I, oI) :: (C, oC) :: (D, LCg.lst ys) :: (conc' ++ tail)) ∧ Cn (i + 1) conc' ∧ (∀ p ∈ conc', ∃ q ∈ conc, q.1 = p.1) ∧ (a ≠ I ∧ a ≠ C ∧ a ≠ D) ∧ CA κ vs rcs[i]) E' { s with heap := h, toks := tk })
    (fin : ∀ ys conc tail, Cn n conc → AllL tail → LL κ (inN tail) ys rcs → Fin ys (conc ++ tail)) {conc : List (Addr × Obj)} (h0 : Cn 0 conc) : LCg.CompRest prog w A h₀ L m env elt x scope cl s S P Fin n 0 [] conc := by
  refine comp_rest (J := fun i ys news => ∃ conc tail, Cn i conc ∧ news = conc ++ tail ∧ LL κ (inN tail) ys (rcs.take i) ∧ AllL tail) ?_ ?_ ⟨conc, [], h0, by simp, .nil, fun _ h => (List.not_mem_nil h).elim⟩
  · rintro i ys news v I oI C oC D m₂ h tk E' hi hv ⟨conc, tail, hc, rfl, hl, hal⟩ hC hx F N off ne
    have hi' : i < rcs.length := by omega
    refine wpAny_mono (turn i conc tail ys v I oI C oC D m₂ h tk E' hi' hv hc hal hC hx F N off ne) (fun y s₂ hq => ?_) fun _ _ e => e
    obtain ⟨h', tk', a, c, vs, conc', rfl, rfl, F', N', hc', hcc, hne, hca⟩ := hq
    refine ⟨h', tk', conc' ++ (a, W.listOf vs.toArray c) :: tail, rfl, F', fun p hp => N' p ?_, off3_mid off hcc hne, hS _ _ _ hc', conc', _, hc', rfl, ?_, hal.cons⟩
    · simp only [List.mem_cons, List.mem_append] at hp ⊢
      rcases hp with h | h | h | h | h | h
      · exact .inr (.inl h)
      · exact .inr (.inr (.inl h))
      · exact .inr (.inr (.inr (.inl h)))
      · exact .inr (.inr (.inr (.inr (.inl h))))
      · exact .inl h
      · exact .inr (.inr (.inr (.inr (.inr h))))
    · rw [List.take_succ_eq_append_getElem hi']
      exact (hl.mono fun _ _ _ q => .tail _ q).snoc (.head _) hca
  · rintro ys news ⟨conc, tail, hc, rfl, hl, hal⟩
    rw [← hn, List.take_length] at hl
    exact fin ys conc tail hc hal hl
/-- a comprehension whose elements are codes -/
theorem comp_codes {prog : Program} {w : World} {A : Around} {s : Shared} {h₀ : Heap} {L : Addr} {m : Str → Option Value} {env : Env} {elt : PySem.Expr} {x : Str} {scope : Scope} {cl : List (Str × Addr)} {S : List (Addr × Obj) → Prop} {P : Nat → Value → Prop} {Fin : List Value → List (Addr × Obj) → Prop} {n : Nat}
    (κ : Bool) (cs : List Nat) (hn : cs.length = n) {news : List (Addr × Obj)} (hS : S news)
    (turn : ∀ i ys v I oI C oC D m₂ h tk (E' : Value → Shared → Prop), (hi : i < cs.length) → P i v → LCg.NsObj oC m₂ → m₂ x = some v → Fr h₀ L h m → News h₀ L h ((I, oI) :: (C, oC) :: (D, LCg.lst ys) :: news) → LCg.Off3 I C D news → ((@Ne Nat I C) ∧ (@Ne Nat I D) ∧ (@Ne Nat C D)) →
      wpAny (model prog w) A (eval elt (compEnvC scope cl C env)) (fun y s' => ∃ h' tk', s' = { s with heap := h', toks := tk' } ∧ Fr h₀ L h' m ∧ News h₀ L h' ((I, oI) :: (C, oC) :: (D, LCg.lst ys) :: news) ∧ Cd κ y cs[i]) E' { s with heap := h, toks := tk })
    (fin : ∀ ys, CA κ ys cs → Fin ys news) : LCg.CompRest prog w A h₀ L m env elt x scope cl s S P Fin n 0 [] news := by
  refine comp_rest (J := fun i ys nw => nw = news ∧ CA κ ys (cs.take i)) ?_ ?_ ⟨rfl, .nil⟩
  · rintro i ys nw v I oI C oC D m₂ h tk E' hi hv ⟨rfl, hc⟩ hC hx F N off ne
    have hi' : i < cs.length := by omega
    refine wpAny_mono (turn i ys v I oI C oC D m₂ h tk E' hi' hv hC hx F N off ne) (fun y s₂ hq => ?_) fun _ _ e => e
    obtain ⟨h', tk', rfl, F', N', hcd⟩ := hq
    refine ⟨h', tk', nw, rfl, F', N', off, hS, rfl, ?_⟩
    rw [List.take_succ_eq_append_getElem hi']
    exact hc.append (CA.one hcd)
  · rintro ys nw ⟨rfl, hc⟩
    rw [← hn, List.take_length] at hc
    exact fin ys hc
def codeOf (n : Nat) : Nat := [97, 10, 233, 0].getD n 0
theorem rowL_lt (n : Nat) : ∀ k ∈ rowL n, k < 4 := by
  have hf : ∀ j, ∀ k ∈ figs n j, k < 4 := by
    intro j
    induction j with
    | zero => intro k hk; cases hk
    | succ j ih =>
      intro k hk
      rcases List.mem_append.mp hk with h | h
      · exact ih k h
      · split at h
        · rw [List.mem_singleton.mp h]; assumption
        · cases h
  intro k hk
  rcases List.mem_cons.mp hk with rfl | hk
  · omega
  · exact hf 3 k hk
theorem rowL_len (n : Nat) : (rowL n).length ≤ 4 ∧ rowL n ≠ [] := by
  have hf : ∀ j, (figs n j).length ≤ j := by
    intro j
    induction j with
    | zero => exact Nat.le_refl _
    | succ j ih =>
      show (figs n j ++ _).length ≤ _
      rw [List.length_append]
      split <;> simp <;> omega
  refine ⟨?_, by simp [rowL]⟩
  have := hf 3
  simp only [rowL, List.length_cons]; omega
theorem codes_tail {base h : Heap} {L a : Addr} {t1 t2 t3 t4 : Tok} {c1 c2 c3 c4 c5 c6 : Addr × Obj} {tail : List (Addr × Obj)} (N : News base L h (c1 :: (a, W.listOf #[.int 97 t1, .int 10 t2, .int 233 t3, .int 0 t4] 0) :: c6 :: c5 :: c4 :: c3 :: c2 :: tail)) (hal : AllL tail) :
    ∃ cvs tail', CA false cvs [97, 10, 233, 0] ∧ AllL tail' ∧ (∀ p ∈ tail, p ∈ tail') ∧ (a, W.listOf (List.toArray cvs) 0) ∈ tail' ∧ News base L h (c1 :: c6 :: c5 :: c4 :: c3 :: c2 :: tail') := by
  refine ⟨[.int 97 t1, .int 10 t2, .int 233 t3, .int 0 t4], (a, W.listOf #[.int 97 t1, .int 10 t2, .int 233 t3, .int 0 t4] 0) :: tail, .cons ⟨_, rfl⟩ (.cons ⟨_, rfl⟩ (.cons ⟨_, rfl⟩ (.cons ⟨_, rfl⟩ .nil))), hal.cons, fun p hp => .tail _ hp, .head _, fun p hp => N p ?_⟩
  simp only [List.mem_cons] at hp ⊢
  rcases hp with h | h | h | h | h | h | h | h
  · exact .inl h
  · exact .inr (.inr (.inl h))
  · exact .inr (.inr (.inr (.inl h)))
  · exact .inr (.inr (.inr (.inr (.inl h))))
  · exact .inr (.inr (.inr (.inr (.inr (.inl h)))))
  · exact .inr (.inr (.inr (.inr (.inr (.inr (.inl h))))))
  · exact .inr (.inl h)
  · exact .inr (.inr (.inr (.inr (.inr (.inr (.inr h))))))
theorem sub_drop {conc tail : List (Addr × Obj)} {x : Addr × Obj} (k : Nat) : ∀ p ∈ conc.drop k ++ x :: tail, p ∈ x :: (conc ++ tail) := by
  intro p hp
  rcases List.mem_append.mp hp with h | h
  · exact .tail _ (List.mem_append_left _ (List.mem_of_mem_drop h))
  · rcases List.mem_cons.mp h with rfl | h
    · exact .head _
    · exact .tail _ (List.mem_append_right _ h)
noncomputable def isC (o : Obj) : Bool := match o.data with | .cell _ => true | _ => false
def NC (c : Nat) (l : List (Addr × Obj)) : Prop := ∀ p ∈ l, p.1 ≠ c ∨ isC p.2 = false
theorem nc_cons {c : Nat} {x : Addr × Obj} {l : List (Addr × Obj)} (h : x.1 ≠ c ∨ isC x.2 = false) (r : NC c l) : NC c (x :: l) := fun p hp => (List.mem_cons.mp hp).elim (fun e => e ▸ h) (r p)
theorem nc_tail {c : Nat} {l : List (Addr × Obj)} (h : AllL l) : NC c l := fun p hp => .inr (by obtain ⟨vs, n, e⟩ := h p hp; rw [e]; rfl)
theorem nc_app {c : Nat} {l r : List (Addr × Obj)} (h : NC c l) (k : NC c r) : NC c (l ++ r) := fun p hp => (List.mem_append.mp hp).elim (h p) (k p)
theorem st_cell {M : Model} {A : Around} {E : Value → Shared → Prop} {s : Shared} {base : Heap} {L a : Addr} {m : Str → Option Value} {news : List (Addr × Obj)} {name x : Str} {scope : Scope} {cd v : Value} {c : Addr} {o : Obj} {v₀ : Option Value} {Q : Unit → Shared → Prop} (k : Nat)
    (F : Fr base L s.heap m) (N : News base L s.heap news) (hc : (cellsFrom (L + 1) scope.names []).lookup x = some c) (hm : news[k]? = some (c, o)) (hd : o.data = .cell v₀) (hne : NC c (news.eraseIdx k))
    (h : ∀ h' o', Fr base L h' m → News base L h' ((c, o') :: news.eraseIdx k) → o'.data = .cell (some v) → Q () { s with heap := h' })
    (hk : scope.kind = .function := by rfl) (hx : (envOfC name scope L a cd).kindOf x = some .cell := by rfl) :
    wpAny M A (storeName (envOfC name scope L a cd) x v) Q E s := by
  have hmem := List.mem_of_getElem? hm
  refine stCN (own := []) (rest := news.eraseIdx k) F (fun p hp => ?_) hc hd (by simp) (fun p hp q => ?_) h hk hx
  · rcases List.mem_cons.mp hp with rfl | hp
    · exact N _ hmem
    · exact N p (List.mem_of_mem_eraseIdx hp)
  · rcases hne p hp with h1 | h1
    · exact h1 q
    · have e := (N p (List.mem_of_mem_eraseIdx hp)).1
      rw [q, (N _ hmem).1] at e
      rw [← Option.some.inj e] at h1
      simp [isC, hd] at h1
theorem cutI {M : Model} {A : Around} {T : Sem Flow} {Q : Flow → Shared → Prop} {E : Value → Shared → Prop} {s : Shared} {base : Heap} {L : Nat} {m : Str → Option Value} {news : List (Addr × Obj)} {vs : List Value} {ns : List Int} (_F : Fr base L s.heap m) (_N : News base L s.heap news) (_I : IntsAre vs ns)
    (Inv : Shared → Heap → Nat → (Str → Option Value) → List (Addr × Obj) → List Int → Flow → Shared → Prop) (h1 : wpAny M A T (Inv s base L m news ns) E s) (h2 : ∀ f s', Inv s base L m news ns f s' → Q f s') : wpAny M A T Q E s := wpAny_mono h1 h2 fun _ _ e => e
theorem cutF {M : Model} {A : Around} {T : Sem Flow} {Q : Flow → Shared → Prop} {E : Value → Shared → Prop} {s : Shared} {base : Heap} {L : Nat} {m : Str → Option Value} {news : List (Addr × Obj)} (_F : Fr base L s.heap m) (_N : News base L s.heap news)
    (Inv : Shared → Heap → Nat → (Str → Option Value) → List (Addr × Obj) → Flow → Shared → Prop) (h1 : wpAny M A T (Inv s base L m news) E s) (h2 : ∀ f s', Inv s base L m news f s' → Q f s') : wpAny M A T Q E s := wpAny_mono h1 h2 fun _ _ e => e
/-- the law's frame is alone on the stack -/
theorem law_pre {w : World} {p : Program} {loose : List Str} {mg mb : Str → Option Value} {base h : Heap} {L : Nat} {m : Str → Option Value} {name : Str} {scope : Scope} {a : Addr} {cd : Value}
    (X : (hd.heap_1 w.params).In base) (T : TopRead p loose mg mb base) (F : Fr base L h m) (hL : 670 ≤ L) (hk : scope.kind = .function := by rfl) :
    Pre w 310 [L] p loose mg mb (callerA.deeper (envOfC name scope L a cd)) h where
  X := fun b o e => F.keep b o (X b o e)
  T := T.keeps F.keep
  low := by intro b hb; rw [List.mem_singleton.mp hb]; exact hL
  handled := rfl
  depth := by show 1 + claimMargin + 1 ≤ 310; decide
  units := by show 4 + 3 ≤ 310; decide
  stk := ⟨[envOfC name scope L a cd], rfl, rfl, by
    intro env he
    obtain rfl := List.mem_singleton.mp he
    obtain ⟨o, ho, hd⟩ := isD_of_ns F.ns
    exact ⟨by show scope.kind ≠ .module; rw [hk]; decide, L, o, rfl, ho, hd⟩⟩
theorem base_size {w : World} {base : Heap} (X : (hd.heap_1 w.params).In base) : 670 ≤ base.objs.size := by
  have e : (hd.heap_1 w.params).lookup 669 ≠ none := by
    have : ((hd.heap_1 w.params).lookup 669).isSome = true := by kernel_rfl
    intro q; rw [q] at this; cases this
  cases q : (hd.heap_1 w.params).lookup 669 with
  | none => exact absurd q e
  | some o => exact Heap.lt_size (X _ _ q)

section
variable {w : World} {b : Nat} {A : Around} {s : Shared} {p : Program} {loose : List Str} {mg mb : Str → Option Value} {E : Value → Shared → Prop} {Q : Value → Shared → Prop} {base : Heap} {L : Nat} {m : Str → Option Value} {news : List (Addr × Obj)}
theorem law_after {h h' : Heap} (F : Fr base L h m) (N : News base L h news) (k : Kp [] [L] h h') : Fr base L h' m ∧ News base L h' news :=
  ⟨after_fr (fs := [L]) F k (by simp) (fun b hb => by rcases hb with hb | ⟨hb, hn⟩; cases hb; exact absurd (List.mem_singleton.mp hb) hn),
    after_news N k fun p hp => ⟨by simp, by simpa using (N p hp).2.1⟩⟩
theorem law_new {h h' : Heap} {a : Nat} {o : Obj} (F : Fr base L h m) (N : News base L h' news) (h0 : h.get? a = none) (e : h'.get? a = some o) : News base L h' ((a, o) :: news) := by
  intro p hp
  rcases List.mem_cons.mp hp with rfl | hp
  · refine ⟨e, ?_, ?_⟩
    · rintro rfl
      obtain ⟨o, ho, _⟩ := isD_of_ns F.ns
      rw [h0] at ho; cases ho
    · cases q : base.get? a with
      | none => rfl
      | some o' => rw [F.keep _ _ q] at h0; cases h0
  · exact N p hp
theorem ne_new {h : Heap} {a : Nat} (N : News base L h news) (h0 : h.get? a = none) : ∀ p ∈ news, p.1 ≠ a := fun p hp q => by rw [← q, (N p hp).1] at h0; cases h0

theorem rowK {n : Nat} {tn : Tok} (H : Pre w b [L] p loose mg mb A s.heap) (hb : b ≤ 680) (hn : n < 500) (F : Fr base L s.heap m) (N : News base L s.heap news)
    (h : ∀ a h' tk c vs, Fr base L h' m → News base L h' ((a, W.listOf (List.toArray vs) c) :: news) → (∀ p ∈ news, p.1 ≠ a) → CA false vs (rowL n) → Q (.ref a) { s with heap := h', toks := tk }) :
    wpAny (model PG w) A (call (.ref 643) [.int (n : Int) tn]) Q E s := by
  obtain ⟨ah, d, fr, gs, u⟩ := A
  obtain rfl : ah = none := H.handled
  refine wpAny_call (codeAny_mono (row H hb hn) ?_)
  rintro r s' ⟨a, h', tk, c, vs, rfl, rfl, k, h0, e, hc⟩
  obtain ⟨F', N'⟩ := law_after F N k
  exact h a h' tk c vs F' (law_new F N' h0 e) (ne_new N h0) hc
theorem marksK {rows nr : Nat} {rvs : List Value} {rcs : List (List Nat)} (H : Pre w b [L] p loose mg mb A s.heap) (hb : b ≤ 680) (hrows : s.heap.get? rows = some (W.listOf rvs.toArray nr)) (hR : LL false (inH s.heap) rvs rcs) (hlen : rcs.length ≤ 100) (hrow : ∀ r ∈ rcs, r.length ≤ 100 ∧ r ≠ [] ∧ ∀ n ∈ r, n < 4)
    (F : Fr base L s.heap m) (N : News base L s.heap news)
    (h : ∀ a h' tk c vs, Fr base L h' m → News base L h' ((a, W.listOf (List.toArray vs) c) :: news) → (∀ p ∈ news, p.1 ≠ a) → CA false vs (marksL 0 rcs [1, 2, 4, 8]) → Q (.ref a) { s with heap := h', toks := tk }) :
    wpAny (model PG w) A (call (.ref 664) [.ref rows]) Q E s := by
  obtain ⟨ah, d, fr, gs, u⟩ := A
  obtain rfl : ah = none := H.handled
  refine wpAny_call (codeAny_mono (marks H hb hrows hR hlen hrow) ?_)
  rintro r s' ⟨a, h', tk, c, vs, rfl, rfl, k, h0, e, hc⟩
  obtain ⟨F', N'⟩ := law_after F N k
  exact h a h' tk c vs F' (law_new F N' h0 e) (ne_new N h0) hc
/-- the lists of a walk as a ledger of their own -/
theorem ll_ledger {κ : Bool} {h h' : Heap} {news : List (Addr × Obj)} (F : Fr base L h m) : ∀ {vs css}, LL κ (inF h h') vs css → ∃ blk : List (Addr × Obj), LL κ (inN blk) vs css ∧ AllL blk ∧ (∀ p ∈ blk, h.get? p.1 = none) ∧ (News base L h' news → News base L h' (blk ++ news))
  | _, _, .nil => ⟨[], .nil, fun _ h => (List.not_mem_nil h).elim, fun _ h => (List.not_mem_nil h).elim, id⟩
  | _, _, .cons (a := a) (n := n) (ws := ws) ⟨e, h0⟩ c r => by
    obtain ⟨blk, b1, b2, b3, b4⟩ := ll_ledger F r
    refine ⟨(a, W.listOf ws.toArray n) :: blk, .cons (.head _) c (b1.mono fun _ _ _ q => .tail _ q), b2.cons, ?_, fun N => law_new F (b4 N) h0 e⟩
    intro p hp
    rcases List.mem_cons.mp hp with rfl | hp
    · exact h0
    · exact b3 p hp
theorem forthK {κ : Bool} {rows nr : Nat} {rvs : List Value} {rcs : List (List Nat)} {name : Value} {c : Nat} (H : Pre w b [L] p loose mg mb A s.heap) (hb : b ≤ 680) (hrows : s.heap.get? rows = some (W.listOf rvs.toArray nr)) (hR : LL κ (inH s.heap) rvs rcs) (hn : Cd κ name c) (hlen : rcs.length ≤ 100) (hrow : ∀ r ∈ rcs, r.length ≤ 100)
    (F : Fr base L s.heap m) (N : News base L s.heap news)
    (h : ∀ a h' tk c2 vs blk, Fr base L h' m → News base L h' ((a, W.listOf (List.toArray vs) c2) :: (blk ++ news)) → (∀ p ∈ news, p.1 ≠ a) → (∀ p ∈ blk, ∀ q ∈ news, q.1 ≠ p.1) → AllL blk → LL κ (inN blk) vs (forthL rcs [c]) → Q (.ref a) { s with heap := h', toks := tk }) :
    wpAny (model PG w) A (call (.ref 650) [.ref rows, name]) Q E s := by
  obtain ⟨ah, d, fr, gs, u⟩ := A
  obtain rfl : ah = none := H.handled
  refine wpAny_call (codeAny_mono (forth H hb hrows hR hn hlen hrow) ?_)
  rintro r s' ⟨a, h', tk, c2, vs, rfl, rfl, k, h0, e, hc⟩
  obtain ⟨F', N'⟩ := law_after F N k
  obtain ⟨blk, b1, b2, b3, b4⟩ := ll_ledger F hc
  exact h a h' tk c2 vs blk F' (law_new F (b4 N') h0 e) (ne_new N h0) (fun p hp => ne_new N (b3 p hp)) b2 b1
theorem backK' {rows nr : Nat} {rvs : List Value} {rcs : List (List Nat)} {name : Value} {c : Nat} (H : Pre w b [L] p loose mg mb A s.heap) (hb : b ≤ 680) (hrows : s.heap.get? rows = some (W.listOf rvs.toArray nr)) (hR : LL false (inH s.heap) rvs rcs) (hn : Cd false name c) (hlen : rcs.length ≤ 100) (hrow : ∀ r ∈ rcs, r.length ≤ 100 ∧ r ≠ [])
    (F : Fr base L s.heap m) (N : News base L s.heap news)
    (h : ∀ t a k h' tk c2 c3 vs kvs blk, Fr base L h' m → News base L h' ((t, { cls := .type "tuple", data := .seq [Value.ref a, Value.ref k].toArray }) :: (a, W.listOf (List.toArray vs) c2) :: (k, W.listOf (List.toArray kvs) c3) :: (blk ++ news)) → (∀ p ∈ news, p.1 ≠ t ∧ p.1 ≠ a ∧ p.1 ≠ k) → (∀ p ∈ blk, ∀ q ∈ news, q.1 ≠ p.1) → AllL blk →
      LL false (inN blk) vs (backW rcs [c]) → CA false kvs (backK 0 rcs [c]) → Q (.ref t) { s with heap := h', toks := tk }) :
    wpAny (model PG w) A (call (.ref 657) [.ref rows, name]) Q E s := by
  obtain ⟨ah, d, fr, gs, u⟩ := A
  obtain rfl : ah = none := H.handled
  refine wpAny_call (codeAny_mono (back H hb hrows hR hn hlen hrow) ?_)
  rintro r s' ⟨t, a, k, h', tk, c2, c3, vs, kvs, rfl, rfl, kk, t0, a0, k0, et, ea, hc, ek, hk⟩
  obtain ⟨F', N'⟩ := law_after F N kk
  obtain ⟨blk, b1, b2, b3, b4⟩ := ll_ledger F hc
  exact h t a k h' tk c2 c3 vs kvs blk F' (law_new F (law_new F (law_new F (b4 N') k0 ek) a0 ea) t0 et) (fun p hp => ⟨ne_new N t0 p hp, ne_new N a0 p hp, ne_new N k0 p hp⟩) (fun p hp => ne_new N (b3 p hp)) b2 b1 hk
theorem filtL {κ : Bool} {l k : Nat} {vs ws : List Value} {cs ds : List Nat} {nk nl : Nat} (H : Pre w b [L] p loose mg mb A s.heap) (hb : b ≤ 680) (hl : s.heap.get? l = some (W.listOf vs.toArray nl)) (hk : s.heap.get? k = some (W.listOf ws.toArray nk)) (hv : CA κ vs cs) (hw : CA κ ws ds) (hlen : vs.length ≤ 100000)
    (F : Fr base L s.heap m) (N : News base L s.heap news)
    (h : ∀ a h' tk c us, Fr base L h' m → News base L h' ((a, W.listOf (List.toArray us) c) :: news) → (∀ p ∈ news, p.1 ≠ a) → CA κ us (cs.filter (keepc ds)) → Q (.ref a) { s with heap := h', toks := tk }) :
    wpAny (model PG w) A (call (.ref 65) [.ref l, .ref k]) Q E s := by
  obtain ⟨ah, d, fr, gs, u⟩ := A
  obtain rfl : ah = none := H.handled
  refine filtK H (by omega) hl hk hv hw hlen fun a h' tk c us kk h0 e hu => ?_
  obtain ⟨F', N'⟩ := law_after F N kk
  exact h a h' tk c us F' (law_new F N' h0 e) (ne_new N h0) hu
end

end

section

open _root_.PySem _root_.PySem.W _root_.PyProof.Rows _root_.PyProof.V _root_.PySem.Calls _root_.PySem.SeqAt
set_option maxRecDepth 100000
section
variable {prog : Program} {w : World} {A : Around} {E : Value → Shared → Prop} {R : Result → Shared → Prop} {s : Shared} {elt t0 i0 t1 i1 : PySem.Expr} {scope : Scope} {pos : Pos} {acc it : Value} {env : Env}
abbrev two (elt t0 i0 t1 i1 : PySem.Expr) (scope : Scope) (pos : Pos) : PySem.Expr := .ListComp elt [⟨t0, i0, [], 0⟩, ⟨t1, i1, [], 0⟩] scope pos
theorem turn_two0 : compTurn (two elt t0 i0 t1 i1 scope pos) 0 it acc env = (standAt i0.pos >>= fun _ => pyNext it >>= fun r => match r with
      | none => pure (.done .next)
      | some v => letOwnedTupleGo t0 it v >>= fun _ => assign t0 env v >>= fun _ =>
        (eval i1 env >>= fun x => standAt i1.pos >>= fun _ => foldedSetIterable i1 env x >>= fun x => holding [x] (pyIter x) >>= fun it1 => runOwn (.compStart (two elt t0 i0 t1 i1 scope pos) 1 it1 acc env) env >>= fun _ =>
          again (.compLoop (two elt t0 i0 t1 i1 scope pos) 0 it acc env))) := by rfl
theorem turn_two1 : compTurn (two elt t0 i0 t1 i1 scope pos) 1 it acc env = (standAt i1.pos >>= fun _ => pyNext it >>= fun r => match r with
      | none => pure (.done .next)
      | some v => letOwnedTupleGo t1 it v >>= fun _ => assign t1 env v >>= fun _ =>
        (eval elt env >>= fun x => call (.builtin "list.append") [acc, x] >>= fun _ => pure ()) >>= fun _ =>
          again (.compLoop (two elt t0 i0 t1 i1 scope pos) 1 it acc env)) := by rfl

theorem codeAny_two1 (I : Nat → Shared → Prop)
    (turn : ∀ n s, I n s → wpAny (model prog w) A (pyNext it) (fun r s₁ => match r with
      | none => R (.ok .next) s₁
      | some v => wpAny (model prog w) A (assign t1 env v) (fun _ s₂ => wpAny (model prog w) A (eval elt env) (fun x s₃ =>
          wpAny (model prog w) A (call (.builtin "list.append") [acc, x]) (fun _ s₄ => ∃ m, m < n ∧ I m s₄) (notedBy (model prog w) A env fun e s' => R (.error e) s') s₃) (notedBy (model prog w) A env fun e s' => R (.error e) s') s₂) (notedBy (model prog w) A env fun e s' => R (.error e) s') s₁) (notedBy (model prog w) A env fun e s' => R (.error e) s') s)
    (n : Nat) (h : I n s) (ht : ∀ v, letOwnedTupleGo t1 it v = pure () := by intro _; rfl) :
    codeAny (model prog w) A (.compLoop (two elt t0 i0 t1 i1 scope pos) 1 it acc env) R s := by
  refine codeAny_loop rfl I (fun n s hI => ?_) n h
  show wpAny _ A ((compTurn (two elt t0 i0 t1 i1 scope pos) 1 it acc env).onRaise (fun x => do noteFrame x env; theTreesLotGoes x)) _ _ s
  refine wpAny_noted ?_
  rw [turn_two1]
  refine wpAny_bind (wpAny_standAt (wpAny_bind (wpAny_mono (turn n s hI) (fun r s₁ h₁ => ?_) fun _ _ h' => h')))
  cases r with
  | none => exact wpAny_pure h₁
  | some v =>
    refine wpAny_bind (wpAny_of_eq (ht v) ?_)
    refine wpAny_bind (wpAny_mono h₁ (fun _ s₂ h₂ => wpAny_bind (wpAny_bind (wpAny_mono h₂ (fun x s₃ h₃ => wpAny_bind (wpAny_mono h₃ (fun _ s₄ h₄ => wpAny_pure (wpAny_pure ⟨rfl, h₄⟩)) fun _ _ h' => h')) fun _ _ h' => h'))) fun _ _ h' => h')
theorem codeAny_two0 (I : Nat → Shared → Prop)
    (turn : ∀ n s, I n s → wpAny (model prog w) A (pyNext it) (fun r s₁ => match r with
      | none => R (.ok .next) s₁
      | some v => wpAny (model prog w) A (assign t0 env v) (fun _ s₂ => wpAny (model prog w) A (eval i1 env) (fun x s₃ => wpAny (model prog w) A (pyIter x) (fun it1 s₄ =>
          codeAny (model prog w) A (.compStart (two elt t0 i0 t1 i1 scope pos) 1 it1 acc env) (fun r s' => match r with | .ok _ => ∃ m, m < n ∧ I m s' | .error e => cameBackBy (model prog w) A env (notedBy (model prog w) A env fun e s' => R (.error e) s') e s') s₄)
            (notedBy (model prog w) A env fun e s' => R (.error e) s') s₃) (notedBy (model prog w) A env fun e s' => R (.error e) s') s₂) (notedBy (model prog w) A env fun e s' => R (.error e) s') s₁) (notedBy (model prog w) A env fun e s' => R (.error e) s') s)
    (n : Nat) (h : I n s) (ht : ∀ v, letOwnedTupleGo t0 it v = pure () := by intro _; rfl) (hs : ∀ x, foldedSetIterable i1 env x = pure x := by intro _; rfl) :
    codeAny (model prog w) A (.compLoop (two elt t0 i0 t1 i1 scope pos) 0 it acc env) R s := by
  refine codeAny_loop rfl I (fun n s hI => ?_) n h
  show wpAny _ A ((compTurn (two elt t0 i0 t1 i1 scope pos) 0 it acc env).onRaise (fun x => do noteFrame x env; theTreesLotGoes x)) _ _ s
  refine wpAny_noted ?_
  rw [turn_two0]
  refine wpAny_bind (wpAny_standAt (wpAny_bind (wpAny_mono (turn n s hI) (fun r s₁ h₁ => ?_) fun _ _ h' => h')))
  cases r with
  | none => exact wpAny_pure h₁
  | some v =>
    refine wpAny_bind (wpAny_of_eq (ht v) ?_)
    refine wpAny_bind (wpAny_mono h₁ (fun _ s₂ h₂ => wpAny_bind (wpAny_mono h₂ (fun x s₃ h₃ => wpAny_bind (wpAny_standAt (wpAny_bind (wpAny_of_eq (hs x) (wpAny_bind (wpAny_holding (wpAny_mono h₃ (fun it1 s₄ h₄ => ?_) fun _ _ h' => h'))))))) fun _ _ h' => h')) fun _ _ h' => h')
    refine wpAny_bind (wpAny_runOwn (codeAny_mono h₄ fun r s' hr => ?_))
    cases r with
    | ok f => exact wpAny_pure ⟨rfl, hr⟩
    | error e => exact hr
theorem start_two (k : Nat) (hk : k = 0 ∨ k = 1)
    (h0 : codeAny (model prog w) A (.compLoop (two elt t0 i0 t1 i1 scope pos) k it acc env) R s)
    (h : wpAny (model prog w) A (pyIter it) (fun it' s' => codeAny (model prog w) A (.compLoop (two elt t0 i0 t1 i1 scope pos) k it' acc env) R s')
      (notedBy (model prog w) A env fun x s' => R (.error x) s') s) :
    codeAny (model prog w) A (.compStart (two elt t0 i0 t1 i1 scope pos) k it acc env) R s := by
  refine codeAny_of_tree ?_
  show wpAny _ _ ((compStart (two elt t0 i0 t1 i1 scope pos) k it acc env).onRaise (fun x => do noteFrame x env; standAt theWindowsPlace)) _ _ s
  refine wpAny_notedAt ?_
  unfold compStart
  rcases hk with rfl | rfl
  all_goals
    show wpAny _ _ (ask >>= _) _ _ s
    refine wpAny_bind (wpAny_askSetting (wpAny_ite ?_))
    split
    · first
        | exact wpAny_bind (wpAny_pure (wpAny_pure (And.intro rfl h0)))
        | exact wpAny_pure (And.intro rfl h0)
    · first
        | exact wpAny_bind (wpAny_rule (wpAny_bind (wpAny_standAt (wpAny_bind (wpAny_mono h (fun it' s' h' => wpAny_pure (And.intro rfl h')) fun _ _ x => x)))))
        | (refine wpAny_bind (wpAny_rule ?_); show wpAny _ _ (standAt _ >>= _) _ _ s; exact wpAny_bind (wpAny_standAt (wpAny_bind (wpAny_mono h (fun it' s' h' => wpAny_pure (And.intro rfl h')) fun _ _ x => x))))
end
section
variable {prog : Program} {w : World} {A : Around} {s : Shared} {base : Heap} {L : Nat} {m : Str → Option Value} {elt t0 i0 i1 : PySem.Expr} {scope : Scope} {cl : List (Str × Addr)} {pos p1 : Pos} {x1 : Str} {env0 : Env} {C D : Nat}
/-- what a change of one address leaves of frame and ledger -/
theorem but_at {h h' : Heap} {a : Nat} {o' : Obj} {rest : List (Addr × Obj)} {o : Obj} (F : Fr base L h m) (N : News base L h ((a, o) :: rest)) (sb : Heap.ExtBut a h h') (e : h'.get? a = some o') (hne : ∀ p ∈ rest, p.1 ≠ a) : Fr base L h' m ∧ News base L h' ((a, o') :: rest) := by
  refine aside fun Gz hGz => ?_
  obtain ⟨a1, a2, a3⟩ := N _ (.head _)
  refine hGz ?_
  clear hGz Gz
  refine ⟨after_fr (X := [a]) (fs := []) F (Kp.of_keep fun b o hb e => sb b o (by simpa using hb) e) (by simpa using Ne.symm a2) (fun b' hb => by rcases hb with hb | ⟨hb, _⟩; (rw [List.mem_singleton.mp hb]; exact a3); cases hb), ?_⟩
  intro p hp
  rcases List.mem_cons.mp hp with rfl | hp
  · exact ⟨e, a2, a3⟩
  · exact ⟨sb _ _ (hne p hp) (N p (.tail _ hp)).1, (N p (.tail _ hp)).2⟩
theorem swap12 {x y : Addr × Obj} {l : List (Addr × Obj)} {h : Heap} (N : News base L h (x :: y :: l)) : News base L h (y :: x :: l) := fun p hp => N p (by
  simp only [List.mem_cons] at hp ⊢
  rcases hp with h | h | h
  · exact .inr (.inl h)
  · exact .inl h
  · exact .inr (.inr h))
theorem swap13 {x y z : Addr × Obj} {l : List (Addr × Obj)} {h : Heap} (N : News base L h (x :: y :: z :: l)) : News base L h (z :: x :: y :: l) := fun p hp => N p (by
  simp only [List.mem_cons] at hp ⊢
  rcases hp with h | h | h | h
  · exact .inr (.inr (.inl h))
  · exact .inl h
  · exact .inr (.inl h)
  · exact .inr (.inr (.inr h)))
theorem swap31 {x y z : Addr × Obj} {l : List (Addr × Obj)} {h : Heap} (N : News base L h (z :: x :: y :: l)) : News base L h (x :: y :: z :: l) := fun p hp => N p (by
  simp only [List.mem_cons] at hp ⊢
  rcases hp with h | h | h | h
  · exact .inr (.inl h)
  · exact .inr (.inr (.inl h))
  · exact .inl h
  · exact .inr (.inr (.inr h)))
theorem inner2 {I1 l1 n1 : Nat} {ws ys : List Value} {news : List (Addr × Obj)} {oI1 oC : Obj} {m' : Str → Option Value} (hh : A.handled = none) (hx : scope.names.lookup x1 = some .local) (hkind : scope.kind = .function)
    (hel : ∀ (s : Shared) v oC m₂ news' Q E, News base L s.heap news' → (C, oC) ∈ news' → LCg.NsObj oC m₂ → m₂ x1 = some v → Q v s → wpAny (model prog w) A (eval elt (compEnvC scope cl C env0)) Q E s)
    (hl1 : (l1, W.listOf ws.toArray n1) ∈ news) (F : Fr base L s.heap m) (N : News base L s.heap ((I1, oI1) :: (C, oC) :: (D, LCg.lst ys) :: news)) (hI : LIo l1 0 oI1) (hC : LCg.NsObj oC m') (off : LCg.Off3 I1 C D news)
    (ne : (@Ne Nat I1 C) ∧ (@Ne Nat I1 D) ∧ (@Ne Nat C D)) (hsz : ys.length + ws.length ≤ 100000) :
    codeAny (model prog w) A (.compLoop (two elt t0 i0 (.Name x1 p1) i1 scope pos) 1 (.ref I1) (.ref D) (compEnvC scope cl C env0)) (fun r s' => r = .ok .next ∧ ∃ h' tk oC' m'', s' = { s with heap := h', toks := tk } ∧ Fr base L h' m ∧ LCg.NsObj oC' m'' ∧ News base L h' ((C, oC') :: (D, LCg.lst (ys ++ ws)) :: news)) s := by
  have hoff := off.mem
  refine codeAny_two1 (fun k s' => ∃ h tk i oI oC m', s' = { s with heap := h, toks := tk } ∧ i ≤ ws.length ∧ k = ws.length + 1 - i ∧ LIo l1 i oI ∧ LCg.NsObj oC m' ∧ Fr base L h m ∧ News base L h ((I1, oI) :: (C, oC) :: (D, LCg.lst (ys ++ ws.take i)) :: news)) ?_ (ws.length + 1)
    ⟨s.heap, s.toks, 0, oI1, oC, m', rfl, Nat.zero_le _, rfl, hI, hC, F, by simpa using N⟩
  intro k s' hpat2
  refine aside fun Gz hGz => ?_
  obtain ⟨h, tk, i, oI, oC, m', rfl, hi, rfl, hI, hC, F, N⟩ := hpat2
  refine hGz ?_
  clear hGz Gz
  have hl : h.get? l1 = some (W.listOf ws.toArray n1) := (N _ (.tail _ (.tail _ (.tail _ hl1)))).1
  have hneI : ∀ p ∈ ((C, oC) :: (D, LCg.lst (ys ++ ws.take i)) :: news), p.1 ≠ I1 := by
    intro p hp
    rcases List.mem_cons.mp hp with rfl | hp
    · exact Ne.symm ne.1
    · rcases List.mem_cons.mp hp with rfl | hp
      · exact Ne.symm ne.2.1
      · exact (hoff p hp).1
  by_cases hlt : i < ws.length
  · refine (src_list hh I1 l1 n1 ws).item i _ oI _ _ hlt (N _ (.head _)).1 hI hl fun v h₁ o' tk₁ hv e' hI' sb => ?_
    obtain ⟨F₁, N₁⟩ := but_at F N sb e' hneI
    have nsC := hC.ns (N₁ _ (.tail _ (.head _))).1
    refine wpAny_assign_Name (wpAny_storeName_local (lookup_relabel_local hx) nsC (fun h₂ hn₂ hs₂ => ?_) (by simp [compEnvC, relabel, hkind]))
    refine aside fun Gz hGz => ?_
    obtain ⟨oC2, eC2, hC2⟩ := LCg.ns_obj hn₂
    refine hGz ?_
    clear hGz Gz
    obtain ⟨F₂, N₂⟩ := but_at (o' := oC2) F₁ (swap12 N₁) hs₂.extBut eC2 (by
      intro p hp
      rcases List.mem_cons.mp hp with rfl | hp
      · exact ne.1
      · rcases List.mem_cons.mp hp with rfl | hp
        · exact Ne.symm ne.2.2
        · exact (hoff p hp).2.1)
    refine hel _ v oC2 _ _ _ _ N₂ (.head _) hC2 (by simp) ?_
    have hD₂ := (N₂ _ (.tail _ (.tail _ (.head _)))).1
    refine append_at (its := (ys ++ ws.take i).toArray) hD₂ (fun h₃ hs₃ e₃ => ?_) (by simp [sizeLine]; omega)
    have e₃' : h₃.get? D = some (LCg.lst (ys ++ ws.take (i + 1))) := by
      rw [e₃, LCg.lst_snoc, List.append_assoc]
      congr 3
      rw [List.take_succ_eq_append_getElem hlt]
      rw [List.getElem?_eq_getElem hlt] at hv
      rw [Option.some.inj hv]
    obtain ⟨F₃, N₃⟩ := but_at (o' := LCg.lst (ys ++ ws.take (i + 1))) F₂ (swap13 N₂) hs₃.extBut e₃' (by
      intro p hp
      rcases List.mem_cons.mp hp with rfl | hp
      · exact ne.2.2
      · rcases List.mem_cons.mp hp with rfl | hp
        · exact ne.2.1
        · exact (hoff p hp).2.2)
    exact ⟨ws.length + 1 - (i + 1), by omega, h₃, _, i + 1, o', oC2, _, rfl, hlt, rfl, hI', hC2, F₃, swap12 (swap31 N₃)⟩
  · obtain rfl : i = ws.length := by omega
    refine (src_list hh I1 l1 n1 ws).done _ oI _ _ (N _ (.head _)).1 hI hl fun h₁ tk₁ sb => ?_
    rw [List.take_length] at N
    have N0 : News base L h ((C, oC) :: (D, LCg.lst (ys ++ ws)) :: news) := fun p hp => N p (.tail _ hp)
    refine aside fun Gz hGz => ?_
    obtain ⟨a1, a2, a3⟩ := N _ (.head _)
    refine hGz ?_
    clear hGz Gz
    refine ⟨rfl, h₁, _, oC, m', rfl, after_fr (X := [I1]) (fs := []) F (Kp.of_keep fun b o hb e => sb b o (by simpa using hb) e) (by simpa using Ne.symm a2) (fun b' hb => by rcases hb with hb | ⟨hb, _⟩; (rw [List.mem_singleton.mp hb]; exact a3); cases hb), hC, ?_⟩
    intro p hp
    refine ⟨sb _ _ ?_ (N0 p hp).1, (N0 p hp).2⟩
    rcases List.mem_cons.mp hp with rfl | hp
    · exact Ne.symm ne.1
    · rcases List.mem_cons.mp hp with rfl | hp
      · exact Ne.symm ne.2.1
      · exact (hoff p hp).1
/-- for x0 in (a list of lists), for x1 in (a list of codes made from it): the codes in a row -/
theorem comp_two {x0 : Str} {p0 : Pos} {rcs : List (List Nat)} {g : List Nat → List Nat} {I0 l0 n0 : Nat} {vs : List Value} {news : List (Addr × Obj)} {oI0 oC : Obj} {m' : Str → Option Value} (hh : A.handled = none) (hx0 : scope.names.lookup x0 = some .local) (hx : scope.names.lookup x1 = some .local) (hkind : scope.kind = .function)
    (hel : ∀ (s : Shared) v oC m₂ news' Q E, News base L s.heap news' → (C, oC) ∈ news' → LCg.NsObj oC m₂ → m₂ x1 = some v → Q v s → wpAny (model prog w) A (eval elt (compEnvC scope cl C env0)) Q E s)
    (hl0 : (l0, W.listOf vs.toArray n0) ∈ news) (hR : LL false (inN news) vs rcs) (hg : ∀ r ∈ rcs, (g r).length ≤ 100) (hlen : rcs.length ≤ 100)
    (hiter : ∀ i a n2 (ws : List Value) r tail oI oC m₂ ys h tk (E : Value → Shared → Prop) (Q : Value → Shared → Prop), (hi : i < rcs.length) → (a, W.listOf ws.toArray n2) ∈ news → r = rcs[i] → CA false ws r → LCg.NsObj oC m₂ → m₂ x0 = some (.ref a) → Fr base L h m → News base L h ((I0, oI) :: (C, oC) :: (D, LCg.lst ys) :: (news ++ tail)) →
      (∀ l1 h' tk' us n3 news3, Fr base L h' m → News base L h' ((l1, W.listOf (List.toArray us) n3) :: (I0, oI) :: (C, oC) :: (D, LCg.lst ys) :: (news ++ news3)) → (l1 ≠ I0 ∧ l1 ≠ C ∧ l1 ≠ D) → CA false us (g r) → Q (.ref l1) { s with heap := h', toks := tk' }) →
      wpAny (model prog w) A (eval i1 (compEnvC scope cl C env0)) Q E { s with heap := h, toks := tk })
    (F : Fr base L s.heap m) (N : News base L s.heap ((I0, oI0) :: (C, oC) :: (D, LCg.lst []) :: news)) (hI : LIo l0 0 oI0) (hC : LCg.NsObj oC m') (off : LCg.Off3 I0 C D news)
    (ne : (@Ne Nat I0 C) ∧ (@Ne Nat I0 D) ∧ (@Ne Nat C D)) (hs : ∀ x, foldedSetIterable i1 (compEnvC scope cl C env0) x = pure x) :
    codeAny (model prog w) A (.compLoop (two elt (.Name x0 p0) i0 (.Name x1 p1) i1 scope pos) 0 (.ref I0) (.ref D) (compEnvC scope cl C env0))
      (fun r s' => r = .ok .next ∧ ∃ h' tk oC' m'' ys, s' = { s with heap := h', toks := tk } ∧ Fr base L h' m ∧ LCg.NsObj oC' m'' ∧ News base L h' ((C, oC') :: (D, LCg.lst ys) :: news) ∧ CA false ys (rcs.flatMap g)) s := by
  have hoff := off.mem
  have lvs := hR.length
  refine codeAny_two0 (fun k s' => ∃ h tk i oI oC m' ys, s' = { s with heap := h, toks := tk } ∧ i ≤ rcs.length ∧ k = rcs.length + 1 - i ∧ LIo l0 i oI ∧ LCg.NsObj oC m' ∧ Fr base L h m ∧ News base L h ((I0, oI) :: (C, oC) :: (D, LCg.lst ys) :: news) ∧ CA false ys ((rcs.take i).flatMap g) ∧ ys.length ≤ i * 100) ?_ (rcs.length + 1)
    ⟨s.heap, s.toks, 0, oI0, oC, m', [], rfl, Nat.zero_le _, rfl, hI, hC, F, N, .nil, Nat.le_refl _⟩ (hs := hs)
  intro k s' hpat2
  refine aside fun Gz hGz => ?_
  obtain ⟨h, tk, i, oI, oC, m', ys, rfl, hi, rfl, hI, hC, F, N, hca, hyl⟩ := hpat2
  refine hGz ?_
  clear hGz Gz
  have hl : h.get? l0 = some (W.listOf vs.toArray n0) := (N _ (.tail _ (.tail _ (.tail _ hl0)))).1
  have hneI : ∀ p ∈ ((C, oC) :: (D, LCg.lst ys) :: news), p.1 ≠ I0 := by
    intro p hp
    rcases List.mem_cons.mp hp with rfl | hp
    · exact Ne.symm ne.1
    · rcases List.mem_cons.mp hp with rfl | hp
      · exact Ne.symm ne.2.1
      · exact (hoff p hp).1
  by_cases hlt : i < vs.length
  · refine (src_list hh I0 l0 n0 vs).item i _ oI _ _ hlt (N _ (.head _)).1 hI hl fun v h₁ o' tk₁ hv e' hI' sb => ?_
    obtain ⟨F₁, N₁⟩ := but_at F N sb e' hneI
    have nsC := hC.ns (N₁ _ (.tail _ (.head _))).1
    refine wpAny_assign_Name (wpAny_storeName_local (lookup_relabel_local hx0) nsC (fun h₂ hn₂ hs₂ => ?_) (by simp [compEnvC, relabel, hkind]))
    refine aside fun Gz hGz => ?_
    obtain ⟨oC2, eC2, hC2⟩ := LCg.ns_obj hn₂
    refine hGz ?_
    clear hGz Gz
    obtain ⟨F₂, N₂⟩ := but_at (o' := oC2) F₁ (swap12 N₁) hs₂.extBut eC2 (by
      intro p hp
      rcases List.mem_cons.mp hp with rfl | hp
      · exact ne.1
      · rcases List.mem_cons.mp hp with rfl | hp
        · exact Ne.symm ne.2.2
        · exact (hoff p hp).2.1)
    have hlt' : i < rcs.length := by omega
    refine aside fun Gz hGz => ?_
    obtain ⟨a, n2, ws, q1, q2, q3⟩ := hR.at (i := i) (cs := rcs[i]) (by simp [hlt'])
    refine hGz ?_
    clear hGz Gz
    have hv' : vs[i]? = some v := hv
    rw [hv'] at q1; cases q1
    refine hiter i a n2 ws _ [] o' oC2 _ ys h₂ _ _ _ hlt' q2 rfl q3 hC2 (by simp) F₂ (by rw [List.append_nil]; exact swap12 N₂) ?_
    intro l1 h3 tk3 us n3 news3 F₃ N₃ hl1ne hus
    have hl1 : h3.get? l1 = some (W.listOf us.toArray n3) := (N₃ _ (.head _)).1
    refine wpAny_pyIter_list (isList_of hl1) ?_
    have F₄ : Fr base L (h3.push { cls := .type "list_iterator", data := .fields #[.ref l1, .int 0 0] }) m := F₃.push _
    have N₄ := News.push F₃ N₃ { cls := .type "list_iterator", data := .fields #[.ref l1, .int 0 0] } rfl
    have hnew : ∀ p ∈ ((l1, W.listOf us.toArray n3) :: (I0, o') :: (C, oC2) :: (D, LCg.lst ys) :: (news ++ news3)), p.1 ≠ h3.objs.size := fun p hp => Nat.ne_of_lt (Heap.lt_size (N₃ p hp).1)
    have hlus := hus.length
    have hg' := hg _ (List.getElem_mem hlt')
    have N₅ : News base L (h3.push { cls := .type "list_iterator", data := .fields #[.ref l1, .int 0 0] }) ((h3.objs.size, { cls := .type "list_iterator", data := .fields #[.ref l1, .int 0 0] }) :: (C, oC2) :: (D, LCg.lst ys) :: ((I0, o') :: (l1, W.listOf us.toArray n3) :: news)) := fun p hp => N₄ p (by
      simp only [List.mem_cons, List.mem_append] at hp ⊢
      rcases hp with h | h | h | h | h | h
      · exact .inl h
      · exact .inr (.inr (.inr (.inl h)))
      · exact .inr (.inr (.inr (.inr (.inl h))))
      · exact .inr (.inr (.inl h))
      · exact .inr (.inl h)
      · exact .inr (.inr (.inr (.inr (.inr (.inl h))))))
    have off2 : LCg.Off3 h3.objs.size C D ((I0, o') :: (l1, W.listOf us.toArray n3) :: news) := LCg.Off3.of fun p hp => by
      rcases List.mem_cons.mp hp with rfl | hp
      · exact ⟨hnew _ (.tail _ (.head _)), ne.1, ne.2.1⟩
      · rcases List.mem_cons.mp hp with rfl | hp
        · exact ⟨hnew _ (.head _), hl1ne.2.1, hl1ne.2.2⟩
        · exact ⟨hnew p (.tail _ (.tail _ (.tail _ (.tail _ (List.mem_append_left _ hp))))), (hoff p hp).2⟩
    have ne2 : (@Ne Nat h3.objs.size C) ∧ (@Ne Nat h3.objs.size D) ∧ (@Ne Nat C D) := ⟨Ne.symm (hnew _ (.tail _ (.tail _ (.head _)))), Ne.symm (hnew _ (.tail _ (.tail _ (.tail _ (.head _))))), ne.2.2⟩
    have loop : ∀ (R : Result → Shared → Prop) (s3 : Shared), s3.heap = h3.push { cls := .type "list_iterator", data := .fields #[.ref l1, .int 0 0] } → (∀ h' tk oC' m'', Fr base L h' m → LCg.NsObj oC' m'' → News base L h' ((C, oC') :: (D, LCg.lst (ys ++ us)) :: ((I0, o') :: (l1, W.listOf us.toArray n3) :: news)) → R (.ok .next) { s3 with heap := h', toks := tk }) →
        codeAny (model prog w) A (.compLoop (two elt (.Name x0 p0) i0 (.Name x1 p1) i1 scope pos) 1 (.ref h3.objs.size) (.ref D) (compEnvC scope cl C env0)) R s3 := fun R s3 e3 hR3 =>
      codeAny_mono (inner2 (s := s3) (n1 := n3) (ws := us) hh hx hkind hel (.tail _ (.head _)) (e3 ▸ F₄) (e3 ▸ N₅) ⟨rfl, rfl⟩ hC2 off2 ne2 (by rw [hlus]; omega)) (by
        intro r s4 hpat2
        refine aside fun Gz hGz => ?_
        obtain ⟨rfl, h', tk, oC', m'', rfl, Fx, hCx, Nx⟩ := hpat2
        refine hGz ?_
        clear hGz Gz
        exact hR3 h' tk oC' m'' Fx hCx Nx)
    have fin : ∀ (s3 : Shared) h' tk oC' m'', (∃ h tk, s3 = { s with heap := h, toks := tk }) → Fr base L h' m → LCg.NsObj oC' m'' → News base L h' ((C, oC') :: (D, LCg.lst (ys ++ us)) :: ((I0, o') :: (l1, W.listOf us.toArray n3) :: news)) →
        ∃ k', k' < rcs.length + 1 - i ∧ ∃ h tk2 i oI oC m' ys, ({ s3 with heap := h', toks := tk } : Shared) = { s with heap := h, toks := tk2 } ∧ i ≤ rcs.length ∧ k' = rcs.length + 1 - i ∧ LIo l0 i oI ∧ LCg.NsObj oC m' ∧ Fr base L h m ∧ News base L h ((I0, oI) :: (C, oC) :: (D, LCg.lst ys) :: news) ∧ CA false ys ((rcs.take i).flatMap g) ∧ ys.length ≤ i * 100 := by
      intro s3 h' tk oC' m'' hpat5 Fx hCx Nx
      refine aside fun Gz hGz => ?_
      obtain ⟨h9, tk9, rfl⟩ := hpat5
      refine hGz ?_
      clear hGz Gz
      refine ⟨rcs.length + 1 - (i + 1), by omega, h', tk, i + 1, o', oC', m'', ys ++ us, rfl, hlt', rfl, hI', hCx, Fx, fun p hp => Nx p ?_, ?_, ?_⟩
      · simp only [List.mem_cons] at hp ⊢
        rcases hp with h | h | h | h
        · exact .inr (.inr (.inl h))
        · exact .inl h
        · exact .inr (.inl h)
        · exact .inr (.inr (.inr (.inr h)))
      · rw [List.take_succ_eq_append_getElem hlt', List.flatMap_append]
        have : [rcs[i]].flatMap g = g rcs[i] := by simp
        rw [this]
        exact hca.append hus
      · rw [List.length_append, hlus]; omega
    refine start_two 1 (.inr rfl) (loop _ _ rfl fun h' tk oC' m'' Fx hCx Nx => fin _ h' tk oC' m'' ⟨_, _, rfl⟩ Fx hCx Nx) ?_
    refine wpAny_pyIter_listiter (l := l1) (i := 0) ⟨_, (N₅ _ (.head _)).1, rfl, rfl⟩ ?_
    exact loop _ _ rfl fun h' tk oC' m'' Fx hCx Nx => fin _ h' tk oC' m'' ⟨_, _, rfl⟩ Fx hCx Nx
  · obtain rfl : i = rcs.length := by omega
    rw [← lvs] at hI
    refine (src_list hh I0 l0 n0 vs).done _ oI _ _ (N _ (.head _)).1 hI hl fun h₁ tk₁ sb => ?_
    rw [List.take_length] at hca
    have N0 : News base L h ((C, oC) :: (D, LCg.lst ys) :: news) := fun p hp => N p (.tail _ hp)
    refine aside fun Gz hGz => ?_
    obtain ⟨a1, a2, a3⟩ := N _ (.head _)
    refine hGz ?_
    clear hGz Gz
    refine ⟨rfl, h₁, _, oC, m', ys, rfl, after_fr (X := [I0]) (fs := []) F (Kp.of_keep fun b o hb e => sb b o (by simpa using hb) e) (by simpa using Ne.symm a2) (fun b' hb => by rcases hb with hb | ⟨hb, _⟩; (rw [List.mem_singleton.mp hb]; exact a3); cases hb), hC, ?_, hca⟩
    intro p hp
    exact ⟨sb _ _ (hneI p hp) (N0 p hp).1, (N0 p hp).2⟩
end

end

section

open _root_.PySem _root_.PySem.W _root_.PyProof.Rows _root_.PyProof.V _root_.PySem.Calls _root_.PySem.SeqAt
set_option maxRecDepth 100000
section
variable {prog : Program} {w : World} {A : Around} {E : Value → Shared → Prop} {s : Shared} {base : Heap} {L : Nat} {m : Str → Option Value} {elt i0 i1 : PySem.Expr} {scope : Scope} {cl : List (Str × Addr)} {pos spos p0 p1 py : Pos} {x0 x1 y : Str} {env : Env}
def TwoSrc (prog : Program) (w : World) (A : Around) (base : Heap) (L : Nat) (m : Str → Option Value) (env : Env) (i1 : PySem.Expr) (scope : Scope) (cl : List (Str × Addr)) (x0 y : Str) (rcs : List (List Nat)) (g : List Nat → List Nat) (Q : Flow → Shared → Prop) (xv : Value) (s₁ : Shared) : Prop :=
  ∃ l0 n0 vs news, xv = .ref l0 ∧ A.handled = none ∧ Fr base L s₁.heap m ∧ News base L s₁.heap news ∧ (l0, W.listOf (List.toArray vs) n0) ∈ news ∧ LL false (inN news) vs rcs ∧ (∀ r ∈ rcs, (g r).length ≤ 100) ∧ rcs.length ≤ 100 ∧
    (∀ I0 C D, LCg.Off3 I0 C D news → ((@Ne Nat I0 C) ∧ (@Ne Nat I0 D) ∧ (@Ne Nat C D)) → ∀ i a n2 (ws : List Value) r tail oI oC m₂ ys h tk (E : Value → Shared → Prop) (Q : Value → Shared → Prop), (hi : i < rcs.length) → (a, W.listOf ws.toArray n2) ∈ news → r = rcs[i] → CA false ws r → LCg.NsObj oC m₂ → m₂ x0 = some (.ref a) → Fr base L h m → News base L h ((I0, oI) :: (C, oC) :: (D, LCg.lst ys) :: (news ++ tail)) →
      (∀ l1 h' tk' us n3 news3, Fr base L h' m → News base L h' ((l1, W.listOf (List.toArray us) n3) :: (I0, oI) :: (C, oC) :: (D, LCg.lst ys) :: (news ++ news3)) → (l1 ≠ I0 ∧ l1 ≠ C ∧ l1 ≠ D) → CA false us (g r) → Q (.ref l1) { s₁ with heap := h', toks := tk' }) →
      wpAny (model prog w) A (eval i1 (compEnvC scope cl C env)) Q E { s₁ with heap := h, toks := tk }) ∧
    (∀ D h tk ys, Fr base L h (fun z => if z = y then some (.ref D) else m z) → News base L h ((D, LCg.lst ys) :: news) → CA false ys (rcs.flatMap g) → Q .next { s₁ with heap := h, toks := tk })
theorem assign_two {rcs : List (List Nat)} {g : List Nat → List Nat} {Q : Flow → Shared → Prop} (_F₀ : Fr base L s.heap m) (hLe : env.locals = L)
    (hsw : swapsWith (two elt (.Name x0 p0) i0 (.Name x1 p1) i1 scope pos) (some (.Name y py)) spos.line env = pure true)
    (hclos : closureFor scope env = pure cl) (hcell : ∀ z ∈ scope.names, z.2 ≠ .cell) (hkind : scope.kind = .function)
    (hnames : ∀ z ∈ scope.names, z.2 = .local → scope.names.lookup z.1 = some .local) (hx0 : scope.names.lookup x0 = some .local) (hx1 : scope.names.lookup x1 = some .local)
    (hy : env.kindOf y = some .local) (hp : (env.scope.kind == .class || (env.scope.kind == .module && env.locals != env.globals)) = false)
    (hel : ∀ C (s : Shared) v oC m₂ news' Q E, News base L s.heap news' → (C, oC) ∈ news' → LCg.NsObj oC m₂ → m₂ x1 = some v → Q v s → wpAny (model prog w) A (eval elt (compEnvC scope cl C env)) Q E s)
    (h : wpAny (model prog w) A (eval i0 env) (TwoSrc prog w A base L m env i1 scope cl x0 y rcs g Q) E s)
    (hs0 : ∀ x, foldedSetIterable i0 env x = pure x := by intro _; rfl) (hs1 : ∀ C x, foldedSetIterable i1 (compEnvC scope cl C env) x = pure x := by intro _ _; rfl) :
    wpAny (model prog w) A (exec (.Assign [.Name y py] (two elt (.Name x0 p0) i0 (.Name x1 p1) i1 scope pos) spos) env) Q E s := by
  subst hLe
  rw [exec_Assign_Name_used _ _ _ _ hsw]
  refine wpAny_bind (wpAny_standAt (wpAny_bind ?_))
  show wpAny _ A (do let _ ← comprehension (two elt (.Name x0 p0) i0 (.Name x1 p1) i1 scope pos) scope env _ (newList []) false (eval i0 env) (some (assign (.Name y py) env))) _ _ s
  refine wpAny_bind (wpAny_mono (wpAny_comprehension_free (use := some (assign (.Name y py) env)) (Q := fun _ s' => Q .next s') rfl hs0 hclos hkind hnames
    (wpAny_mono h (fun xv s₁ h₁ => ?_) fun _ _ e => e)) (fun _ s' hq => wpAny_pure (wpAny_pure hq)) fun _ _ e => e)
  refine aside fun Gz hGz => ?_
  obtain ⟨l0, n0, vs, news, rfl, hh, F, N, ml0, hR, hg, hlen, hiter, hfin⟩ := h₁
  refine hGz ?_
  clear hGz Gz
  have hl0 := (N _ ml0).1
  refine wpAny_pyIter_list (isList_of hl0) ?_
  have F1 : Fr base env.locals (s₁.heap.push { cls := .type "list_iterator", data := .fields #[.ref l0, .int 0 0] }) m := F.push _
  have N1 := News.push F N { cls := .type "list_iterator", data := .fields #[.ref l0, .int 0 0] } rfl
  have off1 : ∀ p ∈ news, p.1 ≠ s₁.heap.objs.size := fun p hp => Nat.ne_of_lt (Heap.lt_size (N p hp).1)
  generalize hI0 : s₁.heap.objs.size = I0 at *
  generalize hH1 : s₁.heap.push { cls := .type "list_iterator", data := .fields #[.ref l0, .int 0 0] } = H1 at *
  refine wpAny_newObj_type (wpAny_newFunctionEnv hcell (by intro y hy; simp at hy) (fun h₂ hns₂ hsb₂ => ?_) hkind)
  dsimp only at hns₂ hsb₂ ⊢
  have F2 : Fr base env.locals (H1.push { cls := .type "list", data := .seq ([] : List Value).toArray }) m := F1.push _
  have N2 := News.push F1 N1 { cls := .type "list", data := .seq ([] : List Value).toArray } rfl
  have off2 : ∀ p ∈ ((I0, { cls := .type "list_iterator", data := .fields #[.ref l0, .int 0 0] }) :: news : List (Addr × Obj)), p.1 ≠ H1.objs.size := fun p hp => Nat.ne_of_lt (Heap.lt_size (N1 p hp).1)
  generalize hD : H1.objs.size = D at *
  generalize hH2 : H1.push { cls := .type "list", data := .seq ([] : List Value).toArray } = H2 at *
  have off3 : ∀ p ∈ ((D, { cls := .type "list", data := .seq ([] : List Value).toArray }) :: (I0, { cls := .type "list_iterator", data := .fields #[.ref l0, .int 0 0] }) :: news : List (Addr × Obj)), p.1 ≠ H2.objs.size := fun p hp => Nat.ne_of_lt (Heap.lt_size (N2 p hp).1)
  have hLC : env.locals ≠ H2.objs.size := Nat.ne_of_lt F2.ns.lt
  have hC0 : base.get? H2.objs.size = none := by
    cases q : base.get? H2.objs.size with
    | none => rfl
    | some o => exact absurd (Heap.lt_size (F2.keep _ _ q)) (Nat.lt_irrefl _)
  generalize hC : H2.objs.size = C at *
  have keep : ∀ b o, H2.get? b = some o → h₂.get? b = some o := fun b o e => hsb₂.extBut b o (fun q => by have := Heap.lt_size e; rw [q, ← hC] at this; exact Nat.lt_irrefl _ this) (Heap.get?_push_of_some _ e)
  have F3 : Fr base env.locals h₂ m := F2.keeps keep
  refine aside fun Gz hGz => ?_
  obtain ⟨oC, eC, hoC⟩ := LCg.ns_obj hns₂
  refine hGz ?_
  clear hGz Gz
  have N3 : News base env.locals h₂ ((I0, { cls := .type "list_iterator", data := .fields #[.ref l0, .int 0 0] }) :: (C, oC) :: (D, LCg.lst []) :: news) := by
    intro p hp
    simp only [List.mem_cons] at hp
    rcases hp with rfl | rfl | rfl | hp
    · exact ⟨keep _ _ (N2 _ (.tail _ (.head _))).1, (N2 _ (.tail _ (.head _))).2⟩
    · exact ⟨eC, Ne.symm hLC, hC0⟩
    · exact ⟨keep _ _ (N2 _ (.head _)).1, (N2 _ (.head _)).2⟩
    · exact ⟨keep _ _ (N2 _ (.tail _ (.tail _ hp))).1, (N2 _ (.tail _ (.tail _ hp))).2⟩
  have ne : (@Ne Nat I0 C) ∧ (@Ne Nat I0 D) ∧ (@Ne Nat C D) := ⟨off3 _ (.tail _ (.head _)), off2 _ (.head _), Ne.symm (off3 _ (.head _))⟩
  have off : LCg.Off3 I0 C D news := LCg.Off3.of fun p hp => ⟨off1 p hp, off3 p (.tail _ (.tail _ hp)), off2 p (.tail _ hp)⟩
  have loop : ∀ (s3 : Shared), s3.heap = h₂ → (∃ h tk, s3 = { s₁ with heap := h, toks := tk }) → codeAny (model prog w) A (.compLoop (two elt (.Name x0 p0) i0 (.Name x1 p1) i1 scope pos) 0 (.ref I0) (.ref D) (compEnvC scope cl C env)) (compPost (model prog w) A E (some (assign (.Name y py) env)) (fun _ s' => Q .next s') (.ref D) C) s3 := by
    intro s3 e3 hpat2
    refine aside fun Gz hGz => ?_
    obtain ⟨h9, tk9, rfl⟩ := hpat2
    refine hGz ?_
    clear hGz Gz
    refine codeAny_mono (comp_two (s := { s₁ with heap := h9, toks := tk9 }) (n0 := n0) hh hx0 hx1 hkind (hel C) ml0 hR hg hlen (hiter I0 C D off ne) (e3 ▸ F3) (e3 ▸ N3) ⟨rfl, rfl⟩ hoC off ne (hs1 C)) ?_
    intro r s4 hpat2
    refine aside fun Gz hGz => ?_
    obtain ⟨rfl, h', tk, oC', m'', ys, rfl, Fx, hCx, Nx, hca⟩ := hpat2
    refine hGz ?_
    clear hGz Gz
    show wpAny _ A (assign (.Name y py) env (.ref D)) _ _ _
    refine wpAny_assign_Name (wpAny_storeName_local hy Fx.ns (fun h₅ hn₅ hs₅ => ?_) hp)
    have hL₀ : base.get? env.locals = none := Heap.get?_none_of_le Fx.above
    have F₅ : Fr base env.locals h₅ (fun z => if z = y then some (.ref D) else m z) := ⟨hn₅, fun b o e => hs₅.extBut b o (fun q => by rw [q, hL₀] at e; cases e) (Fx.keep b o e), Fx.above⟩
    have hCL : C ≠ env.locals := Ne.symm hLC
    refine ⟨m'', (hCx.ns (Nx _ (.head _)).1).sameBut hs₅ hCL, fun h'' hs'' => hfin D h'' _ ys (F₅.change hs'' hCL hC0) (fun p hp => ?_) hca⟩
    have hp' : p ∈ (C, oC') :: (D, LCg.lst ys) :: news := .tail _ hp
    have z : h₅.get? p.1 = some p.2 := hs₅.extBut _ _ (Nx p hp').2.1 (Nx p hp').1
    refine ⟨hs''.extBut _ _ ?_ z, (Nx p hp').2⟩
    rcases List.mem_cons.mp hp with rfl | hp
    · exact Ne.symm ne.2.2
    · exact (off.mem p hp).2.1
  refine start_two 0 (.inl rfl) (loop _ rfl ⟨_, _, rfl⟩) ?_
  refine wpAny_pyIter_listiter (l := l0) (i := 0) ⟨_, (N3 _ (.head _)).1, rfl, rfl⟩ ?_
  exact loop _ rfl ⟨_, _, rfl⟩
end

end

section

open _root_.PySem _root_.PySem.W _root_.PyProof.Rows _root_.PyProof.V _root_.PySem.Calls _root_.PySem.SeqAt
set_option maxRecDepth 100000
section
variable {M : Model} {A : Around} {E : Value → Shared → Prop} {s : Shared} {env : Env}
theorem dite_no {c : Prop} [Decidable c] {t : c → Bool} {e : ¬c → Bool} (h : ¬c) (k : e h = false) : dite c t e = false := by rw [dif_neg h]; exact k
theorem hold_ne {id : String} {a : Args} (hh : hold (.builtin id a) = false) : (id ≠ "bytearray.__contains__" ∧ id ≠ "bytearray.__mod__" ∧ id ≠ "bytearray.__rmod__" ∧ id ≠ "_struct.pack_into.held" ∧ id ≠ "bytearray.find.held") ∧ Builtin.Bytes.decodersThatHold.contains id = false := by
  obtain ⟨h1, h2⟩ := Bool.or_eq_false_iff.mp (show (["bytearray.__contains__", "bytearray.__mod__", "bytearray.__rmod__", "_struct.pack_into.held", "bytearray.find.held"].contains id || Builtin.Bytes.decodersThatHold.contains id) = false from hh)
  refine ⟨?_, h2⟩
  refine ⟨?_, ?_, ?_, ?_, ?_⟩ <;> (rintro rfl; exact absurd h1 (by decide))
theorem exported_N {v : Value} {Q : Bool → Shared → Prop} (h : Q false s) : wpN M A (Builtin.Bytes.exported v) Q E s := fun Γ p _ hc hb => by
  show Q (((Γ.code, p) :: Γ.below).any _) s
  rw [List.any_eq_false.mpr ?_]
  · exact h
  · intro x hx
    have hh : hold x.1 = false := by
      rcases List.mem_cons.mp hx with rfl | hx
      · exact hc
      · exact hb x hx
    clear hx
    obtain ⟨c, q⟩ := x
    dsimp only at hh
    refine Bool.eq_false_iff.mp ?_
    delta Builtin.Bytes.exported.match_1
    cases c with
    | builtin id a =>
      obtain ⟨⟨n1, n2, n3, n4, n5⟩, hd⟩ := hold_ne hh
      obtain ⟨pos, kw⟩ := a
      refine dite_no n1 (dite_no n2 (dite_no n3 (dite_no n4 (dite_no n5 ?_))))
      cases pos with
      | nil => rfl
      | cons x r =>
        show (Builtin.Bytes.sameRef x v && Builtin.Bytes.decodersThatHold.contains id) = false
        rw [hd, Bool.and_false]
    | _ => rfl
theorem ifExp_N {test body orelse : PySem.Expr} {pos : Pos} {Q : Value → Shared → Prop}
    (h : wpAny M A (isTrue test env (eval test env)) (fun b s₁ => if b then wpN M A (eval body env) Q E s₁ else wpN M A (eval orelse env) Q E s₁) E s) : wpN M A (eval (.IfExp test body orelse pos) env) Q E s := by
  rw [arm_eval_IfExp]
  refine wpN_step (wpAny_mono h (fun b s₁ q => ?_) fun _ _ q => q)
  cases b <;> exact q
theorem assignAttr_N {o value : PySem.Expr} {attr : Str} {pos' pos : Pos} {Q : Flow → Shared → Prop}
    (h : wpN M A (eval value env) (fun v s₁ => wpAny M A (eval o env) (fun ov s₂ => wpAny M A (setAttr ov attr v) (fun _ => Q .next) E s₂) E s₁) E s)
    (hs : swapsWith value (some (.Attribute o attr pos')) pos.line env = pure false := by rfl) : wpN M A (exec (.Assign [.Attribute o attr pos'] value pos) env) Q E s := fun Γ p hΓ b c => by
  simp only [plainObj_exec_Assign_Attribute o attr pos' value pos hs, assign_Attribute, Sem.wp_bind', Sem.wp_holding, Sem.wp_cmd_standAt, Sem.wp_release, Sem.wp_pure']
  exact Sem.wp_mono M Γ _ (fun v p₁ s₁ q => Sem.wp_mono M Γ _ (fun ov _ s₂ q => q Γ _ hΓ) (fun _ _ _ q => q) _ _ (q Γ p₁ hΓ)) (fun _ _ _ q => q) _ _ (h Γ _ hΓ b c)
end
section
variable {prog : Program} {w : World} {A : Around} {R : Result → Shared → Prop} {s : Shared}
theorem builtin_N {id : String} {args : Args} {b : Builtin} (hb : entryFor table id = some b) (hh : hold (.builtin id args) = false)
    (h : wpN (model prog w) (A.under (.builtin id args)) (b args) (fun fin s' => match fin with | .done f => R (.ok f) s' | .again c' => c'.quiet = true ∧ codeN (model prog w) A c' R s') (fun e s' => R (.error e) s') s) :
    codeN (model prog w) A (.builtin id args) R s := by
  refine codeN_tree hh ?_
  show wpN _ _ (match entryFor table id with | some b => b args | none => unsupported ((withoutEnding? id "#data").getD id)) _ _ s
  rw [hb]; exact h
theorem callBuiltin_N {id : String} {args : Args} (hq : (Code.builtin id args).quiet = true)
    (h : wpAny (model prog w) A.in1 (checkBuiltinCall id args) (fun _ s₁ => codeN (model prog w) A (.builtin id args) R s₁) (fun e s' => R (.error e) s') s) : codeN (model prog w) A (.call (.builtin id) args) R s := by
  refine codeN_tree rfl ?_
  show wpN _ A.in1 (do checkBuiltinCall id args; again (.builtin id args)) _ _ s
  exact wpN_step (wpAny_mono h (fun _ s₁ q => wpN_any (wpAny_pure ⟨hq, q⟩)) fun _ _ q => q)
theorem callType_N {T : String} {args : Args} (h : codeN (model prog w) A (.builtin "type.__call__" ⟨.type T :: args.pos, args.kw⟩) R s) : codeN (model prog w) A (.call (.type T) args) R s := by
  refine codeN_tree rfl ?_
  show wpN _ A.in1 (callAny (.type T) args) _ _ s
  exact wpN_any (wpAny_pure ⟨Code.quiet_builtin _ (by decide +kernel), h⟩)
end

end

section

open _root_.PySem _root_.PySem.W _root_.PyProof.Rows _root_.PyProof.V _root_.PySem.Calls _root_.PySem.SeqAt
set_option maxRecDepth 100000
set_option maxHeartbeats 4000000
theorem ba_slot_init : Slot "bytearray" "__init__" "bytearray.__init__" :=
  .of (owner := "bytearray") (n := "__init__") (by rw [typeLookup_type, builtinLookup_eq_fast]; kernel_rfl) (by decide +kernel) (by decide +kernel) (by decide +kernel)
    (by first | exact .inl (by decide +kernel) | exact .inr (by decide +kernel)) (by rw [isSubtype_type]; kernel_rfl)
theorem ba_mro : mroOf (.type "bytearray") = pure [.type "bytearray", .type "object"] := by rw [mroOf_type]; kernel_rfl
theorem ba_new2 : typeLookup (.type "bytearray") "__new__" = pure (some (.builtin "bytearray.__new__")) := by rw [typeLookup_type, builtinLookup_eq_fast]; kernel_rfl
theorem ba_called : TypeCalled "bytearray" "bytearray.__new__" "bytearray.__init__" :=
  ⟨by decide +kernel, by decide +kernel, ⟨_, _, ba_mro⟩, madeBy_type ba_mro ba_new2 (by decide +kernel), by decide +kernel, by rw [isSubtype_type]; kernel_rfl, ba_slot_init⟩
theorem ba_typeCall (a : Value) : checkTypeCall "bytearray" ⟨[a], []⟩ = pure () := by kernel_rfl
theorem ba_newCall (a : Value) : checkBuiltinCall "bytearray.__new__" ⟨[.type "bytearray", a], []⟩ = pure () := by kernel_rfl
theorem ba_entry_new : entryFor table "bytearray.__new__" = some Builtin.«list.__new__» := 
  entryFor_alias (id' := "list.__new__") (by kernel_rfl) (by first | rfl | decide +kernel) (by decide +kernel) (by kernel_rfl)
theorem ba_entry_init : entryFor table "bytearray.__init__" = some Builtin.«bytearray.__init__» := entryFor_of_tree (by kernel_rfl)
theorem ba_plain_new : plainId "bytearray.__new__" = true := by decide +kernel
theorem ba_plain_init : plainId "bytearray.__init__" = true := by decide +kernel
theorem ba_args (a b : Value) : argsOk "bytearray.__init__" ⟨[a, b], []⟩ := by unfold argsOk; kernel_rfl

end

section

open _root_.PySem _root_.PySem.W _root_.PyProof.Rows _root_.PyProof.V _root_.PySem.Calls _root_.PySem.SeqAt
set_option maxRecDepth 1000000
set_option maxHeartbeats 4000000
theorem owner_ba_new : ("bytearray.__new__".splitOn ".__new__").headD "" = "bytearray" := by simp +decide [String.splitOn, String.splitOnAux]
theorem sub_ba_self : isSubtype (.type "bytearray") (.type "bytearray") = pure true := by rw [isSubtype_type]; kernel_rfl
section
variable {prog : Program} {w : World} {A : Around} {E : Value → Shared → Prop} {s : Shared}
theorem code_ba_new (a : Value) {Q₁ : Value → Shared → Prop}
    (h : Q₁ (.ref s.heap.objs.size) { s with heap := s.heap.push { cls := .type "bytearray", data := .bytearray #[] } }) :
    codeAny (model prog w) A (.call (.builtin "bytearray.__new__") ⟨[.type "bytearray", a], []⟩) (wants Q₁ E) s := by
  refine codeAny_of_tree ?_
  show wpAny _ A.in1 (do checkBuiltinCall "bytearray.__new__" ⟨[.type "bytearray", a], []⟩; again (.builtin "bytearray.__new__" ⟨[.type "bytearray", a], []⟩)) _ _ s
  refine wpAny_bind (wpAny_of_eq (ba_newCall a) (wpAny_pure ⟨plainId_quiet ba_plain_new _, codeAny_builtin_stack ba_entry_new rfl fun p st => ?_⟩))
  rw [Around.under_plainId ba_plain_new _]
  have hsub := sub_ba_self
  have hown := owner_ba_new
  obtain ⟨hp, g, d, tk, os⟩ := s
  simp only [hown]
  wp_walk
  exact h
end

end

section

open _root_.PySem _root_.PySem.W _root_.PyProof.Rows _root_.PyProof.V _root_.PySem.Calls _root_.PySem.SeqAt
set_option maxRecDepth 1000000
set_option maxHeartbeats 4000000
section
variable {prog : Program} {w : World} {A : Around} {E : Value → Shared → Prop} {s : Shared}
theorem own_release_ba {S : Nat} (hS : s.heap.get? S = some { cls := .type "bytearray", data := .bytearray #[] }) {Q : Bool → Shared → Prop} (h : Q false s) : wpAny (model prog w) A (Builtin.Bytes.ownRelease (.ref S)) Q E s := by
  obtain ⟨hp, g, d, tk, os⟩ := s
  dsimp only at hS
  have tS : Looks (model prog w) hp (typeOf (.ref S)) (.type "bytearray") := (Looks.ld hS).andThen .now
  have r1 : Looks (model prog w) hp (typeLookup (.type "bytearray") "__release_buffer__") (some (.builtin "bytearray.__release_buffer__")) := Looks.of_pure (by rw [typeLookup_type, builtinLookup_eq_fast]; kernel_rfl)
  have r2 : Looks (model prog w) hp (isSubtype (.type "bytearray") (.type "bytearray")) true := Looks.of_pure sub_ba_self
  have e1 : ("bytearray.__release_buffer__".endsWith ("." ++ "__release_buffer__")) = true := by decide +kernel
  have e2 : ("bytearray.__release_buffer__".dropRight ("__release_buffer__".length + 1)) = "bytearray" := by decide +kernel
  unfold Builtin.Bytes.ownRelease Builtin.Bytes.slotIsOwn specialOf isInstance
  repeat (first | exact h | lk | simp only [e1, e2, Bool.not_true, Bool.false_eq_true, if_false, if_true])
theorem wpAny_updateBytearray {M : Model} {a : Addr} {c : Value} {d : Option Addr} {b : Array UInt8} {n : Nat} {sl : Array (Option Value)} {f : Array UInt8 → Array UInt8} {Q : Unit → Shared → Prop} (ho : s.heap.get? a = some ⟨c, d, .bytearray b n, sl⟩) (hz : (f b).size ≤ sizeLine)
    (h : Q () { s with heap := s.heap.update a (Obj.mapBytearray f) }) : wpAny M A (updateBytearray a f) Q E s := by
  unfold updateBytearray
  refine wpAny_bind (wpAny_load ho ?_)
  refine wpAny_bind (wpAny_update ho ?_)
  refine wpAny_lookBehind (o := Obj.mapBytearray f ⟨c, d, .bytearray b n, sl⟩) (Heap.get?_update_self _ ho rfl) ?_ h
  show (if (f b).size > sizeLine then some "bytearray:memory" else none) = none
  exact if_neg (Nat.not_lt.mpr hz)
theorem ba_init_N {S : Nat} {bs : Array UInt8} {tb : Tok} {Q : Fin → Shared → Prop} (hS : s.heap.get? S = some { cls := .type "bytearray", data := .bytearray #[] }) (hz : bs.size ≤ sizeLine) (h : ∀ h', h'.get? S = some { cls := .type "bytearray", data := .bytearray bs } → (∀ b, b ≠ S → h'.get? b = s.heap.get? b) → h'.objs.size = s.heap.objs.size → Q (.done (.ret .none)) { s with heap := h' }) :
    wpN (model prog w) A (Builtin.«bytearray.__init__» ⟨[.ref S, .bytes bs tb], []⟩) Q E s := by
  unfold Builtin.«bytearray.__init__»
  dsimp only
  refine wpN_step (own_release_ba hS ?_)
  simp only [Bool.false_eq_true, if_false]
  have eb : Builtin.Bytes.bindOptional "bytearray.__init__" "bytearray" ["source", "encoding", "errors"] [Value.bytes bs tb] [] = pure [some (Value.bytes bs tb), none, none] := by kernel_rfl
  rw [eb]
  refine wpN_step (wpAny_pure ?_)
  dsimp only
  refine wpN_step (wpAny_pure ?_)
  refine wpN_step (wpAny_pure ?_)
  refine wpN_bind (wpN_bind (exported_N ?_))
  refine wpN_any ?_
  dsimp only [toBool]
  unfold Builtin.Bytes.exportsOf
  obtain ⟨hp, g, d, tk, os⟩ := s
  dsimp only at hS
  generalize hQ : (fun (a : Bool) (s' : Shared) => wpN (model prog w) A _ Q E s') = Q2
  repeat lk
  subst hQ
  dsimp only
  refine wpN_any ?_
  have i1 : Looks (model prog w) hp (typeLookup (.type "bytes") "__index__") none := Looks.of_pure (by rw [typeLookup_type, builtinLookup_eq_fast]; kernel_rfl)
  have i2 : Looks (model prog w) hp (typeLookup (.type "bytes") "__buffer__") (some (.builtin "bytes.__buffer__")) := Looks.of_pure (by rw [typeLookup_type, builtinLookup_eq_fast]; kernel_rfl)
  have i3 : Looks (model prog w) hp (typeLookup (.type "bytes") "__release_buffer__") none := Looks.of_pure (by rw [typeLookup_type, builtinLookup_eq_fast]; kernel_rfl)
  have e1 : ((toString "bytes" ++ toString "." ++ toString (Str.ofString "__buffer__").toString).endsWith ("." ++ "__buffer__")) = true := by decide +kernel
  have e2 : ((toString "bytes" ++ toString "." ++ toString (Str.ofString "__buffer__").toString).dropRight ("__buffer__".length + 1)) = "bytes" := by decide +kernel
  refine wpAny_bind (wpAny_updateBytearray hS (Nat.zero_le _) ?_)
  have hS2 := Heap.get?_update_self (Obj.mapBytearray fun _ => #[]) hS rfl
  have hO2 : ∀ b, b ≠ S → (hp.update S (Obj.mapBytearray fun _ => #[])).get? b = hp.get? b := fun b q => Heap.get?_update_other _ _ (Ne.symm q)
  have hZ2 : (hp.update S (Obj.mapBytearray fun _ => #[])).objs.size = hp.objs.size := Heap.size_update ..
  generalize hp.update S (Obj.mapBytearray fun _ => #[]) = hp2 at hS2 hO2 hZ2 ⊢
  repeat (first | (with_reducible refine wpAny_bind (wpAny_updateBytearray hS2 hz ?_)) | lk | simp only [e1, e2, Bool.not_true, Bool.false_eq_true, if_false, if_true])
  exact (h (hp2.update S (Obj.mapBytearray fun _ => bs)) (Heap.get?_update_self (Obj.mapBytearray fun _ => bs) hS2 rfl) (fun b q => (Heap.get?_update_other _ _ (Ne.symm q)).trans (hO2 b q)) ((Heap.size_update ..).trans hZ2))
end
section
variable {w : World} {A : Around} {E : Value → Shared → Prop} {s : Shared} {prog : Program}
/-- bytearray(b) for bytes, no built-in on the stack that holds a bytearray -/
theorem make_ba_N {bs : Array UInt8} {tb : Tok} {Q : Value → Shared → Prop} (hz : bs.size ≤ sizeLine)
    (h : ∀ S h', s.heap.get? S = none → h'.get? S = some { cls := .type "bytearray", data := .bytearray bs } → (∀ b o, s.heap.get? b = some o → h'.get? b = some o) → Q (.ref S) { s with heap := h' }) :
    wpN (model prog w) A (call (.type "bytearray") [.bytes bs tb]) Q E s := by
  refine wpN_call (callType_N ?_)
  refine builtin_N F.entry_type_call rfl ?_
  rw [Around.under_plain (weight_type_call_type "bytearray" [_] []) (units_type_call_type "bytearray" [_] [])]
  have ft := ba_called
  obtain ⟨c, tl, hmro⟩ := ft.mro
  have hmade := ft.made
  have hsub := ft.sub
  have h1 := ft.notType
  have h2 := ft.canCreate
  have hct := ba_typeCall (.bytes bs tb)
  unfold Builtin.«type.__call__»
  dsimp only
  simp only [h1, Bool.false_eq_true, if_false, h2, hct]
  refine wpN_step (wpAny_pure ?_)
  rw [hmro]
  refine wpN_step (wpAny_pure ?_)
  simp only [List.isEmpty_cons, Bool.false_eq_true, if_false]
  rw [hmade]
  refine wpN_step (wpAny_pure ?_)
  dsimp only
  refine wpN_step (wpAny_pure ?_)
  refine wpN_step (wpAny_holding (wpAny_call (code_ba_new _ ?_)))
  have hS : (s.heap.push { cls := .type "bytearray", data := .bytearray #[] }).get? s.heap.objs.size = some { cls := .type "bytearray", data := .bytearray #[] } := by heap_get
  have hk : ∀ b o, s.heap.get? b = some o → (s.heap.push { cls := .type "bytearray", data := .bytearray #[] }).get? b = some o := fun b o e => Heap.get?_push_of_some _ e
  have hS0 : s.heap.get? s.heap.objs.size = none := by
    cases q : s.heap.get? s.heap.objs.size with
    | none => rfl
    | some o => exact absurd (Heap.lt_size q) (Nat.lt_irrefl _)
  obtain ⟨h0, g, d, tk, os⟩ := s
  dsimp only at hS hk hS0 ⊢
  generalize h0.push { cls := .type "bytearray", data := .bytearray #[] } = hp at hS hk ⊢
  generalize h0.objs.size = S at hS hS0 ⊢
  have tS : Looks (model prog w) hp (typeOf (.ref S)) (.type "bytearray") := (Looks.ld hS).andThen .now
  have r2 : Looks (model prog w) hp (isSubtype (.type "bytearray") (.type "bytearray")) true := Looks.of_pure sub_ba_self
  have r3 : Looks (model prog w) hp (typeLookup (.type "bytearray") "__init__") (some (.builtin "bytearray.__init__")) := Looks.of_pure ba_called.init.lookup
  have r4 : Looks (model prog w) hp (bindSpecial (.builtin "bytearray.__init__") (.ref S)) (.builtin "bytearray.__init__", [.ref S]) := Looks.of_pure (ba_called.init.bind _)
  refine wpN_step ?_
  unfold isInstance
  repeat lk
  simp only [Bool.not_true, Bool.false_eq_true, if_false]
  refine wpN_bind (wpN_holding ?_)
  unfold callSpecial? specialOf
  refine wpN_step ?_
  repeat lk
  dsimp only
  refine wpN_holding ?_
  refine wpN_step ?_
  repeat lk
  dsimp only
  refine wpN_bind (wpN_call (callBuiltin_N (plainId_quiet ba_plain_init _) ?_))
  refine ba_called.init.check _ _ _ _ _ _ _ _ (by exact ⟨_, hS, rfl⟩) (ba_args _ _) ?_
  refine builtin_N ba_entry_init rfl (ba_init_N hS hz fun h' e1 e2 e3 => ?_)
  refine wpN_any (wpAny_pure ?_)
  dsimp only
  simp only [bne_self_eq_false, Bool.false_eq_true, if_false]
  refine wpN_any (wpAny_pure (h S h' hS0 e1 fun b o e => ?_))
  rw [e2 b (fun q => by rw [q, hS0] at e; cases e)]
  exact hk b o e
end

end

section

open _root_.PySem _root_.PySem.W _root_.PyProof.Rows _root_.PyProof.V _root_.PySem.Calls _root_.PySem.SeqAt
set_option maxRecDepth 100000
set_option maxHeartbeats 4000000
theorem made_none {K : Frag} {M : Model} {h : Heap} {C : Addr} {oc : Value} {od : Option Addr} {cd : ClassData} {sl : Array (Option Value)} {c : Value} {l : List Value} (X : K.In h) (ho : K.lookup C = some ⟨oc, od, .cls cd, sl⟩) (hl : cd.mro = c :: l) (h4 : sl.toList[4]? = some (some Value.none)) :
    Looks M h (Bind.madeBy (.ref C)) none := by
  have hc : clsIn K C = some cd := by unfold clsIn; rw [ho]
  have hm : Looks M h (mroOf (.ref C)) cd.mro := (looks_clsIn X hc).andThen .now
  intro A Q E s k q
  unfold Bind.madeBy
  refine wpAny_bind (hm A _ E s k ?_)
  rw [hl, List.forIn_cons]
  refine wpAny_bind (wpAny_bind (wpAny_bind (wpAny_bind (wpAny_loadPart (k _ _ (X _ _ ho)) (wpAny_pure ?_)))))
  dsimp only
  rw [← Array.getElem?_toList, h4]
  exact wpAny_pure (wpAny_pure (wpAny_pure q))
theorem made_obj {M : Model} {h : Heap} : Looks M h (Bind.madeBy (.type "object")) (some "object.__new__") := by
  intro A Q E s k q
  have e1 : mroOf (.type "object") = pure [.type "object"] := by rw [mroOf_type]; kernel_rfl
  have e2 : typeLookup (.type "object") "__new__" = pure (some (.builtin "object.__new__")) := by rw [typeLookup_type, builtinLookup_eq_fast]; kernel_rfl
  have f1 : Looks M s.heap (mroOf (.type "object")) _ := Looks.of_pure e1
  have f2 : Looks M s.heap (typeLookup (.type "object") "__new__") _ := Looks.of_pure e2
  have e3 : ("object.__new__".endsWith ".__new__") = true := by decide +kernel
  unfold Bind.madeBy
  refine aside fun Gz hGz => ?_
  obtain ⟨hp, g, d, t, os⟩ := s
  refine hGz ?_
  clear hGz Gz
  dsimp only at f1 f2
  repeat (first | exact q | lk | simp only [List.forIn_cons, List.forIn_nil, e3, Bool.not_true, Bool.false_eq_true, if_false])

theorem static_bio {w : World} {M : Model} {h : Heap} (X : (hd.heap_1 w.params).In h) : Looks M h (Bind.staticBase (.ref 387)) (.type "object") := by
  intro A Q E s k q
  have m1 : Looks M s.heap (Bind.madeBy (.ref 387)) none := (made_none X (C := 387) (by k_is) rfl rfl).keeps k
  have m2 : Looks M s.heap (Bind.madeBy (.ref 145)) none := (made_none X (C := 145) (by k_is) rfl rfl).keeps k
  have m3 : Looks M s.heap (Bind.madeBy (.ref 130)) none := (made_none X (C := 130) (by k_is) rfl rfl).keeps k
  have m4 : Looks M s.heap (Bind.madeBy (.type "object")) (some "object.__new__") := made_obj
  have X' : (hd.heap_1 w.params).In s.heap := fun a o e => k a o (X a o e)
  have h1 := X' 387 _ (by k_is)
  have h2 := X' 145 _ (by k_is)
  have h3 := X' 130 _ (by k_is)
  have f1 : Looks M s.heap (mroOf (.type "object")) [.type "object"] := Looks.of_pure (by rw [mroOf_type]; kernel_rfl)
  unfold Bind.staticBase
  refine aside fun Gz hGz => ?_
  obtain ⟨hp, g, d, t, os⟩ := s
  refine hGz ?_
  clear hGz Gz
  dsimp only at m1 m2 m3 m4 h1 h2 h3 f1
  repeat (first | exact q | lk | simp only [List.forIn_cons, List.forIn_nil, Bool.not_true, Bool.false_eq_true, if_false])

section
variable {w : World} {A : Around} {R : Result → Shared → Prop} {h : Heap} {g : Array GenState} {d : Drawn} {t : Nat} {os : OsState}
theorem new_bio (X : (hd.heap_1 w.params).In h) (hq : R (.ok (.ret (.ref (h.objs.size + 1)))) ⟨(h.push emptyDict).push (instObj 387 h.objs.size), g, d, t, os⟩) :
    codeAny (model PG w) A (.call (.builtin "object.__new__") ⟨[.ref 387], []⟩) R ⟨h, g, d, t, os⟩ := by
  have base : Looks (model PG w) h (Bind.staticBase (.ref 387)) (.type "object") := static_bio X
  have made : Looks (model PG w) h (Bind.madeBy (.type "object")) (some "object.__new__") := made_obj
  have made2 : Looks (model PG w) h (Bind.madeBy (.ref 387)) none := made_none X (C := 387) (by k_is) rfl rfl
  have self : Looks (model PG w) h (isSubtype (.ref 387) (.ref 387)) true := looks_mroIn X (by k_is)
  have top : Looks (model PG w) h (isSubtype (.ref 387) (.type "object")) true := looks_mroIn X (by k_is)
  have call : Looks (model PG w) h (specialOf (.ref 387) "__call__") (some (.builtin "type.__call__")) := looks_specialIn X (by k_is)
  have typ : Looks (model PG w) h (isInstance (.ref 387) (.type "type")) true := looks_instIn X (by k_is)
  have nw : Looks (model PG w) h (typeLookup (.ref 387) "__new__") (some (.ref 131)) := looks_findIn X (by k_is)
  have ini : Looks (model PG w) h (typeLookup (.ref 387) "__init__") (some (.ref 174)) := looks_findIn X (by k_is)
  have hC := X 387 _ (by k_is)
  have F := PySem.F.objNew
  refine codeAny_call_builtin_code (Code.quiet_builtin _ F.quiet) ?_
  simp only [checkBuiltinCall, F.kind, F.split, F.row]
  have here : Looks (model PG w) h (Bind.madeHere "object.__new__" (.ref 387)) () := base.andThen (made.andThen (Looks.of_pure (by simp only [Option.map_some, bne_self_eq_false, Bool.false_eq_true, if_false])))
  have args : Bind.checkArgs "object.__new__" ⟨.hand, "object.__new__", "__new__", .cls, []⟩ ⟨[.ref 387], []⟩ = pure () := by kernel_rfl
  rw [args]
  repeat (first | simp only [bne_self_eq_false, Bool.false_eq_true, if_false] | lk)
  refine codeAny_builtin F.entry ?_
  unfold Builtin.«object.__new__»
  have hC' : ((h.push { cls := .type "dict", data := .dict #[] }).push { cls := .ref 387, dict := some h.objs.size }).get? 387 = some _ := Heap.get?_push_of_some _ (Heap.get?_push_of_some _ hC)
  repeat lk
  rw [Heap.size_push]
  exact hq
end

local macro_rules | `(tactic| walk_at "call builtin:object.__new__") => `(tactic| refine halt_here ?_)
section
variable {w : World} {b : Nat} {fs : List Addr} {d u : Nat} {fr : Option (List Env)} {gs : Option (List Code)} {s : Shared} {p : Program} {loose : List Str} {mg mb : Str → Option Value}
inductive NewR (C : Nat) (s : Shared) (r : Result) (s' : Shared) : Prop where
  | mk (x dx : Nat) (h' : Heap) (tk : Nat) (e1 : r = .ok (.ret (.ref x))) (e2 : s' = { s with heap := h', toks := tk }) (e3 : (∀ b o, s.heap.get? b = some o → h'.get? b = some o)) (e4 : s.heap.get? x = none) (e5 : s.heap.get? dx = none) (e6 : x ≠ dx) (e7 : h'.get? x = some (instObj C dx)) (e8 : h'.get? dx = some emptyDict) (e9 : s.heap.objs.size ≤ h'.objs.size)
theorem io_new {v : Value} (H : Pre w b fs p loose mg mb ⟨none, d, fr, gs, u⟩ s.heap) (hb : b ≤ 900) :
    codeAny (model PG w) ⟨none, d, fr, gs, u⟩ (.call (.ref 127) ⟨[.ref 387, v], []⟩) (NewR 387 s) s := by
  have hdep := H.depth
  dsimp only at hdep
  have X := H.X
  have T := H.T
  refine codeAny_call_function (by simp only [recursionLimit]; omega) (X 127 _ (by k_is)) rfl rfl rfl rfl (codeRec_of X (by k_is)) ?_
  unfold bindArgs
  refine aside fun Gz hGz => ?_
  obtain ⟨h, g, dr, t, os⟩ := s
  refine hGz ?_
  clear hGz Gz
  generalize hQ : (fun (binds : List (Str × Value)) (s₁ : Shared) => wpAny (model PG w) (Around.in1 ⟨none, d, fr, gs, u⟩) (newFunctionEnv _ _ _ binds _ _ _ _ _) _ _ s₁) = Q
  repeat lk
  subst hQ
  dsimp only
  have k0 : ∀ b o, h.get? b = some o → ((h.push { cls := .type "tuple", data := .seq [v].toArray }).push { cls := .type "dict", data := .dict #[] }).get? b = some o := fun b o e => Heap.get?_push_of_some _ (Heap.get?_push_of_some _ e)
  have T0 := T.keeps k0
  have hsz : h.objs.size ≤ ((h.push { cls := .type "tuple", data := .seq [v].toArray }).push { cls := .type "dict", data := .dict #[] }).objs.size := by
    simp only [Heap.size_push]
    exact Nat.le_succ_of_le (Nat.le_succ _)
  show wpAny _ _ (newFunctionEnv _ _ _ [(Str.ofString "cls", .ref 387), (Str.ofString "args", .ref h.objs.size), (Str.ofString "kwargs", .ref (h.push { cls := .type "tuple", data := .seq [v].toArray }).objs.size)] _ _ _ _ _) _ _ ⟨(h.push { cls := .type "tuple", data := .seq [v].toArray }).push { cls := .type "dict", data := .dict #[] }, _, _, _, _⟩
  generalize ((h.push { cls := .type "tuple", data := .seq [v].toArray }).push { cls := .type "dict", data := .dict #[] }) = H2 at k0 T0 hsz ⊢
  generalize (h.push { cls := .type "tuple", data := .seq [v].toArray }).objs.size = T2
  refine wpAny_newFunctionEnv (by decide) (by simp [List.lookup]; decide) (fun h₀ hns hsb => ⟨T0.nolimit.fresh _ hsb, codeAny_func ?_⟩) rfl
  have kk : ∀ b o, h.get? b = some o → h₀.get? b = some o := fun b o e => hsb.extBut b o (Nat.ne_of_lt (Heap.lt_size (k0 b o e))) (Heap.get?_push_of_some _ (k0 b o e))
  have F : Fr h H2.objs.size h₀ _ := ⟨hns, kk, hsz⟩
  have N := News.nil (h₀ := h) (h := h₀) (L := H2.objs.size)
  k_steps
  show wpAny _ _ _ _ _ _
  rename Fr _ _ _ _ => F9
  refine wpAny_call (new_bio (fun b o e => F9.keep b o (X b o e)) ?_)
  have kf := F9.keep
  have hn : ∀ a, h.get? a = none ∨ ∃ o, h.get? a = some o := fun a => by cases h.get? a with | none => exact .inl rfl | some o => exact .inr ⟨o, rfl⟩
  refine ⟨h₀.objs.size + 1, h₀.objs.size, (h₀.push emptyDict).push (instObj 387 h₀.objs.size), _, rfl, rfl, fun b o e => Heap.get?_push_of_some _ (Heap.get?_push_of_some _ (kf b o e)), ?_, ?_, ?_, by heap_get, by heap_get, ?_⟩
  · rcases hn (h₀.objs.size + 1) with q | ⟨o, q⟩
    · exact q
    · exact absurd (Heap.lt_size (kf _ _ q)) (Nat.not_lt.mpr (Nat.le_succ _))
  · rcases hn h₀.objs.size with q | ⟨o, q⟩
    · exact q
    · exact absurd (Heap.lt_size (kf _ _ q)) (Nat.lt_irrefl _)
  · exact Nat.ne_of_gt (Nat.lt_succ_self _)
  · refine aside fun Gz hGz => ?_
    obtain ⟨oL, hL, _⟩ := isD_of_ns F9.ns
    refine hGz ?_
    clear hGz Gz
    have h1 := Heap.lt_size hL
    have h2 := F9.above
    show h.objs.size ≤ ((h₀.push emptyDict).push (instObj 387 h₀.objs.size)).objs.size
    simp only [Heap.size_push]
    have h3 : h.objs.size ≤ h₀.objs.size := Nat.le_trans h2 (Nat.le_of_lt h1)
    exact Nat.le_succ_of_le (Nat.le_succ_of_le h3)
end

end

section

open _root_.PySem _root_.PySem.W _root_.PyProof.Rows _root_.PyProof.V _root_.PySem.Calls _root_.PySem.SeqAt
set_option maxRecDepth 100000
set_option maxHeartbeats 8000000
/-- entering a def of the text, the stack kept in mind -/
theorem enterN {K : Frag} {w : World} {A : Around} {s : Shared} {R : Result → Shared → Prop} {p : Program} {loose : List Str} {mg mb : Str → Option Value} (g : Heap)
    {f : Addr} {args : Args} {binds : List (Str × Value)} {name qual : Str} {params : Arguments} {body : List Stmt} {scope : Scope} {dV kV doc pm cdv ct oc : Value} {an od : Option Addr} {osl : Array (Option Value)}
    (X : K.In s.heap) (T : TopRead p loose mg mb s.heap) (hroom : A.depth < recursionLimit)
    (ho : K.lookup f = some ⟨oc, od, .func (fnOf name qual params body scope dV kV doc pm an cdv ct), osl⟩) (hcd : codeIn K cdv qual = true)
    (hg : ∀ b o, g.get? b = some o → s.heap.get? b = some o) (hsz : g.objs.size ≤ s.heap.objs.size)
    (hbind : BindsTo s (fnOf name qual params body scope dV kV doc pm an cdv ct) args binds) (hloc : ∀ y ∈ binds, scope.names.lookup y.1 = some .local)
    (h : ∀ h₁, Fr g s.heap.objs.size h₁ (fun y => binds.reverse.lookup y) → (∀ b o, s.heap.get? b = some o → h₁.get? b = some o) →
      wpN (model PG w) (A.deeper (envOf qual scope s.heap.objs.size f cdv)) (execs body (envOf qual scope s.heap.objs.size f cdv))
        (fun fl s' => R (.ok (.ret (match fl with | .ret v => v | _ => .none))) s')
        (fun e s' => wpN (model PG w) (A.deeper (envOf qual scope s.heap.objs.size f cdv)) (leaving (envOf qual scope s.heap.objs.size f cdv) e) (fun _ s'' => R (.error e) s'') (fun e' s'' => R (.error e') s'') s')
        { s with heap := h₁, toks := s.toks + binds.length })
    (hco : scope.isCoroutine = false) (hgen : scope.isGenerator = false) (hk : scope.kind = .function)
    (hcell : ∀ x ∈ scope.names, x.2 ≠ .cell) : codeN (model PG w) A (.call (.ref f) args) R s := by
  refine function_N (fd := fnOf name qual params body scope dV kV doc pm an cdv ct) (body := body) hroom (X _ _ ho) rfl hco hgen rfl (codeRec_of X hcd) (hbind _ _ _ _ ?_)
  refine wpAny_newFunctionEnv hcell hloc (fun h₀ hns hsb => ⟨T.nolimit.fresh _ hsb, func_N ?_⟩) hk
  have kk : ∀ b o, s.heap.get? b = some o → h₀.get? b = some o := fun b o e => hsb.extBut b o (Nat.ne_of_lt (Heap.lt_size e)) (Heap.get?_push_of_some _ e)
  exact h h₀ ⟨hns, fun b o e => kk b o (hg b o e), hsz⟩ kk
local macro_rules | `(tactic| walk_at "call type:type") => `(tactic| (k_here; (with_reducible show wpAny _ _ (call (Value.type "type") [Value.bytes _ _]) _ _ _); k_dflt (refine' PySem.call_type_of (Tx := "bytes") ?a ?b ?_; (case a => exact rfl); (case b => exact rfl)); k_whole))
section
variable {w : World} {b : Nat} {fs : List Addr} {d u : Nat} {fr : Option (List Env)} {gs : Option (List Code)} {s : Shared} {p : Program} {loose : List Str} {mg mb : Str → Option Value}
/-- a stream's dict: the store and the place -/
noncomputable def bioD (P : Params) (S : Nat) (k : Int) (t1 t2 t3 : Tok) : Obj :=
  dictOf [⟨PyData.keyHash P (Str.ofString "_BytesIO__buf"), .str (Str.ofString "_BytesIO__buf") t1, .ref S⟩, ⟨PyData.keyHash P (Str.ofString "_BytesIO__pos"), .str (Str.ofString "_BytesIO__pos") t2, .int k t3⟩] 2
noncomputable def baO (bs : Array UInt8) : Obj := { cls := .type "bytearray", data := .bytearray bs }
inductive InitR (P : Params) (h : Heap) (x dx : Nat) (bs : Array UInt8) (s : Shared) (r : Result) (s' : Shared) : Prop where
  | mk (S : Nat) (h' : Heap) (tk : Nat) (t1 t2 t3 : Tok) (e1 : r = .ok (.ret .none)) (e2 : s' = { s with heap := h', toks := tk }) (e3 : (∀ b o, h.get? b = some o → h'.get? b = some o)) (e4 : h.get? S = none) (e5 : S ≠ x) (e6 : S ≠ dx) (e7 : h'.get? S = some (baO bs)) (e8 : h'.get? x = some (instObj 387 dx)) (e9 : h'.get? dx = some (bioD P S 0 t1 t2 t3))
theorem init_bio {h : Heap} {bs : Array UInt8} {tb : Tok} {x dx : Nat} (H : Pre w b fs p loose mg mb ⟨none, d, fr, gs, u⟩ h) (hb : b ≤ 890) (hz : bs.size ≤ sizeLine) (k0 : ∀ b o, h.get? b = some o → s.heap.get? b = some o) (x0 : h.get? x = none) (dx0 : h.get? dx = none) (xdx : x ≠ dx) (hx : s.heap.get? x = some (instObj 387 dx)) (hdx : s.heap.get? dx = some emptyDict) (hsz : h.objs.size ≤ s.heap.objs.size) :
    codeN (model PG w) ⟨none, d, fr, gs, u⟩ (.call (.ref 174) ⟨[.ref x, .bytes bs tb], []⟩) (InitR w.params h x dx bs s) s := by
  have hdep := H.depth
  dsimp only at hdep
  have X1 : (hd.heap_1 w.params).In s.heap := fun a o e => k0 _ _ (H.X _ _ e)
  have T1 := H.T.keeps k0
  generalize hR : InitR w.params h x dx bs s = R
  refine enterN (K := hd.heap_1 w.params) h (binds := [("self", .ref x), ("initial_bytes", .bytes bs tb)]) X1 T1 (by simp only [recursionLimit]; omega) (by k_is) (by k_is) k0 hsz (binds_K X1 rfl (by k_is) rfl rfl rfl) (locs rfl) ?_ rfl rfl rfl (by decide)
  intro h₁ F k1
  have N : News h s.heap.objs.size h₁ [(x, instObj 387 dx), (dx, emptyDict)] := by
    intro p hp
    rcases List.mem_cons.mp hp with rfl | hp
    · exact ⟨k1 _ _ hx, Nat.ne_of_lt (Heap.lt_size hx), x0⟩
    · obtain rfl := List.mem_singleton.mp hp
      exact ⟨k1 _ _ hdx, Nat.ne_of_lt (Heap.lt_size hdx), dx0⟩
  have X := H.X
  have T := H.T
  refine execs_N (wpN_any ?_)
  k_steps
  refine execs_N (assignAttr_N (ifExp_N ?_))
  k_steps
  refine callName_N ?_
  k_steps
  refine callWith_N (t := eval (.Name _ _) _) ?_
  k_steps
  refine wpAny_pure ⟨rfl, make_ba_N hz ?_⟩
  intro S h' S0 hS hk
  rename Fr _ _ _ _ => F8
  rename News _ _ _ _ => N8
  have k8 : Kp [] [] _ h' := Kp.of_keep fun b o _ e => hk b o e
  have F9 := after_fr F8 k8 (by simp) (by simp)
  have N9 := law_new F8 (after_news N8 k8 (by simp)) S0 hS
  have Sx : @Ne Nat S x := fun q => by have e := (N8 _ (List.Mem.head _)).1; rw [← q] at e; rw [e] at S0; cases S0
  have Sdx : @Ne Nat S dx := fun q => by have e := (N8 _ (.tail _ (List.Mem.head _))).1; rw [← q] at e; rw [e] at S0; cases S0
  have S0' : h.get? S = none := by
    cases q : h.get? S with
    | none => rfl
    | some o => have := F8.keep _ _ q; rw [S0] at this; cases this
  clear F8 N8 k8
  dsimp only
  k_steps
  k_steps
  refine wpN_any ?_
  k_steps
  rename Fr _ _ _ _ => F9
  rename News _ _ _ _ => N9
  subst hR
  refine ⟨S, _, _, _, _, _, rfl, rfl, F9.keep, S0', Sx, Sdx, (N9 _ (List.Mem.head _)).1, (N9 _ (.tail _ (List.Mem.head _))).1, (N9 _ (.tail _ (.tail _ (List.Mem.head _)))).1⟩
end

end

section

open _root_.PySem _root_.PySem.W _root_.PyProof.Rows _root_.PyProof.V _root_.PySem.Calls _root_.PySem.SeqAt
set_option maxRecDepth 100000
set_option maxHeartbeats 4000000
theorem halt_getattr {M : Model} {A : Around} {v : Value} {n : Str} {e : Bool} {Q : Value → Shared → Prop} {E : Value → Shared → Prop} {s : Shared} (h : Halt (wpAny M A (getAttr v n e) Q E s)) : wpAny M A (getAttr v n e) Q E s := h
section
variable {w : World} {b : Nat} {fs : List Addr} {d u : Nat} {fr : Option (List Env)} {gs : Option (List Code)} {s : Shared} {p : Program} {loose : List Str} {mg mb : Str → Option Value}
inductive BioR (P : Params) (bs : Array UInt8) (s : Shared) (r : Result) (s' : Shared) : Prop where
  | mk (S x dx : Nat) (h' : Heap) (tk : Nat) (t1 t2 t3 : Tok) (e1 : r = .ok (.ret (.ref x))) (e2 : s' = { s with heap := h', toks := tk }) (e3 : (∀ b o, s.heap.get? b = some o → h'.get? b = some o)) (e4 : s.heap.get? S = none) (e5 : s.heap.get? x = none) (e6 : s.heap.get? dx = none) (e7 : S ≠ x) (e8 : S ≠ dx) (e9 : x ≠ dx) (e10 : h'.get? S = some (baO bs)) (e11 : h'.get? x = some (instObj 387 dx)) (e12 : h'.get? dx = some (bioD P S 0 t1 t2 t3))
theorem make_bio {bs : Array UInt8} {tb : Tok} (H : Pre w b fs p loose mg mb ⟨none, d, fr, gs, u⟩ s.heap) (hb : b ≤ 880) (hz : bs.size ≤ sizeLine) :
    codeN (model PG w) ⟨none, d, fr, gs, u⟩ (.call (.ref 387) ⟨[.bytes bs tb], []⟩) (BioR w.params bs s) s := by
  have hdep := H.depth
  dsimp only at hdep
  have X := H.X
  have T := H.T
  generalize hR : BioR w.params bs s = R
  refine aside fun Gz hGz => ?_
  obtain ⟨h, g, dr, t, os⟩ := s
  refine hGz ?_
  clear hGz Gz
  dsimp only at X T
  have hcall : Looks (model PG w) h (specialOf (.ref 387) "__call__") (some (.builtin "type.__call__")) := looks_specialIn X (by k_is)
  have typ : Looks (model PG w) h (isInstance (.ref 387) (.type "type")) true := looks_instIn X (by k_is)
  have made2 : Looks (model PG w) h (Bind.madeBy (.ref 387)) none := made_none X (C := 387) (by k_is) rfl rfl
  have hC := X 387 _ (by k_is)
  refine codeN_tree rfl ?_
  show wpN _ _ (callAny (.ref 387) _) _ _ _
  simp only [callAny]
  refine wpN_step (wpAny_load hC ?_)
  show wpN _ _ (callAny.viaDunder (.ref 387) _) _ _ _
  unfold callAny.viaDunder
  refine wpN_step (hcall.at ?_)
  dsimp only
  rw [tc_bind]
  refine wpN_step (wpAny_pure (wpN_step (wpAny_pure ?_)))
  refine wpN_any (wpAny_pure (a := Fin.again (.call (.builtin "type.__call__") ⟨[.ref 387, .bytes bs tb], []⟩)) (And.intro rfl ?_))
  refine callBuiltin_N (Code.quiet_builtin _ (by decide +kernel)) (check_slot tc_kind tc_split typ (tc_args _ _ _) ?_)
  refine builtin_N entry_typeCall rfl ?_
  unfold Builtin.«type.__call__»
  dsimp only
  have hne : (Value.ref 387 == Value.type "type") = false := rfl
  simp only [hne, Bool.false_eq_true, if_false]
  refine wpN_step ?_
  repeat lk
  simp only [List.isEmpty_cons, Bool.false_eq_true, if_false]
  refine wpN_step ?_
  repeat lk
  dsimp only
  refine wpN_step ?_
  refine cls_bind (mc := .type "type") X (by k_is) (by k_is) (wpAny_call (sm_get (s := ⟨h, g, dr, t + 1, os⟩) X (by k_is) (handed_on rfl ?_)))
  have H1 : Pre w (b + 1) fs p loose mg mb ⟨none, d + 1, fr, gs, u + 1⟩ h := ⟨H.X, H.T, H.low, rfl, Nat.succ_le_succ H.depth, Nat.succ_le_succ H.units, H.stk⟩
  refine wpN_step (wpAny_holding (wpAny_call (codeAny_mono (io_new (b := b + 1) (s := ⟨h, g, dr, t + 1, os⟩) (d := d + 1) (u := u + 1) H1 (by omega)) ?_)))
  intro r s' hpat2
  refine aside fun Gz hGz => ?_
  obtain ⟨x, dx, h', tk, rfl, rfl, k1, x0, dx0, xdx, hx, hdx, hsz⟩ := hpat2
  refine hGz ?_
  clear hGz Gz
  dsimp only at *
  have X1 : (hd.heap_1 w.params).In h' := fun a o e => k1 _ _ (X _ _ e)
  have tX : Looks (model PG w) h' (typeOf (.ref x)) (.ref 387) := (Looks.ld hx).andThen .now
  have self1 : Looks (model PG w) h' (isSubtype (.ref 387) (.ref 387)) true := looks_mroIn X1 (by k_is)
  have ini : Looks (model PG w) h' (typeLookup (.ref 387) "__init__") (some (.ref 174)) := looks_findIn X1 (by k_is)
  have bnd : Looks (model PG w) h' (bindSpecial (.ref 174) (.ref x)) (.ref 174, [.ref x]) := bind_fn X1 _ (by k_is)
  refine wpN_step ?_
  unfold isInstance
  repeat lk
  simp only [Bool.not_true, Bool.false_eq_true, if_false]
  refine wpN_bind (wpN_holding ?_)
  unfold callSpecial? specialOf
  refine wpN_step ?_
  repeat lk
  dsimp only
  refine wpN_holding ?_
  refine wpN_step ?_
  repeat lk
  dsimp only
  refine wpN_bind (wpN_call (codeN_mono (init_bio (h := h) (b := b + 1) (x := x) (dx := dx) (s := ⟨h', g, dr, tk, os⟩) H1 (by omega) hz k1 x0 dx0 xdx hx hdx ?_) ?_))
  · exact hsz
  · intro r s' hpat2
    refine aside fun Gz hGz => ?_
    obtain ⟨S, h2, tk2, t1, t2, t3, rfl, rfl, k2, S0, Sx, Sdx, eS, ex, edx⟩ := hpat2
    refine hGz ?_
    clear hGz Gz
    dsimp only at *
    refine wpN_any (wpAny_pure ?_)
    dsimp only
    simp only [bne_self_eq_false, Bool.false_eq_true, if_false]
    refine wpN_any (wpAny_pure ?_)
    subst hR
    exact ⟨S, x, dx, h2, tk2, t1, t2, t3, rfl, rfl, k2, S0, x0, dx0, Sx, Sdx, xdx, eS, ex, edx⟩
end

end

section

open _root_.PySem _root_.PySem.W _root_.PyProof.Rows _root_.PyProof.V _root_.PySem.Calls _root_.PySem.SeqAt
set_option maxRecDepth 100000
set_option maxHeartbeats 4000000
theorem ba_slot_len : Slot "bytearray" "__len__" "bytearray.__len__" :=
  .of (owner := "bytearray") (n := "__len__") (by rw [typeLookup_type, builtinLookup_eq_fast]; kernel_rfl) (by decide +kernel) (by decide +kernel) (by decide +kernel)
    (by first | exact .inl (by decide +kernel) | exact .inr (by decide +kernel)) (by rw [isSubtype_type]; kernel_rfl)
theorem ba_slot_item : Slot "bytearray" "__getitem__" "bytearray.__getitem__" :=
  .of (owner := "bytearray") (n := "__getitem__") (by rw [typeLookup_type, builtinLookup_eq_fast]; kernel_rfl) (by decide +kernel) (by decide +kernel) (by decide +kernel)
    (by first | exact .inl (by decide +kernel) | exact .inr (by decide +kernel)) (by rw [isSubtype_type]; kernel_rfl)
theorem ba_entry_len : entryFor table "bytearray.__len__" = some Builtin.«bytearray.__len__» := entryFor_of_tree (by kernel_rfl)
theorem ba_entry_item : entryFor table "bytearray.__getitem__" = some Builtin.«bytearray.__getitem__» := entryFor_of_tree (by kernel_rfl)
theorem ba_args_len (a : Value) : argsOk "bytearray.__len__" ⟨[a], []⟩ := by unfold argsOk; kernel_rfl
theorem ba_args_item (a b : Value) : argsOk "bytearray.__getitem__" ⟨[a, b], []⟩ := by unfold argsOk; kernel_rfl
section
variable {prog : Program} {w : World} {A : Around} {E : Value → Shared → Prop} {s : Shared} {S : Nat} {bs : Array UInt8}
theorem ba_typeIs (hS : s.heap.get? S = some (baO bs)) : s.TypeIs (.ref S) "bytearray" := ⟨_, hS, rfl⟩
theorem ba_payload {M : Model} {Q : Array UInt8 → Shared → Prop} (hS : s.heap.get? S = some (baO bs)) (h : Q bs s) : wpAny M A (Builtin.Bytes.payload (.ref S)) Q E s := by
  unfold Builtin.Bytes.payload Builtin.Bytes.payload?
  exact wpAny_bind (wpAny_bind (wpAny_load hS (wpAny_pure (wpAny_pure h))))
theorem ba_len {Q : Value → Shared → Prop} (hS : s.heap.get? S = some (baO bs)) (hz : bs.size ≤ 100000) (h : Q (.int bs.size (s.toks + 1)) { s with toks := s.toks + 1 + 1 }) : wpAny (model prog w) A (call (.builtin "len") [.ref S]) Q E s := by
  refine call_function_entry PySem.kind_len PySem.plain_len PySem.entry_len (PySem.args_len1 _) ?_
  unfold Builtin.«len»
  refine wpAny_bind (m := oneArg "len" _) (wpAny_pure ?_)
  refine wpAny_bind (m := callSpecial? (.ref S) (Str.ofString "__len__")) (wpAny_callSpecial?_slot (name := Str.ofString "__len__") (ba_typeIs hS) ba_slot_len
    (wpAny_call_entry ba_slot_len (ba_typeIs hS) ba_entry_len ?_ (ba_args_len _)))
  show wpAny _ _ (Builtin.Bytes.payload (.ref S) >>= fun b => retInt b.size) _ _ s
  refine wpAny_bind (ba_payload hS (wpAny_bind (wpAny_mkInt (wpAny_pure ⟨_, rfl, ?_⟩))))
  refine wpAny_bind (wpAny_holding (wpAny_pure ?_))
  refine wpAny_bind (wpAny_letGo ?_)
  show wpAny _ _ (if ((bs.size : Nat) : Int) < 0 then _ else _) _ _ _
  rw [if_neg (by omega)]
  show wpAny _ _ (if ((bs.size : Nat) : Int) ≥ 2 ^ 63 then _ else _) _ _ _
  rw [if_neg (by omega)]
  exact wpAny_bind (wpAny_mkInt (wpAny_pure ⟨_, rfl, h⟩))
/-- the octets between two places -/
noncomputable def cut (b : Array UInt8) (lo hi : Option Int) : Array UInt8 := Builtin.Bytes.sliced b (sliceBounds lo hi none b.size).1 (sliceBounds lo hi none b.size).2.1 (sliceBounds lo hi none b.size).2.2
theorem cut_list (b : Array UInt8) (i : Nat) : ∀ n, (List.range n).filterMap (fun k => b[i + k]?) = (b.toList.drop i).take n
  | 0 => by simp
  | n + 1 => by
    rw [List.range_succ, List.filterMap_append, cut_list b i n, List.take_add_one, List.getElem?_drop, List.filterMap_cons, Array.getElem?_toList]
    cases b[i + n]? <;> rfl
theorem cut_eq {bs : Array UInt8} {i j : Nat} (h1 : i ≤ j) (h2 : j ≤ bs.size) : cut bs (some (i : Int)) (some (j : Int)) = bs.extract i j := by
  have e1 : sliceBounds (some (i : Int)) (some (j : Int)) none bs.size = ((i : Int), (j : Int), 1) := by
    have a1 : ¬ (i : Int) < 0 := by omega
    have a2 : ¬ (j : Int) < 0 := by omega
    simp only [sliceBounds, Option.getD_none, a1, a2, if_false, show (1 : Int) > 0 by decide, if_true, Prod.mk.injEq, and_true]
    constructor <;> omega
  have e2 : sliceRange (i : Int) (j : Int) 1 = (List.range (j - i)).map (fun k => i + k) := by
    simp only [sliceRange, show (1 : Int) > 0 by decide, if_true]
    by_cases h : i < j
    · rw [if_pos (by omega), show (((j : Int) - i + 1 - 1) / 1).toNat = j - i by omega]
      refine List.map_congr_left fun k _ => ?_
      omega
    · rw [if_neg (by omega), show j - i = 0 by omega]; simp
  unfold cut Builtin.Bytes.sliced
  rw [e1]
  dsimp only
  rw [e2, List.filterMap_map]
  show (List.filterMap (fun k => bs[i + k]?) (List.range (j - i))).toArray = _
  rw [cut_list]
  apply Array.toList_inj.mp
  rw [Array.toList_extract]
theorem ba_item {Q : Value → Shared → Prop} {T : Nat} {i j : Nat} {ti tj : Tok} (hz : (cut bs (some (i : Int)) (some (j : Int))).size ≤ sizeLine) (hS : s.heap.get? S = some (baO bs)) (hT : s.heap.IsSliceOf T (.int i ti) (.int j tj) .none)
    (h : Q (.ref s.heap.objs.size) { s with heap := s.heap.push (baO (cut bs (some i) (some j))) }) : wpAny (model prog w) A (getItem (.ref S) (.ref T)) Q E s := by
  refine wpAny_getItem_slot (ba_typeIs hS) (by decide) ba_slot_item (wpAny_call_entry ba_slot_item (ba_typeIs hS) ba_entry_item ?_ (ba_args_item _ _))
  obtain ⟨o, ho, hc, hd⟩ := hT
  have hTT : s.TypeIs (.ref T) "slice" := ⟨o, ho, hc⟩
  show wpAny _ _ (Builtin.Bytes.subscript? (.ref T) >>= fun r => _) _ _ s
  refine wpAny_bind ?_
  unfold Builtin.Bytes.subscript?
  refine wpAny_bind (wpAny_specialOf hTT slice_no_index (wpAny_pure ?_))
  refine wpAny_bind (wpAny_typeOf hTT ?_)
  show wpAny _ _ (Builtin.Bytes.sliceParts (.ref T) >>= fun r => _) _ _ s
  refine wpAny_bind ?_
  unfold Builtin.Bytes.sliceParts
  refine wpAny_bind (wpAny_field (x := .none) ho hd rfl ?_)
  kby_none
  refine wpAny_ite (KBy.ite_no (show ¬ ((Value.none == rawInt 0) = true) from Bool.false_ne_true) ?_)
  refine wpAny_bind (wpAny_field (x := .int i ti) ho hd rfl ?_)
  have go : wpAny (model prog w) A.in1 (sliceIndices (rawPart (some (i : Int))) (rawPart (some (j : Int))) (rawPart none) bs.size) (fun r s' => r = sliceBounds (some (i : Int)) (some (j : Int)) none bs.size ∧ s' = s) (fun _ _ => False) s :=
    wpAny_of_eq (sliceIndices_raw (some (i : Int)) (some (j : Int)) none bs.size (fun e => nomatch e)) ⟨rfl, rfl⟩
  kby_int
  refine wpAny_bind (wpAny_field (x := .int j tj) ho hd rfl ?_)
  kby_int
  refine wpAny_pure ?_
  refine wpAny_bind (ba_payload hS ?_)
  refine wpAny_bind (wpAny_mono go (fun r s' hr => ?_) fun _ _ e => e.elim)
  obtain ⟨rfl, rfl⟩ := hr
  show wpAny _ _ (Builtin.Bytes.newBytearray (cut bs (some (i : Int)) (some (j : Int))) >>= fun v => ret v) _ _ _
  exact wpAny_bind (wpAny_newObj_type (wpAny_pure ⟨_, rfl, h⟩) hz)
theorem ba_release {bs : Array UInt8} (hS : s.heap.get? S = some (baO bs)) {Q : Bool → Shared → Prop} (h : Q false s) : wpAny (model prog w) A (Builtin.Bytes.ownRelease (.ref S)) Q E s := by
  obtain ⟨hp, g, d, tk, os⟩ := s
  dsimp only at hS
  have tS : Looks (model prog w) hp (typeOf (.ref S)) (.type "bytearray") := (Looks.ld hS).andThen .now
  have r1 : Looks (model prog w) hp (typeLookup (.type "bytearray") "__release_buffer__") (some (.builtin "bytearray.__release_buffer__")) := Looks.of_pure (by rw [typeLookup_type, builtinLookup_eq_fast]; kernel_rfl)
  have r2 : Looks (model prog w) hp (isSubtype (.type "bytearray") (.type "bytearray")) true := Looks.of_pure sub_ba_self
  have e1 : ("bytearray.__release_buffer__".endsWith ("." ++ "__release_buffer__")) = true := by decide +kernel
  have e2 : ("bytearray.__release_buffer__".dropRight ("__release_buffer__".length + 1)) = "bytearray" := by decide +kernel
  unfold Builtin.Bytes.ownRelease Builtin.Bytes.slotIsOwn specialOf isInstance
  repeat (first | exact h | lk | simp only [e1, e2, Bool.not_true, Bool.false_eq_true, if_false, if_true])
theorem ba_no_bytes : typeLookup (.type "bytearray") "__bytes__" = pure none := by rw [typeLookup_type, builtinLookup_eq_fast]; kernel_rfl
theorem ba_no_index : typeLookup (.type "bytearray") "__index__" = pure none := by rw [typeLookup_type, builtinLookup_eq_fast]; kernel_rfl
theorem ba_buffer : typeLookup (.type "bytearray") "__buffer__" = pure (some (.builtin "bytearray.__buffer__")) := by rw [typeLookup_type, builtinLookup_eq_fast]; kernel_rfl
theorem ba_own_buffer (hS : s.heap.get? S = some (baO bs)) {Q : Bool → Shared → Prop} (h : Q true s) : wpAny (model prog w) A (Builtin.Bytes.slotIsOwn (.ref S) "__buffer__") Q E s := by
  obtain ⟨hp, g, d, tk, os⟩ := s
  dsimp only at hS
  have tS : Looks (model prog w) hp (typeOf (.ref S)) (.type "bytearray") := (Looks.ld hS).andThen .now
  have r1 : Looks (model prog w) hp (typeLookup (.type "bytearray") "__buffer__") (some (.builtin "bytearray.__buffer__")) := Looks.of_pure ba_buffer
  have r2 : Looks (model prog w) hp (isSubtype (.type "bytearray") (.type "bytearray")) true := Looks.of_pure sub_ba_self
  have e1 : ("bytearray.__buffer__".endsWith ("." ++ "__buffer__")) = true := by decide +kernel
  have e2 : ("bytearray.__buffer__".dropRight ("__buffer__".length + 1)) = "bytearray" := by decide +kernel
  unfold Builtin.Bytes.slotIsOwn specialOf isInstance
  repeat (first | exact h | lk | simp only [e1, e2, Bool.not_true, Bool.false_eq_true, if_false, if_true])
theorem ba_code_bytes {Q₁ : Value → Shared → Prop} (hz : bs.size ≤ sizeLine) (hS : s.heap.get? S = some (baO bs)) (h : ∀ t k, Q₁ (.bytes bs t) { s with toks := k }) :
    codeAny (model prog w) A (.call (.builtin "bytes.__new__") ⟨[.type "bytes", .ref S], []⟩) (wants Q₁ E) s := by
  have hT := ba_typeIs hS
  refine codeAny_call_builtin PySem.F.bm_plain PySem.F.bm_entry (wpAny_of_eq (PySem.F.bm_newCall _) ?_)
  unfold Builtin.«bytes.__new__»
  dsimp only
  refine wpAny_bind (wpAny_of_eq (a := true) rfl ?_)
  simp only [Bool.not_true, Bool.false_eq_true, if_false]
  refine wpAny_bind (wpAny_of_eq PySem.F.bm_sub ?_)
  simp only [Bool.not_true, Bool.false_eq_true, if_false, PySem.F.bm_bind]
  refine wpAny_bind (wpAny_pure ?_)
  dsimp only
  refine wpAny_bind (wpAny_of_eq (a := ()) rfl ?_)
  refine wpAny_bind (wpAny_of_eq (a := ()) rfl ?_)
  simp only [Option.isSome_none, Bool.false_eq_true, if_false]
  refine wpAny_bind (wpAny_specialOf hT ba_no_bytes ?_)
  dsimp only
  refine wpAny_bind (wpAny_bind ?_)
  show wpAny _ _ (load S >>= _) _ _ _
  refine wpAny_bind (wpAny_load hS ?_)
  refine wpAny_pure (wpAny_pure ?_)
  refine bm_if_false rfl ?_
  refine wpAny_bind (wpAny_specialOf hT ba_no_index ?_)
  refine bm_if_true rfl ?_
  first
    | show wpAny _ _ (Builtin.Bytes.buffer? "bytes.__new__" (.ref S) true >>= _) _ _ _
    | (refine wpAny_bind ?_; show wpAny _ _ (Builtin.Bytes.buffer? "bytes.__new__" (.ref S) true >>= _) _ _ _)
  refine wpAny_bind ?_
  unfold Builtin.Bytes.buffer?
  refine wpAny_bind (wpAny_specialOf hT ba_buffer ?_)
  dsimp only
  refine wpAny_bind (ba_own_buffer hS ?_)
  simp only [Bool.not_true, Bool.false_eq_true, if_false]
  refine wpAny_bind (wpAny_specialOf hT ba_buffer ?_)
  refine wpAny_bind (ba_release hS ?_)
  simp only [Bool.false_eq_true, if_false]
  refine wpAny_bind (ba_payload hS (wpAny_pure ?_))
  refine wpAny_bind (wpAny_rule (wpAny_bind (wpAny_mkBytes ?_ hz)))
  show wpAny _ _ (if (Value.type "bytes" == Value.type "bytes") = true then _ else _) _ _ _
  refine bm_if_true (by decide) ?_
  first
    | exact wpAny_pure (h _ _)
    | exact wpAny_bind (wpAny_pure (wpAny_pure (h _ _)))
/-- bytes(b) for a bytearray -/
theorem ba_bytes {Q : Value → Shared → Prop} (hz : bs.size ≤ sizeLine) (hS : s.heap.get? S = some (baO bs)) (h : ∀ t k, Q (.bytes bs t) { s with toks := k }) : wpAny (model prog w) A (call (.type "bytes") [.ref S]) Q E s := by
  refine callType_codes (Q₁ := fun obj s₁ => s₁.TypeIs obj "bytes" ∧ Q obj s₁) PySem.F.bm_called (PySem.F.bm_typeCall _) PySem.F.entry_object_init (ba_code_bytes hz hS fun t k => ⟨PySem.W.typeIs_bytes _ _ _, h t k⟩) fun obj s₁ h₁ => ?_
  exact ⟨h₁.1, PySem.F.args_object_init_2 obj _, object_init_meets PySem.F.bm_called.init.lookup PySem.F.bm_called.made (by decide) prog w A.in1 _ s₁ ⟨h₁.1, rfl, h₁.2⟩⟩
end

end

section

open _root_.PySem _root_.PySem.W _root_.PyProof.Rows _root_.PyProof.V _root_.PySem.Calls _root_.PySem.SeqAt
set_option maxRecDepth 100000
set_option maxHeartbeats 8000000
section
variable {prog : Program} {w : World} {A : Around} {E : Value → Shared → Prop} {s : Shared} {h₀ : Heap} {L : Addr} {m : Str → Option Value} {news : List (Addr × Obj)}
theorem ba_slice {value slice : PySem.Expr} {S i j : Nat} {bs : Array UInt8} {a b : Int} {ti tj : Tok} {Q : Value → Shared → Prop} (F : Fr h₀ L s.heap m) (N : News h₀ L s.heap news) (hS : s.heap.get? S = some (baO bs)) (ha : a = (i : Int)) (hb : b = (j : Int)) (h1 : i ≤ j) (h2 : j ≤ bs.size) (hz : bs.size ≤ 10000)
    (h : ∀ D h', Fr h₀ L h' m → News h₀ L h' ((D, baO (bs.extract i j)) :: news) → (∀ p ∈ news, p.1 < D) → Q (.ref D) { s with heap := h' })
    (hs : subscripted slice false (.ref S) (.ref s.heap.objs.size) = operate [.ref s.heap.objs.size, .ref S] (getItem (.ref S) (.ref s.heap.objs.size)) := by with_unfolding_all rfl)
    (ht : ∀ r, letTemporaryGo value (.ref S) r = pure () := by intro _; with_unfolding_all rfl) :
    wpAny (model prog w) A (subscriptTail value slice (.ref S) (.ref s.heap.objs.size)) Q E { s with heap := s.heap.push { cls := .type "slice", data := .fields #[.int a ti, .int b tj, .none] } } := by
  subst ha hb
  have hS' : (s.heap.push { cls := .type "slice", data := .fields #[.int i ti, .int j tj, .none] }).get? S = some (baO bs) := Heap.get?_push_of_some _ hS
  refine tail_of_ItemOn ⟨"bytearray", _, ba_slot_item.lookup, ba_typeIs (s := { s with heap := s.heap.push _ }) hS', ba_item (i := i) (j := j) ?_ hS' (Heap.IsSliceOf.new _ _ _ _) ?_⟩ hs ht
  · rw [cut_eq h1 h2, Array.size_extract]
    have : sizeLine = 16777216 := sizeLine_eq
    omega
  · rw [cut_eq h1 h2]
    have N2 := News.pushKeep N { cls := .type "slice", data := .fields #[.int i ti, .int j tj, .none] }
    refine h _ _ ((F.push _).push _) ?_ fun p hp => ?_
    · exact News.push (F.push _) N2 _
    · exact Heap.lt_size (N2 p hp).1
end
theorem extract_over {bs : Array UInt8} {k j : Nat} (h : bs.size ≤ j) : bs.extract k j = bs.extract k bs.size := by
  apply Array.toList_inj.mp
  rw [Array.toList_extract, Array.toList_extract, List.extract, List.extract]
  rw [List.take_of_length_le (by simp; omega), List.take_of_length_le (by simp)]
/-- a stream over the octets bs, at place k -/
structure Bio (P : Params) (h : Heap) (x dx S : Nat) (bs : Array UInt8) (k : Nat) : Prop where
  ex : h.get? x = some (instObj 387 dx)
  ed : ∃ t1 t2 t3, h.get? dx = some (bioD P S (k : Int) t1 t2 t3)
  eS : h.get? S = some (baO bs)
theorem Bio.xdx {P h x dx S bs k} (b : Bio P h x dx S bs k) : @Ne Nat x dx := fun q => by
  refine aside fun Gz hGz => ?_
  obtain ⟨_, _, _, e⟩ := b.ed
  refine hGz ?_
  clear hGz Gz
  have e1 := b.ex
  rw [q, e] at e1
  have := Option.some.inj e1
  simp [instObj, bioD, dictOf] at this
theorem Bio.Sx {P h x dx S bs k} (b : Bio P h x dx S bs k) : @Ne Nat S x := fun q => by
  have e1 := b.ex
  rw [← q, b.eS] at e1
  have := Option.some.inj e1
  simp [instObj, baO] at this
theorem Bio.Sdx {P h x dx S bs k} (b : Bio P h x dx S bs k) : @Ne Nat S dx := fun q => by
  refine aside fun Gz hGz => ?_
  obtain ⟨_, _, _, e⟩ := b.ed
  refine hGz ?_
  clear hGz Gz
  rw [← q, b.eS] at e
  have := Option.some.inj e
  simp [bioD, baO, dictOf] at this
section
variable {w : World} {b : Nat} {d u : Nat} {fr : Option (List Env)} {gs : Option (List Code)} {s : Shared} {p : Program} {loose : List Str} {mg mb : Str → Option Value}
inductive ReadR (P : Params) (x dx S : Nat) (bs : Array UInt8) (k : Nat) (out : Value → Prop) (s : Shared) (r : Result) (s' : Shared) : Prop where
  | mk (v : Value) (h' : Heap) (tk : Nat) (e1 : r = .ok (.ret v)) (e2 : out v) (e3 : s' = { s with heap := h', toks := tk }) (e4 : Bio P h' x dx S bs k) (e5 : (∀ b o, b ≠ dx → s.heap.get? b = some o → h'.get? b = some o))
inductive KeepR (out : Value → Prop) (s : Shared) (r : Result) (s' : Shared) : Prop where
  | mk (v : Value) (h' : Heap) (tk : Nat) (e1 : r = .ok (.ret v)) (e2 : out v) (e3 : s' = { s with heap := h', toks := tk }) (e4 : ∀ b o, s.heap.get? b = some o → h'.get? b = some o)
local macro_rules | `(tactic| walk_at "call type:type") => `(tactic| (k_here; (with_reducible show wpAny _ _ (call (Value.type "type") [Value.int _ _]) _ _ _); k_dflt (refine' PySem.call_type_of (Tx := "int") ?a ?b ?_; (case a => exact rfl); (case b => exact rfl)); k_whole))
theorem index {n : Int} {tn : Tok} {v : Value} (X : (Mine.hd.heap_1 w.params).In s.heap) (T : TopRead p loose mg mb s.heap) (hd : d ≤ b) (hu : u ≤ b) (hb : b ≤ 900) (h1 : ¬ 1099511627776 < n) (h2 : ¬ n < -1099511627776) :
    codeAny (model PG w) ⟨none, d, fr, gs, u⟩ (.call (.ref 100) ⟨[.int n tn, v], []⟩) (KeepR (fun r => ∃ t, r = .int n t) s) s := by
  generalize hR : KeepR (fun r => ∃ t, r = .int n t) s = R
  refine enterG (K := Mine.hd.heap_1 w.params) s.heap (binds := [("n", .int n tn), ("what", v)]) X T (by simp only [recursionLimit]; omega) (by k_is) (by k_is) (fun _ _ e => e) (Nat.le_refl _) (BindsTo.of_eq rfl) (locs rfl) ?_ rfl rfl rfl (by decide)
  intro h₁ F k1
  refine hide_E (by passes_own) fun E hE => ?_
  have N := News.nil (h₀ := s.heap) (h := h₁) (L := s.heap.objs.size)
  k_steps
  rename Fr _ _ _ _ => F9
  subst hR
  exact ⟨_, _, _, rfl, ⟨_, rfl⟩, rfl, F9.keep⟩
theorem check {h0 : Heap} {x dx S k : Nat} {bs : Array UInt8} (X : (Mine.hd.heap_1 w.params).In h0) (T : TopRead p loose mg mb h0) (k0 : ∀ b o, h0.get? b = some o → s.heap.get? b = some o) (hx : h0.get? x = none) (hdx : h0.get? dx = none) (hS : h0.get? S = none)
    (B : Bio w.params s.heap x dx S bs k) (hd : d ≤ b) (hu : u ≤ b) (hb : b ≤ 900) :
    codeAny (model PG w) ⟨none, d, fr, gs, u⟩ (.call (.ref 181) ⟨[.ref x], []⟩) (KeepR (fun r => r = .none) s) s := by
  generalize hR : KeepR (fun r => r = .none) s = R
  have k1 : ∀ b o, h0.get? b = some o → (hideAll s.heap [x, dx, S]).get? b = some o := fun b o e => hideAll_get _ (k0 b o e) (by
    intro q
    simp only [List.mem_cons, List.not_mem_nil, or_false] at q
    rcases q with rfl | rfl | rfl <;> rw [e] at * <;> contradiction)
  have X1 : (Mine.hd.heap_1 w.params).In s.heap := fun a o e => k0 _ _ (X _ _ e)
  have T1 := T.keeps k0
  have X2 : (Mine.hd.heap_1 w.params).In (hideAll s.heap [x, dx, S]) := fun a o e => k1 _ _ (X _ _ e)
  have T2 := T.keeps k1
  have hx1 : (hideAll s.heap [x, dx, S]).get? x = none := hideAll_none _ (by simp)
  have hdx1 : (hideAll s.heap [x, dx, S]).get? dx = none := hideAll_none _ (by simp)
  have hS1 : (hideAll s.heap [x, dx, S]).get? S = none := hideAll_none _ (by simp)
  have hsz : (hideAll s.heap [x, dx, S]).objs.size ≤ s.heap.objs.size := Nat.le_of_eq (hideAll_size _ _)
  have hg : ∀ b o, (hideAll s.heap [x, dx, S]).get? b = some o → s.heap.get? b = some o := fun b o e => of_hideAll _ e
  have hback : ∀ b o, b ≠ x → b ≠ dx → b ≠ S → s.heap.get? b = some o → (hideAll s.heap [x, dx, S]).get? b = some o := fun b o q1 q2 q3 e => hideAll_get _ e (by simp; exact ⟨q1, q2, q3⟩)
  generalize hideAll s.heap [x, dx, S] = g at *
  refine aside fun Gz hGz => ?_
  obtain ⟨t1, t2, t3, ed⟩ := B.ed
  refine hGz ?_
  clear hGz Gz
  have xdx := B.xdx
  have Sx := B.Sx
  have Sdx := B.Sdx
  refine enterG (K := Mine.hd.heap_1 w.params) g (binds := [("self", .ref x)]) X1 T1 (by simp only [recursionLimit]; omega) (by k_is) (by k_is) hg hsz (BindsTo.of_eq rfl) (locs rfl) ?_ rfl rfl rfl (by decide)
  intro h₁ F k2
  refine hide_E (by passes_own) fun E hE => ?_
  have N : News g s.heap.objs.size h₁ [(x, instObj 387 dx), (dx, bioD w.params S (k : Int) t1 t2 t3), (S, baO bs)] := by
    intro p hp
    simp only [List.mem_cons, List.not_mem_nil, or_false] at hp
    rcases hp with rfl | rfl | rfl
    · exact ⟨k2 _ _ B.ex, Nat.ne_of_lt (Heap.lt_size B.ex), hx1⟩
    · exact ⟨k2 _ _ ed, Nat.ne_of_lt (Heap.lt_size ed), hdx1⟩
    · exact ⟨k2 _ _ B.eS, Nat.ne_of_lt (Heap.lt_size B.eS), hS1⟩
  clear X T X1 T1
  k_steps
  rename Fr _ _ _ _ => F9
  rename News _ _ _ _ => N9
  subst hR
  refine ⟨_, _, _, rfl, rfl, rfl, fun b o e => ?_⟩
  by_cases q1 : b = x
  · subst q1; rw [B.ex] at e; cases e; exact (N9 _ (List.Mem.head _)).1
  by_cases q2 : b = dx
  · subst q2; rw [ed] at e; cases e; exact (N9 _ (.tail _ (List.Mem.head _))).1
  by_cases q3 : b = S
  · subst q3; rw [B.eS] at e; cases e; exact (N9 _ (.tail _ (.tail _ (List.Mem.head _)))).1
  exact F9.keep _ _ (hback _ _ q1 q2 q3 e)
local macro_rules | `(tactic| walk_at "call builtin:len") => `(tactic| (k_here; (with_reducible show wpAny _ _ (call (Value.builtin "len") [Value.ref _]) _ _ _); k_dflt (refine' ba_len ?a ?z ?_; (case a => walk_at "lst"); (case z => omega)); k_whole))
theorem read {h0 : Heap} {x dx S n k : Nat} {bs : Array UInt8} {tn : Tok} (X : (hd.heap_1 w.params).In h0) (T : TopRead p loose mg mb h0) (k0 : ∀ b o, h0.get? b = some o → s.heap.get? b = some o) (hx : h0.get? x = none) (hdx : h0.get? dx = none) (hS : h0.get? S = none)
    (B : Bio w.params s.heap x dx S bs k) (hd : d ≤ b) (hu : u ≤ b) (hb : b ≤ 860) (hn : n ≤ 255) (hk : k ≤ bs.size) (hz : bs.size ≤ 10000) :
    codeAny (model PG w) ⟨none, d, fr, gs, u⟩ (.call (.ref 311) ⟨[.ref x, .int (n : Int) tn], []⟩) (ReadR w.params x dx S bs (min (k + n) bs.size) (fun v => ∃ t, v = .bytes (bs.extract k (k + n)) t) s) s := by
  generalize hR : ReadR w.params x dx S bs (min (k + n) bs.size) (fun v => ∃ t, v = .bytes (bs.extract k (k + n)) t) s = R
  have k1 : ∀ b o, h0.get? b = some o → (hideAll s.heap [x, dx, S]).get? b = some o := fun b o e => hideAll_get _ (k0 b o e) (by
    intro q
    simp only [List.mem_cons, List.not_mem_nil, or_false] at q
    rcases q with rfl | rfl | rfl <;> rw [e] at * <;> contradiction)
  have X1 : (Mine.hd.heap_1 w.params).In s.heap := fun a o e => k0 _ _ (X _ _ e)
  have T1 := T.keeps k0
  have X2 : (Mine.hd.heap_1 w.params).In (hideAll s.heap [x, dx, S]) := fun a o e => k1 _ _ (X _ _ e)
  have T2 := T.keeps k1
  have hx1 : (hideAll s.heap [x, dx, S]).get? x = none := hideAll_none _ (by simp)
  have hdx1 : (hideAll s.heap [x, dx, S]).get? dx = none := hideAll_none _ (by simp)
  have hS1 : (hideAll s.heap [x, dx, S]).get? S = none := hideAll_none _ (by simp)
  have hsz : (hideAll s.heap [x, dx, S]).objs.size ≤ s.heap.objs.size := Nat.le_of_eq (hideAll_size _ _)
  have hg : ∀ b o, (hideAll s.heap [x, dx, S]).get? b = some o → s.heap.get? b = some o := fun b o e => of_hideAll _ e
  have hback : ∀ b o, b ≠ x → b ≠ dx → b ≠ S → s.heap.get? b = some o → (hideAll s.heap [x, dx, S]).get? b = some o := fun b o q1 q2 q3 e => hideAll_get _ e (by simp; exact ⟨q1, q2, q3⟩)
  generalize hideAll s.heap [x, dx, S] = g at *
  refine aside fun Gz hGz => ?_
  obtain ⟨t1, t2, t3, ed⟩ := B.ed
  refine hGz ?_
  clear hGz Gz
  have xdx := B.xdx
  have Sx := B.Sx
  have Sdx := B.Sdx
  refine enterG (K := Mine.hd.heap_1 w.params) g (binds := [("self", .ref x), ("size", .int (n : Int) tn)]) X1 T1 (by simp only [recursionLimit]; omega) (by k_is) (by k_is) hg hsz (binds_K X1 rfl (by k_is) rfl rfl rfl) (locs rfl) ?_ rfl rfl rfl (by decide)
  intro h₁ F k2
  refine hide_E (by passes_own) fun E hE => ?_
  have N : News g s.heap.objs.size h₁ [(x, instObj 387 dx), (dx, bioD w.params S (k : Int) t1 t2 t3), (S, baO bs)] := by
    intro p hp
    simp only [List.mem_cons, List.not_mem_nil, or_false] at hp
    rcases hp with rfl | rfl | rfl
    · exact ⟨k2 _ _ B.ex, Nat.ne_of_lt (Heap.lt_size B.ex), hx1⟩
    · exact ⟨k2 _ _ ed, Nat.ne_of_lt (Heap.lt_size ed), hdx1⟩
    · exact ⟨k2 _ _ B.eS, Nat.ne_of_lt (Heap.lt_size B.eS), hS1⟩
  clear X T X1 T1
  unfold bioD at N
  k_steps
  rename Fr _ _ _ _ => F3
  rename News _ _ _ _ => N3
  show wpAny _ _ _ _ _ _
  refine wpAny_call (codeAny_mono (index (b := b + 3) (d := d + 1) (u := u + 3) (X2.keeps F3.keep) (T2.keeps F3.keep) (by omega) (by omega) (by omega) (by omega) (by omega)) ?_)
  intro r s' hpat2
  refine aside fun Gz hGz => ?_
  obtain ⟨v, h4, tk4, rfl, ⟨t4, rfl⟩, rfl, k4⟩ := hpat2
  refine hGz ?_
  clear hGz Gz
  have F4 := after_fr F3 (Kp.of_keep (X := []) (fs := []) fun b o _ e => k4 b o e) (by simp) (by simp)
  have N4 := after_news N3 (Kp.of_keep (X := []) (fs := []) fun b o _ e => k4 b o e) (by simp)
  clear F3 N3 k4
  dsimp only at F4 N4 ⊢
  k_steps
  rename Fr _ _ _ _ => F5
  rename News _ _ _ _ => N5
  show wpAny _ _ _ _ _ _
  refine wpAny_call (codeAny_mono (check (h0 := g) (x := x) (dx := dx) (S := S) (k := k) (bs := bs) (b := b + 3) (d := d + 1) (u := u + 3) X2 T2 F5.keep hx1 hdx1 hS1 ⟨(N5 _ (List.Mem.head _)).1, ⟨t1, t2, t3, (N5 _ (.tail _ (List.Mem.head _))).1⟩, (N5 _ (.tail _ (.tail _ (List.Mem.head _)))).1⟩ (by omega) (by omega) (by omega)) ?_)
  intro r s' hpat2
  refine aside fun Gz hGz => ?_
  obtain ⟨v, h6, tk6, rfl, rfl, rfl, k6⟩ := hpat2
  refine hGz ?_
  clear hGz Gz
  have F6 := after_fr F5 (Kp.of_keep (X := []) (fs := []) fun b o _ e => k6 b o e) (by simp) (by simp)
  have N6 := after_news N5 (Kp.of_keep (X := []) (fs := []) fun b o _ e => k6 b o e) (by simp)
  clear F5 N5 k6
  dsimp only at F6 N6 ⊢
  k_steps
  · rename (bs.size : Int) ≤ (k : Int) => hle
    rename Fr _ _ _ _ => F9
    rename News _ _ _ _ => N9
    dsimp only
    subst hR
    refine ⟨_, _, _, rfl, ⟨_, by rw [Array.extract_empty_of_size_le_start (by omega)]⟩, rfl, ⟨(N9 _ (List.Mem.head _)).1, ⟨t1, t2, t3, ?_⟩, (N9 _ (.tail _ (.tail _ (List.Mem.head _)))).1⟩, fun b o q2 e => ?_⟩
    · rw [show min (k + n) bs.size = k by omega]
      exact (N9 _ (.tail _ (List.Mem.head _))).1
    · by_cases q1 : b = x
      · subst q1; rw [B.ex] at e; cases e; exact (N9 _ (List.Mem.head _)).1
      by_cases q3 : b = S
      · subst q3; rw [B.eS] at e; cases e; exact (N9 _ (.tail _ (.tail _ (List.Mem.head _)))).1
      exact F9.keep _ _ (hback _ _ q1 q2 q3 e)
  · rename Fr _ _ _ _ => F9
    rename News _ _ _ _ => N9
    show wpAny _ _ _ _ _ _
    refine ba_slice (i := k) (j := k + n) F9 N9 (N9 _ (.tail _ (.tail _ (List.Mem.head _)))).1 rfl (by omega) (by omega) (by omega) hz ?_
    intro D h' F8 N8 l8
    clear F9 N9
    k_steps
    rename Fr _ _ _ _ => F9
    rename News _ _ _ _ => N9
    show wpAny _ _ _ _ _ _
    refine ba_bytes (bs := bs.extract k (k + n)) (by rw [Array.size_extract]; have : sizeLine = 16777216 := sizeLine_eq; omega) (N9 _ (List.Mem.head _)).1 ?_
    intro t7 k7
    k_steps
    dsimp only
    subst hR
    have e9 := (N9 _ (.tail _ (.tail _ (List.Mem.head _)))).1
    rw [show ((k : Int) + (n : Int) : Int) = ((min (k + n) bs.size : Nat) : Int) by omega] at e9
    refine ⟨_, _, _, rfl, ⟨t7, ?_⟩, rfl, ⟨(N9 _ (.tail _ (List.Mem.head _))).1, ⟨t1, t2, _, e9⟩, (N9 _ (.tail _ (.tail _ (.tail _ (List.Mem.head _))))).1⟩, fun b o q2 e => ?_⟩
    · rfl
    · by_cases q1 : b = x
      · subst q1; rw [B.ex] at e; cases e; exact (N9 _ (.tail _ (List.Mem.head _))).1
      by_cases q3 : b = S
      · subst q3; rw [B.eS] at e; cases e; exact (N9 _ (.tail _ (.tail _ (.tail _ (List.Mem.head _))))).1
      exact F9.keep _ _ (hback _ _ q1 q2 q3 e)
  · rename Fr _ _ _ _ => F9
    rename News _ _ _ _ => N9
    show wpAny _ _ _ _ _ _
    refine ba_slice (i := k) (j := bs.size) F9 N9 (N9 _ (.tail _ (.tail _ (List.Mem.head _)))).1 rfl (by omega) (by omega) (by omega) hz ?_
    intro D h' F8 N8 l8
    clear F9 N9
    k_steps
    rename Fr _ _ _ _ => F9
    rename News _ _ _ _ => N9
    show wpAny _ _ _ _ _ _
    refine ba_bytes (bs := bs.extract k (bs.size)) (by rw [Array.size_extract]; have : sizeLine = 16777216 := sizeLine_eq; omega) (N9 _ (List.Mem.head _)).1 ?_
    intro t7 k7
    k_steps
    dsimp only
    subst hR
    have e9 := (N9 _ (.tail _ (.tail _ (List.Mem.head _)))).1
    rw [show ((bs.size : Int) : Int) = ((min (k + n) bs.size : Nat) : Int) by omega] at e9
    refine ⟨_, _, _, rfl, ⟨t7, ?_⟩, rfl, ⟨(N9 _ (.tail _ (List.Mem.head _))).1, ⟨t1, t2, _, e9⟩, (N9 _ (.tail _ (.tail _ (.tail _ (List.Mem.head _))))).1⟩, fun b o q2 e => ?_⟩
    · exact congrArg (fun z => Value.bytes z _) (extract_over (j := k + n) (by omega)).symm
    · by_cases q1 : b = x
      · subst q1; rw [B.ex] at e; cases e; exact (N9 _ (.tail _ (List.Mem.head _))).1
      by_cases q3 : b = S
      · subst q3; rw [B.eS] at e; cases e; exact (N9 _ (.tail _ (.tail _ (.tail _ (List.Mem.head _))))).1
      exact F9.keep _ _ (hback _ _ q1 q2 q3 e)
end

end

section

open _root_.PySem _root_.PySem.W _root_.PyProof.Rows _root_.PyProof.V _root_.PySem.Calls _root_.PySem.SeqAt
set_option maxRecDepth 100000
set_option maxHeartbeats 8000000
section
variable {prog : Program} {w : World} {A : Around} {E : Value → Shared → Prop} {s : Shared}
theorem truthy_own {b : Array UInt8} {t : Tok} {Q : Bool → Shared → Prop} (h0 : 0 < b.size) (hz : b.size ≤ 10000) (h : Q true { s with toks := s.toks + 1 + 1 }) : wpAny (model prog w) A (truthy (.bytes b t)) Q E s := by
  refine truthy_bytes (by omega) ?_
  have : ((b.size : Int) != 0) = true := by rw [bne_iff_ne]; omega
  rw [this]; exact h
theorem item_bytes {value slice : PySem.Expr} {b : Array UInt8} {t ui : Tok} {c : UInt8} {Q : Value → Shared → Prop} (h0 : b[0]? = some c) (hz : b.size ≤ 10000) (h : Q (.int (c.toNat : Int) s.toks) { s with toks := s.toks + 1 })
    (hs : subscripted slice false (.bytes b t) (.int 0 ui) = operate [.bytes b t, .int 0 ui] (getItem (.bytes b t) (.int 0 ui)) := by with_unfolding_all rfl)
    (ht : ∀ r, letTemporaryGo value (.bytes b t) r = pure () := by intro _; with_unfolding_all rfl) : wpAny (model prog w) A (subscriptTail value slice (.bytes b t) (.int 0 ui)) Q E s := by
  have hlt : 0 < b.size := by
    rcases Nat.eq_zero_or_pos b.size with q | q
    · rw [Array.getElem?_eq_none (by omega)] at h0; cases h0
    · exact q
  refine tail_of_ItemOn ⟨"bytes", _, FB.slot_bytes_getitem.lookup, typeIs_bytes _ _ _, ?_⟩ hs ht
  have e : b = b.toList.toArray := by simp
  rw [e]
  refine getItem_bytes (by simp; omega) (by omega) (by simp; omega) ?_
  have : b.toList.getD (0 : Int).toNat 0 = c := by
    show b.toList.getD 0 0 = c
    rw [List.getD_eq_getElem?_getD, Array.getElem?_toList, h0]; rfl
  rw [this]; exact h
theorem bio_after {g h h' : Heap} {L : Addr} {m : Str → Option Value} {x dx S k : Nat} {bs : Array UInt8} {P : Params} {o1 o2 o3 : Obj} (F : Fr g L h m) (N : News g L h [(x, o1), (dx, o2), (S, o3)]) (B : Bio P h' x dx S bs k) (kk : ∀ b o, b ≠ dx → h.get? b = some o → h'.get? b = some o) :
    Fr g L h' m ∧ ∃ t1 t2 t3, News g L h' [(x, instObj 387 dx), (dx, bioD P S (k : Int) t1 t2 t3), (S, baO bs)] := by
  refine aside fun Gz hGz => ?_
  obtain ⟨t1, t2, t3, e⟩ := B.ed
  refine hGz ?_
  clear hGz Gz
  have n1 := N _ (List.Mem.head _)
  have n2 := N _ (.tail _ (List.Mem.head _))
  have n3 := N _ (.tail _ (.tail _ (List.Mem.head _)))
  refine ⟨after_fr F (X := [dx]) (fs := []) (Kp.of_keep fun b o hb e => kk b o (fun q => hb (by rw [q]; exact .head _)) e) (by simpa using Ne.symm n2.2.1) (fun b hb => ?_), t1, t2, t3, fun p hp => ?_⟩
  · rcases hb with hb | ⟨hb, _⟩
    · obtain rfl := List.mem_singleton.mp hb; exact n2.2.2
    · cases hb
  · simp only [List.mem_cons, List.not_mem_nil, or_false] at hp
    rcases hp with rfl | rfl | rfl
    · exact ⟨B.ex, n1.2.1, n1.2.2⟩
    · exact ⟨e, n2.2.1, n2.2.2⟩
    · exact ⟨B.eS, n3.2.1, n3.2.2⟩
theorem bio_done {g h h' : Heap} {L : Addr} {m : Str → Option Value} {x dx S k k0 : Nat} {bs : Array UInt8} {P : Params} {t1 t2 t3 : Tok} (F : Fr g L h' m) (N : News g L h' [(x, instObj 387 dx), (dx, bioD P S (k : Int) t1 t2 t3), (S, baO bs)]) (B : Bio P h x dx S bs k0)
    (hback : ∀ b o, b ≠ x → b ≠ dx → b ≠ S → h.get? b = some o → g.get? b = some o) : Bio P h' x dx S bs k ∧ ∀ b o, b ≠ dx → h.get? b = some o → h'.get? b = some o := by
  have n1 := (N _ (List.Mem.head _)).1
  have n2 := (N _ (.tail _ (List.Mem.head _))).1
  have n3 := (N _ (.tail _ (.tail _ (List.Mem.head _)))).1
  refine ⟨⟨n1, ⟨_, _, _, n2⟩, n3⟩, fun b o q e => ?_⟩
  by_cases q1 : b = x
  · subst q1; rw [B.ex] at e; cases e; exact n1
  by_cases q3 : b = S
  · subst q3; rw [B.eS] at e; cases e; exact n3
  exact F.keep _ _ (hback _ _ q1 q q3 e)
end
local macro_rules | `(tactic| walk_at "truthy bytes") => `(tactic| (k_here; (with_reducible show wpAny _ _ (truthy (Value.bytes _ _)) _ _ _); k_dflt (refine' truthy_own ?a ?z ?_; (case a => assumption); (case z => omega)); k_whole))
local macro_rules | `(tactic| walk_at "subscriptTail Name Constant bytes int") => `(tactic| (k_here; (with_reducible show wpAny _ _ (subscriptTail _ _ (Value.bytes _ _) (Value.int _ _)) _ _ _); k_dflt (refine' item_bytes ?a ?z ?_ ?s ?t; (case a => assumption); (case z => omega); (case s => with_unfolding_all rfl); (case t => (intro _; with_unfolding_all rfl))); k_whole))
section
variable {w : World} {b : Nat} {d u : Nat} {fr : Option (List Env)} {gs : Option (List Code)} {s : Shared} {p : Program} {loose : List Str} {mg mb : Str → Option Value}
theorem uint1 {h0 : Heap} {x dx S k : Nat} {bs : Array UInt8} {c : UInt8} (X : (Mine.hd.heap_1 w.params).In h0) (T : TopRead p loose mg mb h0) (k0 : ∀ b o, h0.get? b = some o → s.heap.get? b = some o) (hx : h0.get? x = none) (hdx : h0.get? dx = none) (hS : h0.get? S = none)
    (B : Bio w.params s.heap x dx S bs k) (hd : d ≤ b) (hu : u ≤ b) (hb : b ≤ 850) (hc : bs[k]? = some c) (hz : bs.size ≤ 10000) :
    codeAny (model PG w) ⟨none, d, fr, gs, u⟩ (.call (.ref 72) ⟨[.ref x], []⟩) (ReadR w.params x dx S bs (k + 1) (fun v => ∃ t, v = .int (c.toNat : Int) t) s) s := by
  generalize hR : ReadR w.params x dx S bs (k + 1) (fun v => ∃ t, v = .int (c.toNat : Int) t) s = R
  have k1 : ∀ b o, h0.get? b = some o → (hideAll s.heap [x, dx, S]).get? b = some o := fun b o e => hideAll_get _ (k0 b o e) (by
    intro q
    simp only [List.mem_cons, List.not_mem_nil, or_false] at q
    rcases q with rfl | rfl | rfl <;> rw [e] at * <;> contradiction)
  have X1 : (Mine.hd.heap_1 w.params).In s.heap := fun a o e => k0 _ _ (X _ _ e)
  have T1 := T.keeps k0
  have X2 : (Mine.hd.heap_1 w.params).In (hideAll s.heap [x, dx, S]) := fun a o e => k1 _ _ (X _ _ e)
  have T2 := T.keeps k1
  have hx1 : (hideAll s.heap [x, dx, S]).get? x = none := hideAll_none _ (by simp)
  have hdx1 : (hideAll s.heap [x, dx, S]).get? dx = none := hideAll_none _ (by simp)
  have hS1 : (hideAll s.heap [x, dx, S]).get? S = none := hideAll_none _ (by simp)
  have hsz : (hideAll s.heap [x, dx, S]).objs.size ≤ s.heap.objs.size := Nat.le_of_eq (hideAll_size _ _)
  have hg : ∀ b o, (hideAll s.heap [x, dx, S]).get? b = some o → s.heap.get? b = some o := fun b o e => of_hideAll _ e
  have hback : ∀ b o, b ≠ x → b ≠ dx → b ≠ S → s.heap.get? b = some o → (hideAll s.heap [x, dx, S]).get? b = some o := fun b o q1 q2 q3 e => hideAll_get _ e (by simp; exact ⟨q1, q2, q3⟩)
  generalize hideAll s.heap [x, dx, S] = g at *
  refine aside fun Gz hGz => ?_
  obtain ⟨t1, t2, t3, ed⟩ := B.ed
  refine hGz ?_
  clear hGz Gz
  have xdx := B.xdx
  have Sx := B.Sx
  have Sdx := B.Sdx
  refine enterG (K := Mine.hd.heap_1 w.params) g (binds := [("f", .ref x)]) X1 T1 (by simp only [recursionLimit]; omega) (by k_is) (by k_is) hg hsz (BindsTo.of_eq rfl) (locs rfl) ?_ rfl rfl rfl (by decide)
  intro h₁ F k2
  refine hide_E (by passes_own) fun E hE => ?_
  have N : News g s.heap.objs.size h₁ [(x, instObj 387 dx), (dx, bioD w.params S (k : Int) t1 t2 t3), (S, baO bs)] := by
    intro p hp
    simp only [List.mem_cons, List.not_mem_nil, or_false] at hp
    rcases hp with rfl | rfl | rfl
    · exact ⟨k2 _ _ B.ex, Nat.ne_of_lt (Heap.lt_size B.ex), hx1⟩
    · exact ⟨k2 _ _ ed, Nat.ne_of_lt (Heap.lt_size ed), hdx1⟩
    · exact ⟨k2 _ _ B.eS, Nat.ne_of_lt (Heap.lt_size B.eS), hS1⟩
  clear X T X1 T1
  k_steps
  rename Fr _ _ _ _ => F3
  rename News _ _ _ _ => N3
  have hkl : k < bs.size := by
    rcases Nat.lt_or_ge k bs.size with q | q
    · exact q
    · rw [Array.getElem?_eq_none q] at hc; cases hc
  show wpAny _ _ (call (.ref 311) [.ref x, .int ((1 : Nat) : Int) _]) _ _ _
  refine wpAny_call (codeAny_mono (read (h0 := g) (x := x) (dx := dx) (S := S) (k := k) (bs := bs) (b := b + 3) (d := d + 1) (u := u + 3) X2 T2 F3.keep hx1 hdx1 hS1 ⟨(N3 _ (List.Mem.head _)).1, ⟨t1, t2, t3, (N3 _ (.tail _ (List.Mem.head _))).1⟩, (N3 _ (.tail _ (.tail _ (List.Mem.head _)))).1⟩ (by omega) (by omega) (by omega) (by omega) (by omega) hz) ?_)
  intro r s' hpat2
  refine aside fun Gz hGz => ?_
  obtain ⟨v, h4, tk4, rfl, ⟨tv, rfl⟩, rfl, B4, k4⟩ := hpat2
  refine hGz ?_
  clear hGz Gz
  refine aside fun Gz hGz => ?_
  obtain ⟨F4, t1', t2', t3', N4⟩ := bio_after F3 N3 B4 k4
  refine hGz ?_
  clear hGz Gz
  obtain ⟨C, hC⟩ := named (bs.extract k (k + 1))
  rw [← hC]
  have hC1 : C.size = 1 := by rw [hC, Array.size_extract]; omega
  have hC2 : 0 < C.size := by omega
  have hC3 : C[0]? = some c := by rw [hC, Array.getElem?_extract, if_pos (by omega), Nat.add_zero]; exact hc
  have hmin : min (k + 1) bs.size = k + 1 := by omega
  rw [hmin] at B4 N4
  clear F3 N3 k4
  dsimp only at F4 N4 ⊢
  k_steps
  rename Fr _ _ _ _ => F9
  rename News _ _ _ _ => N9
  dsimp only
  subst hR
  obtain ⟨e1, e2⟩ := bio_done F9 N9 B hback
  exact ⟨_, _, _, rfl, ⟨_, rfl⟩, rfl, e1, e2⟩
end

end

section

open _root_.PySem _root_.PySem.W _root_.PyProof.Rows _root_.PyProof.V _root_.PySem.Calls _root_.PySem.SeqAt
set_option maxRecDepth 100000
set_option maxHeartbeats 8000000
open Builtin in
theorem latin_entry {c : UInt8} {cs : List UInt8} {t te : Tok} : «bytes.decode» ⟨[.bytes (c :: cs).toArray t, .str (PySem.Str.ofString "latin-1") te], []⟩ = (mkStr (PySem.Str.ofString "utf-8") >>= fun _ => mkStr (PySem.Str.ofString "latin-1") >>= fun e => mkStr (PySem.Str.ofString "bytes.decode") >>= fun d =>
    call (.builtin "_codecs.decode.text") [.bytes (c :: cs).toArray t, e, .none, d] >>= fun v => ret v) := by kernel_rfl
open Builtin in
theorem latin_road {b : Array UInt8} {id : String} : _codecs.decodeRoad id b (PySem.Str.ofString "latin-1") none [] = (_codecs.runDecoder id _codecs.latin1Decoder none true b 0 [] >>= fun r => mkStr ⟨r.1⟩) := by kernel_rfl
open Builtin in
theorem latin_run {id : String} : ∀ (l : List UInt8), 1 ≤ l.length → l.length ≤ 4 → ∃ n, _codecs.runDecoder id _codecs.latin1Decoder none true l.toArray 0 [] = pure ((l.map (·.toNat)).toArray, n)
  | [_], _, _ => ⟨1, by kernel_rfl⟩
  | [_, _], _, _ => ⟨2, by kernel_rfl⟩
  | [_, _, _], _, _ => ⟨3, by kernel_rfl⟩
  | [_, _, _, _], _, _ => ⟨4, by kernel_rfl⟩
  | [], h, _ => absurd h (by decide)
  | _ :: _ :: _ :: _ :: _ :: _, _, h => absurd h (by simp)
theorem latin_args (a b : Value) : argsOk "bytes.decode" ⟨[a, b], []⟩ := by unfold argsOk; kernel_rfl
section
open Builtin
variable {prog : Program} {w : World} {A : Around} {E : Value → Shared → Prop} {s : Shared} {t te : Tok}
theorem latin_text {b : Array UInt8} {t1 t2 : Tok} {d x : PySem.Str} {n : Nat} (hd : ∀ id, ∃ n, _codecs.runDecoder id _codecs.latin1Decoder none true b 0 [] = pure (x.cps, n)) :
    Meets («_codecs.decode.text» ⟨[.bytes b t, .str (PySem.Str.ofString "latin-1") t1, .none, .str d t2], []⟩) (fun _ R s => x.length ≤ sizeLine ∧ R (.ok (.ret (.str x s.toks))) { s with toks := s.toks + 1 }) := by
  refine .of_wp fun prog w A R s hS => ?_
  obtain ⟨hsz, h⟩ := hS
  show wpAny _ _ (Bytes.bytesLike _ (.bytes b t) >>= fun r => _) _ _ s
  refine wpAny_bind (wpAny_of_eq KBd.like_eq ?_)
  refine wpAny_bind (wpAny_of_eq KBd.held_eq ?_)
  show wpAny _ _ (_codecs.decodeRoad _ b (PySem.Str.ofString "latin-1") none [] >>= fun v => _) _ _ s
  obtain ⟨n, hn⟩ := hd _
  rw [latin_road, hn]
  refine wpAny_bind (wpAny_bind (wpAny_pure ?_))
  exact wpAny_mkStr (wpAny_pure ⟨_, rfl, h⟩) hsz
theorem latin_meets {c : UInt8} {cs : List UInt8} (h4 : cs.length ≤ 3) :
    Meets («bytes.decode» ⟨[.bytes (c :: cs).toArray t, .str (PySem.Str.ofString "latin-1") te], []⟩) (fun _ R s => ∀ t' k, R (.ok (.ret (.str ⟨((c :: cs).map (·.toNat)).toArray⟩ t'))) { s with toks := k }) := by
  refine .of_wp fun prog w A R s h => ?_
  rw [latin_entry]
  refine wpAny_bind (wpAny_mkStr ?_ (by decide))
  refine wpAny_bind (wpAny_mkStr ?_ (by decide))
  refine wpAny_bind (wpAny_mkStr ?_ (by decide))
  refine wpAny_bind (call_function_meets KBd.kind_text KBd.plain_text KBd.entry_text (KBd.args_text _ _ _ _) (latin_text (n := 0) (x := ⟨((c :: cs).map (·.toNat)).toArray⟩) fun id => latin_run _ (by simp) (by simp; omega)) ⟨?_, wpAny_pure ⟨_, rfl, h _ _⟩⟩)
  show ((c :: cs).map (·.toNat)).toArray.size ≤ sizeLine
  have : sizeLine = 16777216 := sizeLine_eq
  simp; omega
theorem latin {b : Array UInt8} {Q : Value → Shared → Prop} (h1 : 1 ≤ b.size) (h4 : b.size ≤ 4) (h : ∀ t' k, Q (.str ⟨b.map (·.toNat)⟩ t') { s with toks := k }) : wpAny (model prog w) A (call (.builtin "bytes.decode") [.bytes b t, .str (PySem.Str.ofString "latin-1") te]) Q E s := by
  obtain ⟨l⟩ := b
  cases l with
  | nil => exact absurd h1 (by simp)
  | cons c cs =>
    simp only [List.size_toArray, List.length_cons] at h4
    refine call_meets FB.slot_bytes_decode (typeIs_bytes _ _ _) FB.entry_bytes_decode (latin_args _ _) (latin_meets (by omega)) fun t' k => ?_
    have := h t' k
    simpa using this
end
local macro_rules | `(tactic| walk_at "call builtin:bytes.decode") => `(tactic| (k_here; (with_reducible show wpAny _ _ (call (Value.builtin "bytes.decode") _) _ _ _); k_dflt (refine' latin ?a ?z ?_; (case a => omega); (case z => omega)); k_whole; intro _ _))
local macro_rules | `(tactic| walk_at "call builtin:len") => `(tactic| (k_here; (with_reducible show wpAny _ _ (call (Value.builtin "len") [Value.bytes _ _]) _ _ _); k_dflt (refine' len_bytes ?z ?_; (case z => omega)); k_whole))
section
theorem eq_true_own {prog : Program} {w : World} {A : Around} {E : Value → Shared → Prop} {s : Shared} {a b : Int} {t u : Tok} {Q : Value → Shared → Prop} (e : a = b) (h : Q (.bool true) s) : wpAny (model prog w) A (compareOp .Eq (.int a t) (.int b u)) Q E s := by
  subst e
  refine PyProof.Rows.eq_int ?_
  rw [beq_self_eq_true]; exact h
end
local macro_rules | `(tactic| walk_at "compareOp Eq int int") => `(tactic| (k_here; k_dflt (refine' eq_true_own ?e ?_; (case e => omega)); k_whole))
section
variable {w : World} {b : Nat} {d u : Nat} {fr : Option (List Env)} {gs : Option (List Code)} {s : Shared} {p : Program} {loose : List Str} {mg mb : Str → Option Value}
theorem bytes1 {h0 : Heap} {x dx S k : Nat} {bs : Array UInt8} {c : UInt8} {n : Nat} (X : (Mine.hd.heap_1 w.params).In h0) (T : TopRead p loose mg mb h0) (k0 : ∀ b o, h0.get? b = some o → s.heap.get? b = some o) (hx : h0.get? x = none) (hdx : h0.get? dx = none) (hS : h0.get? S = none)
    (B : Bio w.params s.heap x dx S bs k) (hd : d ≤ b) (hu : u ≤ b) (hb : b ≤ 840) (hc : bs[k]? = some c) (hn : c.toNat = n) (hk : k + 1 + n ≤ bs.size) (hz : bs.size ≤ 10000) :
    codeAny (model PG w) ⟨none, d, fr, gs, u⟩ (.call (.ref 86) ⟨[.ref x], []⟩) (ReadR w.params x dx S bs (k + 1 + n) (fun v => ∃ t, v = .bytes (bs.extract (k + 1) (k + 1 + n)) t) s) s := by
  generalize hR : ReadR w.params x dx S bs (k + 1 + n) (fun v => ∃ t, v = .bytes (bs.extract (k + 1) (k + 1 + n)) t) s = R
  have k1 : ∀ b o, h0.get? b = some o → (hideAll s.heap [x, dx, S]).get? b = some o := fun b o e => hideAll_get _ (k0 b o e) (by
    intro q
    simp only [List.mem_cons, List.not_mem_nil, or_false] at q
    rcases q with rfl | rfl | rfl <;> rw [e] at * <;> contradiction)
  have X1 : (Mine.hd.heap_1 w.params).In s.heap := fun a o e => k0 _ _ (X _ _ e)
  have T1 := T.keeps k0
  have X2 : (Mine.hd.heap_1 w.params).In (hideAll s.heap [x, dx, S]) := fun a o e => k1 _ _ (X _ _ e)
  have T2 := T.keeps k1
  have hx1 : (hideAll s.heap [x, dx, S]).get? x = none := hideAll_none _ (by simp)
  have hdx1 : (hideAll s.heap [x, dx, S]).get? dx = none := hideAll_none _ (by simp)
  have hS1 : (hideAll s.heap [x, dx, S]).get? S = none := hideAll_none _ (by simp)
  have hsz : (hideAll s.heap [x, dx, S]).objs.size ≤ s.heap.objs.size := Nat.le_of_eq (hideAll_size _ _)
  have hg : ∀ b o, (hideAll s.heap [x, dx, S]).get? b = some o → s.heap.get? b = some o := fun b o e => of_hideAll _ e
  have hback : ∀ b o, b ≠ x → b ≠ dx → b ≠ S → s.heap.get? b = some o → (hideAll s.heap [x, dx, S]).get? b = some o := fun b o q1 q2 q3 e => hideAll_get _ e (by simp; exact ⟨q1, q2, q3⟩)
  generalize hideAll s.heap [x, dx, S] = g at *
  refine aside fun Gz hGz => ?_
  obtain ⟨t1, t2, t3, ed⟩ := B.ed
  refine hGz ?_
  clear hGz Gz
  have xdx := B.xdx
  have Sx := B.Sx
  have Sdx := B.Sdx
  refine enterG (K := Mine.hd.heap_1 w.params) g (binds := [("f", .ref x)]) X1 T1 (by simp only [recursionLimit]; omega) (by k_is) (by k_is) hg hsz (BindsTo.of_eq rfl) (locs rfl) ?_ rfl rfl rfl (by decide)
  intro h₁ F k2
  refine hide_E (by passes_own) fun E hE => ?_
  have N : News g s.heap.objs.size h₁ [(x, instObj 387 dx), (dx, bioD w.params S (k : Int) t1 t2 t3), (S, baO bs)] := by
    intro p hp
    simp only [List.mem_cons, List.not_mem_nil, or_false] at hp
    rcases hp with rfl | rfl | rfl
    · exact ⟨k2 _ _ B.ex, Nat.ne_of_lt (Heap.lt_size B.ex), hx1⟩
    · exact ⟨k2 _ _ ed, Nat.ne_of_lt (Heap.lt_size ed), hdx1⟩
    · exact ⟨k2 _ _ B.eS, Nat.ne_of_lt (Heap.lt_size B.eS), hS1⟩
  clear X T X1 T1
  k_steps
  rename Fr _ _ _ _ => F3
  rename News _ _ _ _ => N3
  show wpAny _ _ (call (.ref 72) [.ref x]) _ _ _
  refine wpAny_call (codeAny_mono (uint1 (h0 := g) (x := x) (dx := dx) (S := S) (k := k) (bs := bs) (b := b + 3) (d := d + 1) (u := u + 3) X2 T2 F3.keep hx1 hdx1 hS1 ⟨(N3 _ (List.Mem.head _)).1, ⟨t1, t2, t3, (N3 _ (.tail _ (List.Mem.head _))).1⟩, (N3 _ (.tail _ (.tail _ (List.Mem.head _)))).1⟩ (by omega) (by omega) (by omega) hc hz) ?_)
  intro r s' hpat2
  refine aside fun Gz hGz => ?_
  obtain ⟨v, h4, tk4, rfl, ⟨tv, rfl⟩, rfl, B4, k4⟩ := hpat2
  refine hGz ?_
  clear hGz Gz
  refine aside fun Gz hGz => ?_
  obtain ⟨F4, t4, t5, t6, N4⟩ := bio_after F3 N3 B4 k4
  refine hGz ?_
  clear hGz Gz
  clear F3 N3 k4
  dsimp only at F4 N4 ⊢
  have hc256 : n < 256 := by rw [← hn]; exact c.toNat_lt
  rw [hn]
  clear hn hc
  k_steps
  rename Fr _ _ _ _ => F5
  rename News _ _ _ _ => N5
  show wpAny _ _ (call (.ref 311) [.ref x, .int ((n : Nat) : Int) _]) _ _ _
  refine wpAny_call (codeAny_mono (read (h0 := g) (x := x) (dx := dx) (S := S) (k := k + 1) (bs := bs) (b := b + 3) (d := d + 1) (u := u + 3) X2 T2 F5.keep hx1 hdx1 hS1 ⟨(N5 _ (List.Mem.head _)).1, ⟨t4, t5, t6, (N5 _ (.tail _ (List.Mem.head _))).1⟩, (N5 _ (.tail _ (.tail _ (List.Mem.head _)))).1⟩ (by omega) (by omega) (by omega) (by omega) (by omega) hz) ?_)
  intro r s' hpat2
  refine aside fun Gz hGz => ?_
  obtain ⟨v, h6, tk6, rfl, ⟨tw, rfl⟩, rfl, B6, k6⟩ := hpat2
  refine hGz ?_
  clear hGz Gz
  refine aside fun Gz hGz => ?_
  obtain ⟨F6, t7, t8, t9, N6⟩ := bio_after F5 N5 B6 k6
  refine hGz ?_
  clear hGz Gz
  obtain ⟨C, hC⟩ := named (bs.extract (k + 1) (k + 1 + n))
  rw [← hC]
  have hC1 : C.size = n := by rw [hC, Array.size_extract]; omega
  have hmin : min (k + 1 + n) bs.size = k + 1 + n := by omega
  rw [hmin] at B6 N6
  clear F5 N5 k6
  dsimp only at F6 N6 ⊢
  k_steps
  rename Fr _ _ _ _ => F9
  rename News _ _ _ _ => N9
  dsimp only
  subst hR
  obtain ⟨e1, e2⟩ := bio_done F9 N9 B hback
  exact ⟨_, _, _, rfl, ⟨_, by rw [hC]⟩, rfl, e1, e2⟩
theorem string1 {h0 : Heap} {x dx S k : Nat} {bs : Array UInt8} {c : UInt8} {n : Nat} (X : (Mine.hd.heap_1 w.params).In h0) (T : TopRead p loose mg mb h0) (k0 : ∀ b o, h0.get? b = some o → s.heap.get? b = some o) (hx : h0.get? x = none) (hdx : h0.get? dx = none) (hS : h0.get? S = none)
    (B : Bio w.params s.heap x dx S bs k) (hd : d ≤ b) (hu : u ≤ b) (hb : b ≤ 840) (hc : bs[k]? = some c) (hn : c.toNat = n) (hk : k + 1 + n ≤ bs.size) (hn1 : 1 ≤ n) (hn4 : n ≤ 4) (hz : bs.size ≤ 10000) :
    codeAny (model PG w) ⟨none, d, fr, gs, u⟩ (.call (.ref 79) ⟨[.ref x], []⟩) (ReadR w.params x dx S bs (k + 1 + n) (fun v => ∃ t, v = .str ⟨(bs.extract (k + 1) (k + 1 + n)).map (·.toNat)⟩ t) s) s := by
  generalize hR : ReadR w.params x dx S bs (k + 1 + n) (fun v => ∃ t, v = .str ⟨(bs.extract (k + 1) (k + 1 + n)).map (·.toNat)⟩ t) s = R
  have k1 : ∀ b o, h0.get? b = some o → (hideAll s.heap [x, dx, S]).get? b = some o := fun b o e => hideAll_get _ (k0 b o e) (by
    intro q
    simp only [List.mem_cons, List.not_mem_nil, or_false] at q
    rcases q with rfl | rfl | rfl <;> rw [e] at * <;> contradiction)
  have X1 : (Mine.hd.heap_1 w.params).In s.heap := fun a o e => k0 _ _ (X _ _ e)
  have T1 := T.keeps k0
  have X2 : (Mine.hd.heap_1 w.params).In (hideAll s.heap [x, dx, S]) := fun a o e => k1 _ _ (X _ _ e)
  have T2 := T.keeps k1
  have hx1 : (hideAll s.heap [x, dx, S]).get? x = none := hideAll_none _ (by simp)
  have hdx1 : (hideAll s.heap [x, dx, S]).get? dx = none := hideAll_none _ (by simp)
  have hS1 : (hideAll s.heap [x, dx, S]).get? S = none := hideAll_none _ (by simp)
  have hsz : (hideAll s.heap [x, dx, S]).objs.size ≤ s.heap.objs.size := Nat.le_of_eq (hideAll_size _ _)
  have hg : ∀ b o, (hideAll s.heap [x, dx, S]).get? b = some o → s.heap.get? b = some o := fun b o e => of_hideAll _ e
  have hback : ∀ b o, b ≠ x → b ≠ dx → b ≠ S → s.heap.get? b = some o → (hideAll s.heap [x, dx, S]).get? b = some o := fun b o q1 q2 q3 e => hideAll_get _ e (by simp; exact ⟨q1, q2, q3⟩)
  generalize hideAll s.heap [x, dx, S] = g at *
  refine aside fun Gz hGz => ?_
  obtain ⟨t1, t2, t3, ed⟩ := B.ed
  refine hGz ?_
  clear hGz Gz
  have xdx := B.xdx
  have Sx := B.Sx
  have Sdx := B.Sdx
  refine enterG (K := Mine.hd.heap_1 w.params) g (binds := [("f", .ref x)]) X1 T1 (by simp only [recursionLimit]; omega) (by k_is) (by k_is) hg hsz (BindsTo.of_eq rfl) (locs rfl) ?_ rfl rfl rfl (by decide)
  intro h₁ F k2
  refine hide_E (by passes_own) fun E hE => ?_
  have N : News g s.heap.objs.size h₁ [(x, instObj 387 dx), (dx, bioD w.params S (k : Int) t1 t2 t3), (S, baO bs)] := by
    intro p hp
    simp only [List.mem_cons, List.not_mem_nil, or_false] at hp
    rcases hp with rfl | rfl | rfl
    · exact ⟨k2 _ _ B.ex, Nat.ne_of_lt (Heap.lt_size B.ex), hx1⟩
    · exact ⟨k2 _ _ ed, Nat.ne_of_lt (Heap.lt_size ed), hdx1⟩
    · exact ⟨k2 _ _ B.eS, Nat.ne_of_lt (Heap.lt_size B.eS), hS1⟩
  clear X T X1 T1
  k_steps
  rename Fr _ _ _ _ => F3
  rename News _ _ _ _ => N3
  show wpAny _ _ (call (.ref 72) [.ref x]) _ _ _
  refine wpAny_call (codeAny_mono (uint1 (h0 := g) (x := x) (dx := dx) (S := S) (k := k) (bs := bs) (b := b + 3) (d := d + 1) (u := u + 3) X2 T2 F3.keep hx1 hdx1 hS1 ⟨(N3 _ (List.Mem.head _)).1, ⟨t1, t2, t3, (N3 _ (.tail _ (List.Mem.head _))).1⟩, (N3 _ (.tail _ (.tail _ (List.Mem.head _)))).1⟩ (by omega) (by omega) (by omega) hc hz) ?_)
  intro r s' hpat2
  refine aside fun Gz hGz => ?_
  obtain ⟨v, h4, tk4, rfl, ⟨tv, rfl⟩, rfl, B4, k4⟩ := hpat2
  refine hGz ?_
  clear hGz Gz
  refine aside fun Gz hGz => ?_
  obtain ⟨F4, t4, t5, t6, N4⟩ := bio_after F3 N3 B4 k4
  refine hGz ?_
  clear hGz Gz
  clear F3 N3 k4
  dsimp only at F4 N4 ⊢
  have hc256 : n < 256 := by rw [← hn]; exact c.toNat_lt
  rw [hn]
  clear hn hc
  k_steps
  rename Fr _ _ _ _ => F5
  rename News _ _ _ _ => N5
  show wpAny _ _ (call (.ref 311) [.ref x, .int ((n : Nat) : Int) _]) _ _ _
  refine wpAny_call (codeAny_mono (read (h0 := g) (x := x) (dx := dx) (S := S) (k := k + 1) (bs := bs) (b := b + 3) (d := d + 1) (u := u + 3) X2 T2 F5.keep hx1 hdx1 hS1 ⟨(N5 _ (List.Mem.head _)).1, ⟨t4, t5, t6, (N5 _ (.tail _ (List.Mem.head _))).1⟩, (N5 _ (.tail _ (.tail _ (List.Mem.head _)))).1⟩ (by omega) (by omega) (by omega) (by omega) (by omega) hz) ?_)
  intro r s' hpat2
  refine aside fun Gz hGz => ?_
  obtain ⟨v, h6, tk6, rfl, ⟨tw, rfl⟩, rfl, B6, k6⟩ := hpat2
  refine hGz ?_
  clear hGz Gz
  refine aside fun Gz hGz => ?_
  obtain ⟨F6, t7, t8, t9, N6⟩ := bio_after F5 N5 B6 k6
  refine hGz ?_
  clear hGz Gz
  obtain ⟨C, hC⟩ := named (bs.extract (k + 1) (k + 1 + n))
  rw [← hC]
  have hC1 : C.size = n := by rw [hC, Array.size_extract]; omega
  have hmin : min (k + 1 + n) bs.size = k + 1 + n := by omega
  rw [hmin] at B6 N6
  clear F5 N5 k6
  dsimp only at F6 N6 ⊢
  k_steps
  rename Fr _ _ _ _ => F9
  rename News _ _ _ _ => N9
  dsimp only
  subst hR
  obtain ⟨e1, e2⟩ := bio_done F9 N9 B hback
  exact ⟨_, _, _, rfl, ⟨_, by rw [hC]⟩, rfl, e1, e2⟩
end

end

section

open _root_.PySem _root_.PySem.W _root_.PyProof.Rows _root_.PyProof.V _root_.PySem.Calls _root_.PySem.SeqAt
set_option maxRecDepth 100000
set_option maxHeartbeats 8000000
local macro_rules | `(tactic| walk_at "call builtin:len") => `(tactic| (k_here; (with_reducible show wpAny _ _ (call (Value.builtin "len") [Value.ref _]) _ _ _); k_dflt (refine' ba_len ?a ?z ?_; (case a => walk_at "lst"); (case z => omega)); k_whole))
section
variable {w : World} {b : Nat} {d u : Nat} {fr : Option (List Env)} {gs : Option (List Code)} {s : Shared} {p : Program} {loose : List Str} {mg mb : Str → Option Value}
/-- read() at the end of the stream -/
theorem read0 {h0 : Heap} {x dx S k : Nat} {bs : Array UInt8} (X : (Mine.hd.heap_1 w.params).In h0) (T : TopRead p loose mg mb h0) (k0 : ∀ b o, h0.get? b = some o → s.heap.get? b = some o) (hx : h0.get? x = none) (hdx : h0.get? dx = none) (hS : h0.get? S = none)
    (B : Bio w.params s.heap x dx S bs k) (hd : d ≤ b) (hu : u ≤ b) (hb : b ≤ 860) (hk : k = bs.size) (hz : bs.size ≤ 10000) :
    codeAny (model PG w) ⟨none, d, fr, gs, u⟩ (.call (.ref 311) ⟨[.ref x], []⟩) (ReadR w.params x dx S bs k (fun v => ∃ t, v = .bytes #[] t) s) s := by
  generalize hR : ReadR w.params x dx S bs k (fun v => ∃ t, v = .bytes #[] t) s = R
  have k1 : ∀ b o, h0.get? b = some o → (hideAll s.heap [x, dx, S]).get? b = some o := fun b o e => hideAll_get _ (k0 b o e) (by
    intro q
    simp only [List.mem_cons, List.not_mem_nil, or_false] at q
    rcases q with rfl | rfl | rfl <;> rw [e] at * <;> contradiction)
  have X1 : (Mine.hd.heap_1 w.params).In s.heap := fun a o e => k0 _ _ (X _ _ e)
  have T1 := T.keeps k0
  have X2 : (Mine.hd.heap_1 w.params).In (hideAll s.heap [x, dx, S]) := fun a o e => k1 _ _ (X _ _ e)
  have T2 := T.keeps k1
  have hx1 : (hideAll s.heap [x, dx, S]).get? x = none := hideAll_none _ (by simp)
  have hdx1 : (hideAll s.heap [x, dx, S]).get? dx = none := hideAll_none _ (by simp)
  have hS1 : (hideAll s.heap [x, dx, S]).get? S = none := hideAll_none _ (by simp)
  have hsz : (hideAll s.heap [x, dx, S]).objs.size ≤ s.heap.objs.size := Nat.le_of_eq (hideAll_size _ _)
  have hg : ∀ b o, (hideAll s.heap [x, dx, S]).get? b = some o → s.heap.get? b = some o := fun b o e => of_hideAll _ e
  have hback : ∀ b o, b ≠ x → b ≠ dx → b ≠ S → s.heap.get? b = some o → (hideAll s.heap [x, dx, S]).get? b = some o := fun b o q1 q2 q3 e => hideAll_get _ e (by simp; exact ⟨q1, q2, q3⟩)
  generalize hideAll s.heap [x, dx, S] = g at *
  refine aside fun Gz hGz => ?_
  obtain ⟨t1, t2, t3, ed⟩ := B.ed
  refine hGz ?_
  clear hGz Gz
  have xdx := B.xdx
  have Sx := B.Sx
  have Sdx := B.Sdx
  refine enterG (K := Mine.hd.heap_1 w.params) g (binds := [("self", .ref x), ("size", _)]) X1 T1 (by simp only [recursionLimit]; omega) (by k_is) (by k_is) hg hsz (binds_K X1 rfl (by k_is) rfl rfl rfl) (locs rfl) ?_ rfl rfl rfl (by decide)
  intro h₁ F k2
  refine hide_E (by passes_own) fun E hE => ?_
  have N : News g s.heap.objs.size h₁ [(x, instObj 387 dx), (dx, bioD w.params S (k : Int) t1 t2 t3), (S, baO bs)] := by
    intro p hp
    simp only [List.mem_cons, List.not_mem_nil, or_false] at hp
    rcases hp with rfl | rfl | rfl
    · exact ⟨k2 _ _ B.ex, Nat.ne_of_lt (Heap.lt_size B.ex), hx1⟩
    · exact ⟨k2 _ _ ed, Nat.ne_of_lt (Heap.lt_size ed), hdx1⟩
    · exact ⟨k2 _ _ B.eS, Nat.ne_of_lt (Heap.lt_size B.eS), hS1⟩
  clear X T X1 T1
  unfold bioD at N
  k_steps
  rename Fr _ _ _ _ => F3
  rename News _ _ _ _ => N3
  show wpAny _ _ _ _ _ _
  refine wpAny_call (codeAny_mono (index (b := b + 3) (d := d + 1) (u := u + 3) (X2.keeps F3.keep) (T2.keeps F3.keep) (by omega) (by omega) (by omega) (by omega) (by omega)) ?_)
  intro r s' hpat2
  refine aside fun Gz hGz => ?_
  obtain ⟨v, h4, tk4, rfl, ⟨t4, rfl⟩, rfl, k4⟩ := hpat2
  refine hGz ?_
  clear hGz Gz
  have F4 := after_fr F3 (Kp.of_keep (X := []) (fs := []) fun b o _ e => k4 b o e) (by simp) (by simp)
  have N4 := after_news N3 (Kp.of_keep (X := []) (fs := []) fun b o _ e => k4 b o e) (by simp)
  clear F3 N3 k4
  dsimp only at F4 N4 ⊢
  k_steps
  rename Fr _ _ _ _ => F5
  rename News _ _ _ _ => N5
  show wpAny _ _ _ _ _ _
  refine wpAny_call (codeAny_mono (check (h0 := g) (x := x) (dx := dx) (S := S) (k := k) (bs := bs) (b := b + 3) (d := d + 1) (u := u + 3) X2 T2 F5.keep hx1 hdx1 hS1 ⟨(N5 _ (List.Mem.head _)).1, ⟨t1, t2, t3, (N5 _ (.tail _ (List.Mem.head _))).1⟩, (N5 _ (.tail _ (.tail _ (List.Mem.head _)))).1⟩ (by omega) (by omega) (by omega)) ?_)
  intro r s' hpat2
  refine aside fun Gz hGz => ?_
  obtain ⟨v, h6, tk6, rfl, rfl, rfl, k6⟩ := hpat2
  refine hGz ?_
  clear hGz Gz
  have F6 := after_fr F5 (Kp.of_keep (X := []) (fs := []) fun b o _ e => k6 b o e) (by simp) (by simp)
  have N6 := after_news N5 (Kp.of_keep (X := []) (fs := []) fun b o _ e => k6 b o e) (by simp)
  clear F5 N5 k6
  dsimp only at F6 N6 ⊢
  k_steps
  rename Fr _ _ _ _ => F9
  rename News _ _ _ _ => N9
  dsimp only
  subst hR
  obtain ⟨e1, e2⟩ := bio_done F9 N9 B hback
  exact ⟨_, _, _, rfl, ⟨_, rfl⟩, rfl, e1, e2⟩
end

end

section

open _root_.PySem _root_.PySem.W _root_.PyProof.Rows _root_.PyProof.V _root_.PySem.Calls _root_.PySem.SeqAt
set_option maxRecDepth 100000
set_option maxHeartbeats 8000000
noncomputable def byts (cs : List Nat) : Array UInt8 := byteArr (List.map (fun n : Nat => (n : Int)) cs)
theorem CA.ints : ∀ {vs cs}, CA false vs cs → IntsAre vs (List.map (fun n : Nat => (n : Int)) cs)
  | _, _, .nil => .nil
  | _, _, .cons ⟨t, e⟩ r => by subst e; exact IntsAre.cons _ t r.ints
theorem byts_size (cs : List Nat) : (byts cs).size = cs.length := by rw [byts, byteArr_size, List.length_map]
theorem bytes_own {prog : Program} {w : World} {A : Around} {E : Value → Shared → Prop} {s : Shared} {h₀ : Heap} {L : Addr} {m : Str → Option Value} {news : List (Addr × Obj)} {l n : Nat} {vs : List Value} {cs : List Nat} {Q : Value → Shared → Prop} (F : Fr h₀ L s.heap m) (N : News h₀ L s.heap news)
    (hl : s.heap.get? l = some (W.listOf vs.toArray n)) (hi : CA false vs cs) (hr : ∀ c ∈ cs, c < 256) (hz : cs.length ≤ 100000) (hh : A.handled = none)
    (h : ∀ h' t k, Fr h₀ L h' m → News h₀ L h' news → Q (.bytes (byts cs) t) { s with heap := h', toks := k }) : wpAny (model prog w) A (call (.type "bytes") [.ref l]) Q E s := by
  refine call_bytes_ints (isList_of hl) hi.ints (fun n hn => ?_) (by rw [hi.length]; have : sizeLine = 16777216 := sizeLine_eq; omega) hh fun h' t k kk => ?_
  · obtain ⟨c, hc, rfl⟩ := List.mem_map.mp hn
    have := hr c hc
    omega
  · exact h h' t k (after_fr F (Kp.of_keep (X := []) (fs := []) fun b o _ e => kk b o e) (by simp) (by simp)) (after_news N (Kp.of_keep (X := []) (fs := []) fun b o _ e => kk b o e) (by simp))
section
variable {w : World} {b : Nat} {A : Around} {s : Shared} {p : Program} {loose : List Str} {mg mb : Str → Option Value} {E : Value → Shared → Prop} {Q : Value → Shared → Prop} {base : Heap} {L : Nat} {m : Str → Option Value} {news : List (Addr × Obj)}
theorem keeper_bio {Q : Keeper → Shared → Prop} (X : (Mine.hd.heap_1 w.params).In base) (F : Fr base L s.heap m) (h : Q .machine s) : wpAny (model PG w) A (keeperOf (.ref 387)) Q E s := by
  have X1 := X.keeps F.keep
  obtain ⟨hp, g, d, t, os⟩ := s
  dsimp only at X1 F
  have hcall : Looks (model PG w) hp (specialOf (.ref 387) "__call__") (some (.builtin "type.__call__")) := looks_specialIn X1 (by k_is)
  have hC := X1 387 _ (by k_is)
  unfold keeperOf
  refine wpAny_bind (wpAny_load hC ?_)
  dsimp only
  refine wpAny_bind (hcall.at (wpAny_pure ?_))
  exact h
theorem bioK {bs : Array UInt8} {tb : Tok} (H : Pre w b [L] p loose mg mb A s.heap) (hb : b ≤ 680) (hz : bs.size ≤ sizeLine) (F : Fr base L s.heap m) (N : News base L s.heap news)
    (h : ∀ S x dx h' tk t1 t2 t3, Fr base L h' m → News base L h' ((x, instObj 387 dx) :: (dx, bioD w.params S 0 t1 t2 t3) :: (S, baO bs) :: news) → (∀ p ∈ news, p.1 ≠ x ∧ p.1 ≠ dx ∧ p.1 ≠ S) → Q (.ref x) { s with heap := h', toks := tk }) :
    wpN (model PG w) A (call (.ref 387) [.bytes bs tb]) Q E s := by
  obtain ⟨ah, d, fr, gs, u⟩ := A
  obtain rfl : ah = none := H.handled
  refine wpN_call (codeN_mono (make_bio H (by omega) hz) ?_)
  rintro r s' ⟨S, x, dx, h', tk, t1, t2, t3, rfl, rfl, k, S0, x0, dx0, Sx, Sdx, xdx, eS, ex, edx⟩
  obtain ⟨F', N'⟩ := law_after F N (Kp.of_keep (X := []) (fs := [L]) fun b o _ e => k b o e)
  exact h S x dx h' tk t1 t2 t3 F' (law_new F (law_new F (law_new F N' S0 eS) dx0 edx) x0 ex) fun p hp => ⟨ne_new N x0 p hp, ne_new N dx0 p hp, ne_new N S0 p hp⟩
/-- a change of the stream's dict alone -/
theorem bio_news {h h' : Heap} {x dx S k k' : Nat} {bs : Array UInt8} {P : Params} {t1 t2 t3 : Tok} (F : Fr base L h m) (N : News base L h news) (m2 : (dx, bioD P S (k : Int) t1 t2 t3) ∈ news) (B : Bio P h' x dx S bs k') (kk : ∀ b o, b ≠ dx → h.get? b = some o → h'.get? b = some o) :
    Fr base L h' m ∧ ∃ t1 t2 t3, ∀ rest, (∀ p ∈ rest, p ∈ news ∧ (isD p.2 = false ∨ p.1 ≠ dx)) → News base L h' ((dx, bioD P S (k' : Int) t1 t2 t3) :: rest) := by
  obtain ⟨t1', t2', t3', e⟩ := B.ed
  have n2 := N _ m2
  refine ⟨after_fr F (X := [dx]) (fs := []) (Kp.of_keep fun b o hb e => kk b o (fun q => hb (by rw [q]; exact .head _)) e) (by simpa using Ne.symm n2.2.1) (fun b hb => ?_), t1', t2', t3', fun rest hr p hp => ?_⟩
  · rcases hb with hb | ⟨hb, _⟩
    · obtain rfl := List.mem_singleton.mp hb; exact n2.2.2
    · cases hb
  · rcases List.mem_cons.mp hp with rfl | hp
    · exact ⟨e, n2.2.1, n2.2.2⟩
    · obtain ⟨q1, q2⟩ := hr p hp
      have np := N p q1
      refine ⟨kk _ _ (fun q => ?_) np.1, np.2.1, np.2.2⟩
      rcases q2 with q2 | q2
      · have e1 := np.1
        rw [q, n2.1] at e1
        rw [← Option.some.inj e1] at q2
        simp [isD, bioD, dictOf] at q2
      · exact q2 q
section
variable {x dx S k : Nat} {bs : Array UInt8} {t1 t2 t3 : Tok} (H : Pre w b [L] p loose mg mb A s.heap) (hb : b ≤ 680) (X : (Mine.hd.heap_1 w.params).In base) (T : TopRead p loose mg mb base) (F : Fr base L s.heap m) (N : News base L s.heap news)
  (m1 : (x, instObj 387 dx) ∈ news) (m2 : (dx, bioD w.params S (k : Int) t1 t2 t3) ∈ news) (m3 : (S, baO bs) ∈ news) (hz : bs.size ≤ 10000)
include H hb X T F N m1 m2 m3 hz
theorem string1K {c : UInt8} {n : Nat} (hc : bs[k]? = some c) (hn : c.toNat = n) (hk : k + 1 + n ≤ bs.size) (hn1 : 1 ≤ n) (hn4 : n ≤ 4)
    (h : ∀ h' tk t1 t2 t3 t, Fr base L h' m → (∀ rest, (∀ p ∈ rest, p ∈ news ∧ (isD p.2 = false ∨ p.1 ≠ dx)) → News base L h' ((dx, bioD w.params S ((k + 1 + n : Nat) : Int) t1 t2 t3) :: rest)) → Q (.str ⟨(bs.extract (k + 1) (k + 1 + n)).map (·.toNat)⟩ t) { s with heap := h', toks := tk }) :
    wpAny (model PG w) A (call (.ref 79) [.ref x]) Q E s := by
  obtain ⟨ah, d, fr, gs, u⟩ := A
  obtain rfl : ah = none := H.handled
  refine wpAny_call (codeAny_mono (string1 (h0 := base) (b := b) X T F.keep (N _ m1).2.2 (N _ m2).2.2 (N _ m3).2.2 ⟨(N _ m1).1, ⟨_, _, _, (N _ m2).1⟩, (N _ m3).1⟩ H.depth H.units (by omega) hc hn hk hn1 hn4 hz) ?_)
  rintro r s' ⟨v, h', tk, rfl, ⟨t, rfl⟩, rfl, B, kk⟩
  obtain ⟨F', t1, t2, t3, N'⟩ := bio_news F N m2 B kk
  exact h h' tk t1 t2 t3 t F' N'
theorem bytes1K {c : UInt8} {n : Nat} (hc : bs[k]? = some c) (hn : c.toNat = n) (hk : k + 1 + n ≤ bs.size)
    (h : ∀ h' tk t1 t2 t3 t, Fr base L h' m → (∀ rest, (∀ p ∈ rest, p ∈ news ∧ (isD p.2 = false ∨ p.1 ≠ dx)) → News base L h' ((dx, bioD w.params S ((k + 1 + n : Nat) : Int) t1 t2 t3) :: rest)) → Q (.bytes (bs.extract (k + 1) (k + 1 + n)) t) { s with heap := h', toks := tk }) :
    wpAny (model PG w) A (call (.ref 86) [.ref x]) Q E s := by
  obtain ⟨ah, d, fr, gs, u⟩ := A
  obtain rfl : ah = none := H.handled
  refine wpAny_call (codeAny_mono (bytes1 (h0 := base) (b := b) X T F.keep (N _ m1).2.2 (N _ m2).2.2 (N _ m3).2.2 ⟨(N _ m1).1, ⟨_, _, _, (N _ m2).1⟩, (N _ m3).1⟩ H.depth H.units (by omega) hc hn hk hz) ?_)
  rintro r s' ⟨v, h', tk, rfl, ⟨t, rfl⟩, rfl, B, kk⟩
  obtain ⟨F', t1, t2, t3, N'⟩ := bio_news F N m2 B kk
  exact h h' tk t1 t2 t3 t F' N'
end
end

end

section

open _root_.PySem _root_.PySem.W _root_.PyProof.Rows _root_.PyProof.V _root_.PySem.Calls _root_.PySem.SeqAt
set_option maxRecDepth 100000
set_option maxHeartbeats 4000000
theorem CA.of_get {κ : Bool} : ∀ {cs : List Nat} {vs : List Value}, vs.length = cs.length → (∀ (j : Nat) v, vs[j]? = some v → ∃ c, cs[j]? = some c ∧ Cd κ v c) → CA κ vs cs
  | [], [], _, _ => .nil
  | [], _ :: _, h, _ => by simp at h
  | _ :: _, [], h, _ => by simp at h
  | c :: cs, v :: vs, h, k => by
    obtain ⟨c', h1, h2⟩ := k 0 v rfl
    obtain rfl : c = c' := by simpa using h1
    exact .cons h2 (CA.of_get (by simpa using h) fun j v' hv => by
      obtain ⟨c'', q1, q2⟩ := k (j + 1) v' (by simpa using hv)
      exact ⟨c'', by simpa using q1, q2⟩)
section
variable {prog : Program} {w : World} {A : Around} {E : Value → Shared → Prop} {s : Shared}
/-- list(b) for bytes -/
theorem extend_bytes {R : Result → Shared → Prop} (hh : A.handled = none) (b : Array UInt8) (t : Tok) (S : Addr) (res : Value) (c₀ : Nat) (hS : s.heap.get? S = some { cls := .type "list", data := .seq #[] c₀ })
    (hR : ∀ h' tk acc' c', (∀ b o, b ≠ S → s.heap.get? b = some o → h'.get? b = some o) → h'.get? S = some { cls := .type "list", dict := none, data := .seq acc' c', slots := #[] } →
      ItemsOf (fun i v => ∃ c u, b[i]? = some c ∧ v = .int (c.toNat : Int) u) acc' b.size → R (.ok (.ret res)) { s with heap := h', toks := tk }) (hn : b.size ≤ sizeLine) :
    wpAny (model prog w) A.in1 (Builtin.List.listExtendWith (.ref S) (.bytes b t) res)
      (fun fin s' => match fin with | .done f => R (.ok f) s' | .again c' => c'.quiet = true ∧ codeAny (model prog w) A c' R s') (fun e s' => R (.error e) s') s := by
  have hSI : S ≠ s.heap.objs.size := Nat.ne_of_lt (Heap.lt_size hS)
  have hSf : S ∉ [s.heap.objs.size] := fun hm => hSI (List.mem_singleton.mp hm)
  have hT : ∀ s : Shared, s.TypeIs (.bytes b t) "bytes" := fun s => typeIs_bytes s b t
  unfold Builtin.List.listExtendWith
  refine wpAny_bind (wpAny_typeOf (hT _) ?_)
  have h1 : Builtin.List.listSameRef (.ref S) (.bytes b t) = false := rfl
  have h2 : (Value.type "bytes" == Value.type "list") = false := by decide
  have h3 : (Value.type "bytes" == Value.type "tuple") = false := by decide
  simp only [h1, h2, h3, Bool.or_false, Bool.false_eq_true, if_false]
  refine wpAny_bind (KBw.pyIter_bytes ?_)
  refine wpAny_bind (wpAny_holding ?_)
  unfold Builtin.List.listLengthHint
  refine wpAny_bind (wpAny_specialOf (hT _) FB.slot_bytes_len.lookup ?_)
  wp_delta
  refine wpAny_bind (wpAny_isInstance (T := "bytes") (v := .bytes b t) (b := true) rfl (by rw [isSubtype_type]; kernel_rfl) ?_)
  show wpAny _ _ (typeOf (Value.bytes b t) >>= _) _ _ _
  refine wpAny_bind (wpAny_typeOf (T := "bytes") (v := .bytes b t) rfl ?_)
  refine wpAny_pure ?_
  rw [if_neg (by decide)]
  have hst : KBw.IsBytesIter (s.heap.push { cls := .type "bytes_iterator", data := .fields #[.bytes b t, .int 0 0] }) s.heap.objs.size b t 0 := ⟨_, Heap.get?_push_size _ rfl, rfl, rfl⟩
  refine wpAny_pure ⟨plainId_quiet PySem.F.plain_extend_loop _, codeAny_extend_loopS (KBw.walks (A := A.in1) hh s.heap.objs.size b t).toS hn _ hSf _ b.size 0 _ _ _ rfl (Nat.zero_le _) hst (Heap.get?_push_of_some _ hS) (ItemsOf.nil _) fun s' acc' c' hm hS' hacc => ?_⟩
  rw [Moved.eq_with hm]
  refine hR s'.heap s'.toks acc' c' (fun b ob hb e => hm.heap b ob (fun hmem => ?_) (Heap.get?_push_of_some _ e)) hS' hacc
  rcases List.mem_cons.mp hmem with e' | hmem
  · exact hb e'
  · exact absurd (Heap.lt_size e) (by rw [List.mem_singleton.mp hmem]; exact Nat.lt_irrefl _)
theorem init_bytes {R : Result → Shared → Prop} (hh : A.handled = none) (b : Array UInt8) (t : Tok) (S : Addr) (hS : s.heap.get? S = some { cls := .type "list", data := .seq #[] })
    (hR : ∀ h' tk acc' c', (∀ b o, b ≠ S → s.heap.get? b = some o → h'.get? b = some o) → h'.get? S = some { cls := .type "list", dict := none, data := .seq acc' c', slots := #[] } →
      ItemsOf (fun i v => ∃ c u, b[i]? = some c ∧ v = .int (c.toNat : Int) u) acc' b.size → R (.ok (.ret .none)) { s with heap := h', toks := tk }) (hn : b.size ≤ sizeLine) :
    wpAny (model prog w) A.in1 (Builtin.«list.__init__» ⟨[.ref S, .bytes b t], []⟩)
      (fun fin s' => match fin with | .done f => R (.ok f) s' | .again c' => c'.quiet = true ∧ codeAny (model prog w) A c' R s') (fun e s' => R (.error e) s') s := by
  show wpAny _ _ (do let old ← Builtin.List.listItems (.ref S); Builtin.List.listUpdate (.ref S) (fun _ => #[]); letGo old.toList.reverse; Builtin.List.listExtendWith (.ref S) (.bytes b t) .none) _ _ s
  refine wpAny_bind ?_
  unfold Builtin.List.listItems
  refine wpAny_bind (wpAny_seqItems hS rfl (wpAny_pure ?_))
  show wpAny _ _ (updateSeq S (fun _ => #[]) >>= fun _ => letGo (#[] : Array Value).toList.reverse >>= fun _ => Builtin.List.listExtendWith (.ref S) (.bytes b t) .none) _ _ s
  refine wpAny_bind (wpAny_updateSeq hS rfl ?_)
  have hS₂ := Heap.get?_update_self (Obj.mapSeq (fun _ => (#[] : Array Value))) hS rfl
  have oth : ∀ b o, b ≠ S → s.heap.get? b = some o → (s.heap.update S (Obj.mapSeq (fun _ => (#[] : Array Value)))).get? b = some o :=
    fun b o hb e => (Heap.get?_update_other _ _ (Ne.symm hb)).trans e
  refine wpAny_bind (wpAny_letGo ?_)
  refine extend_bytes (hn := hn) hh b t S .none _ hS₂ fun h' tk acc' c' hk hS' hacc => ?_
  exact hR h' tk acc' c' (fun b o hb e => hk b o hb (oth b o hb e)) hS' hacc
theorem call_list_bytes {Q : Value → Shared → Prop} (hh : A.handled = none) (b : Array UInt8) (t : Tok)
    (hQ : ∀ h' tk acc' c', (∀ b o, s.heap.get? b = some o → h'.get? b = some o) →
      h'.get? s.heap.objs.size = some { cls := .type "list", dict := none, data := .seq acc' c', slots := #[] } → ItemsOf (fun i v => ∃ c u, b[i]? = some c ∧ v = .int (c.toNat : Int) u) acc' b.size → Q (.ref s.heap.objs.size) { s with heap := h', toks := tk }) (hn : b.size ≤ sizeLine) :
    wpAny (model prog w) A (call (.type "list") [.bytes b t]) Q E s := by
  refine callType_codes (Q₁ := fun obj s₁ => obj = .ref s.heap.objs.size ∧ s₁ = { s with heap := s.heap.push { cls := .type "list", data := .seq #[] } }) PySem.F.called_list (PySem.F.typeCall_list_1 _) PySem.F.entry_list_init
    (code_list_new _ ⟨rfl, rfl⟩) fun obj s₁ h₁ => ?_
  obtain ⟨rfl, rfl⟩ := h₁
  have hS : (s.heap.push { cls := .type "list", data := .seq #[] }).get? s.heap.objs.size = some { cls := .type "list", data := .seq #[] } := Heap.get?_push_size _ rfl
  refine ⟨⟨_, hS, rfl⟩, PySem.F.args_list_init_2 _ _, init_bytes (A := A.in1) (hn := hn) hh b t _ hS fun h' tk acc' c' hk hS' hacc => ?_⟩
  exact ⟨rfl, hQ h' tk acc' c' (fun b o e => hk b o (Nat.ne_of_lt (Heap.lt_size e)) (Heap.get?_push_of_some _ e)) hS' hacc⟩
variable {h₀ : Heap} {L : Addr} {m : Str → Option Value} {news : List (Addr × Obj)}
theorem list_new {h' : Heap} {acc : Array Value} {c : Nat} (F : Fr h₀ L s.heap m) (N : News h₀ L s.heap news) (hk : ∀ b o, s.heap.get? b = some o → h'.get? b = some o) (hS : h'.get? s.heap.objs.size = some { cls := .type "list", dict := none, data := .seq acc c, slots := #[] }) :
    Fr h₀ L h' m ∧ News h₀ L h' ((s.heap.objs.size, W.listOf acc.toList.toArray c) :: news) := by
  have k : Kp [] [] s.heap h' := Kp.of_keep fun b o _ e => hk b o e
  refine ⟨after_fr F k (by simp) (by simp), fun p hp => ?_⟩
  rcases List.mem_cons.mp hp with rfl | hp
  · refine ⟨by simpa [W.listOf] using hS, ?_, ?_⟩
    · obtain ⟨o, e, _⟩ := isD_of_ns F.ns
      exact Ne.symm (Nat.ne_of_lt (Heap.lt_size e))
    · cases q : h₀.get? s.heap.objs.size with
      | none => rfl
      | some o => exact absurd (Heap.lt_size (F.keep _ _ q)) (Nat.lt_irrefl _)
  · exact after_news N k (by simp) p hp
theorem list_str_own {cs : List Nat} {x : Str} {t : Tok} {Q : Value → Shared → Prop} (F : Fr h₀ L s.heap m) (N : News h₀ L s.heap news) (hh : A.handled = none) (hx : x = ⟨cs.toArray⟩) (h256 : ∀ c ∈ cs, c < 256) (hz : cs.length ≤ 100000)
    (h : ∀ D h' tk c vs, Fr h₀ L h' m → News h₀ L h' ((D, W.listOf (List.toArray vs) c) :: news) → (∀ p ∈ news, p.1 < D) → CA true vs cs → Q (.ref D) { s with heap := h', toks := tk }) : wpAny (model prog w) A (call (.type "list") [.str x t]) Q E s := by
  subst hx
  refine call_list_str hh _ t (fun h' tk acc c hk hS hacc => ?_) (by have : sizeLine = 16777216 := sizeLine_eq; simp; omega)
  obtain ⟨F', N'⟩ := list_new F N hk hS
  refine h _ h' tk c acc.toList F' N' (fun p hp => Heap.lt_size (N p hp).1) (CA.of_get (by have := hacc.1; simpa using this) fun j v hv => ?_)
  obtain ⟨c, u, hc, rfl⟩ := hacc.2 j v (by simpa using hv)
  have hc' : cs[j]? = some c := by simpa using hc
  exact ⟨c, hc', u, h256 c (List.mem_of_getElem? hc'), rfl⟩
theorem list_bytes_own {cs : List Nat} {b : Array UInt8} {t : Tok} {Q : Value → Shared → Prop} (F : Fr h₀ L s.heap m) (N : News h₀ L s.heap news) (hh : A.handled = none) (hx : b.toList.map (·.toNat) = cs) (hz : cs.length ≤ 100000)
    (h : ∀ D h' tk c vs, Fr h₀ L h' m → News h₀ L h' ((D, W.listOf (List.toArray vs) c) :: news) → (∀ p ∈ news, p.1 < D) → CA false vs cs → Q (.ref D) { s with heap := h', toks := tk }) : wpAny (model prog w) A (call (.type "list") [.bytes b t]) Q E s := by
  subst hx
  refine call_list_bytes hh _ t (fun h' tk acc c hk hS hacc => ?_) (by have : sizeLine = 16777216 := sizeLine_eq; simp at hz; omega)
  obtain ⟨F', N'⟩ := list_new F N hk hS
  refine h _ h' tk c acc.toList F' N' (fun p hp => Heap.lt_size (N p hp).1) (CA.of_get (by have := hacc.1; simpa using this) fun j v hv => ?_)
  obtain ⟨c, u, hc, rfl⟩ := hacc.2 j v (by simpa using hv)
  exact ⟨c.toNat, by simp [hc], u, rfl⟩
end

end

section

open _root_.PySem _root_.PySem.W _root_.PyProof.Rows
/-! the octets of the stream -/
theorem four {n : Nat} (h : n < 4) : n = 0 ∨ n = 1 ∨ n = 2 ∨ n = 3 := by omega
noncomputable def octs (ccs : List (List Nat)) : List Nat := ccs.flatMap fun r => r.length :: r
noncomputable def offs (ccs : List (List Nat)) (i : Nat) : Nat := (octs (ccs.take i)).length
theorem octs_append (a b : List (List Nat)) : octs (a ++ b) = octs a ++ octs b := by simp [octs]
theorem octs_split {ccs : List (List Nat)} {i : Nat} (h : i < ccs.length) : octs ccs = octs (ccs.take i) ++ (ccs[i].length :: ccs[i]) ++ octs (ccs.drop (i + 1)) := by
  have : ccs = ccs.take i ++ [ccs[i]] ++ ccs.drop (i + 1) := by
    rw [← List.take_succ_eq_append_getElem h]; simp
  conv => lhs; rw [this]
  rw [octs_append, octs_append]; simp [octs]
theorem offs_succ {ccs : List (List Nat)} {i : Nat} (h : i < ccs.length) : offs ccs (i + 1) = offs ccs i + 1 + ccs[i].length := by
  unfold offs
  rw [List.take_succ_eq_append_getElem h, octs_append]
  simp [octs]; omega
theorem offs_zero (ccs : List (List Nat)) : offs ccs 0 = 0 := by simp [offs, octs]
theorem offs_end (ccs : List (List Nat)) : offs ccs ccs.length = (octs ccs).length := by simp [offs]
theorem byts_toList (cs : List Nat) : (byts cs).toList = cs.map fun c => c.toUInt8 := by
  unfold byts PySem.byteArr
  simp [Function.comp_def]
theorem toU (c : Nat) (h : c < 256) : c.toUInt8.toNat = c := by
  show c % 256 = c
  omega
theorem byts_get {ccs : List (List Nat)} {i : Nat} (h : i < ccs.length) (hl : ccs[i].length < 256) : ∃ c, (byts (octs ccs))[offs ccs i]? = some c ∧ c.toNat = ccs[i].length := by
  refine ⟨(ccs[i].length).toUInt8, ?_, toU _ hl⟩
  rw [← Array.getElem?_toList, byts_toList, octs_split h, List.getElem?_map]
  rw [List.getElem?_append_left (by simp [offs]), List.getElem?_append_right (by simp [offs])]
  simp [offs]
theorem offs_le {ccs : List (List Nat)} {i : Nat} (h : i < ccs.length) : offs ccs i + 1 + ccs[i].length ≤ (byts (octs ccs)).size := by
  rw [byts_size, octs_split h]
  simp only [offs, List.length_append, List.length_cons]; omega
theorem byts_cut {ccs : List (List Nat)} {i : Nat} (h : i < ccs.length) (h256 : ∀ c ∈ ccs[i], c < 256) : ((byts (octs ccs)).extract (offs ccs i + 1) (offs ccs i + 1 + ccs[i].length)).toList.map (·.toNat) = ccs[i] := by
  rw [Array.toList_extract, byts_toList, List.extract_eq_take_drop, octs_split h]
  rw [List.map_append, List.map_append, List.append_assoc]
  have e : offs ccs i + 1 = (octs (ccs.take i)).length + 1 := rfl
  rw [e, show (octs (ccs.take i)).length + 1 + ccs[i].length - ((octs (ccs.take i)).length + 1) = ccs[i].length by omega]
  rw [List.drop_append, List.drop_eq_nil_of_le (by simp)]
  simp only [List.nil_append, List.length_map, List.map_cons, List.cons_append, Nat.add_sub_cancel_left, List.drop_succ_cons, List.drop_zero]
  rw [List.take_append_of_le_length (by simp), List.take_of_length_le (by simp), List.map_map]
  conv => rhs; rw [← List.map_id ccs[i]]
  refine List.map_congr_left fun c hc => ?_
  exact toU c (h256 c hc)
theorem text_cut {ccs : List (List Nat)} {i : Nat} (h : i < ccs.length) (h256 : ∀ c ∈ ccs[i], c < 256) : ((byts (octs ccs)).extract (offs ccs i + 1) (offs ccs i + 1 + ccs[i].length)).map (·.toNat) = ccs[i].toArray := by
  apply Array.toList_inj.mp
  rw [Array.toList_map, byts_cut h h256]

end

section

open _root_.PySem _root_.PySem.W _root_.PyProof.Rows _root_.PyProof.V _root_.PySem.Calls _root_.PySem.SeqAt
set_option maxRecDepth 100000
theorem assign_any {M : Model} {A : Around} {E : Value → Shared → Prop} {s : Shared} {env : Env} {x : Str} {pos' pos : Pos} {value : PySem.Expr} {Q : Flow → Shared → Prop} (h : wpAny M A (eval value env) (fun v s₁ => wpAny M A (bindName env x v) (fun _ => Q .next) E s₁) E s)
    (hs : swapsWith value (some (.Name x pos')) pos.line env = pure false := by rfl) : wpAny M A (exec (.Assign [.Name x pos'] value pos) env) Q E s := by
  rw [exec_Assign_Name (hs := hs)]
  refine wpAny_bind (wpAny_standAt (wpAny_bind (wpAny_mono h (fun v s₁ q => ?_) fun _ _ q => q)))
  exact wpAny_bind (wpAny_standAt (wpAny_bind (wpAny_mono q (fun _ _ q => wpAny_pure q) fun _ _ q => q)))
theorem codeOf_lt (n : Nat) : codeOf n < 256 := by
  unfold codeOf
  match n with
  | 0 => decide
  | 1 => decide
  | 2 => decide
  | 3 => decide
  | n + 4 => simp
theorem octs_len {ccs : List (List Nat)} (h : ∀ r ∈ ccs, r.length ≤ 4) : (octs ccs).length ≤ 5 * ccs.length := by
  induction ccs with
  | nil => simp [octs]
  | cons r ccs ih =>
    have h1 := ih fun r hr => h r (.tail _ hr)
    have h2 := h r (.head _)
    simp only [octs, List.flatMap_cons, List.length_append, List.length_cons] at h1 ⊢
    omega
theorem octs_lt {ccs : List (List Nat)} (h : ∀ r ∈ ccs, r.length ≤ 4 ∧ ∀ c ∈ r, c < 256) : ∀ c ∈ octs ccs, c < 256 := by
  intro c hc
  obtain ⟨r, hr, hc⟩ := List.mem_flatMap.mp hc
  have := h r hr
  rcases List.mem_cons.mp hc with rfl | hc
  · omega
  · exact this.2 c hc
theorem isD_allL {l : List (Addr × Obj)} (h : AllL l) : ∀ p ∈ l, isD p.2 = false := fun p hp => by
  obtain ⟨vs, n, e⟩ := h p hp
  rw [e]; rfl
/-- the turn of a comprehension over the stream, put together -/
theorem turn_done {base h' : Heap} {L : Addr} {dx : Nat} {o1 : Obj} {I C D D3 : Nat} {oI oC oD oN : Obj} {rest tail : List (Addr × Obj)} (N : News base L h' ((D3, oN) :: (dx, o1) :: (I, oI) :: (C, oC) :: (D, oD) :: (rest ++ tail))) :
    News base L h' ((D3, oN) :: (I, oI) :: (C, oC) :: (D, oD) :: (((dx, o1) :: rest) ++ tail)) := fun p hp => N p (by
  simp only [List.cons_append, List.mem_cons, List.mem_append] at hp ⊢
  rcases hp with h | h | h | h | h | h | h
  · exact .inl h
  · exact .inr (.inr (.inl h))
  · exact .inr (.inr (.inr (.inl h)))
  · exact .inr (.inr (.inr (.inr (.inl h))))
  · exact .inr (.inl h)
  · exact .inr (.inr (.inr (.inr (.inr (.inl h)))))
  · exact .inr (.inr (.inr (.inr (.inr (.inr h))))))
theorem turn_rest {dx : Nat} {o0 : Obj} {I C D : Nat} {oI oC oD : Obj} {rest tail : List (Addr × Obj)} (hr : ∀ p ∈ rest, isD p.2 = false ∨ p.1 ≠ dx) (ht : AllL tail) (off : LCg.Off3 I C D (((dx, o0) :: rest) ++ tail)) :
    ∀ p ∈ (I, oI) :: (C, oC) :: (D, oD) :: (rest ++ tail), p ∈ (I, oI) :: (C, oC) :: (D, oD) :: (dx, o0) :: (rest ++ tail) ∧ (isD p.2 = false ∨ p.1 ≠ dx) := by
  have o := off.mem (dx, o0) (List.Mem.head _)
  intro p hp
  simp only [List.mem_cons, List.mem_append] at hp ⊢
  rcases hp with rfl | rfl | rfl | h | h
  · exact ⟨.inl rfl, .inr (Ne.symm o.1)⟩
  · exact ⟨.inr (.inl rfl), .inr (Ne.symm o.2.1)⟩
  · exact ⟨.inr (.inr (.inl rfl)), .inr (Ne.symm o.2.2)⟩
  · exact ⟨.inr (.inr (.inr (.inr (.inl h)))), hr p h⟩
  · exact ⟨.inr (.inr (.inr (.inr (.inr h)))), .inl (isD_allL ht p h)⟩
local macro_rules | `(tactic| k_mem) => `(tactic| first | exact List.Mem.head _ | assumption | (refine' List.Mem.tail _ ?_; k_mem))
theorem order7 {base h : Heap} {L : Addr} {c3 xB dB SB c2 xA dA SA Do c1 c6 c5 c4 : Addr × Obj} {tail : List (Addr × Obj)} (N : News base L h (c3 :: xB :: dB :: SB :: c2 :: xA :: dA :: SA :: Do :: c1 :: c6 :: c5 :: c4 :: tail)) :
    ∃ rc, rc = c2 :: xA :: SA :: c3 :: xB :: dB :: SB :: c1 :: c6 :: c5 :: c4 :: tail ∧ News base L h (dA :: rc) ∧ c2 ∈ rc ∧ xA ∈ rc ∧ SA ∈ rc ∧ ∀ p ∈ tail, p ∈ rc := by
  refine ⟨_, rfl, fun p hp => N p (?_), by k_mem, by k_mem, by k_mem, ?_⟩
  · exact (by walk_at "subm" : ∀ p ∈ dA :: c2 :: xA :: SA :: c3 :: xB :: dB :: SB :: c1 :: c6 :: c5 :: c4 :: tail, p ∈ c3 :: xB :: dB :: SB :: c2 :: xA :: dA :: SA :: Do :: c1 :: c6 :: c5 :: c4 :: tail) p hp
  · walk_at "subm"
theorem order8 {base h : Heap} {L : Addr} {c4 Dt dA c2 xA SA c3 xB dB SB c1 c6 c5 : Addr × Obj} {tail : List (Addr × Obj)} (N : News base L h (c4 :: Dt :: dA :: c2 :: xA :: SA :: c3 :: xB :: dB :: SB :: c1 :: c6 :: c5 :: tail)) :
    ∃ rc, rc = c3 :: xB :: SB :: c2 :: xA :: dA :: SA :: c1 :: c4 :: c5 :: c6 :: Dt :: tail ∧ News base L h (dB :: rc) ∧ c3 ∈ rc ∧ xB ∈ rc ∧ SB ∈ rc ∧ ∀ p ∈ tail, p ∈ rc := by
  refine ⟨_, rfl, fun p hp => N p (?_), by k_mem, by k_mem, by k_mem, ?_⟩
  · exact (by walk_at "subm" : ∀ p ∈ dB :: c3 :: xB :: SB :: c2 :: xA :: dA :: SA :: c1 :: c4 :: c5 :: c6 :: Dt :: tail, p ∈ c4 :: Dt :: dA :: c2 :: xA :: SA :: c3 :: xB :: dB :: SB :: c1 :: c6 :: c5 :: tail) p hp
  · walk_at "subm"

end

section

open _root_.PySem _root_.PySem.W _root_.PyProof.Rows _root_.PyProof.V _root_.PySem.Calls _root_.PySem.SeqAt
set_option maxRecDepth 100000
noncomputable def enc2 (κ : Bool) (cs : List Nat) : PyData := .list (cs.map (enc κ))
theorem reads_LL {κ : Bool} {h : Heap} : ∀ {vs : List Value} {css : List (List Nat)}, LL κ (inH h) vs css → ∃ as, ReadsAll h vs (css.map (enc2 κ)) as
  | _, _, .nil => ⟨_, .nil⟩
  | _, _, .cons e c r => by
    obtain ⟨as, q⟩ := reads_LL r
    exact ⟨_, .cons (reads_codes e c) q⟩
theorem canLay_LL {κ : Bool} {M : Nat → Obj → Prop} : ∀ {vs : List Value} {css : List (List Nat)}, LL κ M vs css → PyData.canLayAll0 (css.map (enc2 κ)) = true
  | _, _, .nil => by simp [PyData.canLayAll0]
  | _, _, .cons e c r => by
    have h1 := canLay_LL r
    have h2 := canLay_codes κ c
    simp only [List.map_cons, PyData.canLayAll0, enc2, PyData.canLay0, Bool.and_eq_true] at h1 h2 ⊢
    exact ⟨h2, h1⟩
theorem depth_LL (κ : Bool) : ∀ css : List (List Nat), PyData.depthAll (css.map (enc2 κ)) ≤ 3
  | [] => by simp [PyData.depthAll]
  | cs :: r => by
    have h1 := depth_LL κ r
    have h2 := depth_codes κ cs
    simp only [List.map_cons, PyData.depthAll, enc2, PyData.depth] at h1 h2 ⊢
    omega
theorem shaped_LL {κ : Bool} {M : Nat → Obj → Prop} {vs : List Value} {css : List (List Nat)} (a : LL κ M vs css) : shaped (.list (css.map (enc2 κ))) = true := by
  have h1 := depth_LL κ css
  have h2 : PyData.depth (.list (css.map (enc2 κ))) ≤ 64 := by simp only [PyData.depth]; omega
  show (PyData.canLay0 (.list (css.map (enc2 κ))) && decide (PyData.depth (.list (css.map (enc2 κ))) ≤ 64)) = true
  rw [Bool.and_eq_true]
  exact ⟨by simp only [PyData.canLay0]; exact canLay_LL a, decide_eq_true h2⟩
theorem noMix_LL (κ : Bool) : ∀ a b : List (List Nat), noMixAll (a.map (enc2 κ)) (b.map (enc2 κ)) = true
  | [], [] => by simp [noMixAll]
  | [], _ :: _ => by simp [noMixAll]
  | _ :: _, [] => by simp [noMixAll]
  | x :: r, y :: q => by
    simp only [List.map_cons, noMixAll, enc2, noMix, Bool.and_eq_true]
    exact ⟨noMix_codes κ x y, noMix_LL κ r q⟩
theorem same_LL (κ : Bool) (a b : List (List Nat)) : Spec.sameAll (a.map (enc2 κ)) (b.map (enc2 κ)) = decide (a = b) :=
  sameAll_map (fun x y => by simp only [enc2, Spec.same]; exact same_codes κ x y) a b
section
variable {prog : Program} {w : World} {A : Around} {E : Value → Shared → Prop} {s : Shared}
/-- two lists of lists of codes -/
theorem ne_nested {κ : Bool} {l b n k : Nat} {vs us : List Value} {css dss : List (List Nat)} {Q : Value → Shared → Prop} (hl : s.heap.get? l = some (W.listOf vs.toArray n)) (hb : s.heap.get? b = some (W.listOf us.toArray k)) (hi : LL κ (inH s.heap) vs css) (hj : LL κ (inH s.heap) us dss)
    (hu : A.units + 64 < cLine) (h : Q (.bool (!decide (css = dss))) s) : wpAny (model prog w) A (compareOp .NotEq (.ref l) (.ref b)) Q E s := by
  obtain ⟨as, ra⟩ := reads_LL hi
  obtain ⟨bs, rb⟩ := reads_LL hj
  refine ne_dataH_same (Reads.list hl rfl rfl (by simpa using ra)) (Reads.list hb rfl rfl (by simpa using rb)) (shaped_LL hi) (shaped_LL hj) hu (by simp only [noMix]; exact noMix_LL κ css dss) ?_
  simp only [Spec.same]
  rw [same_LL]; exact h
theorem ne_same {κ : Bool} {l b n k : Nat} {vs us : List Value} {css : List (List Nat)} {Q : Value → Shared → Prop} (hl : s.heap.get? l = some (W.listOf vs.toArray n)) (hb : s.heap.get? b = some (W.listOf us.toArray k)) (hi : LL κ (inH s.heap) vs css) (hj : LL κ (inH s.heap) us css)
    (hu : A.units + 64 < cLine) (h : Q (.bool false) s) : wpAny (model prog w) A (compareOp .NotEq (.ref l) (.ref b)) Q E s :=
  ne_nested hl hb hi hj hu (by rw [decide_eq_true rfl]; exact h)
end
theorem LL.inHeap {κ : Bool} {base h : Heap} {L : Addr} {news l : List (Addr × Obj)} {vs : List Value} {css : List (List Nat)} (a : LL κ (inN l) vs css) (N : News base L h news) (hs : ∀ p ∈ l, p ∈ news) : LL κ (inH h) vs css := a.mono fun _ _ _ q => (N _ (hs _ q)).1
local macro_rules | `(tactic| k_mem) => `(tactic| first | exact List.Mem.head _ | assumption | (refine' List.Mem.tail _ ?_; k_mem))
theorem order9 {base h : Heap} {L : Addr} {Di dB c3 xB SB c2 xA dA SA c1 c4 c5 c6 Dt : Addr × Obj} {t1 t3 : List (Addr × Obj)} (N : News base L h (Di :: dB :: c3 :: xB :: SB :: c2 :: xA :: dA :: SA :: c1 :: c4 :: c5 :: c6 :: Dt :: (t1 ++ t3))) (h1 : AllL t1) (h3 : AllL t3) (hi : AllL [Di, Dt]) :
    ∃ T, AllL T ∧ News base L h (dA :: dB :: xA :: SA :: xB :: SB :: c1 :: c2 :: c3 :: c4 :: c5 :: c6 :: T) ∧ Di ∈ T ∧ Dt ∈ T ∧ (∀ p ∈ t1, p ∈ T) ∧ ∀ p ∈ t3, p ∈ T := by
  refine ⟨Di :: Dt :: (t1 ++ t3), ?_, fun p hp => N p ?_, by k_mem, by k_mem, fun p hp => .tail _ (.tail _ (List.mem_append_left _ hp)), fun p hp => .tail _ (.tail _ (List.mem_append_right _ hp))⟩
  · exact AllL.append hi (AllL.append h1 h3)
  · exact (by walk_at "subm" : ∀ p ∈ dA :: dB :: xA :: SA :: xB :: SB :: c1 :: c2 :: c3 :: c4 :: c5 :: c6 :: Di :: Dt :: (t1 ++ t3), p ∈ Di :: dB :: c3 :: xB :: SB :: c2 :: xA :: dA :: SA :: c1 :: c4 :: c5 :: c6 :: Dt :: (t1 ++ t3)) p hp
/-- the law's lists, all in a ledger T -/
structure Fs (T : List (Addr × Obj)) (D Dc Dt Di lC k kc : Nat) (vs cvs2 tvs ivs cvs : List Value) (rcs ccs : List (List Nat)) : Prop where
  mD : (D, W.listOf vs.toArray k) ∈ T
  mDc : (Dc, W.listOf cvs2.toArray kc) ∈ T
  mDt : (Dt, LCg.lst tvs) ∈ T
  mDi : (Di, LCg.lst ivs) ∈ T
  mC : (lC, W.listOf cvs.toArray 0) ∈ T
  LD : LL false (inN T) vs rcs
  LC : LL false (inN T) cvs2 ccs
  LT : LL true (inN T) tvs ccs
  LI : LL false (inN T) ivs ccs
theorem Fs.mono {T T' : List (Addr × Obj)} {D Dc Dt Di lC k kc vs cvs2 tvs ivs cvs rcs ccs} (f : Fs T D Dc Dt Di lC k kc vs cvs2 tvs ivs cvs rcs ccs) (h : ∀ p ∈ T, p ∈ T') : Fs T' D Dc Dt Di lC k kc vs cvs2 tvs ivs cvs rcs ccs :=
  ⟨h _ f.mD, h _ f.mDc, h _ f.mDt, h _ f.mDi, h _ f.mC, f.LD.mono fun _ _ _ q => h _ q, f.LC.mono fun _ _ _ q => h _ q, f.LT.mono fun _ _ _ q => h _ q, f.LI.mono fun _ _ _ q => h _ q⟩
/-- a new list goes into the ledger of lists -/
theorem join_tail {base h : Heap} {L : Addr} {Dr : Addr × Obj} {conc T t2 : List (Addr × Obj)} (N : News base L h (Dr :: (conc ++ (T ++ t2)))) (h0 : AllL [Dr]) (h1 : AllL T) (h2 : AllL t2) :
    ∃ T', AllL T' ∧ News base L h (conc ++ T') ∧ Dr ∈ T' ∧ (∀ p ∈ T, p ∈ T') ∧ (∀ p ∈ t2, p ∈ T') ∧ ∀ p ∈ T', p ∈ conc ++ T' := by
  refine ⟨Dr :: (T ++ t2), AllL.append h0 (AllL.append h1 h2), fun p hp => N p ?_, .head _, fun p hp => .tail _ (List.mem_append_left _ hp), fun p hp => .tail _ (List.mem_append_right _ hp), fun p hp => List.mem_append_right _ hp⟩
  rcases List.mem_append.mp hp with q | q
  · exact .tail _ (List.mem_append_left _ q)
  · rcases List.mem_cons.mp q with rfl | q
    · exact .head _
    · exact .tail _ (List.mem_append_right _ q)
theorem join12 {base h : Heap} {L : Addr} {Dr a1 a2 a3 a4 a5 a6 a7 a8 a9 b1 b2 b3 : Addr × Obj} {T t2 : List (Addr × Obj)} (N : News base L h (Dr :: a1 :: a2 :: a3 :: a4 :: a5 :: a6 :: a7 :: a8 :: a9 :: b1 :: b2 :: b3 :: (T ++ t2))) (h0 : AllL [Dr]) (h1 : AllL T) (h2 : AllL t2) :
    ∃ T', AllL T' ∧ News base L h (a1 :: a2 :: a3 :: a4 :: a5 :: a6 :: a7 :: a8 :: a9 :: b1 :: b2 :: b3 :: T') ∧ Dr ∈ T' ∧ (∀ p ∈ T, p ∈ T') ∧ (∀ p ∈ t2, p ∈ T') ∧ ∀ p ∈ T', p ∈ a1 :: a2 :: a3 :: a4 :: a5 :: a6 :: a7 :: a8 :: a9 :: b1 :: b2 :: b3 :: T' :=
  join_tail (conc := [a1, a2, a3, a4, a5, a6, a7, a8, a9, b1, b2, b3]) N h0 h1 h2
theorem allL_one {a : Addr} {vs : List Value} : AllL [(a, LCg.lst vs)] := AllL.cons (fun _ h => (List.not_mem_nil h).elim)

end

section

open _root_.PySem _root_.PySem.W _root_.PyProof.Rows _root_.PyProof.V _root_.PySem.Calls _root_.PySem.SeqAt
set_option maxRecDepth 100000
section
variable {w : World} {b : Nat} {A : Around} {s : Shared} {p : Program} {loose : List Str} {mg mb : Str → Option Value} {E : Value → Shared → Prop} {Q : Value → Shared → Prop} {base : Heap} {L : Nat} {m : Str → Option Value} {news : List (Addr × Obj)}
variable {x dx S k : Nat} {bs : Array UInt8} {t1 t2 t3 : Tok} (H : Pre w b [L] p loose mg mb A s.heap) (hb : b ≤ 680) (X : (Mine.hd.heap_1 w.params).In base) (T : TopRead p loose mg mb base) (F : Fr base L s.heap m) (N : News base L s.heap news)
  (m1 : (x, instObj 387 dx) ∈ news) (m2 : (dx, bioD w.params S (k : Int) t1 t2 t3) ∈ news) (m3 : (S, baO bs) ∈ news) (hz : bs.size ≤ 10000)
include H hb X T F N m1 m2 m3 hz
theorem read0K (hk : k = bs.size)
    (h : ∀ h' tk t1 t2 t3 t, Fr base L h' m → (∀ rest, (∀ p ∈ rest, p ∈ news ∧ (isD p.2 = false ∨ p.1 ≠ dx)) → News base L h' ((dx, bioD w.params S (k : Int) t1 t2 t3) :: rest)) → Q (.bytes #[] t) { s with heap := h', toks := tk }) :
    wpAny (model PG w) A (call (.ref 311) [.ref x]) Q E s := by
  obtain ⟨ah, d, fr, gs, u⟩ := A
  obtain rfl : ah = none := H.handled
  refine wpAny_call (codeAny_mono (read0 (h0 := base) (b := b) X T F.keep (N _ m1).2.2 (N _ m2).2.2 (N _ m3).2.2 ⟨(N _ m1).1, ⟨_, _, _, (N _ m2).1⟩, (N _ m3).1⟩ H.depth H.units (by omega) hk hz) ?_)
  rintro r s' ⟨v, h', tk, rfl, ⟨t, rfl⟩, rfl, B, kk⟩
  obtain ⟨F', t1, t2, t3, N'⟩ := bio_news F N m2 B kk
  exact h h' tk t1 t2 t3 t F' N'
end
theorem tail_ro {base h : Heap} {L : Addr} {d : Addr × Obj} {rest : List (Addr × Obj)} (_N : News base L h (d :: rest)) (hr : ∀ p ∈ rest, isD p.2 = false ∨ p.1 ≠ d.1) : ∀ p ∈ rest, p ∈ d :: rest ∧ (isD p.2 = false ∨ p.1 ≠ d.1) := fun p hp => ⟨.tail _ hp, hr p hp⟩
theorem swap2 {base h : Heap} {L : Addr} {a b : Addr × Obj} {rest : List (Addr × Obj)} (N : News base L h (a :: b :: rest)) : News base L h (b :: a :: rest) := fun p hp => N p (by
  simp only [List.mem_cons] at hp ⊢
  rcases hp with h | h | h
  · exact .inr (.inl h)
  · exact .inl h
  · exact .inr (.inr h))
theorem ne_empty {prog : Program} {w : World} {A : Around} {E : Value → Shared → Prop} {s : Shared} {t u : Tok} {Q : Value → Shared → Prop} (h : Q (.bool false) s) : wpAny (model prog w) A (compareOp .NotEq (.bytes #[] t) (.bytes #[] u)) Q E s := ne_bytes (by simpa using h)
theorem execs_stop {M : Model} {A : Around} {E : Value → Shared → Prop} {s : Shared} {env : Env} {st : Stmt} {rest : List Stmt} {Q : Flow → Shared → Prop} (h : wpAny M A (exec st env) (fun f s' => match f with | .next => Halt (wpAny M A (execs rest env) Q E s') | f => Q f s') E s) : wpAny M A (execs (st :: rest) env) Q E s := by
  rw [execs_cons]
  refine wpAny_bind (wpAny_mono h (fun f s' q => ?_) fun _ _ q => q)
  cases f <;> first | exact q | exact wpAny_pure q

end

section

open _root_.PySem _root_.PySem.W _root_.PyProof.Rows _root_.PyProof.V _root_.PySem.Calls _root_.PySem.SeqAt
set_option maxRecDepth 100000
/-! lists of lists of lists of codes: the walks -/
inductive WL (κ : Bool) (M : Nat → Obj → Prop) : List Value → List (List (List Nat)) → Prop
  | nil : WL κ M [] []
  | cons {a c vs css us dsss} : M a (W.listOf (List.toArray vs) c) → LL κ M vs css → WL κ M us dsss → WL κ M (.ref a :: us) (css :: dsss)
theorem WL.length {κ M} : ∀ {us dsss}, WL κ M us dsss → us.length = dsss.length
  | _, _, .nil => rfl
  | _, _, .cons _ _ r => by simp [WL.length r]
theorem WL.mono {κ} {M M' : Nat → Obj → Prop} (f : ∀ (a n : Nat) (ws : List Value), M a (W.listOf ws.toArray n) → M' a (W.listOf ws.toArray n)) : ∀ {us dsss}, WL κ M us dsss → WL κ M' us dsss
  | _, _, .nil => .nil
  | _, _, .cons a b r => .cons (f _ _ _ a) (b.mono f) (r.mono f)
theorem WL.snoc {κ M} {a c vs css} (h1 : M a (W.listOf (List.toArray vs) c)) (h2 : LL κ M vs css) : ∀ {us dsss}, WL κ M us dsss → WL κ M (us ++ [.ref a]) (dsss ++ [css])
  | _, _, .nil => .cons h1 h2 .nil
  | _, _, .cons x y r => .cons x y (r.snoc h1 h2)
theorem WL.at {κ M} : ∀ {us dsss} {i : Nat} {css : List (List Nat)}, WL κ M us dsss → dsss[i]? = some css → ∃ a c vs, us[i]? = some (.ref a) ∧ M a (W.listOf (List.toArray vs) c) ∧ LL κ M vs css
  | _, _, _, _, .nil, h => by simp at h
  | _, _, 0, _, .cons a b r, h => by simp at h; subst h; exact ⟨_, _, _, rfl, a, b⟩
  | _, _, i + 1, _, .cons _ _ r, h => by
    obtain ⟨a, c, vs, h1, h2, h3⟩ := r.at (i := i) (by simpa using h)
    exact ⟨a, c, vs, by simpa using h1, h2, h3⟩
theorem comp_walks {prog : Program} {w : World} {A : Around} {s : Shared} {h₀ : Heap} {L : Addr} {m : Str → Option Value} {env : Env} {elt : PySem.Expr} {x : Str} {scope : Scope} {cl : List (Str × Addr)} {S : List (Addr × Obj) → Prop} {P : Nat → Value → Prop} {Fin : List Value → List (Addr × Obj) → Prop} {n : Nat}
    (κ : Bool) (tgt : List (List (List Nat))) (hn : tgt.length = n) {conc : List (Addr × Obj)} (hS : ∀ tail, S (conc ++ tail))
    (turn : ∀ i tail ys v I oI C oC D m₂ h tk (E' : Value → Shared → Prop), (hi : i < tgt.length) → P i v → AllL tail → LCg.NsObj oC m₂ → m₂ x = some v → Fr h₀ L h m → News h₀ L h ((I, oI) :: (C, oC) :: (D, LCg.lst ys) :: (conc ++ tail)) → LCg.Off3 I C D (conc ++ tail) → ((@Ne Nat I C) ∧ (@Ne Nat I D) ∧ (@Ne Nat C D)) →
      wpAny (model prog w) A (eval elt (compEnvC scope cl C env)) (fun y s' => ∃ h' tk' a c vs blk, y = .ref a ∧ s' = { s with heap := h', toks := tk' } ∧ Fr h₀ L h' m ∧ News h₀ L h' ((a, W.listOf (List.toArray vs) c) :: (blk ++ ((I, oI) :: (C, oC) :: (D, LCg.lst ys) :: (conc ++ tail)))) ∧ AllL blk ∧ LL κ (inN blk) vs tgt[i] ∧
        (a ≠ I ∧ a ≠ C ∧ a ≠ D) ∧ ∀ p ∈ blk, p.1 ≠ I ∧ p.1 ≠ C ∧ p.1 ≠ D) E' { s with heap := h, toks := tk })
    (fin : ∀ ys tail, AllL tail → WL κ (inN tail) ys tgt → Fin ys (conc ++ tail)) : LCg.CompRest prog w A h₀ L m env elt x scope cl s S P Fin n 0 [] conc := by
  refine comp_rest (J := fun i ys news => ∃ tail, news = conc ++ tail ∧ WL κ (inN tail) ys (tgt.take i) ∧ AllL tail) ?_ ?_ ⟨[], by simp, .nil, fun _ h => (List.not_mem_nil h).elim⟩
  · rintro i ys news v I oI C oC D m₂ h tk E' hi hv ⟨tail, rfl, hl, hal⟩ hC hx F N off ne
    have hi' : i < tgt.length := by omega
    refine wpAny_mono (turn i tail ys v I oI C oC D m₂ h tk E' hi' hv hal hC hx F N off ne) (fun y s₂ hq => ?_) fun _ _ e => e
    obtain ⟨h', tk', a, c, vs, blk, rfl, rfl, F', N', hb, hlb, hne, hnb⟩ := hq
    refine ⟨h', tk', conc ++ (a, W.listOf vs.toArray c) :: (blk ++ tail), rfl, F', fun p hp => N' p ?_, LCg.Off3.of fun p hp => ?_, hS _, _, rfl, ?_, (AllL.append hb hal).cons⟩
    · simp only [List.mem_cons, List.mem_append] at hp ⊢
      rcases hp with h | h | h | h | h | h | h
      · exact .inr (.inr (.inl h))
      · exact .inr (.inr (.inr (.inl h)))
      · exact .inr (.inr (.inr (.inr (.inl h))))
      · exact .inr (.inr (.inr (.inr (.inr (.inl h)))))
      · exact .inl h
      · exact .inr (.inl h)
      · exact .inr (.inr (.inr (.inr (.inr (.inr h)))))
    · rcases List.mem_append.mp hp with q | q
      · exact off.mem p (List.mem_append_left _ q)
      · rcases List.mem_cons.mp q with rfl | q
        · exact hne
        · rcases List.mem_append.mp q with q | q
          · exact hnb p q
          · exact off.mem p (List.mem_append_right _ q)
    · rw [List.take_succ_eq_append_getElem hi']
      exact (hl.mono fun _ _ _ q => .tail _ (List.mem_append_right _ q)).snoc (.head _) (hlb.mono fun _ _ _ q => .tail _ (List.mem_append_left _ q))
  · rintro ys news ⟨tail, rfl, hl, hal⟩
    rw [← hn, List.take_length] at hl
    exact fin ys tail hal hl

end

section

open _root_.PySem _root_.PySem.W _root_.PyProof.Rows _root_.PyProof.V _root_.PySem.Calls _root_.PySem.SeqAt
set_option maxRecDepth 100000
inductive TurnM (g : Array GenState) (d : Drawn) (os : OsState) (base : Heap) (L it : Nat) (c : Nat) (n j : Nat) (P' : (Str → Option Value) → List (Addr × Obj) → Prop) (s₃ : Shared) : Prop where
  | mk (m : Str → Option Value) (news : List (Addr × Obj)) (o : Obj) (oc : Obj) (v0 : Option Value) (h : Heap) (tk : Nat) (news' : List (Addr × Obj)) (e1 : s₃ = ⟨h, g, d, tk, os⟩) (e2 : RIo 0 n 1 (j + 1) o) (e3 : oc.data = .cell v0) (e4 : Fr base L h m) (e5 : News base L h news') (e6 : (it, o) ∈ news') (e7 : (c, oc) ∈ news') (e8 : (∀ p ∈ news, p ∈ news')) (e9 : P' m news)
/-- how a turn of a loop over a cell ends -/
def TurnC (s : Shared) (base : Heap) (L it : Nat) (c : Nat) (n j : Nat) (P' : (Str → Option Value) → List (Addr × Obj) → Prop) (Q : Flow → Shared → Prop) : Flow → Shared → Prop
  | .ret v, s₃ => Q (.ret v) s₃
  | .brk, s₃ => Q .next s₃
  | _, s₃ => TurnM s.gens s.drawn s.os base L it c n j P' s₃
theorem for_rangeC {prog : Program} {w : World} {A : Around} {name : Str} {scope : Scope} {L a : Addr} {cd : Value} {s : Shared} {x : Str} {px : Pos} {body : List Stmt} {Q : Flow → Shared → Prop} {E : Value → Shared → Prop} {base : Heap}
    {r c : Nat} {e : Int} {t u v : Tok} {n : Nat} (hh : A.handled = none) (hc : (cellsFrom (L + 1) scope.names []).lookup x = some c) (hk : scope.kind = .function) (hx : (envOfC name scope L a cd).kindOf x = some .cell)
    (P : Nat → Nat → (Str → Option Value) → List (Addr × Obj) → Prop) {m : Str → Option Value} {news : List (Addr × Obj)} {oc : Obj} {v0 : Option Value}
    (F : Fr base L s.heap m) (N : News base L s.heap ((c, oc) :: news)) (hd : oc.data = .cell v0) (hr : IsRange s.heap r 0 e 1 t u v) (hsmall : Builtin.Range.small 0 e 1 = true) (hn : Builtin.Range.rangeSize 0 e 1 = n) (h0 : P s.heap.objs.size 0 m news)
    (hnc : ∀ it j m news, P it j m news → NC c news ∧ ∀ p ∈ news, p.1 ≠ it)
    (step : ∀ it j t m news o oc (s₁ : Shared), (∃ h tk, s₁ = { s with heap := h, toks := tk }) → j < n → RIo 0 n 1 (j + 1) o → P it j m news → oc.data = .cell (some (.int (0 + j * 1) t)) → Fr base L s₁.heap m → News base L s₁.heap ((it, o) :: (c, oc) :: news) → @Ne Nat it c →
      wpAny (model prog w) A (execs body (envOfC name scope L a cd)) (TurnC s base L it c n j (P it (j + 1)) Q) E s₁)
    (hQ : ∀ it m news oc v0 h tk, P it n m news → oc.data = .cell v0 → Fr base L h m → News base L h ((c, oc) :: news) → Q .next { s with heap := h, toks := tk })
    (hE : PassesOwn (model prog w) A (envOfC name scope L a cd) E := by passes_own) : wpAny (model prog w) A (pyIter (.ref r)) (ForGoal prog w A x px body (envOfC name scope L a cd) Q E) E s := by
  refine wpAny_pyIter_range hr hsmall ?_
  have S := src_range (prog := prog) (w := w) (A := A) hh s.heap.objs.size n 0 1
  have i0 : RIo 0 n 1 0 { cls := .type "range_iterator", data := .fields #[rawInt 0, rawInt (Builtin.Range.rangeSize 0 e 1), rawInt 1] } := by unfold RIo; rw [hn]; simp
  refine codeAny_forLoop (fun k s' => ∃ j m news o oc v0 h tk, s' = { s with heap := h, toks := tk } ∧ RIo 0 n 1 j o ∧ Fr base L h m ∧ News base L h ((s.heap.objs.size, o) :: (c, oc) :: news) ∧ oc.data = .cell v0 ∧ P s.heap.objs.size j m news ∧ j ≤ n ∧ k = n + 1 - j) ?_ (n + 1)
    ⟨0, m, news, _, oc, v0, _, _, rfl, i0, F.push _, News.push F N _ rfl, hd, h0, Nat.zero_le _, rfl⟩
  intro k s' hpat2
  refine aside fun Gz hGz => ?_
  obtain ⟨j, m, news, o, oc, v0, h, tk, rfl, hio, F, N, hd, hP, hj, rfl⟩ := hpat2
  refine hGz ?_
  clear hGz Gz
  obtain ⟨hnc1, hne1⟩ := hnc _ _ _ _ hP
  refine aside fun Gz hGz => ?_
  obtain ⟨i1, i2, i3⟩ := N _ (.head _)
  refine hGz ?_
  clear hGz Gz
  have Nc := N _ (.tail _ (.head _))
  have hcit : @Ne Nat s.heap.objs.size c := fun q => by
    have e1 : h.get? c = some oc := Nc.1
    have e2 : h.get? s.heap.objs.size = some o := i1
    rw [q, e1] at e2
    have e3 := Option.some.inj e2
    rw [e3, hio] at hd
    cases hd
  have keep : ∀ {h'}, Heap.ExtBut s.heap.objs.size h h' → Fr base L h' m ∧ News base L h' ((c, oc) :: news) := fun {h'} sb =>
    ⟨after_fr (X := [s.heap.objs.size]) (fs := []) F (Kp.of_keep fun b o hb e => sb b o (by simpa using hb) e) (by simpa using Ne.symm i2) (fun b' hb => by rcases hb with hb | ⟨hb, _⟩; (rw [List.mem_singleton.mp hb]; exact i3); cases hb),
      fun p hp => ⟨sb _ _ (by
        rcases List.mem_cons.mp hp with rfl | hp
        · exact Ne.symm hcit
        · exact hne1 p hp) (N p (.tail _ hp)).1, (N p (.tail _ hp)).2⟩⟩
  by_cases hlt : j < n
  · refine S.item j _ o _ _ hlt i1 hio trivial fun v h₁ o' tk₁ hv e' hio' sb => ?_
    obtain ⟨t1, rfl⟩ := hv
    obtain ⟨F₁, N₁⟩ := keep sb
    have N₁' : News base L h₁ ((s.heap.objs.size, o') :: (c, oc) :: news) := by
      intro p hp
      rcases List.mem_cons.mp hp with rfl | hp
      · exact ⟨e', i2, i3⟩
      · exact N₁ p hp
    refine wpAny_assign_Name ?_
    refine st_cell (s := { s with heap := h₁, toks := tk₁ }) 1 F₁ N₁' hc rfl hd (nc_cons (.inl hcit) hnc1) (fun h₂ oc' F₂ N₂ hd₂ => ?_) hk hx
    have N₂' : News base L h₂ ((s.heap.objs.size, o') :: (c, oc') :: news) := swap2 N₂
    refine wpAny_passesOwn hE (wpAny_mono (step _ j t1 m news o' oc' { s with heap := h₂, toks := tk₁ } ⟨_, _, rfl⟩ hlt hio' hP hd₂ F₂ N₂' hcit) (fun f s₃ h₃ => ?_) fun _ _ e => e)
    have go : TurnM s.gens s.drawn s.os base L s.heap.objs.size c n j (P s.heap.objs.size (j + 1)) s₃ → _ := fun ⟨m2, n2, o2, oc2, w0, h2, t2, n3, e2, q1, q2, q3, q4, q5, q6, q7, q8⟩ =>
      (⟨n + 1 - (j + 1), by omega, j + 1, m2, n2, o2, oc2, w0, h2, t2, e2, q1, q3, (fun p hp => by
        rcases List.mem_cons.mp hp with rfl | hp
        · exact q4 _ q5
        rcases List.mem_cons.mp hp with rfl | hp
        · exact q4 _ q6
        · exact q4 _ (q7 _ hp)), q2, q8, hlt, rfl⟩ : ∃ m', m' < n + 1 - j ∧ ∃ j m news o oc v0 h tk, s₃ = { s with heap := h, toks := tk } ∧ RIo 0 n 1 j o ∧ Fr base L h m ∧ News base L h ((s.heap.objs.size, o) :: (c, oc) :: news) ∧ Obj.data oc = Data.cell v0 ∧ P s.heap.objs.size j m news ∧ j ≤ n ∧ m' = n + 1 - j)
    cases f with
    | ret v => exact h₃
    | brk => exact h₃
    | cont => exact go h₃
    | next => exact go h₃
  · obtain rfl : j = n := by omega
    refine S.done _ o _ _ i1 hio trivial fun h₁ tk₁ sb => wpAny_execs_nil ?_
    obtain ⟨F₁, N₁⟩ := keep sb
    exact hQ _ _ _ _ _ _ _ hP hd F₁ N₁
/-- the law's names at a turn: the seven that the loop sets, the others as they were -/
def lawM (a1 a2 a3 a4 a5 a6 a7 : Option Value) (mb : Str → Option Value) : Str → Option Value := fun y => if y = Str.ofString "walk" then a1 else if y = Str.ofString "kept" then a2 else if y = Str.ofString "back" then a3 else if y = Str.ofString "first" then a4 else if y = Str.ofString "forth" then a5 else if y = Str.ofString "due" then a6 else if y = Str.ofString "place" then a7 else mb y
inductive LastP (T2 : List (Addr × Obj)) (cs : List (Addr × Obj)) (mb : Str → Option Value) (it : Nat) (_j : Nat) (m : Str → Option Value) (news : List (Addr × Obj)) : Prop where
  | mk (a1 : Option Value) (a2 : Option Value) (a3 : Option Value) (a4 : Option Value) (a5 : Option Value) (a6 : Option Value) (a7 : Option Value) (T : List (Addr × Obj)) (e1 : m = lawM a1 a2 a3 a4 a5 a6 a7 mb) (e2 : news = cs ++ T) (e3 : AllL T) (e4 : (∀ p ∈ T2, p ∈ T)) (e5 : ∀ p ∈ news, p.1 ≠ it)
theorem lawM_self (mb : Str → Option Value) : lawM (mb (Str.ofString "walk")) (mb (Str.ofString "kept")) (mb (Str.ofString "back")) (mb (Str.ofString "first")) (mb (Str.ofString "forth")) (mb (Str.ofString "due")) (mb (Str.ofString "place")) mb = mb := by
  funext y
  unfold lawM
  (repeat' split) <;> first | rfl | (rename_i h; subst h; rfl)
theorem lawM_walk (a1 a2 a3 a4 a5 a6 a7 v : Option Value) (mb : Str → Option Value) : (fun z => if z = Str.ofString "walk" then v else lawM a1 a2 a3 a4 a5 a6 a7 mb z) = lawM v a2 a3 a4 a5 a6 a7 mb := by
  funext z
  unfold lawM
  by_cases h : z = Str.ofString "walk"
  · subst h; rfl
  · rw [if_neg h]; (repeat' split) <;> first | rfl | contradiction
theorem lawM_kept (a1 a2 a3 a4 a5 a6 a7 v : Option Value) (mb : Str → Option Value) : (fun z => if z = Str.ofString "kept" then v else lawM a1 a2 a3 a4 a5 a6 a7 mb z) = lawM a1 v a3 a4 a5 a6 a7 mb := by
  funext z
  unfold lawM
  by_cases h : z = Str.ofString "kept"
  · subst h; rfl
  · rw [if_neg h]; (repeat' split) <;> first | rfl | contradiction
theorem lawM_back (a1 a2 a3 a4 a5 a6 a7 v : Option Value) (mb : Str → Option Value) : (fun z => if z = Str.ofString "back" then v else lawM a1 a2 a3 a4 a5 a6 a7 mb z) = lawM a1 a2 v a4 a5 a6 a7 mb := by
  funext z
  unfold lawM
  by_cases h : z = Str.ofString "back"
  · subst h; rfl
  · rw [if_neg h]; (repeat' split) <;> first | rfl | contradiction
theorem lawM_first (a1 a2 a3 a4 a5 a6 a7 v : Option Value) (mb : Str → Option Value) : (fun z => if z = Str.ofString "first" then v else lawM a1 a2 a3 a4 a5 a6 a7 mb z) = lawM a1 a2 a3 v a5 a6 a7 mb := by
  funext z
  unfold lawM
  by_cases h : z = Str.ofString "first"
  · subst h; rfl
  · rw [if_neg h]; (repeat' split) <;> first | rfl | contradiction
theorem lawM_forth (a1 a2 a3 a4 a5 a6 a7 v : Option Value) (mb : Str → Option Value) : (fun z => if z = Str.ofString "forth" then v else lawM a1 a2 a3 a4 a5 a6 a7 mb z) = lawM a1 a2 a3 a4 v a6 a7 mb := by
  funext z
  unfold lawM
  by_cases h : z = Str.ofString "forth"
  · subst h; rfl
  · rw [if_neg h]; (repeat' split) <;> first | rfl | contradiction
theorem lawM_due (a1 a2 a3 a4 a5 a6 a7 v : Option Value) (mb : Str → Option Value) : (fun z => if z = Str.ofString "due" then v else lawM a1 a2 a3 a4 a5 a6 a7 mb z) = lawM a1 a2 a3 a4 a5 v a7 mb := by
  funext z
  unfold lawM
  by_cases h : z = Str.ofString "due"
  · subst h; rfl
  · rw [if_neg h]; (repeat' split) <;> first | rfl | contradiction
theorem lawM_place (a1 a2 a3 a4 a5 a6 a7 v : Option Value) (mb : Str → Option Value) : (fun z => if z = Str.ofString "place" then v else lawM a1 a2 a3 a4 a5 a6 a7 mb z) = lawM a1 a2 a3 a4 a5 a6 v mb := by
  funext z
  unfold lawM
  by_cases h : z = Str.ofString "place"
  · subst h; rfl
  · rw [if_neg h]; (repeat' split) <;> first | rfl | contradiction
/-- the law's names ahead of the loop -/
def lawB (Dw Di Do Dc D : Nat) (m0 : Str → Option Value) : Str → Option Value := fun z => if z = Str.ofString "ways" then some (.ref Dw) else if z = Str.ofString "items" then some (.ref Di) else if z = Str.ofString "octets" then some (.ref Do) else if z = Str.ofString "coded" then some (.ref Dc) else if z = Str.ofString "drawn" then some (.ref D) else m0 z
inductive FirstP (base0 : Heap) (T4 cs : List (Addr × Obj)) (a1 a2 a3 : Option Value) (mb : Str → Option Value) (it : Nat) (_j : Nat) (base : Heap) (m : Str → Option Value) (news : List (Addr × Obj)) : Prop where
  | mk (e1 : base = base0) (b4 : Option Value) (b5 : Option Value) (b6 : Option Value) (b7 : Option Value) (T : List (Addr × Obj)) (e2 : m = lawM a1 a2 a3 b4 b5 b6 b7 mb) (e3 : news = cs ++ T) (e4 : AllL T) (e5 : (∀ p ∈ T4, p ∈ T)) (e6 : ∀ p ∈ news, p.1 ≠ it)
theorem order11 {base h : Heap} {L : Addr} {Dz a1 a2 a3 a4 a5 a6 a7 : Addr × Obj} {T t2 : List (Addr × Obj)} (N : News base L h (Dz :: a1 :: a2 :: a3 :: a4 :: a5 :: a6 :: a7 :: (T ++ t2))) (h0 : AllL [Dz]) (h1 : AllL T) (h2 : AllL t2) :
    ∃ T', AllL T' ∧ News base L h (a1 :: a2 :: a3 :: a4 :: a5 :: a6 :: a7 :: T') ∧ Dz ∈ T' ∧ (∀ p ∈ T, p ∈ T') ∧ (∀ p ∈ t2, p ∈ T') ∧ ∀ p ∈ T', p ∈ a1 :: a2 :: a3 :: a4 :: a5 :: a6 :: a7 :: T' :=
  join_tail (conc := [a1, a2, a3, a4, a5, a6, a7]) N h0 h1 h2

end

section

open _root_.PySem _root_.PySem.W _root_.PyProof.Rows _root_.PyProof.V _root_.PySem.Calls _root_.PySem.SeqAt
set_option maxRecDepth 100000
/-- a comprehension with a test, its elements codes -/
theorem comp_filter {prog : Program} {w : World} {A : Around} {s : Shared} {h₀ : Heap} {L : Addr} {m : Str → Option Value} {env : Env} {ct elt : PySem.Expr} {x : Str} {scope : Scope} {cl : List (Str × Addr)} {S : List (Addr × Obj) → Prop} {P : Nat → Value → Prop} {Fin : List Value → List (Addr × Obj) → Prop} {n : Nat}
    (κ : Bool) (p : Nat → Bool) (val : Nat → Nat) {news : List (Addr × Obj)} (hS : S news)
    (turn : ∀ i ys v I oI C oC D m₂ h tk (E' : Value → Shared → Prop), i < n → P i v → LCg.NsObj oC m₂ → m₂ x = some v → Fr h₀ L h m → News h₀ L h ((I, oI) :: (C, oC) :: (D, LCg.lst ys) :: news) → LCg.Off3 I C D news → ((@Ne Nat I C) ∧ (@Ne Nat I D) ∧ (@Ne Nat C D)) →
      wpAny (model prog w) A (isTrue ct (compEnvC scope cl C env) (eval ct (compEnvC scope cl C env))) (fun ok s' => ok = p i ∧ ∃ h' tk', s' = { s with heap := h', toks := tk' } ∧ Fr h₀ L h' m ∧ News h₀ L h' ((I, oI) :: (C, oC) :: (D, LCg.lst ys) :: news) ∧
        (p i = true → wpAny (model prog w) A (eval elt (compEnvC scope cl C env)) (fun y s'' => ∃ h'' tk'', s'' = { s with heap := h'', toks := tk'' } ∧ Fr h₀ L h'' m ∧ News h₀ L h'' ((I, oI) :: (C, oC) :: (D, LCg.lst ys) :: news) ∧ Cd κ y (val i)) E' s')) E' { s with heap := h, toks := tk })
    (fin : ∀ ys, CA κ ys (((List.range n).filter p).map val) → Fin ys news) : LCt.CompRestT prog w A h₀ L m env ct elt x scope cl s S P Fin n 0 [] news := by
  have key : ∀ (k i : Nat) (ys : List Value), i + k = n → CA κ ys (((List.range i).filter p).map val) → LCt.CompRestT prog w A h₀ L m env ct elt x scope cl s S P Fin k i ys news := by
    intro k
    induction k with
    | zero => intro i ys hi hJ; obtain rfl : i = n := by omega
              exact LCt.CompRestT.zero (fin _ hJ)
    | succ k ih =>
      intro i ys hi hJ
      refine LCt.CompRestT.succ ?_
      intro v I oI C oC D m₂ h tk E' hv hC hx F N off ne
      refine wpAny_mono (turn i ys v I oI C oC D m₂ h tk E' (by omega) hv hC hx F N off ne) (fun ok s₂ hq => ?_) fun _ _ e => e
      obtain ⟨rfl, h', tk', rfl, F', N', ht⟩ := hq
      have hr : (List.range (i + 1)).filter p = (List.range i).filter p ++ (if p i then [i] else []) := by
        rw [List.range_succ, List.filter_append]
        congr 1
        simp only [List.filter_cons, List.filter_nil]
      cases hp : p i with
      | true =>
        simp only [if_true]
        refine wpAny_mono (ht hp) (fun y s₃ hq => ?_) fun _ _ e => e
        obtain ⟨h'', tk'', rfl, F'', N'', hc⟩ := hq
        refine ⟨h'', tk'', news, rfl, F'', N'', off, hS, ih (i + 1) _ (by omega) ?_⟩
        rw [hr, hp, if_pos rfl, List.map_append]
        exact hJ.append (CA.one hc)
      | false =>
        simp only [Bool.false_eq_true, if_false]
        refine ⟨h', tk', news, rfl, F', N', off, hS, ih (i + 1) _ (by omega) ?_⟩
        rw [hr, hp]
        simpa using hJ
  exact key n 0 [] (by omega) (by simpa using CA.nil)
theorem order10 {base h : Heap} {L : Addr} {tp wa ka it c6 c1 c2 c3 c4 c5 : Addr × Obj} {blk T : List (Addr × Obj)} (N : News base L h (tp :: wa :: ka :: (blk ++ (it :: c6 :: c1 :: c2 :: c3 :: c4 :: c5 :: T)))) (h0 : AllL [wa, ka]) (h1 : AllL blk) (h2 : AllL T) :
    ∃ T3, AllL T3 ∧ News base L h (it :: c6 :: c1 :: c2 :: c3 :: c4 :: c5 :: T3) ∧ wa ∈ T3 ∧ ka ∈ T3 ∧ (∀ p ∈ blk, p ∈ T3) ∧ ∀ p ∈ T, p ∈ T3 := by
  refine ⟨wa :: ka :: (blk ++ T), AllL.append h0 (AllL.append h1 h2), fun p hp => N p ?_, .head _, .tail _ (.head _), fun p hp => .tail _ (.tail _ (List.mem_append_left _ hp)), fun p hp => .tail _ (.tail _ (List.mem_append_right _ hp))⟩
  simp only [List.mem_cons, List.mem_append] at hp ⊢
  rcases hp with h | h | h | h | h | h | h | h | h | h | h
  · exact .inr (.inr (.inr (.inr (.inl h))))
  · exact .inr (.inr (.inr (.inr (.inr (.inl h)))))
  · exact .inr (.inr (.inr (.inr (.inr (.inr (.inl h))))))
  · exact .inr (.inr (.inr (.inr (.inr (.inr (.inr (.inl h)))))))
  · exact .inr (.inr (.inr (.inr (.inr (.inr (.inr (.inr (.inl h))))))))
  · exact .inr (.inr (.inr (.inr (.inr (.inr (.inr (.inr (.inr (.inl h)))))))))
  · exact .inr (.inr (.inr (.inr (.inr (.inr (.inr (.inr (.inr (.inr (.inl h))))))))))
  · exact .inr (.inl h)
  · exact .inr (.inr (.inl h))
  · exact .inr (.inr (.inr (.inl h)))
  · exact .inr (.inr (.inr (.inr (.inr (.inr (.inr (.inr (.inr (.inr (.inr h))))))))))
noncomputable def kbit (M i : Nat) : Bool := M / 2 ^ i % 2 == 1
theorem kbit_int (M i : Nat) : ((((M : Int).fdiv ((2 : Int) ^ ((i : Int)).toNat)).fmod 2) == 1) = kbit M i := by
  rw [Int.fmod_eq_emod_of_nonneg _ (by decide), Int.fdiv_eq_ediv_of_nonneg _ (Int.le_of_lt (Int.pow_pos (by decide)))]
  unfold kbit
  rw [Bool.eq_iff_iff, beq_iff_eq, beq_iff_eq]
  have : ((M : Int) / (2 : Int) ^ ((i : Int)).toNat % 2) = ((M / 2 ^ i % 2 : Nat) : Int) := by simp
  rw [this]; omega
theorem pow_small {i : Nat} (h : i ≤ 20) : ((2 : Int) ^ ((i : Int)).toNat) ≠ 0 ∧ ((2 : Int) ^ ((i : Int)).toNat).natAbs < 1073741824 := by
  rw [Int.toNat_natCast]
  have h1 : (2 : Nat) ^ i ≤ 2 ^ 20 := Nat.pow_le_pow_right (by decide) h
  have h2 : ((2 : Int) ^ i) = (((2 : Nat) ^ i : Nat) : Int) := by simp
  rw [h2]
  have h3 : 0 < (2 : Nat) ^ i := Nat.pow_pos (by decide)
  have h4 : (2 : Nat) ^ 20 = 1048576 := by decide
  constructor <;> omega
theorem ne_iter {base h : Heap} {L it : Nat} {o : Obj} {a c : Int} {n j : Nat} {news T : List (Addr × Obj)} (N : News base L h news) (mi : (it, o) ∈ news) (hio : RIo a n c j o) (hT : AllL T) (hs : ∀ p ∈ T, p ∈ news) : ∀ p ∈ T, p.1 ≠ it := by
  intro p hp q
  have e1 := (N _ mi).1
  have e2 := (N _ (hs p hp)).1
  rw [q] at e2
  dsimp only at e1
  rw [e1] at e2
  have e3 := Option.some.inj e2
  obtain ⟨vs, k, e4⟩ := hT p hp
  rw [e4, hio] at e3
  have e5 := congrArg Obj.data e3
  simp [W.listOf] at e5
inductive PlaceP (base0 : Heap) (T5 cs : List (Addr × Obj)) (a1 a2 a3 a4 a5 a6 : Option Value) (mb : Str → Option Value) (it : Nat) (_j : Nat) (base : Heap) (m : Str → Option Value) (news : List (Addr × Obj)) : Prop where
  | mk (e1 : base0 = base) (b7 : Option Value) (T : List (Addr × Obj)) (e2 : m = lawM a1 a2 a3 a4 a5 a6 b7 mb) (e3 : news = cs ++ T) (e4 : AllL T) (e5 : (∀ p ∈ T5, p ∈ T)) (e6 : ∀ p ∈ news, p.1 ≠ it)
theorem fr_as {b h : Heap} {L : Addr} {m m' : Str → Option Value} (F : Fr b L h m) (e : m = m') : Fr b L h m' := e ▸ F
theorem ne_ins {x : Addr × Obj} {it : Nat} {cs T : List (Addr × Obj)} (h : ∀ p ∈ cs ++ T, p.1 ≠ it) (hx : x.1 ≠ it) : ∀ p ∈ cs ++ x :: T, p.1 ≠ it := fun p hp => by
  rcases List.mem_append.mp hp with q | q
  · exact h p (List.mem_append_left _ q)
  · rcases List.mem_cons.mp q with rfl | q
    · exact hx
    · exact h p (List.mem_append_right _ q)
theorem ne_app {it : Nat} {cs T T' : List (Addr × Obj)} (h : ∀ p ∈ cs ++ T, p.1 ≠ it) (h' : ∀ p ∈ T', p.1 ≠ it) : ∀ p ∈ cs ++ T', p.1 ≠ it := fun p hp => by
  rcases List.mem_append.mp hp with q | q
  · exact h p (List.mem_append_left _ q)
  · exact h' p q
theorem sub_mid {x y : Addr × Obj} {cs T : List (Addr × Obj)} : ∀ p ∈ cs ++ x :: T, p ∈ x :: y :: (cs ++ T) := fun p hp => by
  simp only [List.mem_append, List.mem_cons] at hp ⊢
  rcases hp with h | h | h
  · exact .inr (.inr (.inl h))
  · exact .inl h
  · exact .inr (.inr (.inr h))

end

section

open _root_.PySem _root_.PySem.W _root_.PyProof.Rows
def Rows4 (rcs : List (List Nat)) : Prop := ∀ r ∈ rcs, r.length ≤ 4 ∧ r ≠ [] ∧ ∀ n ∈ r, n < 4
abbrev cmap (rcs : List (List Nat)) : List (List Nat) := rcs.map (·.map codeOf)
theorem codeOf_inj {a b : Nat} (ha : a < 4) (hb : b < 4) (h : codeOf a = codeOf b) : a = b := by
  unfold codeOf at h
  rcases (four (by first | assumption | omega) : a = 0 ∨ a = 1 ∨ a = 2 ∨ a = 3) with rfl | rfl | rfl | rfl <;> rcases (four (by first | assumption | omega) : b = 0 ∨ b = 1 ∨ b = 2 ∨ b = 3) with rfl | rfl | rfl | rfl <;> first | rfl | (simp at h)
theorem filter_keep_eq {a b : List Nat} : a.filter (keepc b) = a ↔ ¬ ∃ x ∈ a, x ∈ b := by
  rw [List.filter_eq_self]
  constructor
  · rintro h ⟨x, hx, hb⟩
    have := h x hx
    simp [keepc, hb] at this
  · intro h x hx
    simp only [keepc, Bool.not_eq_true', List.contains_eq_mem, decide_eq_false_iff_not]
    exact fun hb => h ⟨x, hx, hb⟩
theorem mem_fstep {ns ds : List Nat} {h x : Nat} : x ∈ fstep ns (h :: ds) ↔ (x = h ∧ ∃ d ∈ ds, d ∈ ns) ∨ (x ≠ h ∧ x ∈ ns) := by
  unfold fstep
  simp only [List.drop_succ_cons, List.drop_zero, List.take_succ_cons, List.take_zero]
  have hf : x ∈ ns.filter (keepc [h]) ↔ x ≠ h ∧ x ∈ ns := by
    rw [List.mem_filter]
    simp only [keepc, Bool.not_eq_true', List.contains_eq_mem, decide_eq_false_iff_not, List.mem_singleton]
    exact And.comm
  by_cases hc : ds.filter (keepc ns) = ds
  · rw [if_pos hc, hf]
    have := filter_keep_eq.mp hc
    constructor
    · exact .inr
    · rintro (⟨_, h2⟩ | h2)
      · exact absurd h2 this
      · exact h2
  · rw [if_neg hc, List.mem_append, hf, List.mem_singleton]
    have h2 : ∃ d ∈ ds, d ∈ ns := Classical.byContradiction fun q => hc (filter_keep_eq.mpr q)
    constructor
    · rintro (q | q)
      · exact .inr q
      · exact .inl ⟨q, h2⟩
    · rintro (⟨q, _⟩ | q)
      · exact .inr q
      · exact .inl q
theorem mem_back1 {ns ds : List Nat} {h x : Nat} : x ∈ back1 ns (h :: ds) ↔ (h ∈ ns ∧ ((x ≠ h ∧ x ∈ ns) ∨ x ∈ ds)) ∨ (h ∉ ns ∧ x ∈ ns) := by
  unfold back1
  simp only [List.headD_cons, List.drop_succ_cons, List.drop_zero, List.take_succ_cons, List.take_zero, List.contains_eq_mem, decide_eq_true_eq]
  have hf : x ∈ ns.filter (keepc [h]) ↔ x ≠ h ∧ x ∈ ns := by
    rw [List.mem_filter]
    simp only [keepc, Bool.not_eq_true', List.contains_eq_mem, decide_eq_false_iff_not, List.mem_singleton]
    exact And.comm
  by_cases hc : h ∈ ns
  · rw [if_pos hc, List.mem_append, hf, List.mem_filter]
    simp only [keepc, Bool.not_eq_true', List.contains_eq_mem, decide_eq_false_iff_not]
    rw [hf]
    constructor
    · rintro (q | ⟨q, _⟩)
      · exact .inl ⟨hc, .inl q⟩
      · exact .inl ⟨hc, .inr q⟩
    · rintro (⟨_, q | q⟩ | ⟨q, _⟩)
      · exact .inl q
      · by_cases hx : x ≠ h ∧ x ∈ ns
        · exact .inl hx
        · exact .inr ⟨q, hx⟩
      · exact absurd hc q
  · rw [if_neg hc]
    constructor
    · exact fun q => .inr ⟨hc, q⟩
    · rintro (⟨q, _⟩ | ⟨_, q⟩)
      · exact absurd q hc
      · exact q
theorem meet_step {ns bs ds : List Nat} {h : Nat} : (∃ x ∈ ns, x ∈ back1 bs (h :: ds)) ↔ ∃ x ∈ fstep ns (h :: ds), x ∈ bs := by
  constructor
  · rintro ⟨x, hx, hb⟩
    rcases mem_back1.mp hb with ⟨h1, ⟨h2, h3⟩ | h2⟩ | ⟨h1, h2⟩
    · exact ⟨x, mem_fstep.mpr (.inr ⟨h2, hx⟩), h3⟩
    · exact ⟨h, mem_fstep.mpr (.inl ⟨rfl, x, h2, hx⟩), h1⟩
    · exact ⟨x, mem_fstep.mpr (.inr ⟨fun q => h1 (q ▸ h2), hx⟩), h2⟩
  · rintro ⟨x, hx, hb⟩
    rcases mem_fstep.mp hx with ⟨rfl, d, hd, hn⟩ | ⟨h1, h2⟩
    · exact ⟨d, hn, mem_back1.mpr (.inl ⟨hb, .inr hd⟩)⟩
    · by_cases hc : h ∈ bs
      · exact ⟨x, h2, mem_back1.mpr (.inl ⟨hc, .inl ⟨h1, hb⟩⟩)⟩
      · exact ⟨x, h2, mem_back1.mpr (.inr ⟨hc, hb⟩)⟩
theorem meet_all : ∀ (rows : List (List Nat)) (ns bs : List Nat), (∀ r ∈ rows, r ≠ []) → ((∃ x ∈ ns, x ∈ backS rows bs) ↔ ∃ x ∈ lastN rows ns, x ∈ bs)
  | [], _, _, _ => Iff.rfl
  | [] :: _, _, _, h => absurd rfl (h _ (.head _))
  | (a :: ds) :: rows, ns, bs, h => by
    show (∃ x ∈ ns, x ∈ back1 (backS rows bs) (a :: ds)) ↔ ∃ x ∈ lastN rows (fstep ns (a :: ds)), x ∈ bs
    rw [meet_step]
    exact meet_all rows _ bs fun r hr => h r (.tail _ hr)
theorem forthL_get : ∀ (rows : List (List Nat)) (ns : List Nat) (k : Nat), k ≤ rows.length → (forthL rows ns).getD k [] = lastN (rows.take k) ns
  | [], ns, k, h => by
    obtain rfl : k = 0 := by simpa using h
    rfl
  | r :: rows, ns, 0, _ => rfl
  | r :: rows, ns, k + 1, h => by
    show (forthL rows (fstep ns r)).getD k [] = lastN (rows.take k) (fstep ns r)
    exact forthL_get rows _ k (by simpa using h)
theorem backW_get : ∀ (rows : List (List Nat)) (ns : List Nat) (k : Nat), k ≤ rows.length → (backW rows ns).getD k [] = backS (rows.drop k) ns
  | [], ns, k, h => by
    obtain rfl : k = 0 := by simpa using h
    rfl
  | r :: rows, ns, 0, _ => rfl
  | r :: rows, ns, k + 1, h => by
    show (backW rows ns).getD k [] = backS (rows.drop k) ns
    exact backW_get rows _ k (by simpa using h)
theorem kbit_or (a b n : Nat) : kbit (a ||| b) n = (kbit a n || kbit b n) := by
  have h : ∀ m, kbit m n = m.testBit n := fun m => by rw [Nat.testBit_eq_decide_div_mod_eq, kbit]; rw [Bool.eq_iff_iff]; simp
  rw [h, h, h, Nat.testBit_or]
theorem kbit_pow (a n : Nat) : kbit (2 ^ a) n = decide (a = n) := by
  have h : ∀ m, kbit m n = m.testBit n := fun m => by rw [Nat.testBit_eq_decide_div_mod_eq, kbit]; rw [Bool.eq_iff_iff]; simp
  rw [h, Nat.testBit_two_pow]
theorem kbit_fold (ms : List Nat) (n : Nat) : ∀ (ds : List Nat) (m : Nat), kbit (ds.foldl (fun m d => m ||| ms.getD d 0) m) n = true ↔ kbit m n = true ∨ ∃ d ∈ ds, kbit (ms.getD d 0) n = true
  | [], m => by simp
  | d :: ds, m => by
    rw [List.foldl_cons, kbit_fold ms n ds, kbit_or, Bool.or_eq_true]
    constructor
    · rintro ((h | h) | ⟨e, h1, h2⟩)
      · exact .inl h
      · exact .inr ⟨d, .head _, h⟩
      · exact .inr ⟨e, .tail _ h1, h2⟩
    · rintro (h | ⟨e, h1, h2⟩)
      · exact .inl (.inl h)
      · rcases List.mem_cons.mp h1 with rfl | h1
        · exact .inl (.inr h2)
        · exact .inr ⟨e, h1, h2⟩
theorem markStep_len {ms : List Nat} {i a : Nat} {ds : List Nat} (h : ms.length = 4) (ha : a < 4) : (markStep ms i (a :: ds)).length = 4 := by
  simp only [markStep, List.headD_cons, List.length_append, List.length_take, List.length_drop, List.length_singleton]
  omega
theorem markStep_get {ms : List Nat} {i a x : Nat} {ds : List Nat} (h : ms.length = 4) (ha : a < 4) : (markStep ms i (a :: ds)).getD x 0 = if x = a then markOf ms i (a :: ds) else ms.getD x 0 := by
  simp only [markStep, List.headD_cons, List.getD_eq_getElem?_getD]
  by_cases hx : x < a
  · rw [if_neg (by omega), List.append_assoc, List.getElem?_append_left (by simp; omega), List.getElem?_take_of_lt hx]
  · by_cases he : x = a
    · subst he
      rw [if_pos rfl, List.getElem?_append_left (by simp; omega), List.getElem?_append_right (by simp; omega)]
      rw [List.length_take, Nat.min_eq_left (by omega), Nat.sub_self]; rfl
    · rw [if_neg he, List.getElem?_append_right (by simp; omega), List.getElem?_drop]
      congr 2
      simp only [List.length_append, List.length_take, List.length_singleton]; omega
/-- a mark goes as the names on a walk do -/
theorem taint : ∀ (rcs : List (List Nat)) (i : Nat) (ms S : List Nat) (b : Nat), Rows4 rcs → ms.length = 4 → b < 4 + i → (∀ x, x < 4 → (kbit (ms.getD x 0) b = true ↔ codeOf x ∈ S)) →
    ∀ x, x < 4 → (kbit ((marksL i rcs ms).getD x 0) b = true ↔ codeOf x ∈ lastN (cmap rcs) S)
  | [], _, _, _, _, _, _, _, h => h
  | [] :: _, _, _, _, _, hr, _, _, _ => absurd rfl (hr _ (.head _)).2.1
  | (a :: ds) :: rcs, i, ms, S, b, hr, hl, hb, h => by
    obtain ⟨_, _, h3⟩ := hr _ (.head _)
    have ha := h3 a (.head _)
    show ∀ x, x < 4 → (kbit ((marksL (i + 1) rcs (markStep ms i (a :: ds))).getD x 0) b = true ↔ codeOf x ∈ lastN (cmap rcs) (fstep S (codeOf a :: ds.map codeOf)))
    refine taint rcs (i + 1) _ _ b (fun r q => hr r (.tail _ q)) (markStep_len hl ha) (by omega) fun x hx => ?_
    rw [markStep_get hl ha, mem_fstep]
    by_cases he : x = a
    · subst he
      rw [if_pos rfl]
      unfold markOf
      rw [List.drop_succ_cons, List.drop_zero, kbit_fold, kbit_pow]
      constructor
      · rintro (q | ⟨d, hd, q⟩)
        · exact absurd (of_decide_eq_true q) (by omega)
        · exact .inl ⟨rfl, codeOf d, List.mem_map_of_mem hd, (h d (h3 d (.tail _ hd))).mp q⟩
      · rintro (⟨_, e, he, q⟩ | ⟨q, _⟩)
        · obtain ⟨d, hd, rfl⟩ := List.mem_map.mp he
          exact .inr ⟨d, hd, (h d (h3 d (.tail _ hd))).mpr q⟩
        · exact absurd rfl q
    · rw [if_neg he, h x hx]
      constructor
      · exact fun q => .inr ⟨fun e => he (codeOf_inj hx ha e), q⟩
      · rintro (⟨q, _⟩ | ⟨_, q⟩)
        · exact absurd (codeOf_inj hx ha q) he
        · exact q
theorem cmap_ne {rcs : List (List Nat)} (hr : Rows4 rcs) : ∀ r ∈ cmap rcs, r ≠ [] := fun r h => by
  obtain ⟨q, hq, rfl⟩ := List.mem_map.mp h
  simpa using (hr q hq).2.1
theorem lastN_split (rows : List (List Nat)) (k : Nat) (ns : List Nat) : lastN (rows.drop k) (lastN (rows.take k) ns) = lastN rows ns := by
  unfold lastN
  rw [← List.foldl_append, List.take_append_drop]
theorem law_meet {rcs : List (List Nat)} (hr : Rows4 rcs) {i j k : Nat} (hi : i < 4) (hj : j < 4) (hk : k ≤ rcs.length) :
    (!decide (((forthL (rcs.map (·.map codeOf)) [codeOf i]).getD k []).filter (keepc ((backW (rcs.map (·.map codeOf)) [codeOf j]).getD k [])) = (forthL (rcs.map (·.map codeOf)) [codeOf i]).getD k [])) = kbit ((marksL 0 rcs [1, 2, 4, 8]).getD j 0) i := by
  have hk' : k ≤ (cmap rcs).length := by simpa using hk
  have h1 := forthL_get (cmap rcs) [codeOf i] k hk'
  have h2 := backW_get (cmap rcs) [codeOf j] k hk'
  have h3 := taint rcs 0 [1, 2, 4, 8] [codeOf i] i hr rfl (by omega) (fun x hx => by
    have : ([1, 2, 4, 8] : List Nat).getD x 0 = 2 ^ x := by
      rcases (four (by first | assumption | omega) : x = 0 ∨ x = 1 ∨ x = 2 ∨ x = 3) with rfl | rfl | rfl | rfl <;> rfl
    rw [this, kbit_pow, decide_eq_true_eq, List.mem_singleton]
    exact ⟨fun e => by rw [e], fun e => codeOf_inj hx hi e⟩) j hj
  rw [Bool.eq_iff_iff, h3, h1, h2, Bool.not_eq_true', decide_eq_false_iff_not, filter_keep_eq, Classical.not_not,
    meet_all _ _ _ (fun r q => cmap_ne hr r (List.mem_of_mem_drop q)), lastN_split]
  constructor
  · rintro ⟨x, hx, q⟩
    rw [List.mem_singleton.mp q] at hx; exact hx
  · exact fun q => ⟨_, q, .head _⟩
theorem kept_gen : ∀ (rcs : List (List Nat)) (i : Nat) (ms : List Nat) (j : Nat), Rows4 rcs → ms.length = 4 → j < 4 → (∀ x, x < 4 → ∀ b, 4 + i ≤ b → kbit (ms.getD x 0) b = false) →
    backK i (cmap rcs) [codeOf j] = ((List.range rcs.length).filter fun k => kbit ((marksL i rcs ms).getD j 0) (4 + i + k)).map (i + ·)
  | [], _, _, _, _, _, _, _ => rfl
  | [] :: _, _, _, _, hr, _, _, _ => absurd rfl (hr _ (.head _)).2.1
  | (a :: ds) :: rcs, i, ms, j, hr, hl, hj, h => by
    obtain ⟨_, _, h3⟩ := hr _ (.head _)
    have ha := h3 a (.head _)
    have hr' : Rows4 rcs := fun r q => hr r (.tail _ q)
    have hl' := markStep_len (i := i) (ds := ds) hl ha
    have hz : ∀ x, x < 4 → ∀ b, 4 + i + 1 ≤ b → kbit ((markStep ms i (a :: ds)).getD x 0) b = false := by
      intro x hx b hb
      rw [markStep_get hl ha]
      split
      · rw [Bool.eq_false_iff]
        unfold markOf
        rw [List.drop_succ_cons, List.drop_zero]
        intro q
        rcases (kbit_fold _ _ _ _).mp q with q | ⟨d, hd, q⟩
        · rw [kbit_pow] at q
          have := of_decide_eq_true q
          omega
        · rw [h d (h3 d (.tail _ hd)) b (by omega)] at q; cases q
      · exact h x hx b (by omega)
    have ih := kept_gen rcs (i + 1) (markStep ms i (a :: ds)) j hr' hl' hj (fun x hx b hb => hz x hx b (by omega))
    have ht := taint rcs (i + 1) (markStep ms i (a :: ds)) [codeOf a] (4 + i) hr' hl' (by omega) (fun x hx => by
      rw [markStep_get hl ha, List.mem_singleton]
      by_cases he : x = a
      · subst he
        rw [if_pos rfl]
        unfold markOf
        rw [kbit_fold, kbit_pow]
        exact ⟨fun _ => rfl, fun _ => .inl (by simp)⟩
      · rw [if_neg he, h x hx (4 + i) (by omega)]
        exact ⟨fun q => (by cases q), fun q => absurd (codeOf_inj hx ha q) he⟩) j hj
    have hm : (backS (cmap rcs) [codeOf j]).contains (codeOf a) = kbit ((marksL (i + 1) rcs (markStep ms i (a :: ds))).getD j 0) (4 + i) := by
      rw [Bool.eq_iff_iff, ht, List.contains_eq_mem, decide_eq_true_eq]
      have hq := meet_all (cmap rcs) [codeOf a] [codeOf j] (cmap_ne hr')
      constructor
      · intro q
        obtain ⟨x, hx, hb⟩ := hq.mp ⟨_, .head _, q⟩
        rw [List.mem_singleton.mp hb] at hx; exact hx
      · intro q
        obtain ⟨x, hx, hb⟩ := hq.mpr ⟨_, q, .head _⟩
        rw [List.mem_singleton.mp hx] at hb; exact hb
    show (if (backS (cmap rcs) [codeOf j]).contains (codeOf a) then i :: backK (i + 1) (cmap rcs) [codeOf j] else backK (i + 1) (cmap rcs) [codeOf j]) = _
    show _ = ((List.range (rcs.length + 1)).filter fun k => kbit ((marksL (i + 1) rcs (markStep ms i (a :: ds))).getD j 0) (4 + i + k)).map (i + ·)
    rw [hm, ih, List.range_succ_eq_map, List.filter_cons, List.filter_map]
    generalize (marksL (i + 1) rcs (markStep ms i (a :: ds))).getD j 0 = M
    have e1 : (List.filter (fun k => kbit M (4 + (i + 1) + k)) (List.range rcs.length)).map (i + 1 + ·) = ((List.filter ((fun k => kbit M (4 + i + k)) ∘ Nat.succ) (List.range rcs.length)).map Nat.succ).map (i + ·) := by
      rw [List.map_map]
      have e2 : (fun k => kbit M (4 + (i + 1) + k)) = ((fun k => kbit M (4 + i + k)) ∘ Nat.succ) := by
        funext k
        show kbit M (4 + (i + 1) + k) = kbit M (4 + i + (k + 1))
        congr 1; omega
      have e3 : (fun k => i + 1 + k) = ((fun k => i + k) ∘ Nat.succ) := by
        funext k
        show i + 1 + k = i + (k + 1)
        omega
      rw [e2, e3]
    cases hc : kbit M (4 + i) with
    | true => simp only [Nat.add_zero, hc, if_true, List.map_cons]; rw [e1]
    | false => simp only [Nat.add_zero, hc, Bool.false_eq_true, if_false]; rw [e1]
theorem law_kept {rcs : List (List Nat)} (hr : Rows4 rcs) {j : Nat} (hj : j < 4) : backK 0 (rcs.map (·.map codeOf)) [codeOf j] = (List.range rcs.length).filter fun i => kbit ((marksL 0 rcs [1, 2, 4, 8]).getD j 0) (4 + i) := by
  have h := kept_gen rcs 0 [1, 2, 4, 8] j hr rfl hj (fun x hx b hb => by
    have : ([1, 2, 4, 8] : List Nat).getD x 0 = 2 ^ x := by
      rcases (four (by first | assumption | omega) : x = 0 ∨ x = 1 ∨ x = 2 ∨ x = 3) with rfl | rfl | rfl | rfl <;> rfl
    rw [this, kbit_pow]
    exact decide_eq_false (by omega))
  simpa using h

end

section

open _root_.PySem _root_.PySem.W _root_.PyProof.Rows _root_.PyProof.V _root_.PySem.Calls _root_.PySem.SeqAt
theorem marksL_len : ∀ (rows : List (List Nat)) (i : Nat) (ms : List Nat), Rows4 rows → ms.length = 4 → (marksL i rows ms).length = 4
  | [], _, _, _, h => h
  | r :: rows, i, ms, hr, h => by
    show (marksL (i + 1) rows (markStep ms i r)).length = 4
    refine marksL_len rows (i + 1) _ (fun q hq => hr q (.tail _ hq)) ?_
    obtain ⟨_, h2, h3⟩ := hr r (.head _)
    cases r with
    | nil => exact absurd rfl h2
    | cons a r =>
      have := h3 a (.head _)
      simp only [markStep, List.headD_cons, List.length_append, List.length_take, List.length_drop, List.length_singleton]
      omega
theorem ne_flat {prog : Program} {w : World} {A : Around} {E : Value → Shared → Prop} {s : Shared} {κ : Bool} {l b : Addr} {n k : Nat} {vs us : List Value} {cs : List Nat} {Q : Value → Shared → Prop} (hl : s.heap.get? l = some (W.listOf vs.toArray n)) (hb : s.heap.get? b = some (W.listOf us.toArray k)) (hi : CA κ vs cs) (hj : CA κ us cs)
    (hu : A.units + 64 < cLine) (h : Q (.bool false) s) : wpAny (model prog w) A (compareOp .NotEq (.ref l) (.ref b)) Q E s :=
  ne_own hl hb hi hj hu (by rw [decide_eq_true rfl]; exact h)
theorem backS_ok : ∀ (rows : List (List Nat)) (ns : List Nat), (∀ r ∈ rows, r.length ≤ 4 ∧ ∀ c ∈ r, c < 256) → (∀ c ∈ ns, c < 256) → (backS rows ns).length ≤ ns.length + 4 * rows.length ∧ ∀ c ∈ backS rows ns, c < 256
  | [], ns, _, h => ⟨by simp [backS], h⟩
  | r :: rows, ns, hr, h => by
    obtain ⟨h1, h2⟩ := backS_ok rows ns (fun q hq => hr q (.tail _ hq)) h
    obtain ⟨h3, h4⟩ := hr r (.head _)
    show (back1 (backS rows ns) r).length ≤ _ ∧ ∀ c ∈ back1 (backS rows ns) r, c < 256
    unfold back1
    split
    · dsimp only
      refine ⟨?_, fun c hc => ?_⟩
      · have f1 := List.length_filter_le (keepc (r.take 1)) (backS rows ns)
        have f2 := List.length_filter_le (keepc ((backS rows ns).filter (keepc (r.take 1)))) (r.drop 1)
        simp only [List.length_append, List.length_cons, List.length_drop] at f1 f2 ⊢
        omega
      · rcases List.mem_append.mp hc with q | q
        · exact h2 c (List.mem_filter.mp q).1
        · exact h4 c (List.mem_of_mem_drop (List.mem_filter.mp q).1)
    · refine ⟨?_, h2⟩
      simp only [List.length_cons]; omega
theorem backW_ok : ∀ (rows : List (List Nat)) (ns : List Nat), (∀ r ∈ rows, r.length ≤ 4 ∧ ∀ c ∈ r, c < 256) → (∀ c ∈ ns, c < 256) → (backW rows ns).length = rows.length + 1 ∧ ∀ q ∈ backW rows ns, q.length ≤ ns.length + 4 * rows.length ∧ ∀ c ∈ q, c < 256
  | [], ns, _, h => ⟨rfl, fun q hq => by rw [List.mem_singleton.mp hq]; exact ⟨by omega, h⟩⟩
  | r :: rows, ns, hr, h => by
    obtain ⟨h1, h2⟩ := backW_ok rows ns (fun q hq => hr q (.tail _ hq)) h
    refine ⟨by simp [backW, h1], fun q hq => ?_⟩
    rcases List.mem_cons.mp hq with rfl | hq
    · exact backS_ok (r :: rows) ns hr h
    · obtain ⟨a, b⟩ := h2 q hq
      exact ⟨by simp only [List.length_cons]; omega, b⟩
theorem forthL_len : ∀ (rows : List (List Nat)) (ns : List Nat), (forthL rows ns).length = rows.length + 1
  | [], _ => rfl
  | _ :: rows, ns => by simp [forthL, forthL_len rows]
theorem forthL_ok : ∀ (rows : List (List Nat)) (ns : List Nat), (∀ r ∈ rows, r.length ≤ 4) → ∀ q ∈ forthL rows ns, q.length ≤ ns.length + rows.length
  | [], ns, _ => fun q hq => by rw [List.mem_singleton.mp hq]; omega
  | r :: rows, ns, hr => fun q hq => by
    rcases List.mem_cons.mp hq with rfl | hq
    · omega
    · have h1 := forthL_ok rows (fstep ns r) (fun q hq => hr q (.tail _ hq)) q hq
      have h2 : (fstep ns r).length ≤ ns.length + 1 := by
        unfold fstep
        have f1 := List.length_filter_le (keepc (r.take 1)) ns
        dsimp only
        split
        · omega
        · simp only [List.length_append, List.length_take]; omega
      simp only [List.length_cons]; omega
theorem post_true (args : List WData) : PySem.Challenge.rw_ik0017_01.row.claim.post args (.bool true) args = true := by
  unfold RowW.claim
  dsimp only
  show (WShape.has [] (.bool true) .bool && WTm.holds [] (.eq .res (.lit (.bool true))) _) = true
  rw [Bool.and_eq_true]
  constructor
  · rfl
  · unfold WTm.holds
    simp only [WTm.value]
    have e : same (WData.bool true) (WData.bool true) = true := by simp [same]
    rw [e]

end

section

open _root_.PySem _root_.PySem.W _root_.PyProof.Rows _root_.PyProof.V _root_.PySem.Calls _root_.PySem.SeqAt
set_option maxRecDepth 100000
noncomputable def lawBody (P : Params) : List Stmt := match (Mine.hd.heap_1 P).lookup 669 with
  | some ⟨_, _, .func fd, _⟩ => (match fd.body with | .stmts b => b | _ => [])
  | _ => []
noncomputable def lawScope (P : Params) : Scope := match (Mine.hd.heap_1 P).lookup 669 with
  | some ⟨_, _, .func fd, _⟩ => fd.scope
  | _ => { kind := .function, names := [], isGenerator := false, isCoroutine := false }
local macro_rules | `(tactic| walk_at "exec Assign cons ListComp") => `(tactic| refine halt_here ?_)
local macro_rules | `(tactic| walk_at "eval ListComp") => `(tactic| refine halt_here ?_)
local macro_rules | `(tactic| walk_at "compareOp NotEq ref ref") => `(tactic| refine halt_here ?_)
local macro_rules | `(tactic| walk_at "compareOp NotEq bytes bytes") => `(tactic| (k_here; (with_reducible show wpAny _ _ (compareOp CmpOp.NotEq (Value.bytes _ _) (Value.bytes _ _)) _ _ _); k_dflt (refine' ne_empty ?_); k_whole))
local macro_rules | `(tactic| walk_at "exec For Name Call cons nil") => `(tactic| (k_here; k_dflt (refine' for_start ?_); k_whole))
local macro_rules | `(tactic| walk_at "pyIter ref") => `(tactic| refine halt_here ?_)
local macro_rules | `(tactic| walk_at "loceq") => `(tactic| (funext y; (try dsimp only); repeat' (first | rfl | (split; (rename_i h; subst h; first | rfl | contradiction)))))
local macro_rules | `(tactic| walk_at "binaryOp FloorDiv int int") => `(tactic| (k_here; k_dflt (refine' floordiv_own ?e ?_; (case e => assumption)); k_whole))
local macro_rules | `(tactic| walk_at "CompSrcT") => `(tactic| refine haltP ?_)
local macro_rules | `(tactic| walk_at "call type:list") => `(tactic| refine halt_here ?_)
local macro_rules | `(tactic| walk_at "CompSrc") => `(tactic| refine haltP ?_)
local macro_rules | `(tactic| k_mem) => `(tactic| first | exact List.Mem.head _ | assumption | (refine' List.Mem.tail _ ?_; k_mem))
local macro_rules | `(tactic| walk_at "subscriptTail Name Name ref int") => `(tactic| (k_here; (with_reducible show wpAny _ _ (subscriptTail _ _ (Value.ref _) (Value.int _ _)) _ _ _); k_dflt (refine' item_own ?a ?z ?x ?_ ?s; (case a => walk_at "lst"); (case x => assumption); (case z => omega); (case s => with_unfolding_all rfl)); k_whole))
local macro_rules | `(tactic| walk_at "call builtin:len") => `(tactic| (k_here; (with_reducible show wpAny _ _ (call (Value.builtin "len") [Value.ref _]) _ _ _); k_dflt (refine' len_own ?a ?z ?_; (case a => walk_at "lst"); (case z => omega)); k_whole))
local macro_rules | `(tactic| walk_at "binaryOp Add ref ref") => `(tactic| (k_here; (with_reducible show wpAny _ _ (binaryOp _ (Value.ref _) (Value.ref _)) _ _ _); k_dflt (refine' add_own ?F ?N ?a ?b ?_ ?z; (case F => k_asm); (case N => k_asm); (case a => walk_at "lst"); (case b => walk_at "lst"); (case z => ((try simp only [List.length_append, List.length_cons, List.length_nil, List.length_take, List.length_drop]); omega))); k_whole; intro D' h' F' N' l1; (try k_lt l1); (try k_sweep)))
local macro_rules | `(tactic| walk_at "call type:bytes") => `(tactic| (k_here; (with_reducible show wpAny _ _ (call (Value.type "bytes") [Value.ref _]) _ _ _); k_dflt (refine' bytes_own ?F ?N ?a ?i ?r ?z ?h ?_; (case F => k_asm); (case N => k_asm); (case a => walk_at "lst"); (case i => assumption); (case r => assumption); (case z => omega); (case h => rfl)); k_whole; intro h' t' k' F' N'; (try k_sweep)))
local macro_rules | `(tactic| walk_at "ncell") => `(tactic| first | exact nc_tail (by assumption) | (refine nc_cons (.inr rfl) ?_; walk_at "ncell") | (refine nc_cons (.inl (Nat.ne_of_gt (by omega))) ?_; walk_at "ncell") | (refine nc_cons (.inl (Nat.ne_of_lt (by omega))) ?_; walk_at "ncell"))
local macro_rules | `(tactic| walk_at "call ref") => `(tactic| ((with_reducible show wpAny _ _ (call (Value.ref 643) _) _ _ _); refine halt_here ?_))
local macro_rules | `(tactic| walk_at "call ref") => `(tactic| ((with_reducible show wpAny _ _ (call (Value.ref 650) _) _ _ _); refine halt_here ?_))
local macro_rules | `(tactic| walk_at "call ref") => `(tactic| ((with_reducible show wpAny _ _ (call (Value.ref 657) _) _ _ _); refine halt_here ?_))
local macro_rules | `(tactic| walk_at "call ref") => `(tactic| ((with_reducible show wpAny _ _ (call (Value.ref 664) _) _ _ _); refine halt_here ?_))
local macro_rules | `(tactic| walk_at "call ref") => `(tactic| ((with_reducible show wpAny _ _ (call (Value.ref 65) _) _ _ _); refine halt_here ?_))
local macro_rules | `(tactic| walk_at "call ref") => `(tactic| ((with_reducible show wpAny _ _ (call (Value.ref 79) _) _ _ _); refine halt_here ?_))
local macro_rules | `(tactic| walk_at "call ref") => `(tactic| ((with_reducible show wpAny _ _ (call (Value.ref 311) _) _ _ _); refine halt_here ?_))
local macro_rules | `(tactic| walk_at "call ref") => `(tactic| ((with_reducible show wpAny _ _ (call (Value.ref 86) _) _ _ _); refine halt_here ?_))
set_option maxHeartbeats 8000000 in
theorem law_rest {w : World} {p : Program} {loose : List Str} {mean : ExcName → Option Value} {mg mb : Str → Option Value} {base : Heap} {L a : Nat} {cd : Value} {nm : Str} {s : Shared} {E : Value → Shared → Prop} {Q : Flow → Shared → Prop} {m0 : Str → Option Value} {Di Do Dc D lC k kc Dt : Nat} {vs cvs2 tvs ivs cvs : List Value} {rcs ccs : List (List Nat)} {TT : List (Addr × Obj)} {o1 o2 o3 o4 o5 o6 : Obj}
    (X : (Mine.hd.heap_1 w.params).In base) (Tr : Top p loose mean mg mb base)
    (F : Fr base L s.heap (fun z => if z = Str.ofString "items" then some (.ref Di) else if z = Str.ofString "octets" then some (.ref Do) else if z = Str.ofString "coded" then some (.ref Dc) else if z = Str.ofString "drawn" then some (.ref D) else m0 z))
    (N : News base L s.heap ((L + 1, o1) :: (L + 1 + 1, o2) :: (L + 1 + 1 + 1, o3) :: (L + 1 + 1 + 1 + 1, o4) :: (L + 1 + 1 + 1 + 1 + 1, o5) :: (L + 1 + 1 + 1 + 1 + 1 + 1, o6) :: TT)) (hT : AllL TT) (FS : Fs TT D Dc Dt Di lC k kc vs cvs2 tvs ivs cvs rcs ccs)
    (d1 : o1.data = .cell (some (.ref lC))) (d4 : o4.data = .cell (some (.ref Dt))) (d5 : o5.data = .cell none) (d6 : o6.data = .cell none)
    (hccs : ccs = rcs.map (·.map codeOf)) (hr4 : ∀ r ∈ rcs, r.length ≤ 4 ∧ r ≠ [] ∧ ∀ n ∈ r, n < 4) (hrl : rcs.length ≤ 12) (hcv : CA false cvs [97, 10, 233, 0])
    (hQ : ∀ h' tk m', Fr base L h' m' → Q (.ret (.bool true)) { s with heap := h', toks := tk }) :
    wpAny (model PG w) (callerA.deeper (envOfC nm (lawScope w.params) L a cd)) (execs ((lawBody w.params).drop 11) (envOfC nm (lawScope w.params) L a cd)) Q E s := by
  have hL : 670 ≤ L := Nat.le_trans (base_size X) F.above
  generalize hsc : lawScope w.params = sc
  generalize hbd : (lawBody w.params).drop 11 = bd
  conv at hsc => lhs; whnf
  conv at hbd => lhs; whnf
  subst hsc hbd
  refine wpAny_noRaise ?_
  obtain ⟨mD, mDc, mDt, mDi, mCodes, LD, LC, hltx, hlit⟩ := id FS
  refine execs_stop ?_
  k_steps
  rename Fr _ _ _ _ => F1
  rename News _ _ _ _ => N1
  have hsub0 : ∀ p ∈ TT, p ∈ (L + 1, o1) :: (L + 1 + 1, o2) :: (L + 1 + 1 + 1, o3) :: (L + 1 + 1 + 1 + 1, o4) :: (L + 1 + 1 + 1 + 1 + 1, o5) :: (L + 1 + 1 + 1 + 1 + 1 + 1, o6) :: TT := fun p hp => .tail _ (.tail _ (.tail _ (.tail _ (.tail _ (.tail _ hp)))))
  refine marksK (law_pre X (topRead_of Tr) F1 hL) (by decide) (N1 _ (hsub0 _ mD)).1 (LD.inHeap N1 hsub0) (by omega) (fun r hr => ⟨by have := (hr4 r hr).1; omega, (hr4 r hr).2⟩) F1 N1 ?_
  intro am h2 tk2 cm mvs F2 N2 ne2 hmv
  k_steps
  rename Fr _ _ _ _ => F3
  refine st_cell 5 F3 N2 (by rfl) (by rfl) (by assumption) (by walk_at "ncell") ?_
  intro h3 o5' F4 N4 d5'
  simp only [List.eraseIdx_cons_succ, List.eraseIdx_cons_zero] at N4
  clear F1 F3 N1 N2 ne2
  obtain ⟨T1, hT1⟩ := named ((am, W.listOf mvs.toArray cm) :: TT)
  have hal1 : AllL T1 := by rw [hT1]; exact hT.cons
  have mAm : (am, W.listOf mvs.toArray cm) ∈ T1 := by rw [hT1]; exact .head _
  have FS1 := FS.mono (T' := T1) fun p hp => by rw [hT1]; exact .tail _ hp
  have N5 : News base L h3 ((L + 1, o1) :: (L + 1 + 1, o2) :: (L + 1 + 1 + 1, o3) :: (L + 1 + 1 + 1 + 1, o4) :: (L + 1 + 1 + 1 + 1 + 1, o5') :: (L + 1 + 1 + 1 + 1 + 1 + 1, o6) :: T1) := fun p hp => N4 p ((by rw [hT1]; walk_at "subm" : ∀ p ∈ (L + 1, o1) :: (L + 1 + 1, o2) :: (L + 1 + 1 + 1, o3) :: (L + 1 + 1 + 1 + 1, o4) :: (L + 1 + 1 + 1 + 1 + 1, o5') :: (L + 1 + 1 + 1 + 1 + 1 + 1, o6) :: T1, p ∈ _) p hp)
  clear N4 hT1 FS mD mDc mDt mDi mCodes LD LC hltx hlit hsub0 hT
  obtain ⟨mD, mDc, mDt, mDi, mCodes, LD, LC, hltx, hlit⟩ := id FS1
  have hlcv := hcv.length
  have hccl : ccs.length ≤ 12 := by rw [hccs, List.length_map]; exact hrl
  have hcr : ∀ r ∈ ccs, r.length ≤ 4 ∧ r ≠ [] := by
    intro r hr
    rw [hccs] at hr
    refine aside fun Gz hGz => ?_
    obtain ⟨k, hk, rfl⟩ := List.mem_map.mp hr
    refine hGz ?_
    clear hGz Gz
    exact ⟨by rw [List.length_map]; exact (hr4 k hk).1, by simpa using (hr4 k hk).2.1⟩
  show wpAny _ _ (execs _ _) _ _ _
  refine execs_stop ?_
  k_steps
  show wpAny _ _ _ _ _ _
  k_dflt (refine LCg.Assign_ListComp_U (F₀ := F4) (by rfl) (by with_unfolding_all rfl) (by rfl) (by decide) (by rfl) (by decide) (by rfl) (by rfl) (by rfl) ?_)
  k_steps
  refine LCg.CompSrc.ledger rfl F4 N5 (show (lC, W.listOf cvs.toArray 0) ∈ _ by k_mem) ?_ ?_
  · simp [sizeLine, hlcv]
  intro g
  refine comp_walks true ([97, 10, 233, 0].map fun c => forthL ccs [c]) (by simp [hlcv]) ?_ ?_ ?_
  · intro tail
    exact .inr ⟨W.listOf cvs.toArray 0, List.mem_append_left _ (show (lC, W.listOf cvs.toArray 0) ∈ _ by k_mem), rfl, _, rfl⟩
  · intro i tail ys v I oI C oC D2 m₂ h tk E' hi hv hal hC hx F N off ne
    simp only [List.cons_append] at N
    have hi4 : i < 4 := by simpa using hi
    refine aside fun Gz hGz => ?_
    obtain ⟨v3, q1, t3, q2⟩ := hcv.at (i := i) (c := [97, 10, 233, 0][i]) (by simp [hi4])
    refine hGz ?_
    clear hGz Gz
    have hv' : cvs[i]? = some v := by simpa using hv
    rw [hv'] at q1; cases q1
    rw [q2] at hx
    have hn256 : [97, 10, 233, 0][i] < 256 := by
      rcases (four (by first | assumption | omega) : i = 0 ∨ i = 1 ∨ i = 2 ∨ i = 3) with rfl | rfl | rfl | rfl <;> simp
    obtain ⟨c, hc⟩ := named ([97, 10, 233, 0][i])
    rw [← hc] at hx hn256
    have mDt2 := List.mem_append_left tail mDt
    k_steps
    rename Fr _ _ _ _ => F6
    rename News _ _ _ _ => N6
    refine forthK (κ := true) (c := c) (law_pre X (topRead_of Tr) F6 hL) (by decide) (N6 _ (by k_mem : (Dt, LCg.lst tvs) ∈ _)).1 (hltx.inHeap N6 fun p hp => .tail _ (.tail _ (.tail _ (.tail _ (.tail _ (.tail _ (.tail _ (.tail _ (.tail _ (List.mem_append_left _ hp)))))))))) ⟨_, hn256, by rw [Int.toNat_natCast]⟩ (by omega) (fun r hr => by have := (hcr r hr).1; omega) F6 N6 ?_
    intro a h7 tk7 c2 vs7 blk F7 N7 nea neb halb hlb
    refine ⟨h7, tk7, a, c2, vs7, blk, rfl, rfl, F7, N7, halb, ?_, ⟨Ne.symm (nea _ (List.Mem.head _)), Ne.symm (nea _ (.tail _ (List.Mem.head _))), Ne.symm (nea _ (.tail _ (.tail _ (List.Mem.head _))))⟩, fun p hp => ⟨Ne.symm (neb p hp _ (List.Mem.head _)), Ne.symm (neb p hp _ (.tail _ (List.Mem.head _))), Ne.symm (neb p hp _ (.tail _ (.tail _ (List.Mem.head _))))⟩⟩
    rw [List.getElem_map, ← hc]; exact hlb
  intro wvs tail halw hwl
  intro Dw h8 tk8 F8 N8 o8
  dsimp only
  simp only [List.cons_append] at N8
  obtain ⟨T2, hT2⟩ := named ((Dw, LCg.lst wvs) :: (T1 ++ tail))
  have hal2 : AllL T2 := by rw [hT2]; exact (AllL.append hal1 halw).cons
  have hs12 : ∀ p ∈ T1, p ∈ T2 := fun p hp => by rw [hT2]; exact .tail _ (List.mem_append_left _ hp)
  have mDw : (Dw, LCg.lst wvs) ∈ T2 := by rw [hT2]; exact .head _
  replace hwl := hwl.mono (M' := inN T2) fun _ _ _ q => by rw [hT2]; exact .tail _ (List.mem_append_right _ q)
  replace mAm := hs12 _ mAm
  have FS2 := FS1.mono hs12
  have N9 : News base L h8 ((L + 1 + 1 + 1 + 1 + 1 + 1, o6) :: (L + 1, o1) :: (L + 1 + 1, o2) :: (L + 1 + 1 + 1, o3) :: (L + 1 + 1 + 1 + 1, o4) :: (L + 1 + 1 + 1 + 1 + 1, o5') :: T2) := fun p hp => N8 p ((by rw [hT2]; walk_at "subm" : ∀ p ∈ (L + 1 + 1 + 1 + 1 + 1 + 1, o6) :: (L + 1, o1) :: (L + 1 + 1, o2) :: (L + 1 + 1 + 1, o3) :: (L + 1 + 1 + 1 + 1, o4) :: (L + 1 + 1 + 1 + 1 + 1, o5') :: T2, p ∈ _) p hp)
  clear N8 o8 hT2 hs12 FS1 mD mDc mDt mDi mCodes LD LC hltx hlit N5 F4 hal1 halw
  show wpAny _ _ (execs _ _) _ _ _
  refine execs_stop ?_
  k_steps
  rename Fr _ _ _ _ => Fa
  rename News _ _ _ _ => Na
  rename IsRange _ _ _ _ _ _ _ _ => Ra

  obtain ⟨mW, hmW⟩ := named (lawB Dw Di Do Dc D m0)
  show wpAny _ _ _ _ _ _
  refine for_rangeC (n := 4) rfl (by rfl) (by rfl) (by rfl) (fun it j m news => LastP T2 [(L + 1, o1), (L + 1 + 1, o2), (L + 1 + 1 + 1, o3), (L + 1 + 1 + 1 + 1, o4), (L + 1 + 1 + 1 + 1 + 1, o5')] mW it j m news) Fa Na d6 Ra (by decide) (by decide) ?_ ?_ ?_ ?_
  · refine ⟨mW (Str.ofString "walk"), mW (Str.ofString "kept"), mW (Str.ofString "back"), mW (Str.ofString "first"), mW (Str.ofString "forth"), mW (Str.ofString "due"), mW (Str.ofString "place"), T2, ?_, rfl, hal2, fun _ h => h, fun p hp => Nat.ne_of_lt (Heap.lt_size (Na p (.tail _ hp)).1)⟩
    rw [lawM_self, hmW]
    rfl
  · intro it j m news hpat4
    refine aside fun Gz hGz => ?_
    obtain ⟨_, _, _, _, _, _, _, T, rfl, rfl, halT, hsT, hne⟩ := hpat4
    refine hGz ?_
    clear hGz Gz
    refine ⟨?_, hne⟩
    simp only [List.cons_append, List.nil_append]
    walk_at "ncell"
  · intro it j t m news o oc s₁ hpat8 hj hio hpat11 hoc F N hitc
    refine aside fun Gz hGz => ?_
    obtain ⟨hb, tkb, rfl⟩ := hpat8
    obtain ⟨a1, a2, a3, a4, a5, a6, a7, T, rfl, rfl, halT, hsT, hne⟩ := hpat11
    refine hGz ?_
    clear hGz Gz
    simp only [List.cons_append, List.nil_append] at N hne
    have hpl : (0 : Int) + (j : Int) * 1 = (j : Int) := by omega
    rw [hpl] at hoc
    subst hmW
    unfold lawM lawB at F
    have FST := FS2.mono hsT
    obtain ⟨mD, mDc, mDt, mDi, mCodes, LD, LC, hltx, hlit⟩ := id FST
    refine aside fun Gz hGz => ?_
    obtain ⟨v3, q1, t3, q2⟩ := hcv.at (i := j) (c := codeOf j) (by unfold codeOf; rw [List.getD_eq_getElem?_getD, List.getElem?_eq_getElem (by simpa using hj)]; rfl)
    refine hGz ?_
    clear hGz Gz
    rw [q2] at q1
    clear Fa Na Ra
    k_steps
    rename Fr _ _ _ _ => F6
    rename News _ _ _ _ => N6
    have hsub6 : ∀ p ∈ T, p ∈ (it, o) :: (L + 1 + 1 + 1 + 1 + 1 + 1, oc) :: (L + 1, o1) :: (L + 1 + 1, o2) :: (L + 1 + 1 + 1, o3) :: (L + 1 + 1 + 1 + 1, o4) :: (L + 1 + 1 + 1 + 1 + 1, o5') :: T := fun p hp => .tail _ (.tail _ (.tail _ (.tail _ (.tail _ (.tail _ (.tail _ hp))))))
    refine backK' (c := codeOf j) (law_pre X (topRead_of Tr) F6 hL) (by decide) (N6 _ (hsub6 _ mDi)).1 (hlit.inHeap N6 hsub6) ⟨_, rfl⟩ (by omega) (fun r hr => ⟨by have := (hcr r hr).1; omega, (hcr r hr).2⟩) F6 N6 ?_
    intro tp wa ka h7 tk7 n7 n8 bvs kvs blk F7 N7 ne7 neb7 halb hlb hkv
    k_steps
    rename Fr _ _ _ _ => F8
    rename News _ _ _ _ => N8'
    refine aside fun Gz hGz => ?_
    obtain ⟨T3, hal3, N8, mWa, mKa, hsb3, hs3⟩ := order10 N8' (AllL.cons (AllL.cons (fun _ h => (List.not_mem_nil h).elim))) halb halT
    refine hGz ?_
    clear hGz Gz
    have FS3 := FST.mono hs3
    replace hlb := hlb.mono (M' := inN T3) fun _ _ _ q => hsb3 _ q
    have hs23 : ∀ p ∈ T2, p ∈ T3 := fun p hp => hs3 _ (hsT _ hp)
    clear N8' mD mDc mDt mDi mCodes LD LC hltx hlit hsub6 ne7 neb7 halb hsb3 hs3
    obtain ⟨mD, mDc, mDt, mDi, mCodes, LD, LC, hltx, hlit⟩ := id FS3
    have mAm3 := hs23 _ mAm
    have lvd := LD.length
    show wpAny _ _ _ _ _ _
    k_dflt (refine LCt.ListComp_T (F₀ := F8) (by rfl) (by decide) (by rfl) (by decide) (by rfl) ?_)
    k_steps
    rename Fr _ _ _ _ => F9
    rename News _ _ _ _ => N9'
    rename IsRange _ _ _ _ _ _ _ _ => R9
    obtain ⟨Mj, hMj⟩ := named ((marksL 0 rcs [1, 2, 4, 8]).getD j 0)
    refine aside fun Gz hGz => ?_
    obtain ⟨vm, qm1, tm, qm2⟩ := hmv.at (i := j) (c := Mj) (by rw [hMj, List.getD_eq_getElem?_getD, List.getElem?_eq_getElem (by rw [marksL_len rcs 0 _ hr4 rfl]; exact hj)]; rfl)
    refine hGz ?_
    clear hGz Gz
    rw [qm2] at qm1
    refine LCt.CompSrcT.range (n := vs.length) rfl F9 N9' R9 (small_one (by omega) (by omega) (by omega) (by omega)) (by rw [rangeSize_nat]; omega) (by have : sizeLine = 16777216 := sizeLine_eq; omega) ?_
    intro g9
    refine comp_filter false (fun i => kbit Mj (4 + i)) (fun i => i) trivial ?_ ?_
    · rintro i ys v I oI C oC D2 m₂ h tk E' hi ⟨tv, rfl⟩ hC hx F N off ne
      rw [Int.zero_add] at hx
      have hpw := pow_small (i := 4 + i) (by omega)
      have hci : ((4 + i : Nat) : Int) = 4 + (i : Int) := by omega
      rw [hci] at hpw
      have lmv := hmv.length
      rw [marksL_len rcs 0 _ hr4 rfl] at lmv
      k_steps
      · rw [← hci]; exact kbit_int Mj (4 + i)
      all_goals first | assumption | exact ⟨_, rfl⟩
    · intro ys hys D2 hr9 tkr Fr9 Nr9 or9
      rw [List.map_id', lvd, hMj, ← law_kept hr4 hj, ← hccs] at hys
      k_steps
      refine ne_flat (Nr9 _ (.tail _ (.tail _ (.tail _ (.tail _ (.tail _ (.tail _ (.tail _ (.tail _ mKa))))))))).1 (Nr9 _ (List.Mem.head _)).1 hkv hys (by show 4 + 3 + 64 < cLine; decide) ?_
      replace Nr9 : News base L hr9 _ := fun p hp => Nr9 p (.tail _ hp)
      have hc256 : ∀ r ∈ ccs, r.length ≤ 4 ∧ ∀ c ∈ r, c < 256 := by
        intro r hr
        refine ⟨(hcr r hr).1, fun c hc => ?_⟩
        rw [hccs] at hr
        refine aside fun Gz hGz => ?_
        obtain ⟨r0, _, rfl⟩ := List.mem_map.mp hr
        refine hGz ?_
        clear hGz Gz
        refine aside fun Gz hGz => ?_
        obtain ⟨k0, _, rfl⟩ := List.mem_map.mp hc
        refine hGz ?_
        clear hGz Gz
        exact codeOf_lt k0
      obtain ⟨hbl, hbo⟩ := backW_ok ccs [codeOf j] hc256 (fun c hc => by rw [List.mem_singleton.mp hc]; exact codeOf_lt j)
      have lbv := hlb.length
      rw [hbl] at lbv
      k_steps
      show wpAny _ _ _ _ _ _
      rename Fr _ _ _ _ => Fb
      rename News _ _ _ _ => Nb
      k_dflt (refine LCg.Assign_ListComp_U (F₀ := Fb) (by rfl) (by with_unfolding_all rfl) (by rfl) (by decide) (by rfl) (by decide) (by rfl) (by rfl) (by rfl) ?_)
      k_steps
      refine LCg.CompSrc.ledger rfl Fb Nb (show (wa, W.listOf bvs.toArray n7) ∈ _ by k_mem) ?_ ?_
      · simp [sizeLine]; omega
      intro gb
      refine comp_lists true (backW ccs [codeOf j]) (fun _ conc => conc = _) (by simp [hbl, lbv]) ?_ ?_ ?_ rfl
      · rintro i conc tail rfl
        exact .inr ⟨W.listOf bvs.toArray n7, List.mem_append_left _ (show (wa, W.listOf bvs.toArray n7) ∈ _ by k_mem), rfl, _, rfl⟩
      · rintro i conc tail2 ys v I oI C oC D2 m₂ h tk E' hi hv rfl hal hC hx F N off ne
        simp only [List.cons_append] at N
        refine aside fun Gz hGz => ?_
        obtain ⟨a, n2, ws, w1, w2, w3⟩ := hlb.at (i := i) (cs := (backW ccs [codeOf j])[i]) (by simp [hi])
        refine hGz ?_
        clear hGz Gz
        have hv' : bvs[i]? = some v := by simpa using hv
        rw [hv'] at w1; cases w1
        have w2' : (a, W.listOf ws.toArray n2) ∈ T3 ++ tail2 := List.mem_append_left _ w2
        have lw := w3.length
        have hr := hbo _ (List.getElem_mem hi)
        simp only [List.length_singleton] at hr
        k_steps
        show wpAny _ _ _ _ _ _
        k_dflt (refine LCg.ListComp_U (F₀ := F) (by rfl) (by decide) (by rfl) (by decide) (by rfl) ?_)
        k_steps
        refine LCg.CompSrc.ledger rfl F N (show (a, W.listOf ws.toArray n2) ∈ _ by k_mem) ?_ ?_
        · simp [sizeLine]; omega
        intro g2
        refine comp_codes true (backW ccs [codeOf j])[i] (by simp [lw]) (.inr ⟨W.listOf ws.toArray n2, show (a, W.listOf ws.toArray n2) ∈ _ by k_mem, rfl, _, rfl⟩) ?_ ?_
        · intro i2 ys2 v2 I2 oI2 C2 oC2 D3 m₃ h3 tk3 E3 hi2 hv2 hC2 hx2 F3 N3 off2 ne2
          refine aside fun Gz hGz => ?_
          obtain ⟨v3, q1, t3, q2⟩ := w3.at (i := i2) (c := (backW ccs [codeOf j])[i][i2]) (by simp [hi2])
          refine hGz ?_
          clear hGz Gz
          have hv2' : ws[i2]? = some v2 := by simpa using hv2
          rw [hv2'] at q1; cases q1
          rw [q2] at hx2
          have hn256 := hr.2 _ (List.getElem_mem hi2)
          k_steps
          · assumption
          · assumption
          · exact ⟨_, hn256, by rw [Int.toNat_natCast]⟩
        · intro ys2 hca D3 h3 tk3 F3 N3 off3
          exact ⟨h3, tk3, D3, _, ys2, _, rfl, rfl, F3, N3, rfl, fun p hp => ⟨p, hp, rfl⟩, ⟨Ne.symm off3.1, Ne.symm off3.2.1, Ne.symm off3.2.2.1⟩, hca⟩
      rintro zvs conc tail2 rfl halz hlz
      intro Dz hz9 tkz Fz Nz oz
      simp only [List.cons_append] at Nz
      refine aside fun Gz hGz => ?_
      obtain ⟨T4, hal4, N4, mDz, hs34, hst4, hsub4⟩ := order11 Nz allL_one hal3 halz
      refine hGz ?_
      clear hGz Gz
      replace hlz := hlz.mono (M' := inN T4) fun _ _ _ q => hst4 _ q
      have FS4 := FS3.mono hs34
      have hs24 : ∀ p ∈ T2, p ∈ T4 := fun p hp => hs34 _ (hs23 _ hp)
      replace Fz : Fr base L hz9 (fun z => if z = Str.ofString "back" then some (Value.ref Dz) else (fun z => if z = Str.ofString "kept" then some (Value.ref ka) else (fun z => if z = Str.ofString "walk" then some (Value.ref wa) else lawM a1 a2 a3 a4 a5 a6 a7 (lawB Dw Di Do Dc D m0) z) z) z) := Fz
      rw [lawM_walk, lawM_kept, lawM_back] at Fz
      clear Nz oz Nb Fb or9 mD mDc mDt mDi mCodes LD LC hltx hlit FS3 FST hst4 hs34
      dsimp only
      unfold lawM lawB at Fz
      k_steps
      rename Fr _ _ _ _ => Fc
      rename News _ _ _ _ => Nc
      rename IsRange _ _ _ _ _ _ _ _ => Rc
      show wpAny _ _ _ _ _ _
      refine for_range (n := 4) rfl (by rfl) (by rfl) (fun it2 => FirstP base T4 [(it, o), (L + 1 + 1 + 1 + 1 + 1 + 1, oc), (L + 1, o1), (L + 1 + 1, o2), (L + 1 + 1 + 1, o3), (L + 1 + 1 + 1 + 1, o4), (L + 1 + 1 + 1 + 1 + 1, o5')] (some (.ref wa)) (some (.ref ka)) (some (.ref Dz)) (lawB Dw Di Do Dc D m0) it2) Fc Nc Rc (by decide) (by decide) ?_ ?_ ?_ ?_
      · exact ⟨rfl, a4, a5, a6, a7, T4, rfl, rfl, hal4, fun _ h => h, fun p hp => Nat.ne_of_lt (Heap.lt_size (Nc p hp).1)⟩
      · intro it2 i2 base' m news hpat5
        refine aside fun Gz hGz => ?_
        obtain ⟨rfl, _, _, _, _, _, rfl, rfl, _, _, h⟩ := hpat5
        refine hGz ?_
        clear hGz Gz
        exact h
      · intro it2 i2 t2 base' m news oi s₁ hpat8 hi2 hio2 hpat11 F N
        refine aside fun Gz hGz => ?_
        obtain ⟨h2b, tk2b, rfl⟩ := hpat8
        obtain ⟨rfl, b4, b5, b6, b7, T5, rfl, rfl, hal5, hs45, hne5⟩ := hpat11
        refine hGz ?_
        clear hGz Gz
        simp only [List.cons_append, List.nil_append] at N hne5
        have hpl2 : (0 : Int) + (i2 : Int) * 1 = (i2 : Int) := by omega
        rw [hpl2] at F
        unfold lawM lawB at F
        have FS5 := FS4.mono hs45
        obtain ⟨mD, mDc, mDt, mDi, mCodes, LD, LC, hltx, hlit⟩ := id FS5
        have mAm5 := hs45 _ (hs24 _ mAm)
        have mDw5 := hs45 _ (hs24 _ mDw)
        have mDz5 := hs45 _ mDz
        obtain ⟨fw, fc, fvs, w1, w2, w3⟩ := hwl.at (i := i2) (css := forthL ccs [codeOf i2]) (by
          rcases (four (by first | assumption | omega) : i2 = 0 ∨ i2 = 1 ∨ i2 = 2 ∨ i2 = 3) with rfl | rfl | rfl | rfl <;> rfl)
        have w2' := hs45 _ (hs24 _ w2)
        have hpw := pow_small (i := i2) (by omega)
        have lwv := hwl.length
        have lmv := hmv.length
        rw [marksL_len rcs 0 _ hr4 rfl] at lmv
        have lzv := hlz.length
        rw [hbl] at lzv
        simp only [List.length_map, List.length_cons, List.length_nil] at lwv
        k_steps
        rename Fr _ _ _ _ => Fd
        rename News _ _ _ _ => Nd
        rename IsRange _ _ _ _ _ _ _ _ => Rd
        rw [kbit_int] at Fd
        replace Fd := fr_as (m' := lawM (some (.ref wa)) (some (.ref ka)) (some (.ref Dz)) (some (.int (i2 : Int) t2)) (some (.ref fw)) (some (.bool (kbit Mj i2))) b7 (lawB Dw Di Do Dc D m0)) Fd (by
          show (fun z => if z = Str.ofString "due" then some (Value.bool (kbit Mj i2)) else (fun z => if z = Str.ofString "forth" then some (Value.ref fw) else (fun z => if z = Str.ofString "first" then some (Value.int (i2 : Int) t2) else lawM (some (.ref wa)) (some (.ref ka)) (some (.ref Dz)) b4 b5 b6 b7 (lawB Dw Di Do Dc D m0) z) z) z) = _
          rw [lawM_first, lawM_forth, lawM_due])
        show wpAny _ _ _ _ _ _
        refine for_range (n := zvs.length) rfl (by rfl) (by rfl) (fun it3 => PlaceP base' T5 [(it2, oi), (it, o), (L + 1 + 1 + 1 + 1 + 1 + 1, oc), (L + 1, o1), (L + 1 + 1, o2), (L + 1 + 1 + 1, o3), (L + 1 + 1 + 1 + 1, o4), (L + 1 + 1 + 1 + 1 + 1, o5')] (some (.ref wa)) (some (.ref ka)) (some (.ref Dz)) (some (.int (i2 : Int) t2)) (some (.ref fw)) (some (.bool (kbit Mj i2))) (lawB Dw Di Do Dc D m0) it3) Fd Nd Rd (small_one (by omega) (by omega) (by omega) (by omega)) (by rw [rangeSize_nat]; omega) ?_ ?_ ?_ ?_
        · exact ⟨rfl, b7, T5, rfl, rfl, hal5, fun _ h => h, fun p hp => Nat.ne_of_lt (Heap.lt_size (Nd p hp).1)⟩
        · intro it3 k3 base3 m news hpat5
          refine aside fun Gz hGz => ?_
          obtain ⟨rfl, _, _, rfl, rfl, _, _, h⟩ := hpat5
          refine hGz ?_
          clear hGz Gz
          exact h
        · intro it3 k3 t3 base3 m news oj s₁ hpat8 hk3 hio3 hpat11 F N
          refine aside fun Gz hGz => ?_
          obtain ⟨h3b, tk3b, rfl⟩ := hpat8
          obtain ⟨rfl, c7, T6, rfl, rfl, hal6, hs56, hne6⟩ := hpat11
          refine hGz ?_
          clear hGz Gz
          simp only [List.cons_append, List.nil_append] at N hne6
          have hpl3 : (0 : Int) + (k3 : Int) * 1 = (k3 : Int) := by omega
          rw [hpl3] at F
          unfold lawM lawB at F
          have w2'' := hs56 _ w2'
          have mDz6 := hs56 _ mDz5
          have lfv := w3.length
          rw [forthL_len] at lfv
          refine aside fun Gz hGz => ?_
          obtain ⟨f1, fn, fws, x1, x2, x3⟩ := w3.at (i := k3) (cs := (forthL ccs [codeOf i2]).getD k3 []) (by rw [List.getD_eq_getElem?_getD, List.getElem?_eq_getElem (by rw [forthL_len]; omega)]; rfl)
          refine hGz ?_
          clear hGz Gz
          refine aside fun Gz hGz => ?_
          obtain ⟨z1, zn, zws, y1, y2, y3⟩ := hlz.at (i := k3) (cs := (backW ccs [codeOf j]).getD k3 []) (by rw [List.getD_eq_getElem?_getD, List.getElem?_eq_getElem (by rw [hbl]; omega)]; rfl)
          refine hGz ?_
          clear hGz Gz
          have x2' := hs56 _ (hs45 _ (hs24 _ x2))
          have y2' := hs56 _ (hs45 _ y2)
          k_steps
          rename Fr _ _ _ _ => Fe
          rename News _ _ _ _ => Nee
          have lcr : ccs.length = rcs.length := by rw [hccs, List.length_map]
          have hi3 : k3 < (forthL ccs [codeOf i2]).length := by rw [forthL_len]; omega
          have hfl : ((forthL ccs [codeOf i2]).getD k3 []).length ≤ 100 := by
            rw [List.getD_eq_getElem?_getD, List.getElem?_eq_getElem hi3]
            have := forthL_ok ccs [codeOf i2] (fun r hr => (hcr r hr).1) _ (List.getElem_mem hi3)
            simp only [List.length_singleton] at this
            show ((forthL ccs [codeOf i2])[k3]'hi3).length ≤ 100
            omega
          refine filtL (κ := true) (law_pre X (topRead_of Tr) Fe hL) (by decide) (Nee _ (by k_mem : (f1, W.listOf fws.toArray fn) ∈ _)).1 (Nee _ (by k_mem : (z1, W.listOf zws.toArray zn) ∈ _)).1 x3 y3 (by rw [x3.length]; omega) Fe Nee ?_
          intro a9 hh9 tk9 c9 us F9' N9' ne9 hus
          k_steps
          refine ne_own (N9' _ (List.Mem.head _)).1 (N9' _ (by k_mem : (f1, W.listOf fws.toArray fn) ∈ _)).1 hus x3 (by show 4 + 3 + 64 < cLine; decide) ?_
          have hmeet := law_meet hr4 hi2 hj (k := k3) (by omega)
          rw [← hMj, ← hccs] at hmeet
          rw [hmeet]
          k_steps
          · rename (kbit Mj i2 != kbit Mj i2) = true => ha
            simp at ha
          · rename Fr _ _ _ _ => Fg
            rename News _ _ _ _ => Ng
            replace Fg := fr_as (m' := lawM (some (.ref wa)) (some (.ref ka)) (some (.ref Dz)) (some (.int (i2 : Int) t2)) (some (.ref fw)) (some (.bool (kbit Mj i2))) (some (.int (k3 : Int) t3)) (lawB Dw Di Do Dc D m0)) Fg (by
              show (fun z => if z = Str.ofString "place" then some (Value.int (k3 : Int) t3) else lawM (some (.ref wa)) (some (.ref ka)) (some (.ref Dz)) (some (.int (i2 : Int) t2)) (some (.ref fw)) (some (.bool (kbit Mj i2))) c7 (lawB Dw Di Do Dc D m0) z) = _
              rw [lawM_place])
            have hsb := sub_mid (x := (a9, W.listOf us.toArray c9)) (y := (it3, oj)) (cs := [(it2, oi), (it, o), (L + 1 + 1 + 1 + 1 + 1 + 1, oc), (L + 1, o1), (L + 1 + 1, o2), (L + 1 + 1 + 1, o3), (L + 1 + 1 + 1 + 1, o4), (L + 1 + 1 + 1 + 1 + 1, o5')]) (T := T6)
            have hne7 := ne_ins (x := (a9, W.listOf us.toArray c9)) (cs := [(it2, oi), (it, o), (L + 1 + 1 + 1 + 1 + 1 + 1, oc), (L + 1, o1), (L + 1 + 1, o2), (L + 1 + 1 + 1, o3), (L + 1 + 1 + 1 + 1, o4), (L + 1 + 1 + 1 + 1 + 1, o5')]) hne6 (Ne.symm (ne9 _ (List.Mem.head _)))
            have hPP : PlaceP base' T5 [(it2, oi), (it, o), (L + 1 + 1 + 1 + 1 + 1 + 1, oc), (L + 1, o1), (L + 1 + 1, o2), (L + 1 + 1 + 1, o3), (L + 1 + 1 + 1 + 1, o4), (L + 1 + 1 + 1 + 1 + 1, o5')] (some (.ref wa)) (some (.ref ka)) (some (.ref Dz)) (some (.int (i2 : Int) t2)) (some (.ref fw)) (some (.bool (kbit Mj i2))) (lawB Dw Di Do Dc D m0) it3 (k3 + 1) base' (lawM (some (.ref wa)) (some (.ref ka)) (some (.ref Dz)) (some (.int (i2 : Int) t2)) (some (.ref fw)) (some (.bool (kbit Mj i2))) (some (.int (k3 : Int) t3)) (lawB Dw Di Do Dc D m0)) ([(it2, oi), (it, o), (L + 1 + 1 + 1 + 1 + 1 + 1, oc), (L + 1, o1), (L + 1 + 1, o2), (L + 1 + 1 + 1, o3), (L + 1 + 1 + 1 + 1, o4), (L + 1 + 1 + 1 + 1 + 1, o5')] ++ (a9, W.listOf us.toArray c9) :: T6) :=
              ⟨rfl, some (.int (k3 : Int) t3), (a9, W.listOf us.toArray c9) :: T6, rfl, rfl, hal6.cons, fun p hp => .tail _ (hs56 _ hp), hne7⟩
            exact ⟨base', _, _, oj, _, _, _, rfl, hio3, Fg, Ng, .tail _ (List.Mem.head _), hsb, hPP⟩
        · intro it3 base3 m news h tk hpat6 F N
          refine aside fun Gz hGz => ?_
          obtain ⟨rfl, c7, T6, rfl, rfl, hal6, hs56, hne6⟩ := hpat6
          refine hGz ?_
          clear hGz Gz
          simp only [List.cons_append, List.nil_append] at N hne6
          k_steps
          exact ⟨_, _, _, oi, h, tk, _, rfl, hio2, F, N, List.Mem.head _, fun p hp => .tail _ hp, rfl, _, _, _, c7, T6, rfl, rfl, hal6, fun p hp => hs56 _ (hs45 _ hp), ne_app (cs := [(it, o), (L + 1 + 1 + 1 + 1 + 1 + 1, oc), (L + 1, o1), (L + 1 + 1, o2), (L + 1 + 1 + 1, o3), (L + 1 + 1 + 1 + 1, o4), (L + 1 + 1 + 1 + 1 + 1, o5')]) hne5 (ne_iter N (List.Mem.head _) hio2 hal6 fun p hp => .tail _ (.tail _ (.tail _ (.tail _ (.tail _ (.tail _ (.tail _ (.tail _ hp))))))))⟩
      · intro it2 base' m news h tk hpat6 F N
        refine aside fun Gz hGz => ?_
        obtain ⟨rfl, b4, b5, b6, b7, T5, rfl, rfl, hal5, hs45, hne5⟩ := hpat6
        refine hGz ?_
        clear hGz Gz
        simp only [List.cons_append, List.nil_append] at N hne5
        k_steps
        exact ⟨_, (L + 1, o1) :: (L + 1 + 1, o2) :: (L + 1 + 1 + 1, o3) :: (L + 1 + 1 + 1 + 1, o4) :: (L + 1 + 1 + 1 + 1 + 1, o5') :: T5, o, oc, _, h, tk, _, rfl, hio, hoc, F, N, List.Mem.head _, .tail _ (List.Mem.head _), fun p hp => .tail _ (.tail _ hp), _, _, _, b4, b5, b6, b7, T5, rfl, rfl, hal5, fun p hp => hs45 _ (hs24 _ hp), ne_app (cs := [(L + 1, o1), (L + 1 + 1, o2), (L + 1 + 1 + 1, o3), (L + 1 + 1 + 1 + 1, o4), (L + 1 + 1 + 1 + 1 + 1, o5')]) hne (ne_iter N (List.Mem.head _) hio hal5 fun p hp => .tail _ (.tail _ (.tail _ (.tail _ (.tail _ (.tail _ (.tail _ hp)))))))⟩
  · intro it m news oc v0 h tk hpat7 hoc F N
    refine aside fun Gz hGz => ?_
    obtain ⟨a1, a2, a3, a4, a5, a6, a7, T, rfl, rfl, halT, hsT, hne⟩ := hpat7
    refine hGz ?_
    clear hGz Gz
    show wpAny _ _ (execs _ _) _ _ _
    k_steps
    exact hQ _ _ _ F


theorem enter_N {M : Model} {A : Around} {s : Shared} {f : Value} {pos : List Value} {kw : List (Str × Value)} {c : ClaimW} {cl : Str → Option Addr} {mean : ExcName → Option Value} {args : List WData} {s₁ : Shared}
    (h : codeN M A (.call f ⟨pos, kw⟩) (GoodWG c cl mean args s₁) s) : wpN M A (PySem.call f pos kw) (fun v s' => GoodWG c cl mean args s₁ (.ok (.ret v)) s') (fun e s' => GoodWG c cl mean args s₁ (.error e) s') s :=
  wpN_call (codeN_mono h fun res s' g => by rcases g.1 with ⟨v, _, _, rfl, _⟩ | ⟨e, _, _, rfl, _⟩ <;> exact g)
inductive Inv1 (s0 : Shared) (base : Heap) (L : Addr) (m0 : Str → Option Value) (cells : List (Addr × Obj)) (rcs : List (List Nat)) (f : Flow) (s' : Shared) : Prop where
  | mk (e1 : f = .next) (h : Heap) (tk : Nat) (D : Nat) (vs : List Value) (k : Nat) (tail : List (Addr × Obj)) (e2 : s' = { s0 with heap := h, toks := tk }) (e3 : Fr base L h (fun y => if y = Str.ofString "drawn" then some (.ref D) else m0 y)) (e4 : News base L h (cells ++ tail)) (e5 : (D, W.listOf (List.toArray vs) k) ∈ tail) (e6 : LL false (inN tail) vs rcs) (e7 : AllL tail)
inductive Inv2 (s0 : Shared) (base : Heap) (L : Addr) (m0 : Str → Option Value) (cells : List (Addr × Obj)) (ccs : List (List Nat)) (f : Flow) (s' : Shared) : Prop where
  | mk (e1 : f = .next) (h : Heap) (tk : Nat) (D : Nat) (vs : List Value) (k : Nat) (tail : List (Addr × Obj)) (e2 : s' = { s0 with heap := h, toks := tk }) (e3 : Fr base L h (fun y => if y = Str.ofString "coded" then some (.ref D) else m0 y)) (e4 : News base L h (cells ++ tail)) (e5 : (D, W.listOf (List.toArray vs) k) ∈ tail) (e6 : LL false (inN tail) vs ccs) (e7 : AllL tail)
theorem fold_N {M : Model} {A : Around} {α : Type} {t : Sem α} {Q : α → Shared → Prop} {E : Value → Shared → Prop} {s : Shared} (h : ∀ q e, q = Q → e = E → wpN M A t q e s) : wpN M A t Q E s := h Q E rfl rfl
set_option maxHeartbeats 8000000 in
theorem hol : PySem.Challenge.rw_ik0017_01.Holds := hd (by
  k_fill
  intro w s₀ s₁ mg mb G Y fa o pm cd doc dV kV ho hd hcd hD hmg hg args vals as hpre hlay hrd hwl hlo
  have KX := kIn_of Y
  have X := (Ground.X G).1
  have V := (Ground.X G).2
  try w_nolog (first | (have GL := glob_more (Ground.glob G (by decide +kernel) (by decide +kernel)) V) | (have GL := glob_more (Ground.glob G (by decide +kernel)) V))
  refine Ground.open G ?_
  intro T B D TE TW
  try (refine guard_noD D (by decide +kernel) ?_; clear D)
  refine aside fun Gz hGz => ?_
  obtain ⟨_, _, M⟩ := bmod_of_top T
  refine hGz ?_
  clear hGz Gz
  have TA := at_of_top T
  try (obtain ⟨_, _, he, B0⟩ := based_of_top T rfl hmg ho hd; have he' : cd = _ := he; subst he'; clear he)
  clear hmg
  wrow_args hpre hlay hrd hwl hlo
  refine enter_N ?_
  w_top on
  have K0 := below_caller (Top.heap T)
  have he := Dflts.none hD rfl; subst he; have he := Dflts.noKw hD; subst he
  refine cells_N (by decide) ho (fd_plain hd) (Top.nolimit T) hcd rfl (kinds_of (by kinds_ok)) (by decide) fun h₁ tk₁ cells F N0 X0 => ?_
  cells_open X0
  clear hd TA
  k_drop
  refine fold_N fun qk ek hqk hek => ?_
  have hfin : ∀ (h' : Heap) (tk : Nat), (∀ b o, s₁.heap.get? b = some o → h'.get? b = some o) → qk (.ret (.bool true)) { s₁ with heap := h', toks := tk } := by
    intro h' tk kk
    rw [hqk]
    refine ⟨.inl ⟨.bool true, .bool true, [], rfl, ?_, .bool true, ?_, ?_⟩, OldK.of_keep kk, rfl, ?_⟩
    · intro _; rfl
    · exact post_true _
    · exact fun _ => ⟨List.nodup_nil, fun _ h => (List.not_mem_nil h).elim⟩
    · exact AllBare.of_eq hg
  clear hqk hek
  refine execs_N (wpN_any ?_)
  k_steps
  dsimp only
  rename Fr _ _ _ _ => F1
  rename News _ _ _ _ => N1
  rename IntsAre _ _ => I1
  obtain ⟨ns, hns⟩ := named ([441, 484] ++ List.take 8 ‹List Int› ++ [498, 263])
  rw [← hns] at I1
  have hnl : ns.length ≤ 12 := by rw [hns]; simp; omega
  refine execs_N (wpN_any ?_)
  refine cutI F1 N1 I1 (fun s base L m news ns => Inv1 s base L m (news.drop 5) (ns.map fun k => rowL (k.fmod 500).toNat)) ?_ ?_
  · k_dflt (refine LCg.Assign_ListComp_U (F₀ := F1) (by rfl) (by with_unfolding_all rfl) (by rfl) (by decide) (by rfl) (by decide) (by rfl) (by rfl) (by rfl) ?_)
    k_steps
    have ln := I1.length
    refine LCg.CompSrc.ledger rfl F1 N1 (List.Mem.head _) ?_ ?_
    · simp [sizeLine]; omega
    · intro g
      refine comp_lists false (ns.map fun k => rowL (k.fmod 500).toNat) (fun _ conc => conc = _) ?_ ?_ ?_ ?_ rfl
      · simp; omega
      · rintro i conc tail rfl
        exact .inr ⟨_, List.Mem.head _, rfl, _, rfl⟩
      · rintro i conc tail ys v I oI C oC D m₂ h tk E' hi hv rfl hal hC hx F N off ne
        refine aside fun Gz hGz => ?_
        obtain ⟨kk, t, e1, e2⟩ := IntsAre.at I1 i v (by simpa using hv)
        refine hGz ?_
        clear hGz Gz
        rw [e1] at hx
        simp only [List.cons_append, List.nil_append] at N
        k_steps
        show wpAny _ _ _ _ _ _
        obtain ⟨n, hn, hn5⟩ : ∃ n : Nat, kk.fmod 500 = (n : Int) ∧ n < 500 := ⟨(kk.fmod 500).toNat, by
          have := Int.fmod_nonneg_of_pos kk (show (0:Int) < 500 by decide)
          omega, by
          have := Int.fmod_lt_of_pos kk (show (0:Int) < 500 by decide)
          omega⟩
        rw [hn]
        refine rowK (law_pre (by assumption) (topRead_of (by assumption)) F (base_size (by assumption))) (by decide) hn5 F N ?_
        intro a h' tk c vs F' N' hne hc
        refine ⟨h', tk, a, c, vs, _, rfl, rfl, F', N', rfl, fun p hp => ⟨p, hp, rfl⟩, ⟨Ne.symm (hne _ (List.Mem.head _)), Ne.symm (hne _ (.tail _ (List.Mem.head _))), Ne.symm (hne _ (.tail _ (.tail _ (List.Mem.head _))))⟩, ?_⟩
        have hi2 : i < ns.length := by simpa using hi
        have e3 : ns[i] = kk := by simpa [hi2] using e2
        rw [List.getElem_map, e3, hn, Int.toNat_natCast]
        exact hc
      · rintro ys conc tail rfl hal hl
        intro D h tk F N o1
        exact ⟨rfl, h, tk, D, ys, _, (D, LCg.lst ys) :: tail, rfl, F, fun p hp => N p (sub_drop 5 p hp), List.Mem.head _, hl.mono (fun _ _ _ q => .tail _ q), hal.cons⟩
  · intro f s' hpat2
    refine aside fun Gz hGz => ?_
    obtain ⟨rfl, h, tk, D, vs, k, tail, rfl, F, N, mD, LD, nd⟩ := hpat2
    refine hGz ?_
    clear hGz Gz
    dsimp only
    simp only [List.drop_succ_cons, List.drop_zero, List.cons_append, List.nil_append] at N
    refine execs_N (wpN_any ?_)
    k_steps
    rename Fr _ _ _ _ => F2
    rename News _ _ _ _ => N2
    refine st_cell 6 F2 N2 (by rfl) (by rfl) (by assumption) (by walk_at "ncell") ?_
    intro h2 o1 F N dCodes
    simp only [List.eraseIdx_cons_succ, List.eraseIdx_cons_zero] at N
    obtain ⟨rcs, hrcs⟩ := named (ns.map fun k => rowL (k.fmod 500).toNat)
    rw [← hrcs] at LD
    have hr4 : ∀ r ∈ rcs, r.length ≤ 4 ∧ r ≠ [] ∧ ∀ n ∈ r, n < 4 := by
      intro r hr
      rw [hrcs] at hr
      refine aside fun Gz hGz => ?_
      obtain ⟨k, _, rfl⟩ := List.mem_map.mp hr
      refine hGz ?_
      clear hGz Gz
      exact ⟨(rowL_len _).1, (rowL_len _).2, rowL_lt _⟩
    have hrl : rcs.length ≤ 12 := by rw [hrcs, List.length_map]; exact hnl
    have lvs := LD.length
    refine aside fun Gz hGz => ?_
    obtain ⟨cvs, tail1, hcv, hal1, hsub1, mCodes, N⟩ := codes_tail N nd
    refine hGz ?_
    clear hGz Gz
    replace mD := hsub1 _ mD
    replace LD := LD.mono (M' := inN tail1) fun _ _ _ q => hsub1 _ q
    clear hsub1 nd F2 N2
    dsimp only
    refine execs_N (wpN_any ?_)
    refine cutF F N (fun s base L m news => Inv2 s base L m news (rcs.map (·.map codeOf))) ?_ ?_
    · k_dflt (refine LCg.Assign_ListComp_U (F₀ := F) (by rfl) (by with_unfolding_all rfl) (by rfl) (by decide) (by rfl) (by decide) (by rfl) (by rfl) (by rfl) ?_)
      k_steps
      refine LCg.CompSrc.ledger rfl F N (show (D, W.listOf vs.toArray k) ∈ _ by k_mem) ?_ ?_
      · simp [sizeLine]; omega
      · intro g
        refine comp_lists false (rcs.map (·.map codeOf)) (fun _ conc => conc = _) ?_ ?_ ?_ ?_ rfl
        · simp [lvs]
        · rintro i conc tail2 rfl
          exact .inr ⟨W.listOf vs.toArray k, List.mem_append_left _ (show (D, W.listOf vs.toArray k) ∈ _ by k_mem), rfl, _, rfl⟩
        · rintro i conc tail2 ys v I oI C oC D2 m₂ h tk E' hi hv rfl hal hC hx F N off ne
          simp only [List.cons_append] at N
          have hi' : i < rcs.length := by simpa using hi
          refine aside fun Gz hGz => ?_
          obtain ⟨a, n2, ws, w1, w2, w3⟩ := LD.at (i := i) (cs := rcs[i]) (by simp [hi'])
          refine hGz ?_
          clear hGz Gz
          have hv' : vs[i]? = some v := by simpa using hv
          rw [hv'] at w1; cases w1
          have w2' : (a, W.listOf ws.toArray n2) ∈ tail1 ++ tail2 := List.mem_append_left _ w2
          have mC2 : (_, W.listOf cvs.toArray 0) ∈ tail1 ++ tail2 := List.mem_append_left _ mCodes
          have hr := hr4 _ (List.getElem_mem hi')
          have lw := w3.length
          k_steps
          show wpAny _ _ _ _ _ _
          k_dflt (refine LCg.ListComp_U (F₀ := F) (by rfl) (by decide) (by rfl) (by decide) (by rfl) ?_)
          k_steps
          refine LCg.CompSrc.ledger rfl F N (show (a, W.listOf ws.toArray n2) ∈ _ by k_mem) ?_ ?_
          · simp [sizeLine]; omega
          · intro g2
            refine comp_codes false (rcs[i].map codeOf) (by simp [lw]) (.inr ⟨W.listOf ws.toArray n2, show (a, W.listOf ws.toArray n2) ∈ _ by k_mem, rfl, _, rfl⟩) ?_ ?_
            · intro i2 ys2 v2 I2 oI2 C2 oC2 D3 m₃ h3 tk3 E3 hi2 hv2 hC2 hx2 F3 N3 off2 ne2
              have hi2' : i2 < rcs[i].length := by simpa using hi2
              refine aside fun Gz hGz => ?_
              obtain ⟨v3, q1, t3, q2⟩ := w3.at (i := i2) (c := rcs[i][i2]) (by simp [hi2'])
              refine hGz ?_
              clear hGz Gz
              have hv2' : ws[i2]? = some v2 := by simpa using hv2
              rw [hv2'] at q1; cases q1
              rw [q2] at hx2
              have hn4 := hr.2.2 _ (List.getElem_mem hi2')
              refine aside fun Gz hGz => ?_
              obtain ⟨v4, q3, t4, q4⟩ := hcv.at (i := rcs[i][i2]) (c := codeOf rcs[i][i2]) (by unfold codeOf; rw [List.getD_eq_getElem?_getD]; rw [List.getElem?_eq_getElem (by simpa using hn4)]; rfl)
              refine hGz ?_
              clear hGz Gz
              rw [q4] at q3
              k_steps
              · assumption
              · assumption
              · exact ⟨t4, by rw [List.getElem_map]⟩
            · intro ys2 hca D3 h3 tk3 F3 N3 off3
              exact ⟨h3, tk3, D3, _, ys2, _, rfl, rfl, F3, N3, rfl, fun p hp => ⟨p, hp, rfl⟩, ⟨Ne.symm off3.1, Ne.symm off3.2.1, Ne.symm off3.2.2.1⟩, by rw [List.getElem_map]; exact hca⟩
        · rintro ys conc tail2 rfl hal hl
          intro D2 h tk F N o1
          exact ⟨rfl, h, tk, D2, ys, _, (D2, LCg.lst ys) :: tail2, rfl, F, fun p hp => N p (sub_drop 0 p hp), List.Mem.head _, hl.mono (fun _ _ _ q => .tail _ q), hal.cons⟩
    · intro f s' hpat2
      refine aside fun Gz hGz => ?_
      obtain ⟨rfl, h, tk, Dc, cvs2, kc, tail2, rfl, F, N, mDc, LC, hal2⟩ := hpat2
      refine hGz ?_
      clear hGz Gz
      dsimp only
      simp only [List.cons_append] at N
      have hal := AllL.append hal1 hal2
      replace mDc := List.mem_append_right tail1 mDc
      replace mD := List.mem_append_left tail2 mD
      replace mCodes := List.mem_append_left tail2 mCodes
      replace LC := LC.mono (M' := inN (tail1 ++ tail2)) fun _ _ _ q => List.mem_append_right _ q
      replace LD := LD.mono (M' := inN (tail1 ++ tail2)) fun _ _ _ q => List.mem_append_left _ q
      generalize tail1 ++ tail2 = tail at *
      refine execs_N (wpN_any ?_)
      obtain ⟨ccs, hccs⟩ := named (rcs.map (·.map codeOf))
      rw [← hccs] at LC
      have hc4 : ∀ r ∈ ccs, r.length ≤ 4 ∧ r ≠ [] := by
        intro r hr
        rw [hccs] at hr
        refine aside fun Gz hGz => ?_
        obtain ⟨k, hk, rfl⟩ := List.mem_map.mp hr
        refine hGz ?_
        clear hGz Gz
        exact ⟨by rw [List.length_map]; exact (hr4 k hk).1, by simpa using (hr4 k hk).2.1⟩
      have hcl : ccs.length ≤ 12 := by rw [hccs, List.length_map]; exact hrl
      k_dflt (refine assign_two (rcs := ccs) (g := fun r => r.length :: r) F (by rfl) (by with_unfolding_all rfl) (by rfl) (by decide) (by rfl) (by decide) (by rfl) (by rfl) (by rfl) (by rfl) (fun C s v oC m₂ news' Q E N hm hC hx hq => LCgL.ld_own N hm hC hx hq) ?_)
      k_steps
      refine ⟨Dc, kc, cvs2, _, rfl, rfl, F, N, by k_mem, LC.mono (fun _ _ _ q => by k_mem), (fun r hr => by have := (hc4 r hr).1; simp only [List.length_cons]; omega), by omega, ?_, ?_⟩
      · intro I0 C D0 off ne i a n2 ws r tail3 oI oC m₂ ys h3 tk3 E Q hi ma hr hca hC hx F3 N3 hq
        have hlw := hca.length
        have hr4' := (hc4 r (hr ▸ List.getElem_mem hi)).1
        have ma2 := List.mem_append_left tail3 ma
        generalize hnn : _ ++ tail3 = nn at N3 ma2
        k_steps
        rename Fr _ _ _ _ => F9
        rename News _ _ _ _ => N9
        refine hq _ _ _ _ 0 tail3 F9 (fun p hp => N9 p ((by rw [hnn]; walk_at "subm" : ∀ p ∈ (_, W.listOf ([Value.int (ws.length : Int) (tk3 + 1)] ++ ws).toArray 0) :: (I0, oI) :: (C, oC) :: (D0, LCg.lst ys) :: (_ ++ tail3), p ∈ _) p hp)) ⟨Nat.ne_of_gt (by omega), Nat.ne_of_gt (by omega), Nat.ne_of_gt (by omega)⟩ (.cons ⟨_, by rw [hlw]⟩ hca)
      · intro Do h5 tk5 os F5 N5 hos
        clear F N
        dsimp only
        obtain ⟨ocs, hocs⟩ := named (octs ccs)
        rw [show (ccs.flatMap fun r => r.length :: r) = ocs from hocs.symm] at hos
        have hc256 : ∀ r ∈ ccs, ∀ c ∈ r, c < 256 := by
          intro r hr c hc
          rw [hccs] at hr
          refine aside fun Gz hGz => ?_
          obtain ⟨r0, _, rfl⟩ := List.mem_map.mp hr
          refine hGz ?_
          clear hGz Gz
          refine aside fun Gz hGz => ?_
          obtain ⟨k0, _, rfl⟩ := List.mem_map.mp hc
          refine hGz ?_
          clear hGz Gz
          exact codeOf_lt k0
        have hol : ocs.length ≤ 1000 := by
          have := octs_len fun r hr => (hc4 r hr).1
          rw [hocs]; omega
        have ho256 : ∀ c ∈ ocs, c < 256 := by rw [hocs]; exact octs_lt fun r hr => ⟨(hc4 r hr).1, hc256 r hr⟩
        have losl := hos.length
        refine execs_N (assign_N (callName_N ?_))
        k_steps
        refine callWith_N (t := eval (.Call _ _ _ _) _) ?_
        k_steps
        refine keeper_bio (by assumption) (by assumption) ⟨rfl, ?_⟩
        rename Fr _ _ _ _ => F6
        rename News _ _ _ _ => N6
        refine bioK (law_pre (by assumption) (topRead_of (by assumption)) F6 (base_size (by assumption))) (by decide) (by rw [byts_size]; have : sizeLine = 16777216 := sizeLine_eq; omega) F6 N6 ?_
        intro SA xA dxA hA7 tkA7 uA1 uA2 uA3 F7 N7 neA
        clear F6 N6
        dsimp only
        refine wpN_any ?_
        k_steps
        rename Fr _ _ _ _ => F6
        rename News _ _ _ _ => N6
        refine st_cell 9 F6 N6 (by rfl) (by rfl) (by assumption) (by walk_at "ncell") ?_
        clear F6 N6
        intro hA8 oA2 F N dA
        simp only [List.eraseIdx_cons_succ, List.eraseIdx_cons_zero] at N
        dsimp only
        refine execs_N (assign_N (callName_N ?_))
        k_steps
        refine callWith_N (t := eval (.Call _ _ _ _) _) ?_
        k_steps
        refine keeper_bio (by assumption) (by assumption) ⟨rfl, ?_⟩
        rename Fr _ _ _ _ => F6
        rename News _ _ _ _ => N6
        refine bioK (law_pre (by assumption) (topRead_of (by assumption)) F6 (base_size (by assumption))) (by decide) (by rw [byts_size]; have : sizeLine = 16777216 := sizeLine_eq; omega) F6 N6 ?_
        intro SB xB dxB hB7 tkB7 uB1 uB2 uB3 F7 N7 neB
        clear F6 N6
        dsimp only
        refine wpN_any ?_
        k_steps
        rename Fr _ _ _ _ => F6
        rename News _ _ _ _ => N6
        refine st_cell 12 F6 N6 (by rfl) (by rfl) (by assumption) (by walk_at "ncell") ?_
        clear F6 N6
        intro hB8 oB2 F N dB
        simp only [List.eraseIdx_cons_succ, List.eraseIdx_cons_zero] at N
        dsimp only
        rw [hocs] at N
        refine wpN_any ?_
        refine aside fun Gz hGz => ?_
        obtain ⟨rcA, hrcA, NA, mA, mxA, mSA, mtA⟩ := order7 N
        refine hGz ?_
        clear hGz Gz
        clear N
        have hrA : ∀ p ∈ rcA, isD p.2 = false ∨ p.1 ≠ dxA := by
          rw [hrcA]
          refine fa_cons ?_ (fa_cons ?_ (fa_cons ?_ (fa_cons ?_ (fa_cons ?_ (fa_cons ?_ (fa_cons ?_ (fa_cons ?_ (fa_cons ?_ (fa_cons ?_ (fa_cons ?_ (fun p hp => ?_)))))))))))
          · exact .inl (by simp [isD, dA])
          · exact .inl rfl
          · exact .inl rfl
          · exact .inl (by simp [isD, dB])
          · exact .inl rfl
          · exact .inr (Ne.symm (neB _ (.tail _ (.tail _ (List.Mem.head _)))).2.1)
          · exact .inl rfl
          · exact .inl (by simp [isD, dCodes])
          · exact .inr (neA _ (.tail _ (.tail _ (List.Mem.head _)))).2.1
          · exact .inr (neA _ (.tail _ (.tail _ (.tail _ (List.Mem.head _))))).2.1
          · exact .inr (neA _ (.tail _ (.tail _ (.tail _ (.tail _ (List.Mem.head _)))))).2.1
          · exact .inl (isD_allL hal p hp)
        have mDA := mtA _ mD
        have hck : ∀ i (hi : i < ccs.length), 1 ≤ ccs[i].length ∧ ccs[i].length ≤ 4 := fun i hi => by
          have := hc4 _ (List.getElem_mem hi)
          exact ⟨List.length_pos_iff.mpr this.2, this.1⟩
        have hzo : (byts (octs ccs)).size ≤ 10000 := by rw [byts_size, ← hocs]; omega
        have hcd : ccs.length = vs.length := by rw [hccs, List.length_map]; exact lvs.symm
        k_steps
        refine assign_any ?_
        k_dflt (refine LCg.ListComp_U (F₀ := F) (by rfl) (by decide) (by rfl) (by decide) (by rfl) ?_)
        k_steps
        refine LCg.CompSrc.ledger rfl F NA (show (D, W.listOf vs.toArray k) ∈ _ by k_mem) ?_ ?_
        · simp [sizeLine]; omega
        intro g
        refine comp_lists true ccs (fun i conc => ∃ u1 u2 u3, conc = (dxA, bioD w.params SA ((offs ccs i : Nat) : Int) u1 u2 u3) :: rcA) ?_ ?_ ?_ ?_ ⟨uA1, uA2, uA3, by rw [offs_zero]; rfl⟩
        · simp [hcd]
        · intro i conc tail2 hpat3
          refine aside fun Gz hGz => ?_
          obtain ⟨_, _, _, rfl⟩ := hpat3
          refine hGz ?_
          clear hGz Gz
          exact .inr ⟨W.listOf vs.toArray k, List.mem_append_left _ (show (D, W.listOf vs.toArray k) ∈ _ by k_mem), rfl, _, rfl⟩
        · intro i conc tail2 ys v I oI C oC D2 m₂ h tk E' hi hv hpat16 hal2 hC hx F N off ne
          refine aside fun Gz hGz => ?_
          obtain ⟨u1, u2, u3, rfl⟩ := hpat16
          refine hGz ?_
          clear hGz Gz
          simp only [List.cons_append] at N
          have mA2 := List.mem_append_left tail2 mA
          have hroff := turn_rest (oI := oI) (oC := oC) (oD := LCg.lst ys) hrA hal2 off
          k_steps
          rename Fr _ _ _ _ => F6
          rename News _ _ _ _ => N6
          refine aside fun Gz hGz => ?_
          obtain ⟨c, hc, hcn⟩ := byts_get hi (by have := hck i hi; omega)
          refine hGz ?_
          clear hGz Gz
          refine string1K (law_pre (by assumption) (topRead_of (by assumption)) F6 (base_size (by assumption))) (by decide) (by assumption) (topRead_of (by assumption)) F6 N6 (.tail _ (.tail _ (.tail _ (.tail _ (List.mem_append_left _ mxA))))) (by k_mem) (.tail _ (.tail _ (.tail _ (.tail _ (List.mem_append_left _ mSA))))) hzo hc hcn (offs_le hi) (hck i hi).1 (hck i hi).2 ?_
          intro h7 tk7 t7 t8 t9 t6 F7 N7
          replace N7 := N7 _ hroff
          clear F6 N6
          dsimp only
          k_steps
          rename Fr _ _ _ _ => F6
          rename News _ _ _ _ => N6
          refine list_str_own (cs := ccs[i]) F6 N6 rfl (by rw [text_cut hi (hc256 _ (List.getElem_mem hi))]) (hc256 _ (List.getElem_mem hi)) (by have := hck i hi; omega) ?_
          intro D3 h9 tk9 c9 vs9 F9 N9 l9 ca
          refine ⟨h9, tk9, D3, c9, vs9, _, rfl, rfl, F9, turn_done N9, ⟨t7, t8, t9, ?_⟩, ?_, ⟨Nat.ne_of_gt (l9 _ (.tail _ (List.Mem.head _))), Nat.ne_of_gt (l9 _ (.tail _ (.tail _ (List.Mem.head _)))), Nat.ne_of_gt (l9 _ (.tail _ (.tail _ (.tail _ (List.Mem.head _)))))⟩, ca⟩
          · rw [offs_succ hi]
          · intro p hp
            rcases List.mem_cons.mp hp with rfl | hp
            · exact ⟨_, List.Mem.head _, rfl⟩
            · exact ⟨p, .tail _ hp, rfl⟩
        intro tvs conc tail2 hpat3 hal2 hltx
        refine aside fun Gz hGz => ?_
        obtain ⟨v1, v2, v3, rfl⟩ := hpat3
        refine hGz ?_
        clear hGz Gz
        intro Dt h7 tk7 F7 N7 o7
        k_steps
        rw [hrcA] at N7
        simp only [List.cons_append] at N7
        have hal7 := AllL.append hal hal2
        refine st_cell 12 F7 N7 (by rfl) (by rfl) (by assumption) (by walk_at "ncell") ?_
        intro h8 oT F8 N8 dT
        simp only [List.eraseIdx_cons_succ, List.eraseIdx_cons_zero] at N8
        refine aside fun Gz hGz => ?_
        obtain ⟨rcB, hrcB, NB, mB, mxB, mSB, mtB⟩ := order8 N8
        refine hGz ?_
        clear hGz Gz
        clear F7 N7 N8
        have hrB : ∀ p ∈ rcB, isD p.2 = false ∨ p.1 ≠ dxB := by
          rw [hrcB]
          refine fa_cons ?_ (fa_cons ?_ (fa_cons ?_ (fa_cons ?_ (fa_cons ?_ (fa_cons ?_ (fa_cons ?_ (fa_cons ?_ (fa_cons ?_ (fa_cons ?_ (fa_cons ?_ (fa_cons ?_ (fun p hp => ?_))))))))))))
          · exact .inl (by simp [isD, dB])
          · exact .inl rfl
          · exact .inl rfl
          · exact .inl (by simp [isD, dA])
          · exact .inl rfl
          · exact .inr (neB _ (.tail _ (.tail _ (List.Mem.head _)))).2.1
          · exact .inl rfl
          · exact .inl (by simp [isD, dCodes])
          · exact .inl (by simp [isD, dT])
          · exact .inr (neB _ (.tail _ (.tail _ (.tail _ (.tail _ (.tail _ (.tail _ (.tail _ (List.Mem.head _))))))))).2.1
          · exact .inr (neB _ (.tail _ (.tail _ (.tail _ (.tail _ (.tail _ (.tail _ (List.Mem.head _)))))))).2.1
          · exact .inl rfl
          · exact .inl (isD_allL hal7 p hp)
        have mDB := mtB _ (List.mem_append_left tail2 mD)
        k_steps
        show wpAny _ _ _ _ _ _
        k_dflt (refine LCg.Assign_ListComp_U (F₀ := F8) (by rfl) (by with_unfolding_all rfl) (by rfl) (by decide) (by rfl) (by decide) (by rfl) (by rfl) (by rfl) ?_)
        k_steps
        refine LCg.CompSrc.ledger rfl F8 NB (show (D, W.listOf vs.toArray k) ∈ _ by k_mem) ?_ ?_
        · simp [sizeLine]; omega
        intro g8
        refine comp_lists false ccs (fun i conc => ∃ u1 u2 u3, conc = (dxB, bioD w.params SB ((offs ccs i : Nat) : Int) u1 u2 u3) :: rcB) ?_ ?_ ?_ ?_ ⟨uB1, uB2, uB3, by rw [offs_zero]; rfl⟩
        · simp [hcd]
        · intro i conc tail3 hpat3
          refine aside fun Gz hGz => ?_
          obtain ⟨_, _, _, rfl⟩ := hpat3
          refine hGz ?_
          clear hGz Gz
          exact .inr ⟨W.listOf vs.toArray k, List.mem_append_left _ (show (D, W.listOf vs.toArray k) ∈ _ by k_mem), rfl, _, rfl⟩
        · intro i conc tail3 ys v I oI C oC D2 m₂ h tk E' hi hv hpat16 hal3 hC hx F N off ne
          refine aside fun Gz hGz => ?_
          obtain ⟨u1, u2, u3, rfl⟩ := hpat16
          refine hGz ?_
          clear hGz Gz
          simp only [List.cons_append] at N
          have mB2 := List.mem_append_left tail3 mB
          have hroff := turn_rest (oI := oI) (oC := oC) (oD := LCg.lst ys) hrB hal3 off
          k_steps
          rename Fr _ _ _ _ => F6
          rename News _ _ _ _ => N6
          refine aside fun Gz hGz => ?_
          obtain ⟨c, hc, hcn⟩ := byts_get hi (by have := hck i hi; omega)
          refine hGz ?_
          clear hGz Gz
          refine bytes1K (law_pre (by assumption) (topRead_of (by assumption)) F6 (base_size (by assumption))) (by decide) (by assumption) (topRead_of (by assumption)) F6 N6 (.tail _ (.tail _ (.tail _ (.tail _ (List.mem_append_left _ mxB))))) (by k_mem) (.tail _ (.tail _ (.tail _ (.tail _ (List.mem_append_left _ mSB))))) hzo hc hcn (offs_le hi) ?_
          intro h7 tk7 t7 t8 t9 t6 F7 N7
          replace N7 := N7 _ hroff
          clear F6 N6
          dsimp only
          k_steps
          rename Fr _ _ _ _ => F6
          rename News _ _ _ _ => N6
          refine list_bytes_own (cs := ccs[i]) F6 N6 rfl (byts_cut hi (hc256 _ (List.getElem_mem hi))) (by have := hck i hi; omega) ?_
          intro D3 h9 tk9 c9 vs9 F9 N9 l9 ca
          refine ⟨h9, tk9, D3, c9, vs9, _, rfl, rfl, F9, turn_done N9, ⟨t7, t8, t9, ?_⟩, ?_, ⟨Nat.ne_of_gt (l9 _ (.tail _ (List.Mem.head _))), Nat.ne_of_gt (l9 _ (.tail _ (.tail _ (List.Mem.head _)))), Nat.ne_of_gt (l9 _ (.tail _ (.tail _ (.tail _ (List.Mem.head _)))))⟩, ca⟩
          · rw [offs_succ hi]
          · intro p hp
            rcases List.mem_cons.mp hp with rfl | hp
            · exact ⟨_, List.Mem.head _, rfl⟩
            · exact ⟨p, .tail _ hp, rfl⟩
        intro ivs conc tail3 hpat3 hal3 hlit
        refine aside fun Gz hGz => ?_
        obtain ⟨w1, w2, w3, rfl⟩ := hpat3
        refine hGz ?_
        clear hGz Gz
        intro Di h9 tk9 F9 N9 o9
        rw [hrcB] at N9
        simp only [List.cons_append] at N9
        refine aside fun Gz hGz => ?_
        obtain ⟨T, halT, NT, mDi, mDt, hsT1, hsT3⟩ := order9 N9 hal7 hal3 (AllL.cons (AllL.cons (fun _ h => (List.not_mem_nil h).elim)))
        refine hGz ?_
        clear hGz Gz
        have FS : Fs T D Dc Dt Di _ k kc vs cvs2 tvs ivs cvs rcs ccs := ⟨hsT1 _ (List.mem_append_left _ mD), hsT1 _ (List.mem_append_left _ mDc), mDt, mDi, hsT1 _ (List.mem_append_left _ mCodes), LD.mono fun _ _ _ q => hsT1 _ (List.mem_append_left _ q), LC.mono fun _ _ _ q => hsT1 _ (List.mem_append_left _ q), hltx.mono fun _ _ _ q => hsT1 _ (List.mem_append_right _ q), hlit.mono fun _ _ _ q => hsT3 _ q⟩
        clear mD mDc mDt mDi mCodes LD LC hltx hlit
        obtain ⟨mD, mDc, mDt, mDi, mCodes, LD, LC, hltx, hlit⟩ := id FS
        have hve : vs.toArray.size = ccs.length := by simp [hcd]
        rw [hve, offs_end] at NT
        have hltl := hltx.length
        have hlil := hlit.length
        have hlcl := LC.length
        have hAB := (neB _ (.tail _ (.tail _ (List.Mem.head _)))).2.1
        have h6A := (neA _ (.tail _ (.tail _ (List.Mem.head _)))).2.1
        have h5A := (neA _ (.tail _ (.tail _ (.tail _ (List.Mem.head _))))).2.1
        have h6B := (neB _ (.tail _ (.tail _ (.tail _ (.tail _ (.tail _ (.tail _ (List.Mem.head _)))))))).2.1
        have h5B := (neB _ (.tail _ (.tail _ (.tail _ (.tail _ (.tail _ (.tail _ (.tail _ (List.Mem.head _))))))))).2.1
        clear N9 o9 o7 F8 NA NB mA mxA mSA mtA hrA mB mxB mSB mtB hrB mDA mDB hrcA hrcB hsT1 hsT3 hal hal2 hal3 hal7 neA neB
        dsimp only
        refine execs_stop ?_
        k_steps
        show wpAny _ _ _ _ _ _
        k_dflt (refine LCg.ListComp_U (F₀ := F9) (by rfl) (by decide) (by rfl) (by decide) (by rfl) ?_)
        k_steps
        refine LCg.CompSrc.ledger rfl F9 NT (show (Dc, W.listOf cvs2.toArray kc) ∈ _ by k_mem) (by simp [sizeLine]; omega) ?_
        intro ga
        refine comp_lists true ccs (fun _ conc => conc = _) (by simp [hlcl]) ?_ ?_ ?_ rfl
        · rintro i conc tail2 rfl
          exact .inr ⟨W.listOf cvs2.toArray kc, List.mem_append_left _ (show (Dc, W.listOf cvs2.toArray kc) ∈ _ by k_mem), rfl, _, rfl⟩
        · rintro i conc tail2 ys v I oI C oC D2 m₂ h tk E' hi hv rfl hal hC hx F N off ne
          simp only [List.cons_append] at N
          refine aside fun Gz hGz => ?_
          obtain ⟨a, n2, ws, w1, w2, w3⟩ := LC.at (i := i) (cs := ccs[i]) (by simp [hi])
          refine hGz ?_
          clear hGz Gz
          have hv' : cvs2[i]? = some v := by simpa using hv
          rw [hv'] at w1; cases w1
          have w2' : (a, W.listOf ws.toArray n2) ∈ T ++ tail2 := List.mem_append_left _ w2
          have lw := w3.length
          have hr := hck i hi
          k_steps
          show wpAny _ _ _ _ _ _
          k_dflt (refine LCg.ListComp_U (F₀ := F) (by rfl) (by decide) (by rfl) (by decide) (by rfl) ?_)
          k_steps
          refine LCg.CompSrc.ledger rfl F N (show (a, W.listOf ws.toArray n2) ∈ _ by k_mem) ?_ ?_
          · simp [sizeLine]; omega
          intro g2
          refine comp_codes true ccs[i] (by simp [lw]) (.inr ⟨W.listOf ws.toArray n2, show (a, W.listOf ws.toArray n2) ∈ _ by k_mem, rfl, _, rfl⟩) ?_ ?_
          · intro i2 ys2 v2 I2 oI2 C2 oC2 D3 m₃ h3 tk3 E3 hi2 hv2 hC2 hx2 F3 N3 off2 ne2
            refine aside fun Gz hGz => ?_
            obtain ⟨v3, q1, t3, q2⟩ := w3.at (i := i2) (c := ccs[i][i2]) (by simp [hi2])
            refine hGz ?_
            clear hGz Gz
            have hv2' : ws[i2]? = some v2 := by simpa using hv2
            rw [hv2'] at q1; cases q1
            rw [q2] at hx2
            have hn256 := hc256 _ (List.getElem_mem hi) _ (List.getElem_mem hi2)
            k_steps
            · assumption
            · assumption
            · exact ⟨_, hn256, by rw [Int.toNat_natCast]⟩
          · intro ys2 hca D3 h3 tk3 F3 N3 off3
            exact ⟨h3, tk3, D3, _, ys2, _, rfl, rfl, F3, N3, rfl, fun p hp => ⟨p, hp, rfl⟩, ⟨Ne.symm off3.1, Ne.symm off3.2.1, Ne.symm off3.2.2.1⟩, hca⟩
        rintro rvs conc tail2 rfl halr hlr
        intro Dr hr9 tkr Fr9 Nr9 or9
        k_steps
        simp only [List.cons_append] at Nr9
        refine aside fun Gz hGz => ?_
        obtain ⟨T2, halT2, N2, mDr, hs1, hs2, hsub⟩ := join12 Nr9 allL_one halT halr
        refine hGz ?_
        clear hGz Gz
        replace FS := FS.mono hs1
        replace hlr := hlr.mono (M' := inN T2) fun _ _ _ q => hs2 _ q
        clear mD mDc mDt mDi mCodes LD LC hltx hlit Nr9 or9 NT hs1 hs2 halT halr F9
        obtain ⟨mD, mDc, mDt, mDi, mCodes, LD, LC, hltx, hlit⟩ := id FS
        refine ne_same (κ := true) (N2 _ (hsub _ mDt)).1 (N2 _ (hsub _ mDr)).1 (hltx.inHeap N2 hsub) (hlr.inHeap N2 hsub) (by show 4 + 3 + 64 < cLine; decide) ?_
        k_steps
        refine ne_same (κ := false) (N2 _ (hsub _ mDi)).1 (N2 _ (hsub _ mDc)).1 (hlit.inHeap N2 hsub) (LC.inHeap N2 hsub) (by show 4 + 3 + 64 < cLine; decide) ?_
        k_steps
        show wpAny _ _ (execs _ _) _ _ _
        refine execs_stop ?_
        k_steps
        rename Fr _ _ _ _ => F3
        have roA := tail_ro N2 (by
          refine fa_cons ?_ (fa_cons ?_ (fa_cons ?_ (fa_cons ?_ (fa_cons ?_ (fa_cons ?_ (fa_cons ?_ (fa_cons ?_ (fa_cons ?_ (fa_cons ?_ (fa_cons ?_ (fun p hp => ?_)))))))))))
          · exact .inr (Ne.symm hAB)
          · exact .inl rfl
          · exact .inl rfl
          · exact .inl rfl
          · exact .inl rfl
          · exact .inl (by simp [isD, dCodes])
          · exact .inl (by simp [isD, dA])
          · exact .inl (by simp [isD, dB])
          · exact .inl (by simp [isD, dT])
          · exact .inr h5A
          · exact .inr h6A
          · exact .inl (isD_allL halT2 p hp))
        refine read0K (law_pre (by assumption) (topRead_of (by assumption)) F3 (base_size (by assumption))) (by decide) (by assumption) (topRead_of (by assumption)) F3 N2 (by k_mem : (xA, _) ∈ _) (List.Mem.head _) (by k_mem : (SA, _) ∈ _) hzo (byts_size _).symm ?_
        intro h4 tk4 z1 z2 z3 z4 F4 N4
        replace N4 := swap2 (N4 _ roA)
        clear F3 N2 hsub roA
        dsimp only
        k_steps
        rename Fr _ _ _ _ => F3
        have roB := tail_ro N4 (by
          refine fa_cons ?_ (fa_cons ?_ (fa_cons ?_ (fa_cons ?_ (fa_cons ?_ (fa_cons ?_ (fa_cons ?_ (fa_cons ?_ (fa_cons ?_ (fa_cons ?_ (fa_cons ?_ (fun p hp => ?_)))))))))))
          · exact .inr hAB
          · exact .inl rfl
          · exact .inl rfl
          · exact .inl rfl
          · exact .inl rfl
          · exact .inl (by simp [isD, dCodes])
          · exact .inl (by simp [isD, dA])
          · exact .inl (by simp [isD, dB])
          · exact .inl (by simp [isD, dT])
          · exact .inr h5B
          · exact .inr h6B
          · exact .inl (isD_allL halT2 p hp))
        refine read0K (law_pre (by assumption) (topRead_of (by assumption)) F3 (base_size (by assumption))) (by decide) (by assumption) (topRead_of (by assumption)) F3 N4 (by k_mem : (xB, _) ∈ _) (List.Mem.head _) (by k_mem : (SB, _) ∈ _) hzo (byts_size _).symm ?_
        intro h6 tk6 y1 y2 y3 y4 F6 N6
        replace N6 := N6 _ roB
        clear F3 N4 roB
        dsimp only
        k_steps
        show wpAny _ _ (execs _ _) _ _ _
        refine law_rest (ccs := ccs) KX (by assumption) F6 (fun p hp => N6 p (.tail _ (.tail _ (.tail _ (.tail _ (.tail _ (.tail _ hp))))))) halT2 FS dCodes dT (by assumption) (by assumption) hccs hr4 hrl hcv fun h' tk m' F' => ?_
        exact hfin h' tk F'.keep)

end

end Mine
theorem PySem.Challenge.cw_ik0017_01_holds : PySem.Challenge.rw_ik0017_01.Holds := by
  exact Mine.hol
