import PyProof.Rows.All
import Wide.All
import OpenK.AllK
import Wide.FinOn
import PySem.Challenge.RW_in0262_01
set_option Elab.async false
set_option maxRecDepth 100000
set_option maxHeartbeats 8000000
set_option linter.unusedSimpArgs false
set_option linter.unusedVariables false
open PySem PySem.W PyProof.Rows PySem.Calls PySem.Spec
namespace Mine
section
abbrev rowW : RowW := OpenRow.toRowW (OpenLaw.row PySem.Challenge.rw_in0262_01)
def qv : Program := view PySem.Challenge.rw_in0262_01.prog [0, 2, 3, 4, 5, 8, 11, 14, 16, 17, 19, 20, 21, 22]
def loosev : List Str := [Str.ofString "bytes_types", Str.ofString "_twin_re_1", Str.ofString "_special_chars_map"]
theorem both {A B C R : Prop} (f : C → A ∧ B → R) (c : C) (h : A ∧ B) : R := f c h
local macro_rules | `(tactic| o_head $H) => `(tactic|
   refine both (fun hw two => holds_open (q := qv) (loose := loosev) (Xt := fun s => xlAt qv [] s && recOk (RowW.records rowW) s) (XP := XL qv []) (Yf := Hook.obs $H) (Ya := Hook.val $H) (YP := Hook.says $H) (N := 3734) two.1 (Hook.of $H) (Hook.keeps $H) (fun s e => xl_of s (Bool.and_eq_true_iff.mp e).1) XL.keeps (by rfl) (by rfl) (by rfl) (fun s e => recFacts_of (Bool.and_eq_true_iff.mp e).2) (by rfl) (by first | assumption | decide +kernel) (by decide +kernel) ⟨rfl, rfl, rfl, rfl, rfl, by decide +kernel⟩ hw two.2) ?hw ?hc)
open_top hd0 for PySem.Challenge.rw_in0262_01
def sideOf {p q : Program} {loose : List Str} {Xt : Shared → Bool} {α : Type} {Yf : Shared → α} {Ya : World → α} {N : Nat} {g0 : Bool} {B R : Prop} (_ : LeftO p q loose Xt Yf Ya N g0 ∧ B → R) (a b : Bool) : Prop :=
  ∀ w : World, (openEnds treeTable p ((w.withFollow "special-get-raises" b).withFollow "comprehension-iter-twice" a) N).map (fun s => (openSeen q loose (importedModules p.main.body) Xt g0 s, Yf s)) = some (openGood q loose, Ya ((w.withFollow "special-get-raises" b).withFollow "comprehension-iter-twice" a))
theorem left_of {p q : Program} {loose : List Str} {Xt : Shared → Bool} {α : Type} {Yf : Shared → α} {Ya : World → α} {N : Nat} {g0 : Bool} {B R : Prop} (f : LeftO p q loose Xt Yf Ya N g0 ∧ B → R) (h1 : sideOf f false false) (h2 : sideOf f false true) (h3 : sideOf f true false) (h4 : sideOf f true true) (b : B) : R :=
  f ⟨byRow2 "comprehension-iter-twice" (byRow2 "special-get-raises" h1 h2) (byRow2 "special-get-raises" h3 h4), b⟩
theorem hl_ff : sideOf hd0 false false := by
  unfold sideOf openEnds fencedOpening topFrom
  rw [PySem.W.Fast.te10274390034422433532, PySem.W.Fast.te1435165496053646825, PySem.W.Fast.te14289696077712309145, PySem.W.Fast.te14082659384304107361, PySem.W.Fast.te5923862056798008813, PySem.W.Fast.te14364793385576792824, PySem.W.Fast.te4187177175401517315, PySem.W.Fast.te8920871248978507458]
  intro w
  kernel_rfl
theorem hl_ft : sideOf hd0 false true := by
  unfold sideOf openEnds fencedOpening topFrom
  rw [PySem.W.Fast.te10274390034422433532, PySem.W.Fast.te1435165496053646825, PySem.W.Fast.te14289696077712309145, PySem.W.Fast.te14082659384304107361, PySem.W.Fast.te5923862056798008813, PySem.W.Fast.te14364793385576792824, PySem.W.Fast.te4187177175401517315, PySem.W.Fast.te8920871248978507458]
  intro w
  kernel_rfl
theorem hl_tf : sideOf hd0 true false := by
  unfold sideOf openEnds fencedOpening topFrom
  rw [PySem.W.Fast.te10274390034422433532, PySem.W.Fast.te1435165496053646825, PySem.W.Fast.te14289696077712309145, PySem.W.Fast.te14082659384304107361, PySem.W.Fast.te5923862056798008813, PySem.W.Fast.te14364793385576792824, PySem.W.Fast.te4187177175401517315, PySem.W.Fast.te8920871248978507458]
  intro w
  kernel_rfl
theorem hl_tt : sideOf hd0 true true := by
  unfold sideOf openEnds fencedOpening topFrom
  rw [PySem.W.Fast.te10274390034422433532, PySem.W.Fast.te1435165496053646825, PySem.W.Fast.te14289696077712309145, PySem.W.Fast.te14082659384304107361, PySem.W.Fast.te5923862056798008813, PySem.W.Fast.te14364793385576792824, PySem.W.Fast.te4187177175401517315, PySem.W.Fast.te8920871248978507458]
  intro w
  kernel_rfl
theorem hd : type_of% (left_of hd0 hl_ff hl_ft hl_tf hl_tt) := left_of hd0 hl_ff hl_ft hl_tf hl_tt
end
theorem top_off : True := by
  w_top off
  trivial
/-- what a call leaves as it was: every object that stood -/
def Ext (h h' : Heap) : Prop := ∀ b o, h.get? b = some o → h'.get? b = some o
theorem none_of_sub {h h' : Heap} {a : Addr} (k : ∀ b o, h.get? b = some o → h'.get? b = some o) (e : h'.get? a = none) : h.get? a = none := by
  cases q : h.get? a with
  | none => rfl
  | some o => rw [k _ _ q] at e; cases e
theorem Ext.rfl {h : Heap} : Ext h h := fun _ _ e => e
theorem Ext.trans {a b c : Heap} (x : Ext a b) (y : Ext b c) : Ext a c := fun _ _ e => y _ _ (x _ _ e)

section
variable {prog : Program} {w : World} {A₀ A : Around} {s : Shared} {base h₀ : Heap} {outer : List Env} {L : Addr} {m mg mb : PySem.Str → Option Value} {env : Env} {K : Frag} {p : Program} {loose : List PySem.Str} {mean : ExcName → Option Value} {news : List (Addr × Obj)}
  {R : Result → Shared → Prop} {name qual : PySem.Str} {params : Arguments} {body : List Stmt} {scope : Scope} {dV kV doc pm cdv ct oc : Value} {an od : Option Addr} {osl : Array (Option Value)} {f : Addr} {args : Args} {binds : List (PySem.Str × Value)}

/-- entering a def without cells: all that stood and is not in the ledger stands in the new ground -/
theorem enterP (B : Below A₀ base outer h₀) (F : Fr h₀ L s.heap m) (X₀ : K.In h₀) (N : News h₀ L s.heap news) (T : Top p loose mean mg mb h₀) (hA : A.frames = some (env :: outer)) (hf : env.frame = some L) (hke : env.scope.kind = .function)
    (ho : K.lookup f = some ⟨oc, od, .func (fnOf name qual params body scope dV kV doc pm an cdv ct), osl⟩) (hcd : codeIn K cdv qual = true) (hroom : A.depth < recursionLimit)
    (hbind : BindsTo s (fnOf name qual params body scope dV kV doc pm an cdv ct) args binds) (hloc : ∀ y ∈ binds, scope.names.lookup y.1 = some .local)
    (h : ∀ g L' h₁, Fr h₀ L g m → Fr g L' h₁ (fun y => binds.reverse.lookup y) → News g L' h₁ news → Below A base (env :: outer) g → K.In g → Top p loose mean mg mb g →
      (∀ b o, s.heap.get? b = some o → b ∉ news.map (·.1) → g.get? b = some o) →
      wpAny (model prog w) (A.deeper (envOf qual scope L' f cdv)) (execs body (envOf qual scope L' f cdv))
        (fun fl s' => LeaveK h₀ L m g R (match fl with | .ret v => v | _ => .none) s')
        (fun e s' => wpAny (model prog w) (A.deeper (envOf qual scope L' f cdv)) (leaving (envOf qual scope L' f cdv) e) (fun _ s'' => R (.error e) s'') (fun e' s'' => R (.error e') s'') s')
        { s with heap := h₁, toks := s.toks + binds.length })
    (hco : scope.isCoroutine = false) (hgen : scope.isGenerator = false) (hk : scope.kind = .function)
    (hcell : ∀ x ∈ scope.names, x.2 ≠ .cell) : codeAny (model prog w) A (.call (.ref f) args) R s := by
  obtain ⟨FG, BG, st, lv⟩ := groundX (R := R) B F N hA hf hke
  have XG := X₀.keeps F.keep
  refine codeAny_call_def (body := body) (binds := binds) hroom (XG _ _ ho) rfl (T.nolimit.keeps F.keep) (codeRec_of XG hcd) rfl hbind hcell hloc (fun h₁ hns hk₁ => ?_) hco hgen hk
  have F' : Fr (hideAll s.heap (news.map (·.1))) s.heap.objs.size h₁ (fun y => binds.reverse.lookup y) := ⟨hns, fun b o e => hk₁ b o (of_hideAll _ e), Nat.le_of_eq (hideAll_size _ _)⟩
  have N' : News (hideAll s.heap (news.map (·.1))) s.heap.objs.size h₁ news := fun p hp => ⟨hk₁ _ _ (N p hp).1, Nat.ne_of_lt (Heap.lt_size (N p hp).1), hideAll_none _ (List.mem_map_of_mem hp)⟩
  exact wpAny_mono (h _ _ h₁ FG F' N' BG (X₀.keeps st) (T.keeps st) fun b o e n => hideAll_get _ e n) (fun fl s' hl => lv _ _ hl) fun _ _ y => y

/-- the same of a def with cells -/
theorem enterC (B : Below A₀ base outer h₀) (F : Fr h₀ L s.heap m) (X₀ : K.In h₀) (N : News h₀ L s.heap news) (T : Top p loose mean mg mb h₀) (hA : A.frames = some (env :: outer)) (hf : env.frame = some L) (hke : env.scope.kind = .function)
    (ho : K.lookup f = some ⟨oc, od, .func (fnOf name qual params body scope dV kV doc pm an cdv ct), osl⟩) (hcd : codeIn K cdv qual = true) (hroom : A.depth < recursionLimit)
    (hbind : BindsTo s (fnOf name qual params body scope dV kV doc pm an cdv ct) args binds) (hkind : (binds.all fun y => scope.names.lookup y.1 == some .local || scope.names.lookup y.1 == some .cell) = true)
    (hnd : ((cellsFrom 0 scope.names []).map (·.1)).Nodup)
    (h : ∀ g L' h₁ tk cells, Fr h₀ L g m → Fr g L' h₁ (bindL (envOfC qual scope L' f cdv).kindOf binds fun _ => none) → News g L' h₁ (cells ++ news) →
      CellsAre (bindC (envOfC qual scope L' f cdv).kindOf binds fun _ => none) (cellsFrom (L' + 1) scope.names []) cells → Below A base (env :: outer) g → K.In g → Top p loose mean mg mb g → (∀ p ∈ news, p.1 < L') →
      (∀ b o, s.heap.get? b = some o → b ∉ news.map (·.1) → g.get? b = some o) →
      wpAny (model prog w) (A.deeper (envOfC qual scope L' f cdv)) (execs body (envOfC qual scope L' f cdv))
        (fun fl s' => LeaveK h₀ L m g R (match fl with | .ret v => v | _ => .none) s')
        (fun e s' => wpAny (model prog w) (A.deeper (envOfC qual scope L' f cdv)) (leaving (envOfC qual scope L' f cdv) e) (fun _ s'' => R (.error e) s'') (fun e' s'' => R (.error e') s'') s')
        { s with heap := h₁, toks := tk })
    (hco : scope.isCoroutine = false) (hgen : scope.isGenerator = false) (hk : scope.kind = .function) : codeAny (model prog w) A (.call (.ref f) args) R s := by
  obtain ⟨FG, BG, st, lv⟩ := groundX (R := R) B F N hA hf hke
  have XG := X₀.keeps F.keep
  refine codeAny_call_function hroom (XG _ _ ho) rfl hco hgen rfl (codeRec_of XG hcd) (hbind _ _ _ _ ?_)
  refine wpAny_newFunctionEnv_cells hk (kindsX hkind _) fun env' he s' x => ?_
  subst he
  refine ⟨(T.nolimit.keeps F.keep).keeps x.toInCall.keep, codeAny_func ?_⟩
  obtain ⟨h₁, tk, rfl, _⟩ := x.done
  have hk₁ := x.toInCall.keep
  obtain ⟨cells, NC, Y⟩ := Cl.news (h₀ := s.heap) (Nat.le_refl _) fun n c hm => ⟨x.cell n c (lookup_of_mem_nodup (cellsFrom_names scope.names 0 (s.heap.objs.size + 1) [] [] rfl ▸ hnd) hm), x.above n c hm⟩
  have F' : Fr (hideAll s.heap (news.map (·.1))) s.heap.objs.size h₁ (bindL (envOfC qual scope s.heap.objs.size f cdv).kindOf binds fun _ => none) := ⟨x.toInCall.ns, fun b o e => hk₁ b o (of_hideAll _ e), Nat.le_of_eq (hideAll_size _ _)⟩
  have N' : News (hideAll s.heap (news.map (·.1))) s.heap.objs.size h₁ (cells ++ news) := fun p hp => by
    rcases List.mem_append.mp hp with hp | hp
    · refine ⟨(NC p hp).1, (NC p hp).2.1, ?_⟩
      cases q : (hideAll s.heap (news.map (·.1))).get? p.1 with
      | none => rfl
      | some o => have := of_hideAll _ q; rw [(NC p hp).2.2] at this; cases this
    · exact ⟨hk₁ _ _ (N p hp).1, Nat.ne_of_lt (Heap.lt_size (N p hp).1), hideAll_none _ (List.mem_map_of_mem hp)⟩
  exact wpAny_mono (h _ _ h₁ tk cells FG F' N' Y BG (X₀.keeps st) (T.keeps st) (fun p hp => Heap.lt_size (N p hp).1) fun b o e n => hideAll_get _ e n) (fun fl s' hl => lv _ _ hl) fun _ _ y => y
end

/-- a call that leaves all as it was and hands back a value told by P -/
def PE (lv : Nat) (w : World) (f : Addr) (args : List Value) (Pre : Heap → Prop) (P : Heap → Value → Heap → Prop) : Prop :=
  ∀ (p : Program) (loose : List PySem.Str) (mean : ExcName → Option Value) (mg mb : PySem.Str → Option Value) (dp un : Nat) (gd : Option (List Code)) (cn : PySem.Str) (cs : Scope) (a : Addr) (ccd : Value) (cl : List (PySem.Str × Addr)) (outer : List Env) (A₀ : Around) (base h₀ : Heap) (L : Addr) (m : PySem.Str → Option Value) (s : Shared) (E : Value → Shared → Prop),
    Below A₀ base outer h₀ → Fr h₀ L s.heap m → (Mine.hd0.heap_39 w.params).In h₀ → Top p loose mean mg mb h₀ → cs.kind = .function → dp + lv < recursionLimit → un + 16 * lv < cLine → Pre s.heap →
    wpAny (model PySem.Challenge.rw_in0262_01.row.prog w) (ktrTop dp un gd cn cs L a ccd cl outer) (call (.ref f) args) (fun v s' => (∃ h' tk, s' = { s with heap := h', toks := tk } ∧ Ext s.heap h') ∧ P s.heap v s'.heap) E s

section
variable {w : World} {A₀ : Around} {s : Shared} {base h₀ : Heap} {outer : List Env} {L : Addr} {m mg mb : PySem.Str → Option Value} {p : Program} {loose : List PySem.Str} {mean : ExcName → Option Value} {news : List (Addr × Obj)}
  {dp un : Nat} {gd : Option (List Code)} {cn : PySem.Str} {cs : Scope} {a f : Addr} {ccd : Value} {cl : List (PySem.Str × Addr)} {args : List Value} {Pre : Heap → Prop} {P : Heap → Value → Heap → Prop} {Q E : Value → Shared → Prop}
theorem addNew {h h' : Heap} {D : Addr} {o : Obj} (F : Fr h₀ L h m) (hn : h.get? D = none) (hD : h'.get? D = some o) (N : News h₀ L h' news) : News h₀ L h' ((D, o) :: news) := fun p hp => by
  rcases List.mem_cons.mp hp with rfl | hp
  · refine ⟨hD, ?_, ?_⟩
    · rintro e
      obtain ⟨oL, es, ep, hL, _⟩ := F.ns
      rw [show D = L from e, hL] at hn
      cases hn
    · cases q : h₀.get? D with
      | none => rfl
      | some o' => have := F.keep _ _ q; rw [hn] at this; cases this
  · exact N p hp
theorem PE.use {lv : Nat} (H : PE lv w f args Pre P) (B : Below A₀ base outer h₀) (F : Fr h₀ L s.heap m) (X : (Mine.hd0.heap_39 w.params).In h₀) (N : News h₀ L s.heap news) (T : Top p loose mean mg mb h₀) (hk : cs.kind = .function) (hd : dp + lv < recursionLimit) (hu : un + 16 * lv < cLine) (hp : Pre s.heap)
    (k : ∀ v h' tk', P s.heap v h' → Ext s.heap h' → Fr h₀ L h' m → News h₀ L h' news → (∀ D o, s.heap.get? D = none → h'.get? D = some o → News h₀ L h' ((D, o) :: news)) → Q v { s with heap := h', toks := tk' }) :
    wpAny (model PySem.Challenge.rw_in0262_01.row.prog w) (ktrTop dp un gd cn cs L a ccd cl outer) (call (.ref f) args) Q E s :=
  wpAny_mono (H _ _ _ _ _ _ _ _ _ _ _ _ _ _ _ _ _ _ _ _ _ B F X T hk hd hu hp) (fun v s' hv => by
    obtain ⟨⟨h', tk', rfl, hx⟩, hP⟩ := hv
    exact k v h' tk' hP hx (F.keeps hx) (N.grown hx) (fun D o hn hD => addNew F hn hD (N.grown hx))) fun _ _ e => e
end
theorem leave_ext {h₀ g h' : Heap} {L L' : Addr} {m m' : PySem.Str → Option Value} {s : Shared} {tk : Nat} {v : Value} {P : Heap → Value → Heap → Prop} {E : Value → Shared → Prop} {l : List (Addr × Obj)}
    (hg : ∀ b o, s.heap.get? b = some o → b ∉ (([] : List (Addr × Obj)).map (·.1)) → g.get? b = some o) (F' : Fr g L' h' m') (_ : News g L' h' l) (hP : P s.heap v h') :
    LeaveK h₀ L m g (fun r s' => match r with | .ok (.ret v) => (∃ h' tk, s' = { s with heap := h', toks := tk } ∧ Ext s.heap h') ∧ P s.heap v s'.heap | .ok _ => False | .error e => E e s') v { s with heap := h', toks := tk } :=
  leaveK_ (news' := []) F' News.nil fun _ _ => ⟨⟨h', tk, rfl, fun b o e => F'.keep b o (hg b o e (by simp))⟩, hP⟩
local macro_rules | `(tactic| k_room) => `(tactic| ktr_room)
local macro_rules | `(tactic| walk_at "m enterP") => `(tactic| (refine' enterP ?k1 ?k2 ?k3 ?k4 ?k5 ?kA ?kF ?kK ?k6 ?k7 ?k8 ?k9 ?kB ?_ ?c2 ?c3 ?c4 ?c5; (case kA => exact rfl); (case kF => exact rfl); (case kK => exact rfl); (case k1 => k_asm); (case k2 => k_asm); (case k3 => k_asm); (case k4 => first | k_asm | exact News.nil); (case k5 => k_asm); (case k6 => k_is); (case k7 => k_is); (case k8 => k_room); (case k9 => exact BindsTo.of_eq rfl); (case c5 => decide); (case kB => exact locs rfl); (case c2 => exact rfl); (case c3 => exact rfl); (case c4 => exact rfl); k_whole; intro g' L' h' FG' F' N' B' X' T' hg; (try dsimp only); (try k_lift B'); (try k_fold)))
local macro_rules | `(tactic| walk_at "m enterC") => `(tactic| (refine' enterC ?k1 ?k2 ?k3 ?k4 ?k5 ?kA ?kF ?kK ?k6 ?k7 ?k8 ?k9 ?kB ?kD ?_ ?c2 ?c3 ?c4; (case kA => exact rfl); (case kF => exact rfl); (case kK => exact rfl); (case k1 => k_asm); (case k2 => k_asm); (case k3 => k_asm); (case k4 => first | k_asm | exact News.nil); (case k5 => k_asm); (case k6 => k_is); (case k7 => k_is); (case k8 => k_room); (case k9 => exact BindsTo.of_eq rfl); (case kB => exact rfl); (case kD => decide +kernel); (case c2 => exact rfl); (case c3 => exact rfl); (case c4 => exact rfl); k_whole; intro g' L' h' tk' cells' FG' F' N' Y' B' X' T' l1 hg; (try k_lt l1); k_cells Y'; (try simp only [List.cons_append, List.nil_append] at N'); (try dsimp only); (try k_lift B'); (try k_fold)))
local macro_rules | `(tactic| k_ne) => `(tactic| (refine neN ?_; (try dsimp only); first | with_reducible assumption | with_reducible exact Ne.symm (by assumption) | with_reducible exact Ne.symm (And.left (by assumption)) | with_reducible exact Ne.symm (And.left (And.right (by assumption))) | with_reducible exact Ne.symm (And.left (And.right (And.right (by assumption)))) | with_reducible exact Ne.symm (And.left (And.right (And.right (And.right (by assumption))))) | with_reducible exact Ne.symm (And.left (And.right (And.right (And.right (And.right (by assumption)))))) | with_reducible exact Ne.symm (And.left (And.right (And.right (And.right (And.right (And.right (by assumption))))))) | with_reducible exact Ne.symm (And.left (And.right (And.right (And.right (And.right (And.right (And.right (by assumption)))))))) | with_reducible exact Ne.symm (And.left (And.right (And.right (And.right (And.right (And.right (And.right (And.right (by assumption))))))))) | with_reducible exact Ne.symm (And.left (And.right (And.right (And.right (And.right (And.right (And.right (And.right (And.right (by assumption)))))))))) | omega))
section
/-- a text by its signs' numbers -/
abbrev tx (cs : List Nat) : PySem.Str := ⟨cs.toArray⟩
theorem tx_length (cs : List Nat) : (tx cs).length = cs.length := by show cs.toArray.size = _; simp
theorem tx_inj {a b : List Nat} (h : tx a = tx b) : a = b := by
  have := congrArg PySem.Str.cps h
  simpa using this
theorem tx_append (a b : List Nat) : tx a ++ tx b = tx (a ++ b) := by
  show (⟨a.toArray ++ b.toArray⟩ : PySem.Str) = _
  simp
theorem item_tx {cs : List Nat} {i : Int} (h0 : 0 ≤ i) (h1 : i < cs.length) : PySem.Txt.item (tx cs) i = tx [cs.getD i.toNat 0] := by
  unfold PySem.Txt.item PySem.Txt.charAt
  have e : seqIndex? i (tx cs).length = some i.toNat := by
    unfold seqIndex?
    rw [tx_length]
    have hn : ¬ i < 0 := by omega
    simp only [hn, if_false]
    rw [if_pos (by simp; omega)]
  rw [e]
  have hi : i.toNat < cs.length := by omega
  simp [List.getD_eq_getElem?_getD, hi]
theorem join_tx (xs : List (List Nat)) : PySem.Txt.join (PySem.Str.ofString "") (xs.map tx) = tx xs.flatten := by
  show (Builtin.Str.glued (PySem.Str.ofString "") (xs.map tx)) = _
  unfold Builtin.Str.glued
  have e0 : (PySem.Str.ofString "").cps = #[] := by decide
  rw [e0]
  have key : ∀ (ys : List (List Nat)) (acc : List Nat), (ys.map tx).foldl (fun acc p => acc ++ #[] ++ p.cps) acc.toArray = (acc ++ ys.flatten).toArray := by
    intro ys
    induction ys with
    | nil => intro acc; simp
    | cons y r ih =>
      intro acc
      rw [List.map_cons, List.foldl_cons]
      have : acc.toArray ++ #[] ++ (tx y).cps = (acc ++ y).toArray := by simp
      rw [this, ih]
      simp
  cases xs with
  | nil => rfl
  | cons x r =>
    show (⟨(r.map tx).foldl (fun acc p => acc ++ #[] ++ p.cps) (tx x).cps⟩ : PySem.Str) = _
    rw [show (tx x).cps = x.toArray from rfl, key]
    rfl
theorem carried4 {f : Int → PySem.Str} {ys : List Value} (h : CarriedAll ys ((rangeKs 0 4).map fun k => PyData.str (f k))) :
    ∃ t0 t1 t2 t3, ys = [.str (f 0) t0, .str (f 1) t1, .str (f 2) t2, .str (f 3) t3] := by
  have e : (rangeKs 0 4).map (fun k => PyData.str (f k)) = [.str (f 0), .str (f 1), .str (f 2), .str (f 3)] := rfl
  rw [e] at h
  cases h with | cons a h => cases h with | cons b h => cases h with | cons c h => cases h with | cons d h =>
    cases h; cases a; cases b; cases c; cases d
    exact ⟨_, _, _, _, rfl⟩
section
variable {prog : Program} {w : World} {A : Around} {E : Value → Shared → Prop} {s : Shared}
theorem len_tx {cs : List Nat} {t : Tok} {Q : Value → Shared → Prop} (hn : cs.length ≤ 100000) (h : ∀ t' tk, Q (.int cs.length t') { s with toks := tk }) : wpAny (model prog w) A (call (.builtin "len") [.str (tx cs) t]) Q E s :=
  len_str (by rw [tx_length]; omega) (by rw [tx_length]; exact h _ _)
theorem getItem_tx {cs : List Nat} {t u : Tok} {i : Int} {value slice : Expr} {Q : Value → Shared → Prop} (h0 : 0 ≤ i) (h1 : i < cs.length) (hn : cs.length ≤ 100000) (h : ∀ t' tk, Q (.str (tx [cs.getD i.toNat 0]) t') { s with toks := tk })
    (hs : subscripted slice false (.str (tx cs) t) (.int i u) = operate [.str (tx cs) t, .int i u] (getItem (.str (tx cs) t) (.int i u)) := by with_unfolding_all rfl)
    (ht : ∀ r, letTemporaryGo value (.str (tx cs) t) r = pure () := by intro _; with_unfolding_all rfl) :
    wpAny (model prog w) A (subscriptTail value slice (.str (tx cs) t) (.int i u)) Q E s := by
  refine KXi.item (n := cs.length) (tx_length cs) (by omega) h1 (by omega) (fun _ => ?_) hs ht
  rw [item_tx h0 h1]
  exact h _ _
theorem eq_tx1 {c d : Nat} {y : PySem.Str} {t u : Tok} {Q : Value → Shared → Prop} (hy : y = tx [d]) (h : Q (.bool (decide (c = d))) s) : wpAny (model prog w) A (compareOp .Eq (.str (tx [c]) t) (.str y u)) Q E s := by
  subst hy
  refine eq_str ?_
  have : (tx [c] == tx [d]) = decide (c = d) := by
    by_cases e : c = d
    · subst e; simp
    · have : ¬ tx [c] = tx [d] := fun q => e (by simpa using tx_inj q)
      simp [e]
  rw [this]
  exact h
end
end
section
section
variable {prog : Program} {w : World} {A : Around} {E : Value → Shared → Prop} {s : Shared} {h₀ : Heap} {L : Addr} {env : Env}
/-- the end of a turn of a while -/
def WEnd (h₀ : Heap) (L : Addr) (J : Nat → (PySem.Str → Option Value) → List (Addr × Obj) → Prop) (n : Nat) (s : Shared) (Q : Flow → Shared → Prop) (f : Flow) (s₃ : Shared) : Prop :=
  match f with
  | .next | .cont => ∃ n' m' news' h' tk', s₃ = { s with heap := h', toks := tk' } ∧ n' < n ∧ J n' m' news' ∧ Fr h₀ L h' m' ∧ News h₀ L h' news'
  | .brk => Q .next s₃
  | .ret v => Q (.ret v) s₃
theorem WEnd.next {J : Nat → (PySem.Str → Option Value) → List (Addr × Obj) → Prop} {n n' : Nat} {Q : Flow → Shared → Prop} {m' : PySem.Str → Option Value} {news' all : List (Addr × Obj)} {h' : Heap} {tk' : Nat}
    (F : Fr h₀ L h' m') (N : News h₀ L h' all) (hs : ∀ p ∈ news', p ∈ all) (hn : n' < n) (hJ : J n' m' news') : WEnd h₀ L J n s Q .next { s with heap := h', toks := tk' } :=
  ⟨n', m', news', h', tk', rfl, hn, hJ, F, fun p hp => N p (hs p hp)⟩
theorem while_K {test : Expr} {body : List Stmt} {pos : Pos} {Q : Flow → Shared → Prop} (J : Nat → (PySem.Str → Option Value) → List (Addr × Obj) → Prop) {n₀ : Nat} {m₀ : PySem.Str → Option Value} {news₀ all : List (Addr × Obj)}
    (F : Fr h₀ L s.heap m₀) (N : News h₀ L s.heap all) (hs : ∀ p ∈ news₀, p ∈ all) (h0 : J n₀ m₀ news₀)
    (turn : ∀ n m news h tk (E' : Value → Shared → Prop), J n m news → Fr h₀ L h m → News h₀ L h news →
      wpAny (model prog w) A (isTrue test env (eval test env)) (fun b s₂ => if b = true then wpAny (model prog w) A (execs body env) (WEnd h₀ L J n s Q) E' s₂ else Q .next s₂) E' { s with heap := h, toks := tk }) :
    wpAny (model prog w) A (exec (.While test body [] pos) env) Q E s := by
  refine wpAny_While ?_
  refine codeAny_whileLoop (fun n s' => ∃ m news h tk, s' = { s with heap := h, toks := tk } ∧ J n m news ∧ Fr h₀ L h m ∧ News h₀ L h news) ?_ n₀ ⟨m₀, news₀, s.heap, s.toks, rfl, h0, F, fun p hp => N p (hs p hp)⟩
  rintro n s' ⟨m, news, h, tk, rfl, hJ, F', N'⟩
  refine wpAny_mono (turn n m news h tk _ hJ F' N') (fun b s₂ hb => ?_) fun _ _ e => e
  cases b with
  | true =>
    simp only [if_true] at hb ⊢
    refine wpAny_mono hb (fun f s₃ hf => ?_) fun _ _ e => e
    cases f with
    | next => obtain ⟨n', m', news', h', tk', e, hn, hJ, F'', N''⟩ := hf; exact ⟨n', hn, m', news', h', tk', e, hJ, F'', N''⟩
    | cont => obtain ⟨n', m', news', h', tk', e, hn, hJ, F'', N''⟩ := hf; exact ⟨n', hn, m', news', h', tk', e, hJ, F'', N''⟩
    | brk => exact hf
    | ret v => exact hf
  | false =>
    simp only [Bool.false_eq_true, if_false] at hb ⊢
    exact wpAny_execs_nil hb
end
end
section
theorem and_pe (w : World) (x y : Int) (tx ty : Tok) : PE 2 w 38 [.int x tx, .int y ty] (fun _ => True) (fun _ v _ => ∃ t, v = .int (Builtin.bitAnd x y) t) := by
  unfold PE
  k_fill
  intro p loose mean mg mb dp un gd cn cs a ccd cl outer A₀ base h₀ L m s E B F X T hk hd hu hp
  obtain ⟨ck, cnm, c1, c2, c3⟩ := cs
  cases hk
  refine wpAny_call ?_
  k_dflt walk_at "m enterP"
  iterate 7 walk1
  exact leave_ext (P := fun _ v _ => ∃ t, v = .int (Builtin.bitAnd x y) t) (by assumption) (by assumption) (by assumption) ⟨_, rfl⟩
theorem or_pe (w : World) (x y : Int) (tx ty : Tok) : PE 2 w 45 [.int x tx, .int y ty] (fun _ => True) (fun _ v _ => ∃ t, v = .int (Builtin.bitOr x y) t) := by
  unfold PE
  k_fill
  intro p loose mean mg mb dp un gd cn cs a ccd cl outer A₀ base h₀ L m s E B F X T hk hd hu hp
  obtain ⟨ck, cnm, c1, c2, c3⟩ := cs
  cases hk
  refine wpAny_call ?_
  k_dflt walk_at "m enterP"
  iterate 7 walk1
  exact leave_ext (P := fun _ v _ => ∃ t, v = .int (Builtin.bitOr x y) t) (by assumption) (by assumption) (by assumption) ⟨_, rfl⟩
end
section
/-- the figure of the number at a place -/
def fig (x k : Int) : Nat := [55, 59, 61, 62, 63].getD ((x.fdiv (5 ^ k.toNat)).fmod 5).toNat 0
def spo (x : Int) : Int := (x.fdiv 625).fmod 8 - 4
def balAt (x k : Int) : Nat := if k = spo x then 233 else fig x k
def bal (x : Int) : List Nat := [balAt x 0, balAt x 1, balAt x 2, balAt x 3]
theorem signs_lit : PySem.Str.ofString "7;=>?" = tx [55, 59, 61, 62, 63] := by decide
theorem fig_item {x k : Int} : PySem.Txt.item (PySem.Str.ofString "7;=>?") ((x.fdiv (5 ^ k.toNat)).fmod 5) = tx [fig x k] := by
  have h0 := Int.fmod_nonneg_of_pos (x.fdiv (5 ^ k.toNat)) (show (0:Int) < 5 by decide)
  have h1 := Int.fmod_lt_of_pos (x.fdiv (5 ^ k.toNat)) (show (0:Int) < 5 by decide)
  rw [signs_lit, item_tx h0 (by simpa using h1)]
  rfl
theorem bal_join (x : Int) : PySem.Txt.join (PySem.Str.ofString "") ((rangeKs 0 4).map fun a => tx [balAt x a]) = tx (bal x) := join_tx [[balAt x 0], [balAt x 1], [balAt x 2], [balAt x 3]]
local macro_rules | `(tactic| walk_at "binaryOp Pow int int") => `(tactic| (k_here; (refine pow_int_small ?kb1 ?kb2 ?kb3 ?_); (case kb1 => omega); (case kb2 => omega); (case kb3 => decide)))
theorem ballot_pe (w : World) (x : Int) (tx : Tok) : PE 2 w 110 [.int x tx] (fun _ => True) (fun _ v _ => ∃ t, v = .str (Mine.tx (bal x)) t) := by
  unfold PE
  k_fill
  intro p loose mean mg mb dp un gd cn cs a ccd cl outer A₀ base h₀ L m s E B F X T hk hd hu hp
  obtain ⟨ck, cnm, c1, c2, c3⟩ := cs
  cases hk
  refine wpAny_call ?_
  k_dflt walk_at "m enterC"
  rename Fr _ _ _ _ => F0
  obtain ⟨m0, F0'⟩ : ∃ m0, Fr _ _ _ m0 := ⟨_, F0⟩
  clear F0
  walk1; walk1
  k_dflt (refine LCg.ListComp_U (F₀ := by k_asm) (by with_unfolding_all rfl) (by decide) (by rfl) (by decide) (by rfl) ?_)
  iterate 7 walk1
  k_dflt (refine LCg.CompSrc.range (n := 4) (by rfl) (by k_asm) (by k_asm) (by assumption) (by decide) (by decide) (by decide) ?_)
  intro g₁
  refine kct_range (fun k => Mine.tx [fig x k]) ?_ ?_
  · intro k t I oI C oC D m₂ ys h tk E' hk1 hk2 hC hx F₁ N₁ off ne mk
    have hk4 : k = 0 ∨ k = 1 ∨ k = 2 ∨ k = 3 := by omega
    rcases hk4 with rfl | rfl | rfl | rfl
    all_goals (iterate 13 walk1)
    all_goals (refine LCg.CompEnd.intro (by assumption) N₁ _ (fun _ h => h) off trivial ?_)
    all_goals exact kct_el (r' := _) (fig_item (x := x)).symm rfl rfl
  · unfold KPfDone
    intro ys hy _
    obtain ⟨t0, t1, t2, t3, rfl⟩ := carried4 hy
    clear hy
    walk1
    iterate 16 walk1
    iterate 6 walk1
    k_dflt (refine LCg.ListComp_U (F₀ := by k_asm) (by with_unfolding_all rfl) (by decide) (by rfl) (by decide) (by rfl) ?_)
    iterate 7 walk1
    k_dflt (refine LCg.CompSrc.range (n := 4) (by rfl) (by k_asm) (by k_asm) (by assumption) (by decide) (by decide) (by decide) ?_)
    intro g₂
    refine kct_range (fun k => Mine.tx [balAt x k]) ?_ ?_
    · intro k t I oI C oC D m₂ ys h tk E' hk1 hk2 hC hx F₁ N₁ off ne mk
      have hk4 : k = 0 ∨ k = 1 ∨ k = 2 ∨ k = 3 := by omega
      rcases hk4 with rfl | rfl | rfl | rfl
      all_goals (iterate 8 walk1)
      all_goals first
        | (iterate 3 walk1
           refine LCg.CompEnd.intro (by assumption) N₁ _ (fun _ h => h) off trivial ?_
           exact kct_el (r' := _) (by unfold balAt spo; rw [if_neg (by omega)]) rfl rfl)
        | (iterate 1 walk1
           refine LCg.CompEnd.intro (by assumption) N₁ _ (fun _ h => h) off trivial ?_
           exact kct_el (r' := _) (by unfold balAt spo; rw [if_pos (by omega)]; decide) rfl rfl)
    · unfold KPfDone
      intro ys hy _
      walk1
      iterate 2 walk1
      exact leave_ext (P := fun _ v _ => ∃ t, v = .str (Mine.tx (bal x)) t) (by assumption) (by assumption) (by assumption) ⟨_, congrArg (fun y => Value.str y _) (bal_join x)⟩
end
section
section
variable {prog : Program} {w : World} {A : Around} {E : Value → Shared → Prop} {s : Shared}
theorem tab_key {v : Value} (k : Int) (tk : Tok) (hk : hashInt k = k) : ∃ j, (intKind prog w).is j (DictEntry.key ⟨k, .int k tk, v⟩) = true ∧ DictEntry.hash ⟨k, .int k tk, v⟩ = (intKind prog w).hash j :=
  ⟨k, by show Value.isInt k (.int k tk) = true; simp [Value.isInt], hk.symm⟩
theorem forIn_one {β : Type} {M : Model} {f : Nat → β → Sem (ForInStep β)} {b : β} {c : Nat} {Q : β → Shared → Prop} (h : wpAny M A (f c b) (fun r s' => match r with | .yield b' => Q b' s' | .done b' => Q b' s') E s) :
    wpAny M A (forIn #[c] b f) Q E s := by
  rw [← Array.forIn_toList]
  show wpAny M A (forIn [c] b f) Q E s
  rw [List.forIn_cons]
  refine wpAny_bind (wpAny_mono h (fun r s' hr => ?_) fun _ _ e => e)
  cases r with
  | yield b' => exact wpAny_pure hr
  | done b' => exact wpAny_pure hr
theorem tab81 (prog : Program) (w : World) : ∃ o es ep, ((Mine.hd0.heap_39 w.params).lookup 81 : Option Obj) = some o ∧ o.ExactDict ∧ o.data = .dict es ep ∧ PySem.KeysOf (intKind prog w) es ∧ ∀ c : Nat, 48 ≤ c → c ≤ 62 → findBy (intKind prog w).is es (c : Int) = none := by
  refine ⟨_, _, _, rfl, ?_, rfl, ?_, ?_⟩
  · exact ⟨rfl, rfl, rfl⟩
  · intro e he
    simp only [List.mem_toArray, List.mem_cons, List.not_mem_nil, or_false] at he
    rcases he with rfl | rfl | rfl | rfl | rfl | rfl | rfl | rfl | rfl | rfl | rfl | rfl | rfl | rfl | rfl | rfl | rfl | rfl | rfl | rfl | rfl | rfl | rfl | rfl
    all_goals exact tab_key _ _ (by decide)
  · intro c h1 h2
    rw [findBy_of_findIdx?]
    have : ∀ e : Int, (e < 48 ∨ 62 < e) → ∀ t, (intKind prog w).is (c : Int) (.int e t) = false := by
      intro e he t
      show Value.isInt (c : Int) (.int e t) = false
      simp [Value.isInt]
      omega
    simp [List.findIdx?_toArray, List.findIdx?_cons, this]
theorem tl81 {c : Nat} (h1 : 48 ≤ c) (h2 : c ≤ 62) (hh : A.handled = none) {Q : Builtin.Str.Mapped → Shared → Prop} (X : (Mine.hd0.heap_39 w.params).In s.heap)
    (h : ∀ h' tk, Ext s.heap h' → Q .keep { s with heap := h', toks := tk }) :
    wpAny (model prog w) A (Builtin.Str.tableLookup (.ref 81) c) Q E s := by
  obtain ⟨o, es, ep, hl, hx, hd, hk, hf⟩ := tab81 prog w
  unfold Builtin.Str.tableLookup
  refine wpAny_bind (wpAny_attempt (wpAny_bind (wpAny_mkInt ?_)))
  have hm : s.heap.MapOf (intKind prog w) 81 (fun k => findBy (intKind prog w).is es k) := ⟨o, es, ep, X _ _ hl, hx, hd, hk, fun _ => rfl⟩
  refine wpAny_getItem_missing_of (knd := intKind prog w) (k := (c : Int)) (by simp [intKind, Value.isInt]) (by decide) hh (s := { s with toks := s.toks + 1 }) hm (hf c h1 h2) ?_
  intro h' e hN
  dsimp only
  obtain ⟨ob, t, he, hc, hdt⟩ := hN.there
  refine wpAny_bind (wpAny_isInstance (T := "KeyError") (b := true) ?_ (by rw [isSubtype_type]; kernel_rfl) ?_)
  · exact ⟨ob, he, hc⟩
  · simp only [if_true]
    exact wpAny_bind (wpAny_rule (wpAny_pure (h _ _ hN.keeps)))
theorem tr_call {c : Nat} {t : Tok} (h1 : 48 ≤ c) (h2 : c ≤ 62) (hh : A.handled = none) {Q : Value → Shared → Prop} (X : (Mine.hd0.heap_39 w.params).In s.heap)
    (h : ∀ h' tk t', Ext s.heap h' → Q (.str (tx [c]) t') { s with heap := h', toks := tk }) :
    wpAny (model prog w) A (call (.builtin "str.translate") [.str (tx [c]) t, .ref 81]) Q E s := by
  refine wpAny_call_entry PySem.F.slot_str_translate (typeIs_str s _ t) PySem.F.entry_str_translate ?_ (PySem.F.args_str_translate_2 _ _)
  unfold Builtin.«str.translate»
  refine wpAny_bind (wpAny_of_eq (a := (.str (tx [c]) t, tx [c], .ref 81)) (by rfl) ?_)
  dsimp only
  rw [if_neg (by simp [tx_length])]
  have hf : (tx [c]).cps.all (fun x => decide (x < 128)) = true := by simp; omega
  rw [hf]
  refine wpAny_bind ?_
  refine forIn_one ?_
  dsimp only
  rw [if_neg (by decide)]
  simp only [if_true, List.lookup_nil]
  refine wpAny_bind (tl81 (A := A.in1) h1 h2 hh X fun h' tk hx => ?_)
  dsimp only
  refine wpAny_bind (wpAny_pure ?_)
  refine wpAny_pure ?_
  dsimp only
  rw [if_neg (by decide)]
  exact wpAny_bind (wpAny_mkStr (wpAny_pure ⟨_, rfl, h _ _ _ hx⟩) (show (tx [c]).length ≤ sizeLine by rw [tx_length]; exact (by decide : 1 ≤ sizeLine)))
theorem tr_call_K {h₀ : Heap} {L : Addr} {m : PySem.Str → Option Value} {news : List (Addr × Obj)} {c : Nat} {t : Tok} (F : Fr h₀ L s.heap m) (N : News h₀ L s.heap news) (h1 : 48 ≤ c) (h2 : c ≤ 62) (hh : A.handled = none) {Q : Value → Shared → Prop} (X : (Mine.hd0.heap_39 w.params).In s.heap)
    (h : ∀ h' tk t', Fr h₀ L h' m → News h₀ L h' news → Q (.str (tx [c]) t') { s with heap := h', toks := tk }) :
    wpAny (model prog w) A (call (.builtin "str.translate") [.str (tx [c]) t, .ref 81]) Q E s :=
  tr_call h1 h2 hh X fun h' tk t' hx => h h' tk t' (F.keeps hx) (N.grown hx)
end
end
section
section
variable {prog : Program} {w : World} {A : Around} {E : Value → Shared → Prop} {s : Shared}
/-- the bound method res.append -/
def boundApp (l : Addr) : Obj := { cls := .type "builtin_function_or_method", data := .fields #[.builtin "list.append", .ref l] }
theorem ap_slot_get : Slot "method_descriptor" "__get__" "method_descriptor.__get__" :=
  .of (owner := "method_descriptor") (n := "__get__") (by rw [typeLookup_type, builtinLookup_eq_fast]; kernel_rfl) (by decide +kernel) (by decide +kernel) (by decide +kernel)
    (by first | exact .inl (by decide +kernel) | exact .inr (by decide +kernel)) (by rw [isSubtype_type]; kernel_rfl)
theorem ap_entry_get : entryFor table "method_descriptor.__get__" = some Builtin.«method_descriptor.__get__» := entryFor_of_tree (by kernel_rfl)
theorem ap_args_get (a b c : Value) : argsOk "method_descriptor.__get__" ⟨[a, b, c], []⟩ := by unfold argsOk; kernel_rfl
theorem ap_type : typeOf (.builtin "list.append") = pure (.type "method_descriptor") := by show builtinType _ = _; rw [builtinType_eq_fast]; kernel_rfl
theorem ap_no_set : typeLookup (.type "method_descriptor") (PySem.Str.ofString "__set__") = pure none := by rw [typeLookup_type, builtinLookup_eq_fast]; kernel_rfl
theorem ap_no_delete : typeLookup (.type "method_descriptor") (PySem.Str.ofString "__delete__") = pure none := by rw [typeLookup_type, builtinLookup_eq_fast]; kernel_rfl
theorem ap_sub : isSubtype (.type "list") (.type "list") = pure true := by rw [isSubtype_type]; kernel_rfl
theorem ap_run_get {l : Addr} {xs : Array Value} {n : Nat} {P : Fin → Shared → Prop} (ho : s.heap.get? l = some { cls := .type "list", data := .seq xs n })
    (h : P (.done (.ret (.ref s.heap.objs.size))) { s with heap := s.heap.push (boundApp l) }) :
    wpAny (model prog w) A (Builtin.«method_descriptor.__get__» ⟨[.builtin "list.append", .ref l, .type "list"], []⟩) P E s := by
  obtain ⟨hp, g, d, tk, os⟩ := s
  have hT : ∀ tk', (⟨hp, g, d, tk', os⟩ : Shared).TypeIs (.ref l) "list" := fun _ => ⟨_, ho, rfl⟩
  have f1 := ap_sub
  unfold Builtin.«method_descriptor.__get__»
  repeat (any_goals (first | assumption | exact hT _ | wp_step))
  have e : ".".intercalate ("list.append".cutAt '.').dropLast = "list" := by decide +kernel
  refine wpAny_of_eq (a := true) (by rw [e]; exact ap_sub) ?_
  rw [if_neg (by decide)]
  refine wpAny_pure ?_
  unfold newFields
  refine wpAny_bind (wpAny_newObj_type ?_ (by size_fits))
  exact wpAny_pure h
theorem ap_meets (l : Addr) (xs : Array Value) (n : Nat) (u : Tok) : Meets (Builtin.«object.__getattribute__» ⟨[.ref l, .str (PySem.Str.ofString "append") u], []⟩)
    (fun _ R s => s.heap.get? l = some { cls := .type "list", data := .seq xs n } ∧ ∀ tk, R (.ok (.ret (.ref s.heap.objs.size))) { s with heap := s.heap.push (boundApp l), toks := tk }) :=
  Meets.of_wp fun prog w A R s hs => by
    obtain ⟨hp, g, d, tk, os⟩ := s
    obtain ⟨hx, hs⟩ := hs
    have hT : ∀ tk', (⟨hp, g, d, tk', os⟩ : Shared).TypeIs (.ref l) "list" := fun _ => ⟨_, hx, rfl⟩
    have f6 := PySem.F.slot_list_append.lookup
    have f7 := ap_type
    have f8 := ap_slot_get.lookup
    have f9 := ap_no_set
    have f10 := ap_no_delete
    unfold Builtin.«object.__getattribute__»
    repeat (any_goals (first | assumption | exact hT _ | wp_step))
    refine codeAny_call_builtin ap_slot_get.plain ap_entry_get (ap_slot_get.check _ _ _ _ _ _ _ _ ap_type (ap_args_get _ _ _) (ap_run_get hx ?_))
    exact wpAny_pure ⟨_, rfl, hs _⟩
theorem ap_getattr_list {l : Addr} {xs : Array Value} {n : Nat} {Q : Value → Shared → Prop}
    (ho : s.heap.get? l = some { cls := .type "list", data := .seq xs n })
    (h : ∀ tk, Q (.ref s.heap.objs.size) { s with heap := s.heap.push (boundApp l), toks := tk }) :
    wpAny (model prog w) A (getAttr (.ref l) (PySem.Str.ofString "append") true) Q E s := by
  obtain ⟨hp, g, d, tk, os⟩ := s
  have hT : ∀ tk', (⟨hp, g, d, tk', os⟩ : Shared).TypeIs (.ref l) "list" := fun _ => ⟨_, ho, rfl⟩
  have f3 := PySem.F.slot_list_getattribute.lookup
  have f4 := PySem.F.slot_list_getattribute.bind (.ref l)
  have f5 := am_list_getattr_none
  have f6 := PySem.F.slot_list_append.lookup
  unfold getAttr getAttrBy
  repeat (any_goals (first | assumption | exact hT _ | ((with_reducible show wpAny _ _ (call (Value.builtin "list.__getattribute__") _ _) _ _ _); refine call_meets PySem.F.slot_list_getattribute (hT _) am_entry_list_getattribute (PySem.F.args_list_getattribute_2 _ _) (ap_meets l xs n _) ⟨ho, fun tk' => ?_⟩) | wp_step))
  show wpAny _ _ (handedOut _) _ _ _
  exact wpAny_pure (h _)
theorem ap_check {l : Addr} {xs : Array Value} {n : Nat} {v : Value} {Q : Unit → Shared → Prop} (ho : s.heap.get? l = some { cls := .type "list", data := .seq xs n }) (h : Q () s) :
    wpAny (model prog w) A (checkBoundCall "list.append" ⟨[.ref l, v], []⟩) Q E s := by
  obtain ⟨hp, g, d, tk, os⟩ := s
  have hT : ∀ tk', (⟨hp, g, d, tk', os⟩ : Shared).TypeIs (.ref l) "list" := fun _ => ⟨_, ho, rfl⟩
  have f1 : isSubtype (.type "list") (.type "module") = pure false := by rw [isSubtype_type]; kernel_rfl
  unfold checkBoundCall
  repeat (any_goals (first | assumption | exact hT _ | wp_step))
theorem ap_call {l f : Addr} {xs : Array Value} {n : Nat} {v : Value} {Q : Value → Shared → Prop} (hf : s.heap.get? f = some (boundApp l)) (ho : s.heap.get? l = some { cls := .type "list", data := .seq xs n }) (hsz : xs.size ≤ sizeLine)
    (h : ∀ h', Heap.SameBut l s.heap h' → h'.get? l = some { cls := .type "list", data := .seq (xs.push v) (n + 1) } → Q .none { s with heap := h' }) :
    wpAny (model prog w) A (call (.ref f) [v]) Q E s := by
  refine wpAny_call (codeAny_of_tree ?_)
  show wpAny _ A.in1 (callAny (.ref f) ⟨[v], []⟩) _ _ s
  simp only [callAny]
  refine wpAny_bind (wpAny_load hf ?_)
  simp only [boundApp, show (Value.type "builtin_function_or_method" == Value.type "method" || Value.type "builtin_function_or_method" == Value.type "builtin_function_or_method" || Value.type "builtin_function_or_method" == Value.type "method-wrapper") = true by decide, if_true]
  refine KFB.if_so (by decide) ?_
  refine wpAny_bind (ap_check ho ?_)
  refine wpAny_bind (wpAny_pure (wpAny_pure ⟨Code.quiet_builtin _ (by decide +kernel), codeAny_builtin entry_list_append ?_⟩))
  show wpAny _ _ (updateSeq l (·.push v) >>= fun _ => ret .none) _ _ s
  refine wpAny_bind (wpAny_updateSeq (hz := hsz) ho rfl (wpAny_pure (h _ (Heap.SameBut.update ..) ?_)))
  rw [Heap.get?_update_self _ ho (by rw [mapSeq_push]; rfl), mapSeq_push]
def AppAt (f l : Addr) (h : Heap) : Prop := h.get? f = some (boundApp l)
theorem ap_callWith {M : Model} {pos : Pos} {f l : Addr} {first : List Value} {env : Env} {e : Expr} {rest : List Expr} {Q : Value → Shared → Prop}
    (h : wpAny M A (spliced (backTo pos (starEach (e :: rest) env))) (fun vs s₁ => AppAt f l s₁.heap ∧ wpAny M A (call (.ref f) (first ++ vs)) Q E s₁) E s)
    (he : starEach (e :: rest) env = (false, eval e env) :: starEach rest env := by rfl) (hplain : (backTo pos (starEach rest env)).any (·.1) = false := by rfl) :
    wpAny M A (callWith pos (.ref f) first (backTo pos (starEach (e :: rest) env)) []) Q E s := by
  rw [he] at h ⊢
  have h2 : wpAny M A (evalArgs (.ref f) true (backTo pos ((false, eval e env) :: starEach rest env)) []) (fun x s₁ => AppAt f l s₁.heap ∧ wpAny M A (call (.ref f) (first ++ x.pos) x.kw) Q E s₁) E s := evalArgs_plain h
  have hp : (backTo pos ((false, eval e env) :: starEach rest env)).any (·.1) = false := by show (false || (backTo pos (starEach rest env)).any (·.1)) = false; rw [hplain]; rfl
  unfold callWith
  refine wpAny_bind (wpAny_holding (wpAny_mono h2 (fun x s₁ h₁ => wpAny_bind (wpAny_standAt ?_)) fun _ _ x => x))
  obtain ⟨ho, hcall⟩ := h₁
  simp only [hp, List.any_nil, Bool.or_false]
  refine wpAny_bind (m := keeperOf (.ref f)) ?_
  unfold keeperOf
  refine wpAny_bind (wpAny_load ho ?_)
  simp only [boundApp, show (Value.type "builtin_function_or_method" != Value.type "method") = true by decide, show (Value.type "builtin_function_or_method" == Value.type "builtin_function_or_method" || Value.type "builtin_function_or_method" == Value.type "method-wrapper") = true by decide, if_true]
  refine wpAny_pure ?_
  exact wpAny_bind (wpAny_mono hcall (fun r s₂ hr => wpAny_bind (wpAny_holding (wpAny_point (wpAny_pure hr)))) fun _ _ x => x)
section
variable {h₀ : Heap} {L : Addr} {m : PySem.Str → Option Value} {news news' : List (Addr × Obj)}
theorem ap_getattr_K {l : Addr} {xs : Array Value} {n : Nat} {Q : Value → Shared → Prop} (F : Fr h₀ L s.heap m) (N : News h₀ L s.heap news) (hm : (l, ({ cls := .type "list", data := .seq xs n } : Obj)) ∈ news)
    (h : ∀ f h' tk, Fr h₀ L h' m → News h₀ L h' ((f, boundApp l) :: news) → (∀ p ∈ news, p.1 < f) → Q (.ref f) { s with heap := h', toks := tk }) :
    wpAny (model prog w) A (getAttr (.ref l) (PySem.Str.ofString "append") true) Q E s :=
  ap_getattr_list (N.get hm) fun tk => h _ _ _ (F.push _) (News.push F N _) fun p hp => Heap.lt_size (N p hp).1
theorem ap_call_K {f l : Addr} {xs : Array Value} {n : Nat} {v : Value} {Q : Value → Shared → Prop} (F : Fr h₀ L s.heap m) (N : News h₀ L s.heap news) (hm : (f, boundApp l) ∈ news) (U : Upd l (listOf xs n) (listOf (xs.push v) (n + 1)) news news') (hsz : xs.size ≤ sizeLine)
    (h : ∀ h', Fr h₀ L h' m → News h₀ L h' news' → Q .none { s with heap := h' }) : wpAny (model prog w) A (call (.ref f) [v]) Q E s := by
  obtain ⟨pre, post, rfl, rfl, a, b⟩ := U.split
  have z := N (l, listOf xs n) (List.mem_append.mpr (.inr (.head _)))
  exact ap_call (N.get hm) z.1 hsz fun h' hs ho' => h h' (F.change hs z.2.1 z.2.2) (news_set N a b hs ho')
theorem ap_callWith_K {M : Model} {pos : Pos} {f l : Addr} {first : List Value} {env : Env} {e : Expr} {rest : List Expr} {Q : Value → Shared → Prop} (_ : News h₀ L s.heap news) (_ : (f, boundApp l) ∈ news)
    (h : wpAny M A (spliced (backTo pos (starEach (e :: rest) env))) (fun vs s₁ => AppAt f l s₁.heap ∧ wpAny M A (call (.ref f) (first ++ vs)) Q E s₁) E s)
    (he : starEach (e :: rest) env = (false, eval e env) :: starEach rest env := by rfl) (hplain : (backTo pos (starEach rest env)).any (·.1) = false := by rfl) :
    wpAny M A (callWith pos (.ref f) first (backTo pos (starEach (e :: rest) env)) []) Q E s := ap_callWith h he hplain
end
end
end
section
theorem mro_object : mroOf (.type "object") = pure [.type "object"] := by rw [mroOf_type]; kernel_rfl
theorem lookup_object_new : typeLookup (.type "object") "__new__" = pure (some (.builtin "object.__new__")) := by rw [typeLookup_type, builtinLookup_eq_fast]; kernel_rfl
theorem slot_object_init : Slot "object" "__init__" "object.__init__" :=
  .of (owner := "object") (n := "__init__") (by rw [typeLookup_type, builtinLookup_eq_fast]; kernel_rfl) (by decide +kernel) (by decide +kernel) (by decide +kernel)
    (by first | exact .inl (by decide +kernel) | exact .inr (by decide +kernel)) (by rw [isSubtype_type]; kernel_rfl)
theorem called_object : TypeCalled "object" "object.__new__" "object.__init__" :=
  ⟨by decide +kernel, by decide +kernel, ⟨_, _, mro_object⟩, madeBy_type mro_object lookup_object_new (by decide +kernel), by decide +kernel, by rw [isSubtype_type]; kernel_rfl, slot_object_init⟩
theorem typeCall_object_0 : checkTypeCall "object" ⟨[], []⟩ = pure () := by kernel_rfl
theorem newCall_object_0 : checkBuiltinCall "object.__new__" ⟨[.type "object"], []⟩ = pure () := by kernel_rfl
theorem entry_object_new : entryFor table "object.__new__" = some Builtin.«object.__new__» := entryFor_of_tree (by kernel_rfl)
theorem args_object_init_1 (a : Value) : argsOk "object.__init__" ⟨[a], []⟩ := by unfold argsOk; kernel_rfl
abbrev objO : Obj := { cls := .type "object", data := .plain }
theorem meets_object_new : Meets (Builtin.«object.__new__» ⟨[.type "object"], []⟩) (fun _ R s => R (.ok (.ret (.ref s.heap.objs.size))) { s with heap := s.heap.push objO }) :=
  Meets.of_wp fun prog w A R s hs => by
    unfold Builtin.«object.__new__»
    have h1 := called_object.notType
    have h2 := lookup_object_new
    have h3 := called_object.made
    have h4 := mro_object
    repeat (any_goals (first | assumption | wp_step))
    exact ⟨_, rfl, hs⟩
section
variable {prog : Program} {w : World} {A : Around} {E : Value → Shared → Prop} {s : Shared}
theorem call_object {Q : Value → Shared → Prop} (h : Q (.ref s.heap.objs.size) { s with heap := s.heap.push objO }) : wpAny (model prog w) A (call (.type "object") []) Q E s := by
  refine callType_meets (Q₁ := fun obj s₁ => obj = .ref s.heap.objs.size ∧ s₁ = { s with heap := s.heap.push objO }) called_object typeCall_object_0 newCall_object_0 entry_object_new PySem.F.entry_object_init meets_object_new ⟨rfl, rfl⟩ ?_
  rintro obj s₁ ⟨rfl, rfl⟩
  refine ⟨⟨_, Heap.get?_push_size _ rfl, rfl⟩, args_object_init_1 _, fun _ R s => R (.ok (.ret .none)) s, ?_, ⟨rfl, h⟩⟩
  exact Meets.of_wp fun prog w A R s hs => wpAny_pure ⟨_, rfl, hs⟩
theorem call_object_K {h₀ : Heap} {L : Addr} {m : PySem.Str → Option Value} {news : List (Addr × Obj)} (F : Fr h₀ L s.heap m) (N : News h₀ L s.heap news) {Q : Value → Shared → Prop}
    (h : ∀ a h', Fr h₀ L h' m → News h₀ L h' ((a, objO) :: news) → (∀ p ∈ news, p.1 < a) → Q (.ref a) { s with heap := h' }) : wpAny (model prog w) A (call (.type "object") []) Q E s :=
  call_object (h _ _ (F.push _) (News.push F N _) fun p hp => Heap.lt_size (N p hp).1)
end
end
section
local macro_rules | `(tactic| walk_at "getAttr ref") => `(tactic| (k_here; (with_reducible show wpAny _ _ (getAttr (Value.ref _) (PySem.Str.ofString "append") true) _ _ _); k_dflt (refine ap_getattr_K (by k_asm) (by k_asm) (by k_mem) ?_); intro f' h' tk' F' N' l1; (try k_lt l1); (try k_sweep)))
local macro_rules | `(tactic| walk_at "callWith ref") => `(tactic| (k_here; (with_reducible show wpAny _ _ (callWith _ (Value.ref _) _ (backTo _ (starEach (_ :: _) _)) []) _ _ _); k_dflt (refine' ap_callWith_K ?k1 ?k2 ?_; (case k1 => k_asm); (case k2 => k_mem); k_whole)))
local macro_rules | `(tactic| walk_at "And") => `(tactic| ((with_reducible show AppAt _ _ _ ∧ _); k_dflt (refine ⟨News.get (by k_asm) (by k_mem), ?_⟩); (try dsimp only [List.nil_append, List.cons_append])))
local macro_rules | `(tactic| walk_at "call ref") => `(tactic| (k_here; (with_reducible show wpAny _ _ (call (Value.ref _) [_]) _ _ _); k_dflt (refine' ap_call_K ?k1 ?k2 ?k3 ?k4 ?k5 ?_; (case k1 => k_asm); (case k2 => k_asm); (case k3 => k_mem); (case k4 => k_upd); (case k5 => size_fits); k_whole); intro h' F' N'; (try k_sweep)))
local macro_rules | `(tactic| walk_at "eval Name") => `(tactic| (k_here; (with_reducible rename Fr _ _ _ _ => kF); k_dflt (refine nameX_L kF (by assumption) ?_ (by rfl) (by rfl))))
local macro_rules | `(tactic| walk_at "loadName") => `(tactic| (k_here; (with_reducible rename Fr _ _ _ _ => kF); k_dflt (refine ldn kF (by assumption) ?_)))
section
theorem gm_noRef {s : Shared} {x : PySem.Str} {t : Tok} : ∀ a, Value.str x t = .ref a → ∃ o, s.heap.get? a = some o ∧ o.dict = none := fun _ e => nomatch e
theorem gm_translate {M : Model} {A : Around} {E : Value → Shared → Prop} {s : Shared} {x : PySem.Str} {t : Tok} {pl : Sem Bool} {Q : Value × List Value → Shared → Prop} (h : Q (.builtin "str.translate", [.str x t]) s) : wpAny M A (getMethod (.str x t) "translate" pl) Q E s := by
  with_reducible exact getMethod_builtin (typeIs_str _ _ _) PySem.F.plainAttrs_str PySem.F.slot_str_translate PySem.F.type_str_translate gm_noRef h
local macro_rules | `(tactic| walk_at "getMethod str") => `(tactic| with_reducible refine gm_translate ?_)
local macro_rules | `(tactic| walk_at "call builtin:str.translate") => `(tactic| (k_here; k_dflt (refine' tr_call_K ?k1 ?k2 ?k3 ?k4 ?k5 ?k6 ?_; (case k1 => k_asm); (case k2 => k_asm); (case k3 => omega); (case k4 => omega); (case k5 => rfl); (case k6 => k_in); k_whole); intro h' tk' t' F' N'))
local macro_rules | `(tactic| walk_at "compareOp Eq str str") => `(tactic| (k_here; (with_reducible show wpAny _ _ (compareOp _ (Value.str (tx [_]) _) (Value.str _ _)) _ _ _); k_dflt (first | refine eq_tx1 (d := 42) (by decide) ?_ | refine eq_tx1 (d := 63) (by decide) ?_ | refine eq_tx1 (d := 91) (by decide) ?_)))
local macro_rules | `(tactic| walk_at "call builtin:len") => `(tactic| (k_here; (with_reducible show wpAny _ _ (call (Value.builtin "len") [Value.str (tx _) _]) _ _ _); k_dflt (refine len_tx (by first | omega | simp only [List.length_cons, List.length_nil]; omega) ?_); intro _ _))
local macro_rules | `(tactic| walk_at "subscriptTail") => `(tactic| (k_here; (with_reducible show wpAny _ _ (subscriptTail _ _ (Value.str (tx _) _) (Value.int _ _)) _ _ _); k_dflt (refine getItem_tx (by omega) (by omega) (by omega) ?_); intro _ _))
local macro_rules | `(tactic| walk_at "subscriptTail Name Name str int") => `(tactic| (k_here; (with_reducible show wpAny _ _ (subscriptTail _ _ (Value.str (tx _) _) (Value.int _ _)) _ _ _); k_dflt (refine getItem_tx (by omega) (by omega) (by omega) ?_); intro _ _))
def piece (c : Nat) : List Nat := if c = 63 then [46] else [c]
def JT (cs : List Nat) (t : Tok) (f l : Addr) (n : Nat) (m : PySem.Str → Option Value) (news : List (Addr × Obj)) : Prop :=
  ∃ (k : Nat) (vs : List Value) (ti tn tq : Tok), k ≤ cs.length ∧ n = cs.length - k ∧ m (PySem.Str.ofString "i") = some (.int k ti) ∧ m (PySem.Str.ofString "n") = some (.int cs.length tn) ∧ m (PySem.Str.ofString "pat") = some (.str (tx cs) t) ∧
    m (PySem.Str.ofString "add") = some (.ref f) ∧ m (PySem.Str.ofString "res") = some (.ref l) ∧ m (PySem.Str.ofString "QUESTION_MARK") = some (.str (PySem.Str.ofString ".") tq) ∧ news = [(f, boundApp l), (l, LCg.lst vs)] ∧ StrsAre vs ((cs.take k).map fun c => tx (piece c))
theorem strs_snoc {vs : List Value} {xs : List PySem.Str} {x : PySem.Str} {t : Tok} (h : StrsAre vs xs) : StrsAre (vs ++ [.str x t]) (xs ++ [x]) := by
  induction h with
  | nil => exact .cons x t .nil
  | cons y u _ ih => exact .cons y u ih
theorem JT_next {cs : List Nat} {t : Tok} {f l L : Addr} {n k : Nat} {m' : PySem.Str → Option Value} {g h' : Heap} {s : Shared} {vs : List Value} {x : PySem.Str} {tk ti tn tq : Tok} {tk' : Nat} {Q : Flow → Shared → Prop}
    (F' : Fr g L h' m') (N' : News g L h' [(f, boundApp l), (l, listOf (vs.toArray.push (.str x tk)) (vs.length + 1))]) (hk : k < cs.length) (hn' : n = cs.length - k) (hvs : StrsAre vs ((cs.take k).map fun c => tx (piece c)))
    (hx : x = tx (piece (cs.getD (k : Int).toNat 0))) (hi : m' (PySem.Str.ofString "i") = some (.int ((k : Int) + 1) ti)) (hn : m' (PySem.Str.ofString "n") = some (.int cs.length tn)) (hp : m' (PySem.Str.ofString "pat") = some (.str (tx cs) t))
    (ha : m' (PySem.Str.ofString "add") = some (.ref f)) (hr : m' (PySem.Str.ofString "res") = some (.ref l)) (hq : m' (PySem.Str.ofString "QUESTION_MARK") = some (.str (PySem.Str.ofString ".") tq)) :
    WEnd g L (JT cs t f l) n s Q .next { s with heap := h', toks := tk' } := by
  refine WEnd.next (news' := [(f, boundApp l), (l, LCg.lst (vs ++ [.str x tk]))]) F' N' ?_ (n' := cs.length - (k + 1)) (by omega) ?_
  · rw [← LCg.lst_snoc]
    exact fun p hp => hp
  · refine ⟨k + 1, _, ti, tn, tq, hk, rfl, by rw [hi]; rfl, hn, hp, ha, hr, hq, rfl, ?_⟩
    have e : cs.take (k + 1) = cs.take k ++ [cs.getD (k : Int).toNat 0] := by
      rw [List.take_add_one, Int.toNat_natCast, List.getD_eq_getElem?_getD, List.getElem?_eq_getElem hk]
      rfl
    rw [e, List.map_append, List.map_singleton, ← hx]
    exact strs_snoc hvs
theorem transl_pe (w : World) (cs : List Nat) (t u : Tok) (S : Addr) (hc : ∀ c ∈ cs, 48 ≤ c ∧ c ≤ 63) (hn : cs.length ≤ 1000) :
    PE 3 w 98 [.str (tx cs) t, .ref S, .str (PySem.Str.ofString ".") u] (fun h => ∃ o, h.get? S = some o) (fun h₀ v h => ∃ D vs, v = .ref D ∧ h₀.get? D = none ∧ h.get? D = some (LCg.lst vs) ∧ StrsAre vs (cs.map fun c => tx (piece c))) := by
  unfold PE
  k_fill
  intro p loose mean mg mb dp un gd cn cs' a ccd cl outer A₀ base h₀ L m s E B F X T hk hd hu hp
  obtain ⟨ck, cnm, c1, c2, c3⟩ := cs'
  cases hk
  refine wpAny_call ?_
  k_dflt walk_at "m enterP"
  rename_i g₀ L₀ h₁ FG₀ F₀ N₀ B₀ X₀ T₀ hg₀
  iterate 12 (first | walk1 | (dsimp only; walk1))
  iterate 12 (first | walk1 | (dsimp only; walk1))
  iterate 15 (first | walk1 | (dsimp only; walk1))
  (with_reducible rename Fr _ _ _ _ => FW)
  (with_reducible rename News _ _ _ _ => NW)
  refine' while_K (JT cs t ?ff ?ll) FW NW (news₀ := [(?ff, boundApp ?ll), (?ll, LCg.lst [])]) (n₀ := cs.length) ?hs ?h0 ?turn
  case hs => exact List.forall_mem_cons.mpr ⟨by k_mem, List.forall_mem_cons.mpr ⟨by k_mem, List.forall_mem_nil _⟩⟩
  case h0 => exact ⟨0, [], _, _, _, Nat.zero_le _, rfl, rfl, rfl, rfl, rfl, rfl, rfl, rfl, by simpa using StrsAre.nil⟩
  case turn =>
    rintro n m' news h tk E' ⟨k, vs, ti, tn, tq, hk, hn', hi, hnn, hpat, hadd, hres, hq, rfl, hvs⟩ Ft Nt
    iterate 6 (first | walk1 | (dsimp only; walk1))
    · have hlt : k < cs.length := by omega
      have hb := hc (cs.getD (k : Int).toNat 0) (by rw [Int.toNat_natCast, List.getD_eq_getElem?_getD, List.getElem?_eq_getElem hlt]; exact List.getElem_mem hlt)
      iterate 18 (first | walk1 | (dsimp only; walk1))
      iterate 10 (first | walk1 | (dsimp only; walk1))
      iterate 3 (first | walk1 | (dsimp only; walk1))
      · iterate 11 (first | walk1 | (dsimp only; walk1))
        iterate 2 (first | walk1 | (dsimp only; walk1))
        dsimp only
        iterate 2 (first | walk1 | (dsimp only; walk1))
        have h63 : cs.getD (k : Int).toNat 0 = 63 := by assumption
        exact JT_next (by assumption) (by assumption) hlt hn' hvs (by rw [h63]; decide) (by rfl) (by exact hnn) (by exact hpat) (by exact hadd) (by exact hres) (by exact hq)
      · iterate 58 (first | walk1 | (dsimp only; walk1))
        have h63 : ¬ cs.getD (k : Int).toNat 0 = 63 := by assumption
        exact JT_next (by assumption) (by assumption) hlt hn' hvs (by unfold piece; rw [if_neg h63]) (by rfl) (by exact hnn) (by exact hpat) (by exact hadd) (by exact hres) (by exact hq)
    · iterate 12 (first | walk1 | (dsimp only; walk1))
      · have hke : k = cs.length := by omega
        subst hke
        rw [List.take_length] at hvs
        refine ⟨⟨_, _, rfl, fun b o e => (by assumption : Fr g₀ L₀ h m').keep b o (hg₀ b o e (by simp))⟩, _, vs, rfl, ?_, Nt.get (by k_mem), hvs⟩
        · have hz := (Nt (_, LCg.lst vs) (by k_mem)).2.2
          exact none_of_sub (fun b o e => hg₀ b o e (by simp)) hz
      · exfalso; omega
end
section
theorem strs_len {vs : List Value} {xs : List PySem.Str} (h : StrsAre vs xs) : vs.length = xs.length := by
  induction h with
  | nil => rfl
  | cons _ _ _ ih => simp [ih]
theorem strs_at {vs : List Value} {xs : List PySem.Str} (h : StrsAre vs xs) : ∀ i, i < vs.length → ∃ x t, vs[i]? = some (.str x t) ∧ xs[i]? = some x := by
  induction h with
  | nil => intro i hi; cases hi
  | cons y u _ ih =>
    intro i hi
    cases i with
    | zero => exact ⟨y, u, rfl, rfl⟩
    | succ j => exact ih j (by simpa using hi)
theorem is_lst {h : Heap} {l : Addr} {vs : List Value} (e : h.get? l = some (LCg.lst vs)) : h.IsList l vs.toArray := ⟨_, e, rfl, _, rfl⟩
section
variable {prog : Program} {w : World} {A : Around} {E : Value → Shared → Prop} {s : Shared}
theorem len_listK {g : Heap} {L : Addr} {m : PySem.Str → Option Value} {l : Addr} {vs : List Value} {Q : Value → Shared → Prop} (hl : g.get? l = some (LCg.lst vs)) (F : Fr g L s.heap m) (hn : vs.length ≤ 100000)
    (h : ∀ t' tk, Q (.int vs.length t') { s with toks := tk }) : wpAny (model prog w) A (call (.builtin "len") [.ref l]) Q E s :=
  len_list (is_lst (F.keep _ _ hl)) (by rw [List.size_toArray]; omega) (by rw [List.size_toArray]; exact h _ _)
theorem item_listK {g : Heap} {L : Addr} {m : PySem.Str → Option Value} {value slice : PySem.Expr} {l : Addr} {vs : List Value} {k : Nat} {u : Tok} {v : Value} {Q : Value → Shared → Prop}
    (hl : g.get? l = some (LCg.lst vs)) (F : Fr g L s.heap m) (hx : vs[k]? = some v) (hn : vs.length ≤ 100000) (h : Q v s)
    (hs : subscripted slice false (.ref l) (.int k u) = operate [.ref l, .int k u] (getItem (.ref l) (.int k u)) := by with_unfolding_all rfl) (hg : ∀ r, letTemporaryGo value (.ref l) r = pure () := by intro _; with_unfolding_all rfl) :
    wpAny (model prog w) A (subscriptTail value slice (.ref l) (.int k u)) Q E s := by
  have hk : k < vs.length := (List.getElem?_eq_some_iff.mp hx).1
  exact item_list (is_lst (F.keep _ _ hl)) (by omega) (by omega) (by simpa using hx) h hs hg
theorem pieces_len (cs : List Nat) : (cs.map piece).flatten.length = cs.length := by
  induction cs with
  | nil => rfl
  | cons c r ih => rw [List.map_cons, List.flatten_cons, List.length_append, ih, List.length_cons]; unfold piece; split <;> simp <;> omega
theorem pieces_fit {cs : List Nat} (hn : cs.length ≤ 1000) : (tx (cs.map piece).flatten).length ≤ sizeLine := by rw [tx_length, pieces_len]; exact Nat.le_trans hn (by decide)
theorem told_head (X : List Nat) : PySem.Str.empty ++ PySem.Str.ofString "(?s:" ++ tx X = tx ([40, 63, 115, 58] ++ X) := by
  rw [show PySem.Str.empty ++ PySem.Str.ofString "(?s:" = tx [40, 63, 115, 58] from by decide, tx_append]
theorem told_tail (X : List Nat) : tx X ++ PySem.Str.ofString ")\\Z" = tx (X ++ [41, 92, 90]) := by
  rw [show PySem.Str.ofString ")\\Z" = tx [41, 92, 90] from by decide, tx_append]
theorem fit_tx {X : List Nat} (h : X.length ≤ 100000) : (tx X).length ≤ sizeLine := by rw [tx_length]; exact Nat.le_trans h (by decide)
theorem join_piece {l : Addr} {vs : List Value} {cs : List Nat} {t : Tok} {Q : Value → Shared → Prop} (hl : s.heap.get? l = some (LCg.lst vs)) (hvs : StrsAre vs (cs.map fun c => tx (piece c))) (hn : cs.length ≤ 1000)
    (h : ∀ t' tk, Q (.str (tx (cs.map piece).flatten) t') { s with toks := tk }) : wpAny (model prog w) A (call (.builtin "str.join") [.str (PySem.Str.ofString "") t, .ref l]) Q E s := by
  have hc : CarriedAll vs (cs.map fun c => PyData.str (tx (piece c))) := by have := hvs.carried; rw [List.map_map] at this; exact this
  refine KT.join_B 1 (is_lst hl) hc (fun c _ => ?_) (by omega) (by decide) fun t' k => ?_
  · rw [tx_length]; unfold piece; split <;> simp
  · have e : cs.map (fun c => tx (piece c)) = (cs.map piece).map tx := by rw [List.map_map]; rfl
    rw [e, join_tx]
    exact h t' k
theorem isNot_str_ref {x : PySem.Str} {t : Tok} {a : Addr} {Q : Value → Shared → Prop} (h : Q (.bool true) s) : wpAny (model prog w) A (compareOp .IsNot (.str x t) (.ref a)) Q E s := by
  show wpAny _ A (do return .bool (!(← isSame (.str x t) (.ref a)))) Q E s
  have e : isSame (.str x t) (.ref a) = pure false := rfl
  rw [e]
  exact wpAny_bind (wpAny_pure (wpAny_pure h))
end
def told (cs : List Nat) : List Nat := [40, 63, 115, 58] ++ ((cs.map piece).flatten ++ [41, 92, 90])
def JP (vs : List Value) (D S f l : Addr) (n : Nat) (m : PySem.Str → Option Value) (news : List (Addr × Obj)) : Prop :=
  ∃ (k : Nat) (ti tn : Tok), k ≤ vs.length ∧ n = vs.length - k ∧ m (PySem.Str.ofString "i") = some (.int k ti) ∧ m (PySem.Str.ofString "n") = some (.int vs.length tn) ∧ m (PySem.Str.ofString "inp") = some (.ref D) ∧ m (PySem.Str.ofString "STAR") = some (.ref S) ∧
    m (PySem.Str.ofString "add") = some (.ref f) ∧ m (PySem.Str.ofString "res") = some (.ref l) ∧ news = [(f, boundApp l), (l, LCg.lst (vs.take k))]
local macro_rules | `(tactic| walk_at "subscriptTail Name Name ref int") => `(tactic| (k_here; k_dflt (refine item_listK (by assumption) (by k_asm) (by assumption) (by omega) ?_)))
local macro_rules | `(tactic| walk_at "subscriptTail") => `(tactic| (k_here; (with_reducible show wpAny _ _ (subscriptTail _ _ (Value.ref _) (Value.int _ _)) _ _ _); k_dflt (refine item_listK (by assumption) (by k_asm) (by assumption) (by omega) ?_)))
local macro_rules | `(tactic| walk_at "call builtin:str.join") => `(tactic| (k_here; (with_reducible show wpAny _ _ (call (Value.builtin "str.join") [Value.str _ _, Value.ref _]) _ _ _); k_dflt (refine' join_piece ?k1 ?k2 ?k3 ?_; (case k1 => exact News.get (by k_asm) (by k_mem)); (case k2 => assumption); (case k3 => assumption); k_whole); intro _ _))
local macro_rules | `(tactic| walk_at "compareOp IsNot") => `(tactic| (k_here; (with_reducible show wpAny _ _ (compareOp _ (Value.str _ _) (Value.ref _)) _ _ _); (refine isNot_str_ref ?_)))
local macro_rules | `(tactic| walk_at "call builtin:len") => `(tactic| (k_here; (with_reducible show wpAny _ _ (call (Value.builtin "len") [Value.ref _]) _ _ _); k_dflt (refine len_listK (by assumption) (by k_asm) (by omega) ?_); intro _ _))
theorem JP_next {vs : List Value} {D S f l L : Addr} {n k : Nat} {m' : PySem.Str → Option Value} {g h' : Heap} {s : Shared} {x : Value} {ti tn : Tok} {tk' : Nat} {Q : Flow → Shared → Prop}
    (F' : Fr g L h' m') (N' : News g L h' [(f, boundApp l), (l, listOf ((vs.take k).toArray.push x) ((vs.take k).length + 1))]) (hk : k < vs.length) (hn' : n = vs.length - k) (hx : vs[k]? = some x)
    (hi : m' (PySem.Str.ofString "i") = some (.int ((k : Int) + 1) ti)) (hn : m' (PySem.Str.ofString "n") = some (.int vs.length tn)) (hp : m' (PySem.Str.ofString "inp") = some (.ref D)) (hS : m' (PySem.Str.ofString "STAR") = some (.ref S))
    (ha : m' (PySem.Str.ofString "add") = some (.ref f)) (hr : m' (PySem.Str.ofString "res") = some (.ref l)) : WEnd g L (JP vs D S f l) n s Q .next { s with heap := h', toks := tk' } := by
  refine WEnd.next (news' := [(f, boundApp l), (l, LCg.lst (vs.take k ++ [x]))]) F' N' ?_ (n' := vs.length - (k + 1)) (by omega) ?_
  · rw [← LCg.lst_snoc]
    exact fun p hp => hp
  · exact ⟨k + 1, ti, tn, hk, rfl, by rw [hi]; rfl, hn, hp, hS, ha, hr, by rw [List.take_add_one, hx]; rfl⟩
theorem joinp_pe (w : World) (cs : List Nat) (D S : Addr) (hn : cs.length ≤ 1000) :
    PE 2 w 105 [.ref D, .ref S] (fun h => ∃ vs, h.get? D = some (LCg.lst vs) ∧ StrsAre vs (cs.map fun c => tx (piece c))) (fun _ v _ => ∃ t, v = .str (tx (told cs)) t) := by
  unfold PE
  k_fill
  intro p loose mean mg mb dp un gd cn cs' a ccd cl outer A₀ base h₀ L m s E B F X T hk hd hu hp
  obtain ⟨vs, hD, hvs⟩ := hp
  have hlen : vs.length ≤ 1000 := by have := strs_len hvs; rw [this]; simpa using hn
  obtain ⟨ck, cnm, c1, c2, c3⟩ := cs'
  cases hk
  refine wpAny_call ?_
  k_dflt walk_at "m enterP"
  rename_i g₀ L₀ h₁ FG₀ F₀ N₀ B₀ X₀ T₀ hg₀
  have gD := hg₀ _ _ hD (by simp)
  iterate 38 (first | walk1 | (dsimp only; walk1))
  (with_reducible rename Fr _ _ _ _ => FW)
  (with_reducible rename News _ _ _ _ => NW)
  refine' while_K (JP vs D S ?ff ?ll) FW NW (news₀ := [(?ff, boundApp ?ll), (?ll, LCg.lst [])]) (n₀ := vs.length) ?hs ?h0 ?turn
  case hs => exact List.forall_mem_cons.mpr ⟨by k_mem, List.forall_mem_cons.mpr ⟨by k_mem, List.forall_mem_nil _⟩⟩
  case h0 => exact ⟨0, _, _, Nat.zero_le _, rfl, rfl, rfl, rfl, rfl, rfl, rfl, rfl⟩
  case turn =>
    rintro n m' news h tk E' ⟨k, ti, tn, hk, hn', hi, hnn, hinp, hstar, hadd, hres, rfl⟩ Ft Nt
    by_cases hlt : k < vs.length
    · obtain ⟨x, tx0, hx, hx2⟩ := strs_at hvs k hlt
      iterate 18 (first | walk1 | (dsimp only; walk1))
      iterate 16 (first | walk1 | (dsimp only; walk1))
      iterate 6 (first | walk1 | (dsimp only; walk1))
      exact JP_next (by assumption) (by assumption) hlt hn' hx (by rfl) (by exact hnn) (by exact hinp) (by exact hstar) (by exact hadd) (by exact hres)
    · iterate 16 (first | walk1 | (dsimp only; walk1))
      refine WhlIf.no (by simp; omega) ?_
      have hke : k = vs.length := by omega
      subst hke
      rw [List.take_length] at Nt
      iterate 9 (first | walk1 | (dsimp only; walk1))
      rotate_left
      · exfalso; omega
      iterate 20 (first | walk1 | (dsimp only; walk1))
      walk1
      refine formatField_str ?_ (pieces_fit hn)
      intro _ _
      have hpl := pieces_len cs
      show _ ∧ _
      rw [told_head]
      refine ⟨fit_tx (by rw [List.length_append]; simp only [List.length_cons, List.length_nil]; omega), ?_⟩
      iterate 2 (first | walk1 | (dsimp only; walk1))
      show _ ∧ _
      rw [told_tail]
      refine ⟨fit_tx (by simp only [List.length_append, List.length_cons, List.length_nil]; omega), ?_⟩
      show wpAny _ _ (mkStr _) _ _ _
      refine wpAny_mkStr ?_ (fit_tx (by simp only [List.length_append, List.length_cons, List.length_nil]; omega))
      exact leave_ext (P := fun _ v _ => ∃ t, v = .str (tx (told cs)) t) hg₀ (by assumption) (by assumption) ⟨_, rfl⟩
end
section
local macro_rules | `(tactic| walk_at "call type:object") => `(tactic| (k_here; k_dflt (refine call_object_K (by k_asm) (by k_asm) ?_); intro a' h' F' N' l1; (try k_lt l1)))
theorem trans_pe (w : World) (cs : List Nat) (t : Tok) (hc : ∀ c ∈ cs, 48 ≤ c ∧ c ≤ 63) (hn : cs.length ≤ 1000) : PE 4 w 79 [.str (tx cs) t] (fun _ => True) (fun _ v _ => ∃ t, v = .str (tx (told cs)) t) := by
  unfold PE
  k_fill
  intro p loose mean mg mb dp un gd cn cs' a ccd cl outer A₀ base h₀ L m s E B F X T hk hd hu hp
  obtain ⟨ck, cnm, c1, c2, c3⟩ := cs'
  cases hk
  refine wpAny_call ?_
  k_dflt walk_at "m enterP"
  rename_i g₀ L₀ h₁ FG₀ F₀ N₀ B₀ X₀ T₀ hg₀
  iterate 21 (first | walk1 | (dsimp only; walk1))
  k_dflt (refine' PE.use (transl_pe w cs _ _ _ hc hn) ?kB ?kF ?kX ?kN ?kT ?kk ?kd ?ku ?kp ?_; (case kB => k_asm); (case kF => k_asm); (case kX => k_asm); (case kN => k_asm); (case kT => k_asm); (case kk => rfl); (case kd => ktr_room); (case ku => ktr_units); (case kp => exact ⟨_, News.get (by k_asm) (by k_mem)⟩); k_whole)
  rintro _ h2 tk2 ⟨D, vs, rfl, hD0, hD, hvs⟩ hx F2 N2 hnew
  have N3 := hnew _ _ hD0 hD
  clear N2 hnew
  iterate 13 (first | walk1 | (dsimp only; walk1))
  k_dflt (refine' PE.use (joinp_pe w cs _ _ hn) ?kB ?kF ?kX ?kN ?kT ?kk ?kd ?ku ?kp ?_; (case kB => k_asm); (case kF => k_asm); (case kX => k_asm); (case kN => k_asm); (case kT => k_asm); (case kk => rfl); (case kd => ktr_room); (case ku => ktr_units); (case kp => exact ⟨vs, News.get (by k_asm) (by k_mem), hvs⟩); k_whole)
  rintro _ h4 tk4 ⟨t4, rfl⟩ hx4 F4 N4 hnew4
  exact leave_ext (P := fun _ v _ => ∃ t, v = .str (tx (told cs)) t) hg₀ (by assumption) (by assumption) ⟨_, rfl⟩
end
end
section
open Builtin Builtin._codecs in
theorem enc_tree (x : PySem.Str) (t u : Tok) : Builtin.«str.encode» ⟨[.str x t, .str (PySem.Str.ofString "ascii") u], []⟩ = (do ret (← (do mkBytes (← encodeNarrow "str.encode" asciiCodec none (.str x t) x)))) := by
  first | rfl | kernel_rfl
abbrev S5 : List Nat := [55, 59, 61, 62, 63]
theorem s5_lt {c : Nat} (h : c ∈ S5) : c < 128 := (show ∀ c ∈ S5, c < 128 by decide) c h
def pureOf {α : Type} : Sem α → Option α
  | .pure a => some a
  | _ => none
theorem of_pureOf {α : Type} {t : Sem α} {a : α} (h : pureOf t = some a) : t = .pure a := by
  unfold pureOf at h
  split at h
  · cases h; rfl
  · cases h
open Builtin Builtin._codecs in
def encOk (self : Value) (a b c d : Nat) : Bool := decide (pureOf (encodeNarrow "str.encode" asciiCodec none self (tx [a, b, c, d])) = some #[a.toUInt8, b.toUInt8, c.toUInt8, d.toUInt8])
open Builtin Builtin._codecs in
theorem enc_all (self : Value) : (S5.all fun a => S5.all fun b => S5.all fun c => S5.all fun d => encOk self a b c d) = true := by kernel_rfl
open Builtin Builtin._codecs in
theorem narrow_ok (self : Value) (c0 c1 c2 c3 : Nat) (h0 : c0 ∈ S5) (h1 : c1 ∈ S5) (h2 : c2 ∈ S5) (h3 : c3 ∈ S5) : encodeNarrow "str.encode" asciiCodec none self (tx [c0, c1, c2, c3]) = pure #[c0.toUInt8, c1.toUInt8, c2.toUInt8, c3.toUInt8] :=
  of_pureOf (of_decide_eq_true (List.all_eq_true.mp (List.all_eq_true.mp (List.all_eq_true.mp (List.all_eq_true.mp (enc_all self) _ h0) _ h1) _ h2) _ h3))
section
variable {prog : Program} {w : World} {A : Around} {E : Value → Shared → Prop} {s : Shared}
theorem wp_first {M : Model} {σ β : Type} {f : Nat → σ → Sem (ForInStep σ)} {k : σ → Sem β} {l : List Nat} {a : Nat} {s0 s1 : σ} {Q : β → Shared → Prop} (e : f a s0 = pure (.yield s1)) (h : wpAny M A (forIn l s1 f >>= k) Q E s) : wpAny M A (forIn (a :: l) s0 f >>= k) Q E s := by
  rw [List.forIn_cons, e]
  exact h
theorem wp_last {M : Model} {σ β : Type} {f : Nat → σ → Sem (ForInStep σ)} {k : σ → Sem β} {l : List Nat} {a : Nat} {s0 : σ} {Q : β → Shared → Prop} (h : wpAny M A (f a s0) (fun _ _ => False) E s) : wpAny M A (forIn (a :: l) s0 f >>= k) Q E s := by
  rw [List.forIn_cons]
  exact wpAny_bind (wpAny_bind (wpAny_mono h (fun _ _ q => q.elim) fun _ _ q => q))
theorem fold_size (l : Array Nat) : (l.foldl (fun acc y => acc ++ (Builtin._codecs.asciiCodec.bytesOf y).toArray) (#[] : Array UInt8)).size = l.size := by
  have key : ∀ (l : List Nat) (acc : Array UInt8), (l.foldl (fun acc y => acc ++ (Builtin._codecs.asciiCodec.bytesOf y).toArray) acc).size = acc.size + l.length := by
    intro l
    induction l with
    | nil => exact fun _ => rfl
    | cons a r ih =>
      intro acc
      rw [List.foldl_cons, ih, List.length_cons, Array.size_append]
      show acc.size + 1 + r.length = _
      omega
  rw [← Array.foldl_toList, key]
  exact Nat.zero_add _
abbrev S6 : List Nat := 233 :: S5
def spB (l : List Nat) (p : Nat) : Bool := [0, 1, 2, 3].all fun i => (l.getD i 0 == 233 && i == p) || (S5.contains (l.getD i 0) && i != p)
theorem spB_iff (l : List Nat) (p : Nat) : spB l p = true ↔ ∀ i, i < 4 → (l.getD i 0 = 233 ∧ i = p) ∨ (l.getD i 0 ∈ S5 ∧ i ≠ p) := by
  unfold spB
  rw [List.all_eq_true]
  refine forall_congr' fun i => ?_
  rw [show (i ∈ [0, 1, 2, 3]) = (i ∈ List.range 4) from rfl, List.mem_range]
  simp only [Bool.or_eq_true, Bool.and_eq_true, beq_iff_eq, List.contains_iff_mem, bne_iff_ne]
open Builtin._codecs in
def BadAt (l : List Nat) (p : Nat) : Prop := l.toArray[p]? = some 233 ∧ p + ((l.toArray.extract p l.toArray.size).findIdx? fun y => !asciiCodec.bad y).getD (l.toArray.size - p) = p + 1 ∧ (0 < p → (l.toArray[0]?).map asciiCodec.bad = some false) ∧
      ((l.toArray.extract 0 l.toArray.size).findIdx? asciiCodec.bad).getD (l.toArray.extract 0 l.toArray.size).size = p
open Builtin._codecs in
def badB (l : List Nat) (p : Nat) : Bool := l.toArray[p]? == some 233 && p + ((l.toArray.extract p l.toArray.size).findIdx? fun y => !asciiCodec.bad y).getD (l.toArray.size - p) == p + 1 && (p == 0 || (l.toArray[0]?).map asciiCodec.bad == some false) &&
      ((l.toArray.extract 0 l.toArray.size).findIdx? asciiCodec.bad).getD (l.toArray.extract 0 l.toArray.size).size == p
theorem bad_all : (S6.all fun a => S6.all fun b => S6.all fun c => S6.all fun d => [0, 1, 2, 3].all fun p => !spB [a, b, c, d] p || badB [a, b, c, d] p) = true := by kernel_rfl
theorem bad_at (cs : List Nat) (p : Nat) (hl : cs.length = 4) (hp : p < 4) (hb : ∀ i, i < 4 → (cs.getD i 0 = 233 ∧ i = p) ∨ (cs.getD i 0 ∈ S5 ∧ i ≠ p)) : BadAt cs p := by
  obtain ⟨c0, c1, c2, c3, rfl⟩ : ∃ a b c d, cs = [a, b, c, d] := by
    match cs, hl with
    | [a, b, c, d], _ => exact ⟨a, b, c, d, rfl⟩
  have m : ∀ i, i < 4 → List.getD [c0, c1, c2, c3] i 0 ∈ S6 := fun i hi => (hb i hi).elim (fun h => h.1 ▸ List.mem_cons_self) fun h => List.mem_cons_of_mem _ h.1
  have hp4 : p ∈ [0, 1, 2, 3] := List.mem_range.mpr hp
  have k : (!spB [c0, c1, c2, c3] p || badB [c0, c1, c2, c3] p) = true := List.all_eq_true.mp (List.all_eq_true.mp (List.all_eq_true.mp (List.all_eq_true.mp (List.all_eq_true.mp bad_all _ (m 0 (by decide))) _ (m 1 (by decide))) _ (m 2 (by decide))) _ (m 3 (by decide))) p hp4
  rw [show spB _ p = true from (spB_iff _ _).mpr hb] at k
  unfold badB at k
  simp only [Bool.not_true, Bool.false_or, Bool.and_eq_true, beq_iff_eq, Bool.or_eq_true] at k
  exact ⟨k.1.1.1, k.1.1.2, fun h => k.1.2.resolve_left (Nat.ne_of_gt h), k.2⟩
open Builtin Builtin._codecs in
theorem narrow_bad (self : Value) (cs : List Nat) (p : Nat) (hl : cs.length = 4) (hp : p < 4) (hb : ∀ i, i < 4 → (cs.getD i 0 = 233 ∧ i = p) ∨ (cs.getD i 0 ∈ S5 ∧ i ≠ p)) {Q : Array UInt8 → Shared → Prop}
   (h : wpAny (model prog w) A (raiseEncodeFault (α := PUnit) {} "ascii" self p (p + 1) "ordinal not in range(128)") (fun _ _ => False) E s) : wpAny (model prog w) A (encodeNarrow "str.encode" asciiCodec none self (tx cs)) Q E s := by
  obtain ⟨hx, hstop, hx0, hclean⟩ := bad_at cs p hl hp hb
  have hls : ∀ a : Array UInt8, a.size ≤ 4 → ¬ a.size > sizeLine := fun a ha => by rw [sizeLine_eq]; omega
  have hsz : (((cs.toArray.extract 0 cs.toArray.size).extract 0 p).foldl (fun acc y => acc ++ (asciiCodec.bytesOf y).toArray) (#[] : Array UInt8)).size ≤ 4 := by
    rw [fold_size, Array.size_extract]
    omega
  clear hb
  rw [← hstop] at h
  unfold encodeNarrow
  dsimp only
  rw [Std.Legacy.Range.forIn_eq_forIn_range', show List.range' [:(tx cs).length].start [:(tx cs).length].size [:(tx cs).length].step = [0, 1, 2, 3] by rw [tx_length, hl]; rfl]
  by_cases hp0 : p = 0
  · subst hp0
    clear hsz hclean hx0
    refine wp_last ?_
    dsimp only
    rw [if_neg (hls #[] (Nat.zero_le _)), hx]
    exact wpAny_bind (wpAny_rule (wpAny_bind (wpAny_mono h (fun _ _ q => q.elim) fun _ _ q => q)))
  · obtain ⟨x0, hx0, hb0⟩ := Option.map_eq_some_iff.mp (hx0 (Nat.pos_of_ne_zero hp0))
    refine wp_first (s1 := (p, ((cs.toArray.extract 0 cs.toArray.size).extract 0 p).foldl (fun acc y => acc ++ (asciiCodec.bytesOf y).toArray) #[], {})) ?_ ?_
    · clear h
      dsimp only
      rw [if_neg (hls #[] (Nat.zero_le _)), hx0]
      dsimp only
      rw [hb0, hclean, Nat.zero_add]
      rfl
    · refine wp_last ?_
      generalize Array.foldl _ _ _ = out at hsz ⊢
      dsimp only
      rw [if_neg (hls out hsz), hx]
      exact wpAny_bind (wpAny_rule (wpAny_bind (wpAny_mono h (fun _ _ q => q.elim) fun _ _ q => q)))
end
section
variable {prog : Program} {w : World} {A : Around} {E : Value → Shared → Prop} {s : Shared}
theorem gm_encode {M : Model} {x : PySem.Str} {t : Tok} {pl : Sem Bool} {Q : Value × List Value → Shared → Prop} (h : Q (.builtin "str.encode", [.str x t]) s) : wpAny M A (getMethod (.str x t) (PySem.Str.ofString "encode") pl) Q E s :=
  getMethod_builtin (typeIs_str _ _ _) F.plainAttrs_str F.slot_str_encode F.type_str_encode (fun _ e => nomatch e) h
theorem call_enc {c0 c1 c2 c3 : Nat} (h0 : c0 ∈ S5) (h1 : c1 ∈ S5) (h2 : c2 ∈ S5) (h3 : c3 ∈ S5) {t u : Tok} {Q : Value → Shared → Prop}
    (h : ∀ t' k, Q (.bytes #[c0.toUInt8, c1.toUInt8, c2.toUInt8, c3.toUInt8] t') { s with toks := k }) : wpAny (model prog w) A (call (.builtin "str.encode") [.str (tx [c0, c1, c2, c3]) t, .str (PySem.Str.ofString "ascii") u]) Q E s := by
  refine wpAny_call_entry F.slot_str_encode (typeIs_str s _ t) F.entry_str_encode ?_ (F.args_str_encode_2 _ _)
  rw [enc_tree, narrow_ok _ _ _ _ _ h0 h1 h2 h3]
  refine wpAny_bind (wpAny_bind (wpAny_pure ?_))
  unfold mkBytes
  rw [if_neg (by rw [sizeLine_eq]; simp)]
  exact wpAny_bind (wpAny_fresh (wpAny_pure (wpAny_pure ⟨_, rfl, h _ _⟩)))
end
end
section
theorem sl_mro : mroOf (.type "slice") = pure [.type "slice", .type "object"] := by rw [mroOf_type]; kernel_rfl
theorem sl_lookup_new : typeLookup (.type "slice") "__new__" = pure (some (.builtin "slice.__new__")) := by rw [typeLookup_type, builtinLookup_eq_fast]; kernel_rfl
theorem sl_slot_init : Slot "slice" "__init__" "object.__init__" :=
  .of (owner := "object") (n := "__init__") (by rw [typeLookup_type, builtinLookup_eq_fast]; kernel_rfl) (by decide +kernel) (by decide +kernel) (by decide +kernel)
    (by first | exact .inl (by decide +kernel) | exact .inr (by decide +kernel)) (by rw [isSubtype_type]; kernel_rfl)
theorem sl_called : TypeCalled "slice" "slice.__new__" "object.__init__" :=
  ⟨by decide +kernel, by decide +kernel, ⟨_, _, sl_mro⟩, madeBy_type sl_mro sl_lookup_new (by decide +kernel), by decide +kernel, by rw [isSubtype_type]; kernel_rfl, sl_slot_init⟩
theorem sl_typeCall (a b : Value) : checkTypeCall "slice" ⟨[a, b], []⟩ = pure () := by kernel_rfl
theorem sl_newCall (a b : Value) : checkBuiltinCall "slice.__new__" ⟨[.type "slice", a, b], []⟩ = pure () := by kernel_rfl
theorem sl_entry : entryFor table "slice.__new__" = some Builtin.«slice.__new__» := entryFor_of_tree (by kernel_rfl)
theorem sl_init_args (o a b : Value) : argsOk "object.__init__" ⟨[o, a, b], []⟩ := by unfold argsOk; kernel_rfl
abbrev sliceO (a b : Value) : Obj := { cls := .type "slice", data := .fields #[a, b, .none] }
theorem sl_isType : isType (.type "slice") = pure true := by first | rfl | kernel_rfl | (unfold isType; rw [isSubtype_type]; kernel_rfl)
theorem sl_sub : isSubtype (.type "slice") (.type "slice") = pure true := by rw [isSubtype_type]; kernel_rfl
theorem meets_slice_new (a b : Value) : Meets (Builtin.«slice.__new__» ⟨[.type "slice", a, b], []⟩) (fun _ R s => R (.ok (.ret (.ref s.heap.objs.size))) { s with heap := s.heap.push (sliceO a b) }) :=
  Meets.of_wp fun prog w A R s hs => by
    unfold Builtin.«slice.__new__»
    have h1 := sl_isType
    have h2 := sl_sub
    dsimp only
    refine wpAny_bind (wpAny_of_eq h1 ?_)
    rw [if_neg (by decide)]
    refine wpAny_bind (wpAny_of_eq h2 ?_)
    rw [if_neg (by decide)]
    refine wpAny_bind (wpAny_of_eq (a := [a, b]) (by first | rfl | kernel_rfl) ?_)
    dsimp only
    unfold newFields
    exact wpAny_bind (wpAny_newObj_type (wpAny_pure ⟨_, rfl, hs⟩))
section
variable {prog : Program} {w : World} {A : Around} {E : Value → Shared → Prop} {s : Shared}
theorem call_slice {a b : Value} {Q : Value → Shared → Prop} (h : Q (.ref s.heap.objs.size) { s with heap := s.heap.push (sliceO a b) }) : wpAny (model prog w) A (call (.type "slice") [a, b]) Q E s := by
  refine callType_meets (Q₁ := fun obj s₁ => obj = .ref s.heap.objs.size ∧ s₁ = { s with heap := s.heap.push (sliceO a b) }) sl_called (sl_typeCall _ _) (sl_newCall _ _) sl_entry PySem.F.entry_object_init (meets_slice_new a b) ⟨rfl, rfl⟩ ?_
  rintro obj s₁ ⟨rfl, rfl⟩
  have ht : ({ s with heap := s.heap.push (sliceO a b) } : Shared).TypeIs (.ref s.heap.objs.size) "slice" := ⟨_, Heap.get?_push_size _ rfl, rfl⟩
  exact ⟨ht, sl_init_args _ _ _, _, object_init_meets sl_called.init.lookup sl_called.made (by decide), ⟨ht, rfl, h⟩⟩
theorem call_slice_K {h₀ : Heap} {L : Addr} {m : PySem.Str → Option Value} {news : List (Addr × Obj)} {x y : Value} (F : Fr h₀ L s.heap m) (N : News h₀ L s.heap news) {Q : Value → Shared → Prop}
    (h : ∀ a h', Fr h₀ L h' m → News h₀ L h' ((a, sliceO x y) :: news) → (∀ p ∈ news, p.1 < a) → Q (.ref a) { s with heap := h' }) : wpAny (model prog w) A (call (.type "slice") [x, y]) Q E s :=
  call_slice (h _ _ (F.push _) (News.push F N _) fun p hp => Heap.lt_size (N p hp).1)
end
end
section
theorem none_booked_of {w : World} {h : Heap} (X : (Mine.hd0.heap_39 w.params).In h) : PySem.NoneBooked h := by
  obtain ⟨o, es, ep, hl, hd', hk, hf⟩ : ∃ o es ep, ((Mine.hd0.heap_39 w.params).lookup 2 : Option Obj) = some o ∧ o.data = .dict es ep ∧ StrKeys es ∧ nsFind es sharingNotToldKey = none := by
    refine ⟨_, _, _, rfl, rfl, ?_, ?_⟩
    · intro e he
      simp only [List.mem_toArray, List.mem_cons, List.not_mem_nil, or_false] at he
      repeat' (rcases he with rfl | he)
      all_goals first | exact ⟨_, _, rfl⟩ | (subst he; exact ⟨_, _, rfl⟩)
    · first | kernel_rfl | rfl
  exact ⟨fun n => nsFind es n, ⟨o, es, ep, X _ _ hl, hd', hk, fun _ => rfl⟩, hf⟩
section
variable {prog : Program} {w : World} {A : Around} {E : Value → Shared → Prop} {s : Shared}
/-- two texts of one sign: the same or equal -/
theorem same_or_eq {c d : Nat} {t u : Tok} {Q : Bool → Shared → Prop} (h0 : t ≠ 0) (h1 : u ≠ 0) (h2 : t ≠ u) (hb : PySem.NoneBooked s.heap) (h : ∀ b, (b = true → c = d) → Q b s) : wpAny (model prog w) A (isSame (.str (tx [c]) t) (.str (tx [d]) u)) Q E s := by
  by_cases e : c = d
  · exact PySem.wpAny_isSame_str (by simp [h0, h1]) hb fun b => h b fun _ => e
  · rw [PySem.isSame_str_other _ _ _ _ (by simp [h0, h1]) (by simpa using h2) (by
      rw [beq_eq_false_iff_ne]
      intro q
      have := tx_inj q
      simp at this
      exact e this)]
    exact wpAny_pure (h false fun q => nomatch q)
theorem is_strs {c d : Nat} {t u : Tok} {Q : Value → Shared → Prop} (h0 : t ≠ 0) (h1 : u ≠ 0) (h2 : t ≠ u) (hb : PySem.NoneBooked s.heap) (h : ∀ b, (b = true → c = d) → Q (.bool b) s) : wpAny (model prog w) A (compareOp .Is (.str (tx [c]) t) (.str (tx [d]) u)) Q E s :=
  wpAny_bind (same_or_eq h0 h1 h2 hb fun b hb => wpAny_pure (h b hb))
end
end
section
section
variable {prog : Program} {w : World} {A : Around} {E : Value → Shared → Prop} {s : Shared} {env : Env} {h₀ : Heap} {x : PySem.Str} {body : List Stmt} {Q : Flow → Shared → Prop}
theorem iter_list {l : Addr} {vs : List Value} {m₀ : PySem.Str → Option Value} {news : List (Addr × Obj)} (J : Nat → (PySem.Str → Option Value) → List (Addr × Obj) → Prop)
    (hh : A.handled = none) (hl : h₀.IsList l vs.toArray) (F : Fr h₀ env.locals s.heap m₀) (N : News h₀ env.locals s.heap news) (hj : J 0 m₀ news)
    (turn : ∀ i v m₁ news₁ h tk own, i < vs.length → vs[i]? = some v → news₁.map (·.1) = news.map (·.1) → OwnOff own (news.map (·.1)) → J i m₁ news₁ → Fr h₀ env.locals h (fun y => if y = x then some v else m₁ y) → News h₀ env.locals h (news₁ ++ own) →
      wpAny (model prog w) A (execs body env) (InvPostN h₀ env.locals (J (i + 1)) own (news.map (·.1)) { s with heap := h, toks := tk } Q) E { s with heap := h, toks := tk })
    (done : ∀ m₁ news₁ h tk, J vs.length m₁ news₁ → Fr h₀ env.locals h m₁ → News h₀ env.locals h news₁ → Q .next { s with heap := h, toks := tk }) :
    wpAny (model prog w) A (pyIter (.ref l)) (fun it s₂ => LoopAtV prog w A h₀ env x body Q E it s₂) E s := by
  have hls : s.heap.IsList l vs.toArray := hl.at fun o e => F.keep l o e
  obtain ⟨ol, hol, _⟩ := id hl
  have hlt : l < h₀.objs.size := Heap.lt_size hol
  have hne : l ≠ s.heap.objs.size := Nat.ne_of_lt (Nat.lt_trans (Nat.lt_of_lt_of_le hlt F.above) F.ns.lt)
  have hsz : vs.toArray.size = vs.length := by simp
  refine wpAny_pyIter_list hls ?_
  have W := Walks.list (prog := prog) (w := w) hh s.heap.objs.size l hne vs.toArray
  rw [hsz] at W
  refine loop_invN J W ?_ ?_ ?_ ?_ ⟨⟨_, Heap.get?_push_size _ rfl, rfl, rfl⟩, hls.at fun o e => Heap.get?_push_of_some _ e⟩ (F.push _) (fun p hp => ⟨Heap.get?_push_of_some _ (N p hp).1, (N p hp).2⟩) hj ?_ ?_
  · intro hm
    rcases List.mem_cons.mp hm with e | hm
    · exact absurd F.ns.lt (e ▸ Nat.lt_irrefl _)
    · exact absurd (Nat.lt_of_lt_of_le hlt F.above) ((List.mem_singleton.mp hm) ▸ Nat.lt_irrefl _)
  · intro b hb
    rw [List.mem_singleton.mp hb]
    exact next_is_new F
  · intro p hp hI
    exact absurd (Heap.lt_size (N p hp).1) ((List.mem_singleton.mp hI) ▸ Nat.lt_irrefl _)
  · intro q hq hm
    rcases List.mem_cons.mp hm with e | hm
    · exact absurd (Heap.lt_size (N q hq).1) (e ▸ Nat.lt_irrefl _)
    · have h0 := (N q hq).2.2
      rw [List.mem_singleton.mp hm, hol] at h0
      cases h0
  · intro i v m₁ news₁ h tk own hi hP h1 h2 hJ F₁ N₁
    exact turn i v m₁ news₁ h tk own hi (by simpa using hP) h1 h2 hJ F₁ N₁
  · exact done
end
end
section
section
variable {prog : Program} {w : World} {A : Around} {h₀ : Heap} {L : Addr} {m : PySem.Str → Option Value} {env : Env} {ct elt : Expr} {x : PySem.Str} {scope : Scope} {cl : List (PySem.Str × Addr)} {s : Shared} {S : List (Addr × Obj) → Prop} {Fin : List Value → List (Addr × Obj) → Prop} {news : List (Addr × Obj)}
/-- a comprehension over a list with a test that keeps its items -/
theorem restT_filter {vs : List Value} (dec : Value → Bool)
    (turn : ∀ v I oI C oC D m₂ ys h tk (E' : Value → Shared → Prop), v ∈ vs → LCg.NsObj oC m₂ → m₂ x = some v → Fr h₀ L h m → News h₀ L h ((I, oI) :: (C, oC) :: (D, LCg.lst ys) :: news) → LCg.Off3 I C D news → ((@Ne Nat I C) ∧ (@Ne Nat I D) ∧ (@Ne Nat C D)) →
      wpAny (model prog w) A (isTrue ct (compEnvC scope cl C env) (eval ct (compEnvC scope cl C env))) (fun ok s' => ok = dec v ∧ if ok = true then
        wpAny (model prog w) A (eval elt (compEnvC scope cl C env)) (LCg.CompEnd h₀ L m { s with heap := h, toks := tk } I oI C oC D (LCg.lst ys) S (fun y news' => y = v ∧ news' = news)) E' s'
        else LCg.CompEnd h₀ L m { s with heap := h, toks := tk } I oI C oC D (LCg.lst ys) S (fun _ news' => news' = news) Value.none s') E' { s with heap := h, toks := tk })
    (fin : Fin (vs.filter dec) news) : LCt.CompRestT prog w A h₀ L m env ct elt x scope cl s S (fun i v => vs.toArray[i]? = some v) Fin vs.toArray.size 0 [] news := by
  have key : ∀ (j i : Nat) (ys : List Value), i + j = vs.length → ys = (vs.take i).filter dec → LCt.CompRestT prog w A h₀ L m env ct elt x scope cl s S (fun i v => vs.toArray[i]? = some v) Fin j i ys news := by
    intro j
    induction j with
    | zero =>
      intro i ys hi hy
      subst hy
      have e : i = vs.length := by omega
      rw [e, List.take_length]
      exact LCt.CompRestT.zero fin
    | succ j ih =>
      intro i ys hi hy
      refine LCt.CompRestT.succ ?_
      intro v I oI C oC D m₂ h tk E' hv hC hx F N off ne
      have hv' : vs[i]? = some v := by simpa using hv
      have hs : (vs.take (i + 1)).filter dec = (vs.take i).filter dec ++ [v].filter dec := by
        rw [List.take_add_one, hv']
        simp
      refine wpAny_mono (turn v I oI C oC D m₂ ys h tk E' (List.mem_of_getElem? hv') hC hx F N off ne) (fun ok s' hq => ?_) fun _ _ e => e
      obtain ⟨hok, hq⟩ := hq
      cases ok with
      | true =>
        simp only [if_true] at hq ⊢
        refine wpAny_mono hq (fun y s₂ he => ?_) fun _ _ e => e
        obtain ⟨h', tk', nw, e, F', N', off', hS, hy', hn⟩ := he
        subst hy' hn
        refine ⟨h', tk', nw, e, F', N', off', hS, ih (i + 1) _ (by omega) ?_⟩
        rw [hs, hy, List.filter_cons, ← hok]
        simp
      | false =>
        simp only [Bool.false_eq_true, if_false] at hq ⊢
        obtain ⟨h', tk', nw, e, F', N', off', hS, hn⟩ := hq
        subst hn
        refine ⟨h', tk', nw, e, F', N', off', hS, ih (i + 1) _ (by omega) ?_⟩
        rw [hs, hy, List.filter_cons, ← hok]
        simp
  exact (by simpa using key vs.length 0 [] (by omega) (by simp))
end
theorem news_drop2 {h₀ h : Heap} {L : Addr} {a b : Addr × Obj} {l : List (Addr × Obj)} (N : News h₀ L h (a :: b :: l)) : News h₀ L h l := fun p hp => N p (List.mem_cons_of_mem _ (List.mem_cons_of_mem _ hp))
theorem news_drop_2nd {h₀ h : Heap} {L : Addr} {a b : Addr × Obj} {l : List (Addr × Obj)} (N : News h₀ L h (a :: b :: l)) : News h₀ L h (a :: l) := fun p hp => N p ((List.mem_cons.mp hp).elim (fun e => e ▸ List.mem_cons_self) fun e => List.mem_cons_of_mem _ (List.mem_cons_of_mem _ e))
end
section
/-- what a source hands on: the i-th value, with the tokens ahead of it and behind it -/
structure Nx (prog : Program) (w : World) (A : Around) (I : Addr) (fp : List Addr) (n : Nat) (P : Nat → Value → Nat → Nat → Prop) (St : Nat → Heap → Prop) : Prop where
  inFp : I ∈ fp
  frame : ∀ i h h', St i h → (∀ b ∈ fp, ∀ o, h.get? b = some o → h'.get? b = some o) → St i h'
  item : ∀ i (s : Shared) (Q : Option Value → Shared → Prop) (E : Value → Shared → Prop), i < n → St i s.heap →
    (∀ v h' tk, P i v s.toks tk → St (i + 1) h' → (∀ b o, b ∉ [I] → s.heap.get? b = some o → h'.get? b = some o) → Q (some v) { s with heap := h', toks := tk }) → wpAny (model prog w) A (pyNext (.ref I)) Q E s
  done : ∀ (s : Shared) (Q : Option Value → Shared → Prop) (E : Value → Shared → Prop), St n s.heap →
    (∀ h' tk, (∀ b o, b ∉ [I] → s.heap.get? b = some o → h'.get? b = some o) → Q none { s with heap := h', toks := tk }) → wpAny (model prog w) A (pyNext (.ref I)) Q E s
  self : ∀ i (s : Shared) (Q : Value → Shared → Prop) (E : Value → Shared → Prop), St i s.heap → Q (.ref I) s → wpAny (model prog w) A (pyIter (.ref I)) Q E s
theorem Nx.of_walks {prog : Program} {w : World} {A : Around} {I : Addr} {fp : List Addr} {n : Nat} {P : Nat → Value → Prop} {St : Nat → Heap → Prop} (W : Walks prog w A I fp [I] n P St) : Nx prog w A I fp n (fun i v _ _ => P i v) St :=
  ⟨W.sub I (List.mem_singleton.mpr rfl), W.frame, W.item, W.done, W.self⟩
theorem Nx.ascii {prog : Program} {w : World} {A : Around} (hh : A.handled = none) (I : Addr) (x : PySem.Str) (t : Tok) :
    Nx prog w A I [I] x.cps.size (fun i v t0 t1 => ∃ c, x.cps[i]? = some c ∧ v = .str ⟨#[c]⟩ t0 ∧ t1 = t0 + 1) (fun i h => h.IsStrIter I "str_ascii_iterator" x t i) where
  inFp := List.mem_singleton.mpr rfl
  frame := fun _ _ _ st hk => let ⟨o, ho, r⟩ := st; ⟨o, hk I (by simp) o ho, r⟩
  item := fun i s Q E hi st hQ => by
    refine wpAny_pyNext_ascii_item st (c := x.cps[i]) (by simp [hi]) fun h' hit' hs' => ?_
    exact hQ _ h' (s.toks + 1) ⟨_, by simp [hi], rfl, rfl⟩ hit' fun b o hb e => hs'.extBut b o (fun h => hb (by simp [h])) e
  done := fun s Q E st hQ => wpAny_pyNext_ascii_end hh st (by simp) fun h' he' => hQ h' s.toks fun b o hb e => he' b o (fun h => hb (by simp [h])) e
  self := fun _ _ _ _ st hQ => wpAny_pyIter_striter_ascii st hQ
/-- the end of a turn: the ledger stands, and what is to hold of it holds -/
def NextX (h₀ : Heap) (L : Addr) (m : PySem.Str → Option Value) (s : Shared) (I : Addr) (oI : Obj) (D : Addr) (oD : Obj) (J : List (Addr × Obj) → Prop) (s' : Shared) : Prop :=
  ∃ h' tk' led', s' = { s with heap := h', toks := tk' } ∧ Fr h₀ L h' m ∧ News h₀ L h' ((I, oI) :: (D, oD) :: led') ∧ (∀ p ∈ led', p.1 ≠ I ∧ p.1 ≠ D) ∧ J led'
section
variable {prog : Program} {w : World} {A : Around} {s : Shared} {h₀ : Heap} {L : Addr} {m : PySem.Str → Option Value} {R : Result → Shared → Prop}
theorem loop_X {elt target iter : Expr} {ifs : List Expr} {scope : Scope} {pos : Pos} {cenv : Env} {I D : Addr} {fp : List Addr} {n b : Nat} {P : Nat → Value → Nat → Nat → Prop} {St : Nat → Heap → Prop} (J : Nat → List Value → List (Addr × Obj) → Prop) {led₀ : List (Addr × Obj)}
    (W : Nx prog w A I fp n P St) (hsz : n ≤ sizeLine) (hDfp : D ∉ fp) (hIo : ∀ i h, St i h → ∃ o, h.get? I = some o) (hIL : L ≠ I) (hI₀ : h₀.get? I = none)
    (hSt : ∀ i h h' o ys led, St i h → h.get? I = some o → h'.get? I = some o → Fr h₀ L h' m → News h₀ L h' led → J i ys led → St i h')
    (hst : St 0 s.heap) (F : Fr h₀ L s.heap m) (N : News h₀ L s.heap ((D, LCg.lst []) :: led₀)) (off : ∀ p ∈ led₀, p.1 ≠ I ∧ p.1 ≠ D) (hJ : J 0 [] led₀) (hb : b ≤ s.toks)
    (turn : ∀ i ys led v h t0 tk oI (E' : Value → Shared → Prop), i < n → P i v t0 tk → b ≤ t0 → b ≤ tk → J i ys led → Fr h₀ L h m → News h₀ L h ((I, oI) :: (D, LCg.lst ys) :: led) → (∀ p ∈ led, p.1 ≠ I ∧ p.1 ≠ D) → I ≠ D →
      wpAny (model prog w) A (assign target cenv v) (fun _ s₂ =>
        wpAny (model prog w) A (forIn ifs true fun c r => if r = true then do let ok ← isTrue c cenv (eval c cenv); pure (ForInStep.yield ok) else pure (ForInStep.yield r)) (fun ok s₃ =>
          if ok = true then wpAny (model prog w) A (eval elt cenv) (fun y s₄ => NextX h₀ L m { s with heap := h, toks := tk } I oI D (LCg.lst ys) (fun led' => J (i + 1) (ys ++ [y]) led') s₄) E' s₃
          else NextX h₀ L m { s with heap := h, toks := tk } I oI D (LCg.lst ys) (fun led' => J (i + 1) ys led') s₃) E' s₂) E' { s with heap := h, toks := tk })
    (done : ∀ ys led h tk, b ≤ tk → J n ys led → Fr h₀ L h m → News h₀ L h ((D, LCg.lst ys) :: led) → (∀ p ∈ led, p.1 ≠ D) → R (.ok .next) { s with heap := h, toks := tk })
    (ht : ∀ v, letOwnedTupleGo target (.ref I) v = pure () := by intro _; rfl) :
    codeAny (model prog w) A (.compLoop (.ListComp elt [⟨target, iter, ifs, 0⟩] scope pos) 0 (.ref I) (.ref D) cenv) R s := by
  have hID : I ≠ D := fun e => hDfp (e ▸ W.inFp)
  have hDL : D ≠ L := (N _ List.mem_cons_self).2.1
  have hD₀ : h₀.get? D = none := (N _ List.mem_cons_self).2.2
  refine codeAny_compLoop_tests (fun k s' => ∃ i h' tk' ys led, s' = { s with heap := h', toks := tk' } ∧ i ≤ n ∧ k = n + 1 - i ∧ ys.length ≤ i ∧ b ≤ tk' ∧ St i h' ∧ Fr h₀ L h' m ∧ News h₀ L h' ((D, LCg.lst ys) :: led) ∧ (∀ p ∈ led, p.1 ≠ I ∧ p.1 ≠ D) ∧ J i ys led) ?_ (n + 1)
    ⟨0, s.heap, s.toks, [], led₀, rfl, Nat.zero_le _, rfl, Nat.le_refl _, hb, hst, F, N, off, hJ⟩ ht
  rintro k s' ⟨i, h', tk', ys, led, rfl, hi, rfl, hyl, hb', hst', F', N', off', hJ'⟩
  have offD : ∀ p ∈ (D, LCg.lst ys) :: led, p.1 ≠ I := fun p hp => by
    rcases List.mem_cons.mp hp with rfl | hp
    · exact Ne.symm hID
    · exact (off' p hp).1
  by_cases hlt : i < n
  · refine wpAny_with_toks (n := b) hb' (W.item i _ _ _ hlt hst' fun v h₂ tk₂ hPv hst₂ hk₂ hbk => ?_)
    obtain ⟨oI, heI⟩ := hIo _ _ hst₂
    have F₂ := LCg.fr_but F' hk₂ hIL hI₀
    have N₂ := LCg.news_but N' hk₂ offD
    have N₃ : News h₀ L h₂ ((I, oI) :: (D, LCg.lst ys) :: led) := fun p hp => by
      rcases List.mem_cons.mp hp with rfl | hp
      · exact ⟨heI, Ne.symm hIL, hI₀⟩
      · exact N₂ p hp
    have fin : ∀ (ys' : List Value) (s₅ : Shared) (h₄ : Heap) (tk₄ : Nat) (led' : List (Addr × Obj)), s₅ = { s with heap := h₄, toks := tk₄ } → ys'.length ≤ i + 1 → b ≤ tk₄ → h₄.get? I = some oI → St (i + 1) h₄ → Fr h₀ L h₄ m → News h₀ L h₄ ((D, LCg.lst ys') :: led') →
        (∀ p ∈ led', p.1 ≠ I ∧ p.1 ≠ D) → J (i + 1) ys' led' → ∃ k', k' < n + 1 - i ∧ ∃ i h' tk' ys led, s₅ = { s with heap := h', toks := tk' } ∧ i ≤ n ∧ k' = n + 1 - i ∧ ys.length ≤ i ∧ b ≤ tk' ∧ St i h' ∧ Fr h₀ L h' m ∧ News h₀ L h' ((D, LCg.lst ys) :: led) ∧ (∀ p ∈ led, p.1 ≠ I ∧ p.1 ≠ D) ∧ J i ys led :=
      fun ys' s₅ h₄ tk₄ led' e hl hb4 _ st4 F4 N4 o4 j4 => ⟨n + 1 - (i + 1), by omega, i + 1, h₄, tk₄, ys', led', e, hlt, rfl, hl, hb4, st4, F4, N4, o4, j4⟩
    refine wpAny_mono (wpAny_toks_of (n := b) hbk (turn i ys led v h₂ tk' tk₂ oI _ hlt hPv hb' hbk hJ' F₂ N₃ off' hID)) (fun _ s₂ h₃ => ?_) fun _ _ e => e.2
    refine wpAny_mono (wpAny_toks_of (n := b) h₃.1 h₃.2) (fun ok s₃ h₄ => ?_) fun _ _ e => e.2
    cases ok with
    | true =>
      simp only [if_true] at h₄ ⊢
      refine wpAny_mono (wpAny_toks_of (n := b) h₄.1 h₄.2) (fun y s₄ h₅ => ?_) fun _ _ e => e.2
      obtain ⟨hb4, h₆, tk₆, led', rfl, F₆, N₆, off₆, J₆⟩ := h₅
      have zI := (N₆ (I, oI) List.mem_cons_self).1
      have zD := (N₆ (D, LCg.lst ys) (List.mem_cons_of_mem _ List.mem_cons_self)).1
      have N₇ : News h₀ L h₆ led' := fun p hp => N₆ p (List.mem_cons_of_mem _ (List.mem_cons_of_mem _ hp))
      refine append_at (hsz := by show ys.toArray.size ≤ sizeLine; rw [List.size_toArray]; omega) zD fun h₈ hs₈ hD₈ => ?_
      have st6 : St (i + 1) h₆ := hSt _ _ _ _ _ _ hst₂ heI zI F₆ N₇ J₆
      refine fin (ys ++ [y]) _ h₈ tk₆ led' rfl (by rw [List.length_append, List.length_singleton]; omega) hb4 ?_ (W.frame _ _ _ st6 fun b hb o e => hs₈.extBut b o (fun q => hDfp (q ▸ hb)) e) (F₆.change hs₈ hDL hD₀) (fun p hp => ?_) off₆ J₆
      · exact hs₈.extBut _ _ hID zI
      · rcases List.mem_cons.mp hp with rfl | hp
        · exact ⟨hD₈.trans (congrArg some (LCg.lst_snoc ys y)), hDL, hD₀⟩
        · exact ⟨hs₈.extBut _ _ (off₆ p hp).2 (N₇ p hp).1, (N₇ p hp).2⟩
    | false =>
      simp only [Bool.false_eq_true, if_false] at h₄ ⊢
      obtain ⟨hb4, h₆, tk₆, led', rfl, F₆, N₆, off₆, J₆⟩ := h₄
      have zI := (N₆ (I, oI) List.mem_cons_self).1
      have N₇ : News h₀ L h₆ led' := fun p hp => N₆ p (List.mem_cons_of_mem _ (List.mem_cons_of_mem _ hp))
      have st6 : St (i + 1) h₆ := hSt _ _ _ _ _ _ hst₂ heI zI F₆ N₇ J₆
      exact fin ys _ h₆ tk₆ led' rfl (by omega) hb4 zI st6 F₆ (fun p hp => N₆ p (List.mem_cons_of_mem _ hp)) off₆ J₆
  · obtain rfl : i = n := Nat.le_antisymm hi (Nat.not_lt.mp hlt)
    refine wpAny_with_toks (n := b) hb' (W.done _ _ _ hst' fun h₂ tk₂ hk₂ hbk => ?_)
    exact done ys led h₂ tk₂ hbk hJ' (LCg.fr_but F' hk₂ hIL hI₀) (LCg.news_but N' hk₂ offD) fun p hp => (off' p hp).2
end
end
section
local macro_rules | `(tactic| walk_at "getMethod str") => `(tactic| (k_here; with_reducible refine gm_encode ?_))
local macro_rules | `(tactic| walk_at "call builtin:str.encode") => `(tactic| (k_here; k_dflt (refine call_enc (by assumption) (by assumption) (by assumption) (by assumption) ?_); intro _ _))
theorem enc_ok (w : World) (c0 c1 c2 c3 : Nat) (t : Tok) (h0 : c0 ∈ S5) (h1 : c1 ∈ S5) (h2 : c2 ∈ S5) (h3 : c3 ∈ S5) : PE 2 w 67 [.str (tx [c0, c1, c2, c3]) t] (fun _ => True) (fun _ v _ => ∃ t, v = .bytes #[c0.toUInt8, c1.toUInt8, c2.toUInt8, c3.toUInt8] t) := by
  unfold PE
  k_fill
  intro p loose mean mg mb dp un gd cn cs' a ccd cl outer A₀ base h₀ L m s E B F X T hk hd hu hp
  obtain ⟨ck, cnm, c1', c2', c3'⟩ := cs'
  cases hk
  refine wpAny_call ?_
  k_dflt walk_at "m enterP"
  rename_i g₀ L₀ h₁ FG₀ F₀ N₀ B₀ X₀ T₀ hg₀
  iterate 14 (first | walk1 | (dsimp only; walk1))
  rw [if_pos rfl]
  iterate 12 (first | walk1 | (dsimp only; walk1))
  exact leave_ext (P := fun _ v _ => ∃ t, v = .bytes #[c0.toUInt8, c1.toUInt8, c2.toUInt8, c3.toUInt8] t) hg₀ (by assumption) (by assumption) ⟨_, rfl⟩
end
section
section
variable {prog : Program} {w : World} {A : Around} {E : Value → Shared → Prop} {s : Shared}
theorem set_slice {l sl v : Addr} {items new : Array Value} {n n' : Nat} {i j : Int} {t u : Tok} {Q : Unit → Shared → Prop} (ho : s.heap.get? l = some (listOf items n)) (hv : s.heap.get? v = some (listOf new n')) (hne : (l == v) = false)
    (hs : s.heap.IsSliceOf sl (.int i t) (.int j u) .none) (h0 : 0 ≤ i) (h1 : i ≤ j) (h2 : j ≤ items.size) (hz : items.size + new.size ≤ 1000)
    (hQ : Q () { s with heap := s.heap.update l (Obj.mapSeq fun xs => xs.extract 0 i.toNat ++ new ++ xs.extract j.toNat xs.size) }) : wpAny (model prog w) A (setItem (.ref l) (.ref sl) (.ref v)) Q E s := by
  have hl : s.heap.IsList l items := PySem.IsL.isList (n := n) ho
  have hvl : s.heap.IsList v new := PySem.IsL.isList (n := n') hv
  obtain ⟨os, hos, hcs, hds⟩ := id hs
  have hTs : s.TypeIs (.ref sl) "slice" := ⟨os, hos, hcs⟩
  unfold setItem
  try with_reducible refine wpAny_holding ?_
  first | refine wpAny_bind (wpAny_pure ?_) | skip
  refine wpAny_bind (wpAny_sequenceKey hl.typeIs (by decide) ?_)
  refine wpAny_bind (wpAny_callSpecial?_slot (name := PySem.Str.ofString "__setitem__") hl.typeIs slot_list_setitem
    (wpAny_call_entry slot_list_setitem hl.typeIs PySem.entry_list_setitem ?_ (args_list_setitem _ _ _)))
  show wpAny _ _ (Builtin.List.listSubscript? (.ref sl) >>= _) _ _ s
  refine wpAny_bind ?_
  unfold Builtin.List.listSubscript?
  refine wpAny_bind (wpAny_specialOf (T := "slice") hTs slice_no_index ?_)
  simp only [Option.isNone_none, if_true]
  refine wpAny_pure ?_
  dsimp only
  refine wpAny_bind (wpAny_typeOf hTs ?_)
  rw [if_neg (by decide)]
  rw [listSliceParts_eq]
  refine wpAny_bind (wpAny_bind (wpAny_field hos hds (x := .none) rfl (wpAny_bind (wpAny_listPart .none ?_))))
  rw [if_neg (by decide)]
  refine wpAny_bind (wpAny_field hos hds (x := .int i t) rfl (wpAny_bind (wpAny_listPart (.int i t) ?_)))
  refine wpAny_bind (wpAny_field hos hds (x := .int j u) rfl (wpAny_bind (wpAny_listPart (.int j u) (wpAny_pure ?_))))
  have hne' : Builtin.List.listSameRef (.ref l) (.ref v) = false := hne
  dsimp only
  rw [hne', if_neg (by decide)]
  refine wpAny_bind ?_
  unfold Builtin.List.listAllItems
  refine wpAny_bind (wpAny_typeOf hvl.typeIs ?_)
  rw [if_pos (by decide)]
  refine wpAny_bind (wpAny_seqItems hv rfl (wpAny_pure ?_))
  refine wpAny_bind (wpAny_listItems ho rfl ?_)
  refine wpAny_bind (wpAny_of_eq (sliceIndices_raw (some i) (some j) none items.size (by decide)) ?_)
  have e : sliceBounds (some i) (some j) none items.size = (i, j, 1) := by
    unfold sliceBounds
    simp only [Option.getD_none, show (1 : Int) > 0 by decide, if_true]
    rw [if_neg (by omega), if_neg (by omega)]
    have : max 0 (min i (items.size : Int)) = i := by omega
    have : max 0 (min j (items.size : Int)) = j := by omega
    simp only [*]
  rw [e]
  dsimp only
  rw [if_pos (by decide)]
  refine wpAny_bind (wpAny_rule ?_)
  have ht : Builtin.List.listTooLong (items.size + new.size) = false := by
    unfold Builtin.List.listTooLong
    rw [sizeLine_eq]
    simp
    omega
  rw [ht, if_neg (by decide)]
  have hm : max i j = j := by omega
  rw [hm]
  refine wpAny_bind ?_
  unfold Builtin.List.listUpdate
  refine wpAny_updateSeq ho rfl ?_ (by rw [sizeLine_eq]; omega) (by rw [sizeLine_eq]; simp; omega)
  refine wpAny_bind (wpAny_letGo ?_)
  exact wpAny_pure ⟨_, rfl, wpAny_pure hQ⟩
end
theorem set_two {α : Type} {ns : List α} {i : Nat} {x y : α} (h : i + 1 < ns.length) : (ns.set i x).set (i + 1) y = ns.take i ++ [x, y] ++ ns.drop (i + 2) := by
  apply List.ext_getElem
  · simp; omega
  · intro k h1 h2
    simp only [List.getElem_set, List.append_assoc, List.getElem_append, List.length_take, List.getElem_take]
    by_cases e1 : i + 1 = k
    · subst e1
      rw [if_pos rfl, dif_neg (by omega)]
      have : i + 1 - min i ns.length = 1 := by omega
      simp [this]
    · rw [if_neg e1]
      by_cases e2 : i = k
      · subst e2
        rw [if_pos rfl, dif_neg (by omega)]
        have : i - min i ns.length = 0 := by omega
        simp [this]
      · rw [if_neg e2]
        by_cases e3 : k < i
        · rw [dif_pos (by omega)]
        · rw [dif_neg (by omega)]
          have hm : min i ns.length = i := by omega
          have hk : ¬ (k - min i ns.length < [x, y].length) := by simp; omega
          rw [dif_neg hk]
          have he : i + 2 + (k - min i ns.length - [x, y].length) = k := by simp; omega
          simp only [List.getElem_drop, he]
section
variable {prog : Program} {w : World} {A : Around} {E : Value → Shared → Prop} {s : Shared} {h₀ : Heap} {L D V S : Addr} {m : PySem.Str → Option Value} {news news' : List (Addr × Obj)} {vs : List Value} {ns : List Int} {n : Nat} {i j : Int} {a b : Int} {ta tb t u : Tok}
theorem set_slice_K {Q : Unit → Shared → Prop} (F : Fr h₀ L s.heap m) (N : News h₀ L s.heap news)
    (U : Upd D (listOf vs.toArray n) (listOf ((vs.set i.toNat (Value.int a ta)).set (i.toNat + 1) (Value.int b tb)).toArray n) news news')
    (hV : (V, listOf [Value.int a ta, Value.int b tb].toArray 0) ∈ news) (hS : (S, sliceO (.int i t) (.int j u)) ∈ news) (hi : IntsAre vs ns) (h0 : 0 ≤ i) (hj : j = i + 2) (h2 : j ≤ ns.length) (hz : ns.length ≤ 100) (hne : V ≠ D)
    (h : ∀ h', Fr h₀ L h' m → News h₀ L h' news' → IntsAre ((vs.set i.toNat (Value.int a ta)).set (i.toNat + 1) (Value.int b tb)) ((ns.set i.toNat a).set (i.toNat + 1) b) → Q () { s with heap := h' }) :
    wpAny (model prog w) A (setItem (.ref D) (.ref S) (.ref V)) Q E s := by
  obtain ⟨pre, post, e1, e2, q1, q2⟩ := U.split
  subst e1 e2
  have z := N (D, listOf vs.toArray n) (List.mem_append.mpr (.inr (.head _)))
  have hl : vs.length = ns.length := hi.length
  obtain ⟨k, rfl⟩ := Int.eq_ofNat_of_zero_le h0
  subst hj
  have e3 : ((k : Int) + 2).toNat = k + 2 := by omega
  refine set_slice z.1 (N _ hV).1 (by simp; exact fun e => hne e.symm) ⟨_, (N _ hS).1, rfl, rfl⟩ h0 (by omega) (by simp; omega) (by simp; omega) (h _ (F.change (Heap.SameBut.update ..) z.2.1 z.2.2) (ki_turn _ N q1 q2 ?_ ?_) (ints_set (ints_set hi _) _))
  · rw [e3]
    apply Array.toList_inj.mp
    rw [Int.toNat_natCast, set_two (by omega)]
    simp
    rw [List.take_of_length_le (by simp)]
  · simp
end
end
section
def cps (ds : List (Nat × Tok)) (c i : Nat) (t : Tok) : List (PySem.Str × Value) := [((PySem.Str.ofString "count"), Value.int ((((ds.take i).map (·.1)).count c : Nat) : Int) t)]
def CJ (ds : List (Nat × Tok)) (c : Nat) (m₀ : PySem.Str → Option Value) (i : Nat) (m : PySem.Str → Option Value) (nx : List (Addr × Obj)) : Prop :=
  nx = [] ∧ ∃ t, (∀ q ∈ cps ds c i t, m q.1 = some q.2) ∧ ∀ z, z ≠ PySem.Str.ofString "i" → (∀ q ∈ cps ds c i t, z ≠ q.1) → ([] : List PySem.Str).contains z = false → m z = m₀ z
theorem cnt_hit {ds : List (Nat × Tok)} {c i : Nat} {td : Tok} (h : ds[i]? = some (c, td)) : ((((ds.take (i + 1)).map (·.1)).count c : Nat) : Int) = ((((ds.take i).map (·.1)).count c : Nat) : Int) + 1 := by
  rw [List.take_add_one, h]
  simp
theorem cnt_miss {ds : List (Nat × Tok)} {c d i : Nat} {td : Tok} (h : ds[i]? = some (d, td)) (hd : d ≠ c) : ((((ds.take (i + 1)).map (·.1)).count c : Nat) : Int) = ((((ds.take i).map (·.1)).count c : Nat) : Int) := by
  rw [List.take_add_one, h]
  simp [List.count_singleton, hd]
theorem count_pe (w : World) (D : Addr) (ds : List (Nat × Tok)) (c : Nat) (u : Tok) (hu0 : u ≠ 0) (hds : ∀ q ∈ ds, q.2 ≠ 0 ∧ q.2 ≠ u) (hn : ds.length ≤ 1000) :
    PE 2 w 52 [.ref D, .str (tx [c]) u] (fun h => h.get? D = some (LCg.lst (ds.map fun q => Value.str (tx [q.1]) q.2))) (fun _ v _ => ∃ t, v = .int (((ds.map (·.1)).count c : Nat) : Int) t) := by
  unfold PE
  k_fill
  intro p loose mean mg mb dp un gd cn cs' a ccd cl outer A₀ base h₀ L m s E B F X T hk hd hu hp
  obtain ⟨ck, cnm, c1, c2, c3⟩ := cs'
  cases hk
  refine wpAny_call ?_
  k_dflt walk_at "m enterP"
  rename_i g₀ L₀ h₁ FG₀ F₀ N₀ B₀ X₀ T₀ hg₀
  iterate 6 (first | walk1 | (dsimp only; walk1))
  k_dflt (refine' For_invVF (by assumption) ?k1 ?k2 ?_; (case k1 => exact rfl); (case k2 => exact rfl); k_whole)
  iterate 1 (first | walk1 | (dsimp only; walk1))
  have hD : g₀.IsList D (ds.map fun q => Value.str (tx [q.1]) q.2).toArray := ⟨_, hg₀ _ _ hp (by simp), rfl, _, rfl⟩
  rename Fr _ _ _ _ => F9
  rename News _ _ _ _ => N9
  refine iter_list (CJ ds c _) rfl hD F9 N9 ⟨rfl, _, fun q hq => by (obtain rfl := List.mem_singleton.mp hq; rfl), fun z _ _ _ => rfl⟩ ?_ ?_
  · rintro i v m₁ _ h tk own hi hv - hoff ⟨rfl, t, h1, h2⟩ F1 N1
    have F2 := kst_fr h1 h2 F1
    clear F1 h1 h2
    simp only [List.length_map] at hi
    obtain ⟨d, td⟩ : Nat × Tok := ds[i]
    have hdi : ds[i]? = some (ds[i]) := List.getElem?_eq_getElem hi
    rw [List.getElem?_map, hdi] at hv
    generalize ds[i] = q at hdi hv
    obtain ⟨d, td⟩ := q
    dsimp only [Option.map_some] at hv
    cases hv
    obtain ⟨hd0, hd1⟩ := hds _ (List.mem_of_getElem? hdi)
    dsimp only at hd0 hd1
    simp only [List.nil_append] at N1
    k_whole
    iterate 6 (first | walk1 | (dsimp only; walk1))
    k_here
    refine is_strs hd0 hu0 hd1 (none_booked_of (X₀.keeps F2.keep)) ?_
    intro b hb
    cases b
    · iterate 6 (first | walk1 | (dsimp only; walk1))
      k_here
      refine eq_tx1 (d := c) rfl ?_
      by_cases hdc : d = c
      · subst hdc
        rw [decide_eq_true rfl]
        iterate 11 (first | walk1 | (dsimp only; walk1))
        refine ⟨_, _, _, _, [], rfl, by assumption, by assumption, (fun _ q => nomatch q), (fun _ q => q), rfl, rfl, ?kt1, ?ka, ?kb⟩
        case ka =>
          intro q hq
          obtain rfl := List.mem_singleton.mp hq
          dsimp only
          rw [cnt_hit hdi]
          rfl
        case kb =>
          intro z hz hq _
          have hzc : z ≠ PySem.Str.ofString "count" := hq _ List.mem_cons_self
          simp [hz, hzc, kstB, cps]
      · rw [decide_eq_false hdc]
        iterate 6 (first | walk1 | (dsimp only; walk1))
        refine ⟨_, _, _, _, [], rfl, by assumption, by assumption, (fun _ q => nomatch q), (fun _ q => q), rfl, rfl, ?kt2, ?ka, ?kb⟩
        case ka =>
          intro q hq
          obtain rfl := List.mem_singleton.mp hq
          dsimp only
          rw [cnt_miss hdi hdc]
          rfl
        case kb =>
          intro z hz hq _
          have hzc : z ≠ PySem.Str.ofString "count" := hq _ List.mem_cons_self
          simp [hz, hzc, kstB, cps]
    · obtain rfl := hb rfl
      iterate 11 (first | walk1 | (dsimp only; walk1))
      refine ⟨_, _, _, _, [], rfl, by assumption, by assumption, (fun _ q => nomatch q), (fun _ q => q), rfl, rfl, ?kt3, ?ka, ?kb⟩
      case ka =>
        intro q hq
        obtain rfl := List.mem_singleton.mp hq
        dsimp only
        rw [cnt_hit hdi]
        rfl
      case kb =>
        intro z hz hq _
        have hzc : z ≠ PySem.Str.ofString "count" := hq _ List.mem_cons_self
        simp [hz, hzc, kstB, cps]
  · rintro m₁ _ h tk ⟨rfl, t, h1, h2⟩ F1 N1
    have F2 := kst_frOut h1 h2 F1
    clear F1 h1 h2
    iterate 3 (first | walk1 | (dsimp only; walk1))
    dsimp only
    refine leave_ext (P := fun _ v _ => ∃ t, v = .int (((ds.map (·.1)).count c : Nat) : Int) t) hg₀ F2 N1 ⟨t, ?_⟩
    rw [List.take_of_length_le (by simp)]
end
section
section
variable {prog : Program} {w : World} {A : Around} {E : Value → Shared → Prop} {h₀ : Heap} {L : Addr} {m : PySem.Str → Option Value} {env : Env}
theorem fresh_of {h : Heap} (F : Fr h₀ L h m) {a : Addr} (ha : h.objs.size ≤ a) : h₀.get? a = none := by
  cases e : h₀.get? a with
  | none => rfl
  | some o' => exact absurd (Heap.lt_size (F.keep a o' e)) (Nat.not_lt.mpr ha)
/-- a comprehension of one clause over a name of its own, without cells -/
theorem block_X0 {elt iter : Expr} {ifs : List Expr} {x : PySem.Str} {px : Pos} {scope : Scope} {cl : List (PySem.Str × Addr)} {pos : Pos} {s₂ : Shared} {I : Addr} {fp : List Addr} {n b : Nat} {P : Nat → Value → Nat → Nat → Prop} {St : Nat → Heap → Prop} {news : List (Addr × Obj)}
    (J : Nat → List Value → List (Addr × Obj) → Prop) {RR : Value → Addr → Result → Shared → Prop}
    (W : Nx prog w A I fp n P St) (hsz : n ≤ sizeLine) (hIo : ∀ i h, St i h → ∃ o, h.get? I = some o)
    (hSt : ∀ i h h' o ys nw, St i h → h.get? I = some o → h'.get? I = some o → Fr h₀ L h' m → News h₀ L h' nw → J i ys nw → St i h')
    (hcell : ∀ y ∈ scope.names, y.2 ≠ .cell) (hkind : scope.kind = .function) (hx : scope.names.lookup x = some .local) (hst : St 0 s₂.heap) (hfp : ∀ b ∈ fp, b < s₂.heap.objs.size)
    (F : Fr h₀ L s₂.heap m) (N : News h₀ L s₂.heap news) (hIL : L ≠ I) (hI₀ : h₀.get? I = none) (off : ∀ p ∈ news, p.1 ≠ I) (hJ : J 0 [] news) (hb : b ≤ s₂.toks)
    (turn : ∀ i ys nw v h t0 t1 tk oI C oC D m₂ (E' : Value → Shared → Prop), i < n → P i v t0 t1 → b ≤ t0 → t1 ≤ tk → b ≤ tk → J i ys nw → LCg.NsObj oC m₂ → m₂ x = some v → Fr h₀ L h m → News h₀ L h ((I, oI) :: (C, oC) :: (D, LCg.lst ys) :: nw) → LCg.Off3 I C D nw → ((@Ne Nat I C) ∧ (@Ne Nat I D) ∧ (@Ne Nat C D)) →
      wpAny (model prog w) A (forIn ifs true fun c r => if r = true then do let ok ← isTrue c (compEnvC scope cl C env) (eval c (compEnvC scope cl C env)); pure (ForInStep.yield ok) else pure (ForInStep.yield r)) (fun ok s₃ =>
          if ok = true then wpAny (model prog w) A (eval elt (compEnvC scope cl C env)) (LCg.CompEnd h₀ L m { s₂ with heap := h, toks := tk } I oI C oC D (LCg.lst ys) (fun _ => True) (fun y nw' => J (i + 1) (ys ++ [y]) nw')) E' s₃
          else LCg.CompEnd h₀ L m { s₂ with heap := h, toks := tk } I oI C oC D (LCg.lst ys) (fun _ => True) (fun _ nw' => J (i + 1) ys nw') Value.none s₃) E' { s₂ with heap := h, toks := tk })
    (hRR : ∀ D C h tk m' ys nw, b ≤ tk → J n ys nw → Fr h₀ L h m → News h₀ L h ((D, LCg.lst ys) :: nw) → (∀ p ∈ nw, p.1 ≠ D) → h.Ns C m' → h₀.get? C = none → C ≠ L → C ≠ D → (∀ p ∈ nw, p.1 ≠ C) → RR (.ref D) C (.ok .next) { s₂ with heap := h, toks := tk }) :
    wpAny (model prog w) A (newList []) (fun acc s₃ => wpAny (model prog w) A (newFunctionEnv scope env.globals cl [] env.qual none .none (some env)) (fun cenv s₄ =>
      codeAny (model prog w) A (.compStart (.ListComp elt [⟨.Name x px, iter, ifs, 0⟩] scope pos) 0 (.ref I) acc { cenv with scope := relabel scope env }) (RR acc cenv.locals) s₄) E s₃) E s₂ := by
  refine wpAny_newObj_type (wpAny_newFunctionEnv hcell (by intro y hy; simp at hy) (fun h₁ hns₁ hsb₁ => ?_) hkind)
  dsimp only at hns₁ hsb₁ ⊢
  generalize hH2 : s₂.heap.push { cls := .type "list", dict := none, data := .seq ([] : List Value).toArray } = H2 at hns₁ hsb₁ ⊢
  have hC : H2.objs.size = s₂.heap.objs.size + 1 := by rw [← hH2, Heap.size_push]
  have hlt : s₂.heap.objs.size < H2.objs.size := by rw [hC]; exact Nat.lt_succ_self _
  have old : ∀ b o, s₂.heap.get? b = some o → h₁.get? b = some o := fun b o e => hsb₁.extBut b o (Nat.ne_of_lt (Nat.lt_trans (Heap.lt_size e) hlt)) (Heap.get?_push_of_some _ (hH2 ▸ Heap.get?_push_of_some _ e))
  have hacc : h₁.get? s₂.heap.objs.size = some (LCg.lst []) := hsb₁.extBut _ _ (Nat.ne_of_lt hlt) (Heap.get?_push_of_some _ (hH2 ▸ Heap.get?_push_size _ rfl))
  have hD₀ : h₀.get? s₂.heap.objs.size = none := fresh_of F (Nat.le_refl _)
  have hC₀ : h₀.get? H2.objs.size = none := fresh_of F (Nat.le_of_lt hlt)
  have hLlt : L < s₂.heap.objs.size := F.ns.lt
  have hIlt : I < s₂.heap.objs.size := hfp I W.inFp
  have hDL : s₂.heap.objs.size ≠ L := Ne.symm (Nat.ne_of_lt hLlt)
  have hCL : H2.objs.size ≠ L := Ne.symm (Nat.ne_of_lt (Nat.lt_trans hLlt hlt))
  have hCD : H2.objs.size ≠ s₂.heap.objs.size := Ne.symm (Nat.ne_of_lt hlt)
  have hCI : I ≠ H2.objs.size := Nat.ne_of_lt (Nat.lt_trans hIlt hlt)
  have hDI : I ≠ s₂.heap.objs.size := Nat.ne_of_lt hIlt
  obtain ⟨oC, heC, hoC⟩ := LCg.ns_obj hns₁
  have st0 : St 0 h₁ := W.frame _ _ _ hst fun b _ o e => old b o e
  have key : codeAny (model prog w) A (.compLoop (.ListComp elt [⟨.Name x px, iter, ifs, 0⟩] scope pos) 0 (.ref I) (.ref s₂.heap.objs.size) (compEnvC scope cl H2.objs.size env)) (RR (.ref s₂.heap.objs.size) H2.objs.size) { s₂ with heap := h₁, toks := s₂.toks + ([] : List (PySem.Str × Value)).length } := by
    refine loop_X (s := { s₂ with heap := h₁, toks := s₂.toks + ([] : List (PySem.Str × Value)).length }) (b := b) (m := m) (L := L) (h₀ := h₀) (led₀ := (H2.objs.size, oC) :: news)
      (fun i ys led => ∃ oC mC nw, led = (H2.objs.size, oC) :: nw ∧ LCg.NsObj oC mC ∧ (∀ p ∈ nw, p.1 ≠ H2.objs.size) ∧ J i ys nw) W hsz (fun hm => Nat.lt_irrefl _ (hfp _ hm)) hIo hIL hI₀ ?_ st0 (F.keeps old) ?_ ?_ ?_ (Nat.le_trans hb (Nat.le_add_right _ _)) ?_ ?_
    · rintro i h h' o ys led hs e e' F' N' ⟨oC', mC, nw, rfl, _, _, hj⟩
      exact hSt i h h' o ys nw hs e e' F' (fun p hp => N' p (List.mem_cons_of_mem _ hp)) hj
    · intro p hp
      rcases List.mem_cons.mp hp with rfl | hp
      · exact ⟨hacc, hDL, hD₀⟩
      · rcases List.mem_cons.mp hp with rfl | hp
        · exact ⟨heC, hCL, hC₀⟩
        · exact ⟨old _ _ (N p hp).1, (N p hp).2⟩
    · intro p hp
      rcases List.mem_cons.mp hp with rfl | hp
      · exact ⟨Ne.symm hCI, hCD⟩
      · exact ⟨off p hp, Nat.ne_of_lt (Heap.lt_size (N p hp).1)⟩
    · exact ⟨oC, _, news, rfl, hoC, fun p hp => Nat.ne_of_lt (Nat.lt_trans (Heap.lt_size (N p hp).1) hlt), hJ⟩
    · rintro i ys led v h t0 tk oI E' hi hP hb0 hbk ⟨oC', mC, nw, rfl, hC', hoff, hj⟩ F' N' off' hID
      have zC := (N' (H2.objs.size, oC') (List.mem_cons_of_mem _ (List.mem_cons_of_mem _ List.mem_cons_self))).1
      refine wpAny_assign_Name (wpAny_storeName_local (lookup_relabel_local hx) (hC'.ns zC) (fun h₃ hn₃ hs₃ => ?_) (by simp [compEnvC, relabel, hkind]))
      obtain ⟨oC₃, heC₃, hoC₃⟩ := LCg.ns_obj hn₃
      have N₃ : News h₀ L h₃ ((I, oI) :: (H2.objs.size, oC₃) :: (s₂.heap.objs.size, LCg.lst ys) :: nw) := fun p hp => by
        rcases List.mem_cons.mp hp with rfl | hp
        · have z := N' (I, oI) List.mem_cons_self
          exact ⟨hs₃.extBut _ _ hCI z.1, z.2⟩
        · rcases List.mem_cons.mp hp with rfl | hp
          · exact ⟨heC₃, hCL, hC₀⟩
          · rcases List.mem_cons.mp hp with rfl | hp
            · have z := N' (s₂.heap.objs.size, LCg.lst ys) (List.mem_cons_of_mem _ List.mem_cons_self)
              exact ⟨hs₃.extBut _ _ (Ne.symm hCD) z.1, z.2⟩
            · have z := N' p (List.mem_cons_of_mem _ (List.mem_cons_of_mem _ (List.mem_cons_of_mem _ hp)))
              exact ⟨hs₃.extBut _ _ (hoff p hp) z.1, z.2⟩
      have o3 : LCg.Off3 I H2.objs.size s₂.heap.objs.size nw := LCg.Off3.of fun p hp => ⟨(off' p (List.mem_cons_of_mem _ hp)).1, hoff p hp, (off' p (List.mem_cons_of_mem _ hp)).2⟩
      have wrap : ∀ (J' : List (Addr × Obj) → Prop) (y : Value) (s₄ : Shared), LCg.CompEnd h₀ L m { s₂ with heap := h₃, toks := tk + 1 } I oI H2.objs.size oC₃ s₂.heap.objs.size (LCg.lst ys) (fun _ => True) (fun _ nw' => J' nw') y s₄ →
          NextX h₀ L m { s₂ with heap := h, toks := tk } I oI s₂.heap.objs.size (LCg.lst ys) (fun led => ∃ oC mC nw, led = (H2.objs.size, oC) :: nw ∧ LCg.NsObj oC mC ∧ (∀ p ∈ nw, p.1 ≠ H2.objs.size) ∧ J' nw) s₄ := by
        rintro J' y s₄ ⟨h₄, tk₄, nw', rfl, F₄, N₄, off₄, _, j₄⟩
        have o4 := off₄.mem
        refine ⟨h₄, tk₄, (H2.objs.size, oC₃) :: nw', rfl, F₄, fun p hp => N₄ p ?_, fun p hp => ?_, oC₃, _, nw', rfl, hoC₃, fun p hp => (o4 p hp).2.1, j₄⟩
        · rcases List.mem_cons.mp hp with rfl | hp
          · exact List.mem_cons_self
          · rcases List.mem_cons.mp hp with rfl | hp
            · exact List.mem_cons_of_mem _ (List.mem_cons_of_mem _ List.mem_cons_self)
            · rcases List.mem_cons.mp hp with rfl | hp
              · exact List.mem_cons_of_mem _ List.mem_cons_self
              · exact List.mem_cons_of_mem _ (List.mem_cons_of_mem _ (List.mem_cons_of_mem _ hp))
        · rcases List.mem_cons.mp hp with rfl | hp
          · exact ⟨Ne.symm hCI, hCD⟩
          · exact ⟨(o4 p hp).1, (o4 p hp).2.2⟩
      refine wpAny_mono (turn i ys nw v h₃ t0 tk (tk + 1) oI H2.objs.size oC₃ s₂.heap.objs.size _ E' hi hP hb0 (Nat.le_succ _) (Nat.le_succ_of_le hbk) hj hoC₃ (by simp) (F'.change hs₃ hCL hC₀) N₃ o3 ⟨hCI, hDI, hCD⟩) (fun ok s₃ h₃' => ?_) fun _ _ e => e
      cases ok with
      | true =>
        simp only [if_true] at h₃' ⊢
        exact wpAny_mono h₃' (fun y s₄ h₄ => wrap (fun nw' => J (i + 1) (ys ++ [y]) nw') y s₄ (by
          obtain ⟨a1, a2, a3, a4, a5, a6, a7, a8, a9⟩ := h₄
          exact ⟨a1, a2, a3, a4, a5, a6, a7, a8, a9⟩)) fun _ _ e => e
      | false =>
        simp only [Bool.false_eq_true, if_false] at h₃' ⊢
        exact wrap (fun nw' => J (i + 1) ys nw') Value.none s₃ h₃'
    · rintro ys led h tk hbk ⟨oC', mC, nw, rfl, hC', hoff, hj⟩ F' N' off'
      have zC := (N' (H2.objs.size, oC') (List.mem_cons_of_mem _ List.mem_cons_self)).1
      refine hRR _ _ h tk _ ys nw hbk hj F' (fun p hp => ?_) (fun p hp => off' p (List.mem_cons_of_mem _ hp)) (hC'.ns zC) hC₀ hCL hCD hoff
      rcases List.mem_cons.mp hp with rfl | hp
      · exact N' _ List.mem_cons_self
      · exact N' p (List.mem_cons_of_mem _ (List.mem_cons_of_mem _ hp))
  exact codeAny_compStart_list key (W.self 0 _ _ _ st0 key)
end
end
section
def numOf (cs : List Nat) : Int := cs.foldl (fun (a : Int) (c : Nat) => a * 256 + (c : Int)) 0
theorem u8_nat {c : Nat} (h : c < 128) : ((c.toUInt8.toNat : Nat) : Int) = (c : Int) := by
  rw [show c.toUInt8.toNat = c % 256 from by simp [Nat.toUInt8]]
  omega
theorem numOf_bytes {c0 c1 c2 c3 : Nat} (h0 : c0 < 128) (h1 : c1 < 128) (h2 : c2 < 128) (h3 : c3 < 128) :
    ((((0 * 256 + ((c0.toUInt8.toNat : Nat) : Int)) * 256 + ((c1.toUInt8.toNat : Nat) : Int)) * 256 + ((c2.toUInt8.toNat : Nat) : Int)) * 256 + ((c3.toUInt8.toNat : Nat) : Int)) = numOf [c0, c1, c2, c3] := by
  rw [u8_nat h0, u8_nat h1, u8_nat h2, u8_nat h3]
  rfl
theorem num_ok (w : World) (c0 c1 c2 c3 : Nat) (t : Tok) (h0 : c0 ∈ S5) (h1 : c1 ∈ S5) (h2 : c2 ∈ S5) (h3 : c3 ∈ S5) : PE 4 w 117 [.str (tx [c0, c1, c2, c3]) t] (fun _ => True) (fun _ v _ => ∃ t, v = .int (numOf [c0, c1, c2, c3]) t) := by
  unfold PE
  k_fill
  intro p loose mean mg mb dp un gd cn cs' a ccd cl outer A₀ base h₀ L m s E B F X T hk hd hu hp
  obtain ⟨ck, cnm, c1', c2', c3'⟩ := cs'
  cases hk
  refine wpAny_call ?_
  k_dflt walk_at "m enterP"
  rename_i g₀ L₀ h₁ FG₀ F₀ N₀ B₀ X₀ T₀ hg₀
  iterate 10 (first | walk1 | (dsimp only; walk1))
  iterate 7 (first | walk1 | (dsimp only; walk1))
  k_dflt (refine' PE.use (enc_ok w c0 c1 c2 c3 _ h0 h1 h2 h3) ?kB ?kF ?kX ?kN ?kT ?kk ?kd ?ku ?kp ?_; (case kB => k_asm); (case kF => k_asm); (case kX => k_asm); (case kN => k_asm); (case kT => k_asm); (case kk => rfl); (case kd => ktr_room); (case ku => ktr_units); (case kp => exact trivial); k_whole)
  rintro _ hh2 tk2 ⟨t2, rfl⟩ hx F2 N2 hnew
  iterate 5 (first | walk1 | (dsimp only; walk1))
  exact leave_ext (P := fun _ v _ => ∃ t, v = .int (numOf [c0, c1, c2, c3]) t) hg₀ (by assumption) (by assumption) ⟨_, congrArg (fun y => Value.int y _) (numOf_bytes (s5_lt h0) (s5_lt h1) (s5_lt h2) (s5_lt h3))⟩
end
section
local macro_rules | `(tactic| walk_at "call type:slice") => `(tactic| (k_here; k_dflt (refine call_slice_K (by k_asm) (by k_asm) ?_); intro a' h' F' N' l1; (try k_lt l1)))
def step1 (ns : List Int) (j : Int) : List Int := (ns.set j.toNat (Builtin.bitAnd (ns.getD j.toNat 0) (ns.getD (j.toNat + 1) 0))).set (j.toNat + 1) (Builtin.bitOr (ns.getD j.toNat 0) (ns.getD (j.toNat + 1) 0))
def lay1 (ns : List Int) (e : Int) : List Int := (rangeKs 0 e.toNat).foldl step1 ns
def sortBits (ns : List Int) : List Int := (downKs (ns.length - 1) (ns.length - 1)).foldl lay1 ns
theorem sort_walk (w : World) (D : Addr) (vs : List Value) (ns : List Int) (n : Nat) (hi : IntsAre vs ns) (hn : ns.length ≤ 6)
  (p : Program) (loose : List PySem.Str) (mean : ExcName → Option Value) (mg mb : PySem.Str → Option Value) (dp un : Nat) (gd : Option (List Code)) (cn : PySem.Str) (cs : Scope) (a : Addr) (ccd : Value) (cl : List (PySem.Str × Addr)) (outer : List Env) (A₀ : Around) (base h₀ : Heap) (L : Addr) (m : PySem.Str → Option Value) (s : Shared) (E : Value → Shared → Prop) :
    Below A₀ base outer h₀ → Fr h₀ L s.heap m → News h₀ L s.heap [(D, listOf vs.toArray n)] → (Mine.hd0.heap_39 w.params).In h₀ → Top p loose mean mg mb h₀ → cs.kind = .function → dp + 4 < recursionLimit → un + 16 * 4 < cLine →
    wpAny (model PySem.Challenge.rw_in0262_01.row.prog w) (ktrTop dp un gd cn cs L a ccd cl outer) (call (.ref 124) [.ref D]) (fun v s' => ∃ h' tk vs' n', v = .ref D ∧ s' = { s with heap := h', toks := tk } ∧ (∀ b o, b ≠ D → s.heap.get? b = some o → h'.get? b = some o) ∧ h'.get? D = some (listOf vs'.toArray n') ∧ IntsAre vs' (sortBits ns)) E s := by
  k_fill
  intro B F N X T hk hd hu
  obtain ⟨ck, cnm, c1, c2, c3⟩ := cs
  cases hk
  refine wpAny_call ?_
  k_dflt walk_at "m enterP"
  rename_i g₀ L₀ h₁ FG₀ F₀ N₀ B₀ X₀ T₀ hg₀
  iterate 25 (first | walk1 | (dsimp only; walk1))
  rename_i kR kF kN kX0
  refine kst_rangeD (n := ns.length - 1) (σ := List Value × Nat × List Int) (fun c => [(D, listOf c.1.toArray c.2.1)]) (fun _ => []) (fun c => IntsAre c.1 c.2.2 ∧ c.2.2.length = ns.length) [PySem.Str.ofString "j"] (fun pre c => c.2.2 = pre.foldl lay1 ns) (vs, n, ns) rfl kR (small_down (by omega) (by omega) (by omega) (by omega)) (by rw [rangeSize_downNat]; omega) kF kN ⟨hi, rfl⟩ (fun _ h => nomatch h) rfl ?_ ?_
  · rintro ⟨vs1, n1, ns1⟩ pre k t u h tk own hk hpre hoff ⟨hi1, hl1⟩ hP1 F1 N1
    dsimp only at hi1 hl1 hP1 N1 hoff
    simp only [List.singleton_append] at N1
    k_whole
    iterate 8 (first | walk1 | (dsimp only; walk1))
    with_unfolding_all refine range1_rows (by assumption) (by assumption) ?_
    intro _ _ _ _ _ jR jF jN jX0
    refine kst_range (n := k.toNat) (σ := List Value × Nat × List Int) (fun c => (D, listOf c.1.toArray c.2.1) :: own) (fun _ => []) (fun c => IntsAre c.1 c.2.2 ∧ c.2.2.length = ns.length) [] (fun pre2 c => c.2.2 = pre2.foldl step1 (pre.foldl lay1 ns)) (vs1, n1, ns1) rfl jR (small_one (by omega) (by omega) (by omega) (by omega)) (by rw [rangeSize_one]; split <;> omega) jF jN ⟨hi1, hl1⟩ (fun _ h => nomatch h) hP1 ?_ ?_
    · rintro ⟨vs2, n2, ns2⟩ pre2 j t2 u2 hh2 tk2 own2 hj hpre2 hoff2 ⟨hi2, hl2⟩ hP2 F2 N2
      dsimp only at hi2 hl2 hP2 N2 hoff2
      simp only [List.cons_append] at N2
      k_whole
      iterate 18 (first | walk1 | (dsimp only; walk1))
      iterate 18 (first | walk1 | (dsimp only; walk1))
      iterate 5 (first | walk1 | (dsimp only; walk1))
      k_dflt (refine' PE.use (and_pe w _ _ _ _) ?kB ?kF ?kX ?kN ?kT ?kk ?kd ?ku ?kp ?_; (case kB => k_asm); (case kF => k_asm); (case kX => k_asm); (case kN => k_asm); (case kT => k_asm); (case kk => rfl); (case kd => ktr_room); (case ku => ktr_units); (case kp => exact trivial); k_whole)
      rintro _ ha tka ⟨ta, rfl⟩ hxa Fa Na hnewa
      clear hnewa
      iterate 19 (first | walk1 | (dsimp only; walk1))
      k_dflt (refine' PE.use (or_pe w _ _ _ _) ?kB ?kF ?kX ?kN ?kT ?kk ?kd ?ku ?kp ?_; (case kB => k_asm); (case kF => k_asm); (case kX => k_asm); (case kN => k_asm); (case kT => k_asm); (case kk => rfl); (case kd => ktr_room); (case ku => ktr_units); (case kp => exact trivial); k_whole)
      rintro _ hb tkb ⟨tb, rfl⟩ hxb Fb Nb hnewb
      clear hnewb
      iterate 6 (first | walk1 | (dsimp only; walk1))
      iterate 5 (first | walk1 | (dsimp only; walk1))
      k_here
      refine' set_slice_K (vs := vs2) (n := n2) (ns := ns2) ?k1 ?k2 ?k3 ?k4 ?k5 ?k6 ?k7 ?k8 ?k9 ?k10 ?k11 ?_
      case k1 => k_asm
      case k2 => k_asm
      case k3 => exact Upd.tail (by k_ne) (Upd.tail (by k_ne) (Upd.head fun p hp => (List.mem_append.mp hp).elim (fun q => hoff p q D (List.mem_cons_self)) fun q => hoff2 p q D List.mem_cons_self))
      case k4 => k_mem
      case k5 => k_mem
      case k6 => assumption
      case k7 => omega
      case k8 => omega
      case k9 => omega
      case k10 => omega
      case k11 => k_ne
      intro h5 F5 N5 hi5
      have ej : (j + 1).toNat = j.toNat + 1 := by omega
      rw [ej] at hi5 N5
      iterate 3 (first | walk1 | (dsimp only; walk1))
      refine ⟨_, _, _, _, (D, listOf _ n2) :: own, rfl, by assumption, by assumption, ?_, ?_, ?_, ⟨_, n2, step1 ns2 j⟩, rfl, ⟨hi5, by simp [step1, hl2]⟩, ?_, ?_, ?_⟩
      · intro q hq
        rcases List.mem_cons.mp hq with rfl | hq
        · exact List.mem_cons_of_mem _ (List.mem_cons_of_mem _ List.mem_cons_self)
        · exact List.mem_cons_of_mem _ (List.mem_cons_of_mem _ (List.mem_cons_of_mem _ (List.mem_append_left _ hq)))
      · intro q hq
        exact List.mem_cons_of_mem _ (List.mem_cons_of_mem _ (List.mem_cons_of_mem _ (List.mem_append_right _ hq)))
      · rfl
      · intro q hq; nomatch hq
      · intro z hz _ _
        simp [hz, kstB]
      · dsimp only
        rw [List.foldl_append, ← hP2]
        rfl
    · rintro ⟨vs2, n2, ns2⟩ u2 hh2 tk2 ⟨hi2, hl2⟩ hP2 F2 N2
      dsimp only at hi2 hl2 hP2 N2
      iterate 1 (first | walk1 | (dsimp only; walk1))
      refine ⟨_, _, _, _, [(D, listOf vs2.toArray n2)], rfl, by assumption, by assumption, ?_, ?_, rfl, ⟨vs2, n2, ns2⟩, rfl, ⟨hi2, hl2⟩, ?_, ?_, ?_⟩
      · intro q hq
        rcases List.mem_cons.mp hq with rfl | hq
        · exact List.mem_cons_self
        · nomatch hq
      · intro q hq
        exact List.mem_cons_of_mem _ hq
      · intro q hq; nomatch hq
      · intro z hz _ hs
        have hzj : z ≠ PySem.Str.ofString "j" := by
          rintro rfl
          simp at hs
        simp [hz, hzj, kstB]
      · dsimp only
        rw [List.foldl_append, hP2]
        rfl
  · rintro ⟨vs1, n1, ns1⟩ u h tk ⟨hi1, hl1⟩ hP1 F1 N1
    dsimp only at hi1 hl1 hP1 N1
    iterate 3 (first | walk1 | (dsimp only; walk1))
    dsimp only
    refine leaveK_ (news' := [(D, listOf vs1.toArray n1)]) F1 N1 fun F9 N9 => ?_
    refine ⟨_, _, vs1, n1, rfl, rfl, fun b o hb e => F1.keep b o (hg₀ b o e (by simpa using hb)), (N9 _ List.mem_cons_self).1, ?_⟩
    rw [sortBits, ← hP1]
    exact hi1
end
section
section
variable {prog : Program} {w : World} {A : Around} {E : Value → Shared → Prop} {s : Shared} {h₀ : Heap} {L : Addr} {m : PySem.Str → Option Value} {env : Env}
/-- what the source of a comprehension hands on -/
def SrcX0 (prog : Program) (w : World) (A : Around) (E : Value → Shared → Prop) (h₀ : Heap) (L : Addr) (m : PySem.Str → Option Value) (env : Env) (ifs : List Expr) (elt : Expr) (x : PySem.Str) (scope : Scope) (cl : List (PySem.Str × Addr)) (Q : Value → Shared → Prop) (xv : Value) (s₁ : Shared) : Prop :=
  wpAny (model prog w) A (pyIter xv) (fun it s₂ => ∃ (I : Addr) (fp : List Addr) (n b : Nat) (P : Nat → Value → Nat → Nat → Prop) (St : Nat → Heap → Prop) (news : List (Addr × Obj)) (J : Nat → List Value → List (Addr × Obj) → Prop),
    it = .ref I ∧ Nx prog w A I fp n P St ∧ n ≤ sizeLine ∧ (∀ i h, St i h → ∃ o, h.get? I = some o) ∧
    (∀ i h h' o ys nw, St i h → h.get? I = some o → h'.get? I = some o → Fr h₀ L h' m → News h₀ L h' nw → J i ys nw → St i h') ∧ St 0 s₂.heap ∧ (∀ b ∈ fp, b < s₂.heap.objs.size) ∧ Fr h₀ L s₂.heap m ∧ News h₀ L s₂.heap news ∧ L ≠ I ∧ h₀.get? I = none ∧
    (∀ p ∈ news, p.1 ≠ I) ∧ J 0 [] news ∧ b ≤ s₂.toks ∧
    (∀ i ys nw v h t0 t1 tk oI C oC D m₂ (E' : Value → Shared → Prop), i < n → P i v t0 t1 → b ≤ t0 → t1 ≤ tk → b ≤ tk → J i ys nw → LCg.NsObj oC m₂ → m₂ x = some v → Fr h₀ L h m → News h₀ L h ((I, oI) :: (C, oC) :: (D, LCg.lst ys) :: nw) → LCg.Off3 I C D nw → ((@Ne Nat I C) ∧ (@Ne Nat I D) ∧ (@Ne Nat C D)) →
      wpAny (model prog w) A (forIn ifs true fun c r => if r = true then do let ok ← isTrue c (compEnvC scope cl C env) (eval c (compEnvC scope cl C env)); pure (ForInStep.yield ok) else pure (ForInStep.yield r)) (fun ok s₃ =>
          if ok = true then wpAny (model prog w) A (eval elt (compEnvC scope cl C env)) (LCg.CompEnd h₀ L m { s₂ with heap := h, toks := tk } I oI C oC D (LCg.lst ys) (fun _ => True) (fun y nw' => J (i + 1) (ys ++ [y]) nw')) E' s₃
          else LCg.CompEnd h₀ L m { s₂ with heap := h, toks := tk } I oI C oC D (LCg.lst ys) (fun _ => True) (fun _ nw' => J (i + 1) ys nw') Value.none s₃) E' { s₂ with heap := h, toks := tk }) ∧
    ∀ D ys nw h tk, b ≤ tk → J n ys nw → Fr h₀ L h m → News h₀ L h ((D, LCg.lst ys) :: nw) → (∀ p ∈ nw, p.1 ≠ D) → Q (.ref D) { s₂ with heap := h, toks := tk }) E s₁
theorem eval_X0 {elt iter : Expr} {ifs : List Expr} {x : PySem.Str} {px : Pos} {scope : Scope} {cl : List (PySem.Str × Addr)} {pos : Pos} {Q : Value → Shared → Prop} (_F₀ : Fr h₀ L s.heap m)
    (hclos : closureFor scope env = pure cl) (hcell : ∀ y ∈ scope.names, y.2 ≠ .cell) (hkind : scope.kind = .function)
    (hnames : ∀ y ∈ scope.names, y.2 = .local → scope.names.lookup y.1 = some .local) (hx : scope.names.lookup x = some .local)
    (h : wpAny (model prog w) A (eval iter env) (SrcX0 prog w A E h₀ L m env ifs elt x scope cl Q) E s)
    (hs : ∀ x, foldedSetIterable iter env x = pure x := by intro _; rfl) :
    wpAny (model prog w) A (eval (.ListComp elt [⟨.Name x px, iter, ifs, 0⟩] scope pos) env) Q E s := by
  rw [eval_ListComp]
  refine wpAny_comprehension_free (use := none) rfl hs hclos hkind hnames (wpAny_mono h (fun xv s₁ h₁ => ?_) fun _ _ e => e)
  refine wpAny_mono h₁ (fun it s₂ h₂ => ?_) fun _ _ e => e
  obtain ⟨I, fp, n, b, P, St, news, J, rfl, W, hsz, hIo, hSt, hst, hfp, F, N, hIL, hI₀, off, hJ, hb, turn, fin⟩ := h₂
  refine block_X0 J W hsz hIo hSt hcell hkind hx hst hfp F N hIL hI₀ off hJ hb turn ?_
  intro D C h tk m' ys nw hbk hj F' N' offD hn hC₀ hCL hCD offC
  refine ⟨m', hn, fun h'' hs'' => fin D ys nw h'' tk hbk hj (F'.change hs'' hCL hC₀) (fun p hp => ?_) offD⟩
  refine ⟨hs''.extBut _ _ ?_ (N' p hp).1, (N' p hp).2⟩
  rcases List.mem_cons.mp hp with rfl | hp
  · exact Ne.symm hCD
  · exact offC p hp
/-- a list of the ledger -/
theorem SrcX0.list {ifs : List Expr} {elt : Expr} {x : PySem.Str} {scope : Scope} {cl : List (PySem.Str × Addr)} {Q : Value → Shared → Prop} {ax : Addr} {its : List Value} {k b : Nat} {news : List (Addr × Obj)} {s₁ : Shared} (J : Nat → List Value → List (Addr × Obj) → Prop)
    (hh : A.handled = none) (F : Fr h₀ L s₁.heap m) (N : News h₀ L s₁.heap news) (hm : (ax, ({ cls := .type "list", data := .seq its.toArray k } : Obj)) ∈ news) (hsz : its.length ≤ sizeLine) (hJ : J 0 [] news) (hb : b ≤ s₁.toks)
    (hJm : ∀ i ys nw, J i ys nw → (ax, ({ cls := .type "list", data := .seq its.toArray k } : Obj)) ∈ nw)
    (turn : ∀ I s₂ i ys nw v h tk oI C oC D m₂ (E' : Value → Shared → Prop), (∃ g, s₂ = { s₁ with heap := g }) → its[i]? = some v → b ≤ tk → J i ys nw → LCg.NsObj oC m₂ → m₂ x = some v → Fr h₀ L h m → News h₀ L h ((I, oI) :: (C, oC) :: (D, LCg.lst ys) :: nw) → LCg.Off3 I C D nw → ((@Ne Nat I C) ∧ (@Ne Nat I D) ∧ (@Ne Nat C D)) →
      wpAny (model prog w) A (forIn ifs true fun c r => if r = true then do let ok ← isTrue c (compEnvC scope cl C env) (eval c (compEnvC scope cl C env)); pure (ForInStep.yield ok) else pure (ForInStep.yield r)) (fun ok s₃ =>
          if ok = true then wpAny (model prog w) A (eval elt (compEnvC scope cl C env)) (LCg.CompEnd h₀ L m { s₂ with heap := h, toks := tk } I oI C oC D (LCg.lst ys) (fun _ => True) (fun y nw' => J (i + 1) (ys ++ [y]) nw')) E' s₃
          else LCg.CompEnd h₀ L m { s₂ with heap := h, toks := tk } I oI C oC D (LCg.lst ys) (fun _ => True) (fun _ nw' => J (i + 1) ys nw') Value.none s₃) E' { s₂ with heap := h, toks := tk })
    (fin : ∀ s₂ D ys nw h tk, (∃ g, s₂ = { s₁ with heap := g }) → b ≤ tk → J its.length ys nw → Fr h₀ L h m → News h₀ L h ((D, LCg.lst ys) :: nw) → (∀ p ∈ nw, p.1 ≠ D) → Q (.ref D) { s₂ with heap := h, toks := tk }) :
    SrcX0 prog w A E h₀ L m env ifs elt x scope cl Q (.ref ax) s₁ := by
  have hl : s₁.heap.IsList ax its.toArray := ⟨_, (N _ hm).1, rfl, _, rfl⟩
  have hlt : ax < s₁.heap.objs.size := Heap.lt_size (N _ hm).1
  have up : ∀ b o, s₁.heap.get? b = some o → (s₁.heap.push { cls := .type "list_iterator", data := .fields #[.ref ax, .int 0 0] }).get? b = some o := fun b o e => Heap.get?_push_of_some _ e
  have W := Nx.of_walks (Walks.list (prog := prog) (w := w) hh s₁.heap.objs.size ax (Nat.ne_of_lt hlt) its.toArray)
  have hn : its.toArray.size = its.length := by simp
  rw [hn] at W
  refine wpAny_pyIter_list hl ⟨_, _, _, b, _, _, news, J, rfl, W, hsz, fun i h st => by obtain ⟨o, e, _⟩ := st.1; exact ⟨o, e⟩, ?_, ⟨⟨_, Heap.get?_push_size _ rfl, rfl, rfl⟩, hl.push _⟩, ?_, F.keeps up, N.grown up, Nat.ne_of_lt F.ns.lt, next_is_new F, fun p hp => Nat.ne_of_lt (Heap.lt_size (N p hp).1), hJ, hb, ?_, ?_⟩
  · intro i h h' o ys nw hs e e' F' N' hj
    refine ⟨?_, ⟨_, (N' _ (hJm i ys nw hj)).1, rfl, _, rfl⟩⟩
    obtain ⟨o', q, r⟩ := hs.1
    rw [e] at q
    cases q
    exact ⟨o, e', r⟩
  · intro c hc
    show c < (s₁.heap.push _).objs.size
    rw [Heap.size_push]
    rcases List.mem_cons.mp hc with rfl | hc
    · exact Nat.lt_succ_self _
    · rw [List.mem_singleton.mp hc]; exact Nat.lt_succ_of_lt hlt
  · intro i ys nw v h t0 t1 tk oI C oC D m₂ E' hi hP _ _ hbk hj hC hx' F' N' o3 ne
    exact turn _ _ i ys nw v h tk oI C oC D m₂ E' ⟨_, rfl⟩ (by simpa using hP) hbk hj hC hx' F' N' o3 ne
  · intro D ys nw h tk hbk hj F' N' o
    exact fin _ D ys nw h tk ⟨_, rfl⟩ hbk hj F' N' o
/-- the signs of a text of ASCII -/
theorem SrcX0.ascii {ifs : List Expr} {elt : Expr} {x : PySem.Str} {scope : Scope} {cl : List (PySem.Str × Addr)} {Q : Value → Shared → Prop} {cs : List Nat} {t : Tok} {b : Nat} {news : List (Addr × Obj)} {s₁ : Shared} (J : Nat → List Value → List (Addr × Obj) → Prop)
    (hh : A.handled = none) (F : Fr h₀ L s₁.heap m) (N : News h₀ L s₁.heap news) (ha : ∀ c ∈ cs, c < 128) (hsz : cs.length ≤ sizeLine) (hJ : J 0 [] news) (hb : b ≤ s₁.toks)
    (turn : ∀ I s₂ i ys nw c t0 h tk oI C oC D m₂ (E' : Value → Shared → Prop), (∃ g, s₂ = { s₁ with heap := g }) → cs[i]? = some c → b ≤ t0 → t0 < tk → J i ys nw → LCg.NsObj oC m₂ → m₂ x = some (.str (tx [c]) t0) → Fr h₀ L h m → News h₀ L h ((I, oI) :: (C, oC) :: (D, LCg.lst ys) :: nw) → LCg.Off3 I C D nw → ((@Ne Nat I C) ∧ (@Ne Nat I D) ∧ (@Ne Nat C D)) →
      wpAny (model prog w) A (forIn ifs true fun c r => if r = true then do let ok ← isTrue c (compEnvC scope cl C env) (eval c (compEnvC scope cl C env)); pure (ForInStep.yield ok) else pure (ForInStep.yield r)) (fun ok s₃ =>
          if ok = true then wpAny (model prog w) A (eval elt (compEnvC scope cl C env)) (LCg.CompEnd h₀ L m { s₂ with heap := h, toks := tk } I oI C oC D (LCg.lst ys) (fun _ => True) (fun y nw' => J (i + 1) (ys ++ [y]) nw')) E' s₃
          else LCg.CompEnd h₀ L m { s₂ with heap := h, toks := tk } I oI C oC D (LCg.lst ys) (fun _ => True) (fun _ nw' => J (i + 1) ys nw') Value.none s₃) E' { s₂ with heap := h, toks := tk })
    (fin : ∀ s₂ D ys nw h tk, (∃ g, s₂ = { s₁ with heap := g }) → b ≤ tk → J cs.length ys nw → Fr h₀ L h m → News h₀ L h ((D, LCg.lst ys) :: nw) → (∀ p ∈ nw, p.1 ≠ D) → Q (.ref D) { s₂ with heap := h, toks := tk }) :
    SrcX0 prog w A E h₀ L m env ifs elt x scope cl Q (.str (tx cs) t) s₁ := by
  have up : ∀ b o, s₁.heap.get? b = some o → (s₁.heap.push { cls := .type "str_ascii_iterator", data := .fields #[.str (tx cs) t, .int 0 0] }).get? b = some o := fun b o e => Heap.get?_push_of_some _ e
  have W := Nx.ascii (prog := prog) (w := w) hh s₁.heap.objs.size (tx cs) t
  have hn : (tx cs).cps.size = cs.length := by simp
  rw [hn] at W
  refine wpAny_pyIter_ascii (by simpa using ha) ⟨_, _, _, b, _, _, news, J, rfl, W, hsz, fun i h st => by obtain ⟨o, e, _⟩ := st; exact ⟨o, e⟩, ?_, ⟨_, Heap.get?_push_size _ rfl, rfl, rfl⟩, ?_, F.keeps up, N.grown up, Nat.ne_of_lt F.ns.lt, next_is_new F, fun p hp => Nat.ne_of_lt (Heap.lt_size (N p hp).1), hJ, hb, ?_, ?_⟩
  · intro i h h' o ys nw hs e e' F' N' hj
    obtain ⟨o', q, r⟩ := hs
    rw [e] at q
    cases q
    exact ⟨o, e', r⟩
  · intro c hc
    show c < (s₁.heap.push _).objs.size
    rw [Heap.size_push]
    rw [List.mem_singleton.mp hc]; exact Nat.lt_succ_self _
  · rintro i ys nw v h t0 t1 tk oI C oC D m₂ E' hi ⟨c, hc, rfl, rfl⟩ hb0 htk _ hj hC hx' F' N' o3 ne
    exact turn _ _ i ys nw c t0 h tk oI C oC D m₂ E' ⟨_, rfl⟩ (by simpa using hc) hb0 htk hj hC hx' F' N' o3 ne
  · intro D ys nw h tk hbk hj F' N' o
    exact fin _ D ys nw h tk ⟨_, rfl⟩ hbk hj F' N' o
end
end
section
section
variable {prog : Program} {w : World} {A : Around} {E : Value → Shared → Prop} {s : Shared} {h₀ : Heap} {L : Addr} {m : PySem.Str → Option Value} {env : Env}
abbrev dictO : Obj := { cls := .type "dict", data := .dict #[] }
abbrev cellO : Obj := { cls := .type "cell", data := .cell none }
theorem newEnv_cell {scope : Scope} {g : Addr} {cl : List (PySem.Str × Addr)} {x : PySem.Str} {qual : PySem.Str} {Q : Env → Shared → Prop} (hc : ∀ k, cellsFrom k scope.names cl = (x, k) :: cl) (hp : ∀ h : Heap, pushCells h scope.names = h.push cellO)
    (hQ : Q (newEnv scope s.heap.objs.size g ((x, s.heap.objs.size + 1) :: cl) qual none .none (some env) env.builtins) { s with heap := (s.heap.push dictO).push cellO }) :
    wpAny (model prog w) A (newFunctionEnv scope g cl [] qual none .none (some env)) Q E s := by
  simp only [newFunctionEnv, Option.isSome_some, if_true]
  refine wpAny_bind (wpAny_alloc ?_)
  refine wpAny_bind (wpAny_layCells _ (fun name kind cells => by cases hkc : kind == NameKind.cell <;> simp [hkc]) _ _ _ _ ?_)
  rw [show ({ s with heap := s.heap.push { cls := .type "dict", data := .dict #[] } } : Shared).heap.objs.size = s.heap.objs.size + 1 from Heap.size_push .., hc, hp]
  simp only [List.forIn_nil]
  exact wpAny_bind (wpAny_pure (wpAny_pure hQ))
theorem ns_dictO {h : Heap} {C : Addr} (e : h.get? C = some dictO) : h.Ns C (fun _ => none) :=
  ⟨_, _, _, e, rfl, (fun e he => by simp at he), fun _ => by first | rfl | simp [nsFind]⟩
/-- a comprehension whose own name lies in a cell -/
theorem block_X1 {elt iter : Expr} {ifs : List Expr} {x : PySem.Str} {px : Pos} {scope : Scope} {cl : List (PySem.Str × Addr)} {pos : Pos} {s₂ : Shared} {I : Addr} {fp : List Addr} {n b : Nat} {P : Nat → Value → Nat → Nat → Prop} {St : Nat → Heap → Prop} {news : List (Addr × Obj)}
    (J : Nat → List Value → List (Addr × Obj) → Prop) {RR : Value → Addr → Result → Shared → Prop}
    (W : Nx prog w A I fp n P St) (hsz : n ≤ sizeLine) (hIo : ∀ i h, St i h → ∃ o, h.get? I = some o)
    (hSt : ∀ i h h' o ys nw, St i h → h.get? I = some o → h'.get? I = some o → Fr h₀ L h' m → News h₀ L h' nw → J i ys nw → St i h')
    (hc : ∀ k, cellsFrom k scope.names cl = (x, k) :: cl) (hp : ∀ h : Heap, pushCells h scope.names = h.push cellO) (hkind : scope.kind = .function) (hx : (relabel scope env).names.lookup x = some .cell) (hst : St 0 s₂.heap) (hfp : ∀ b ∈ fp, b < s₂.heap.objs.size)
    (F : Fr h₀ L s₂.heap m) (N : News h₀ L s₂.heap news) (hIL : L ≠ I) (hI₀ : h₀.get? I = none) (off : ∀ p ∈ news, p.1 ≠ I) (hJ : J 0 [] news) (hb : b ≤ s₂.toks)
    (turn : ∀ i ys nw v h t0 t1 oI Cc oc C oC D (E' : Value → Shared → Prop), i < n → P i v t0 t1 → b ≤ t0 → b ≤ t1 → J i ys nw → LCg.NsObj oC (fun _ => none) → oc.data = .cell (some v) → Fr h₀ L h m → News h₀ L h ((I, oI) :: (C, oC) :: (D, LCg.lst ys) :: (Cc, oc) :: nw) → LCg.Off3 I C D ((Cc, oc) :: nw) → LCg.Off1 Cc nw → ((@Ne Nat I C) ∧ (@Ne Nat I D) ∧ (@Ne Nat C D)) →
      wpAny (model prog w) A (forIn ifs true fun c r => if r = true then do let ok ← isTrue c (compEnvC scope ((x, Cc) :: cl) C env) (eval c (compEnvC scope ((x, Cc) :: cl) C env)); pure (ForInStep.yield ok) else pure (ForInStep.yield r)) (fun ok s₃ =>
          if ok = true then wpAny (model prog w) A (eval elt (compEnvC scope ((x, Cc) :: cl) C env)) (LCg.CompEnd h₀ L m { s₂ with heap := h, toks := t1 } I oI C oC D (LCg.lst ys) (fun _ => True) (fun y nw' => ∃ nw'', nw' = (Cc, oc) :: nw'' ∧ LCg.Off1 Cc nw'' ∧ J (i + 1) (ys ++ [y]) nw'')) E' s₃
          else LCg.CompEnd h₀ L m { s₂ with heap := h, toks := t1 } I oI C oC D (LCg.lst ys) (fun _ => True) (fun _ nw' => ∃ nw'', nw' = (Cc, oc) :: nw'' ∧ LCg.Off1 Cc nw'' ∧ J (i + 1) ys nw'') Value.none s₃) E' { s₂ with heap := h, toks := t1 })
    (hRR : ∀ D C h tk m' ys nw, b ≤ tk → J n ys nw → Fr h₀ L h m → News h₀ L h ((D, LCg.lst ys) :: nw) → LCg.Off1 D nw → h.Ns C m' → h₀.get? C = none → C ≠ L → C ≠ D → (∀ p ∈ nw, p.1 ≠ C) → RR (.ref D) C (.ok .next) { s₂ with heap := h, toks := tk }) :
    wpAny (model prog w) A (newList []) (fun acc s₃ => wpAny (model prog w) A (newFunctionEnv scope env.globals cl [] env.qual none .none (some env)) (fun cenv s₄ =>
      codeAny (model prog w) A (.compStart (.ListComp elt [⟨.Name x px, iter, ifs, 0⟩] scope pos) 0 (.ref I) acc { cenv with scope := relabel scope env }) (RR acc cenv.locals) s₄) E s₃) E s₂ := by
  refine wpAny_newObj_type (newEnv_cell hc hp ?_)
  generalize hD : s₂.heap.objs.size = D
  have hC : (s₂.heap.push (LCg.lst [])).objs.size = D + 1 := by rw [Heap.size_push, hD]
  show codeAny _ _ _ _ { s₂ with heap := ((s₂.heap.push (LCg.lst [])).push dictO).push cellO }
  generalize hH1 : ((s₂.heap.push (LCg.lst [])).push dictO).push cellO = h₁
  have old : ∀ b o, s₂.heap.get? b = some o → h₁.get? b = some o := fun b o e => hH1 ▸ Heap.get?_push_of_some _ (Heap.get?_push_of_some _ (Heap.get?_push_of_some _ e))
  have hacc : h₁.get? D = some (LCg.lst []) := by rw [← hD, ← hH1]; exact Heap.get?_push_of_some _ (Heap.get?_push_of_some _ (Heap.get?_push_size _ rfl))
  have heC : h₁.get? (D + 1) = some dictO := by rw [← hC, ← hH1]; exact Heap.get?_push_of_some _ (Heap.get?_push_size _ rfl)
  have hec : h₁.get? (D + 2) = some cellO := by
    have : ((s₂.heap.push (LCg.lst [])).push dictO).objs.size = D + 2 := by rw [Heap.size_push, hC]
    rw [← this, ← hH1]; exact Heap.get?_push_size _ rfl
  have hltD : ∀ {b o}, s₂.heap.get? b = some o → @LT.lt Nat _ b D := fun e => hD ▸ Heap.lt_size e
  have hD₀ : h₀.get? D = none := fresh_of F (Nat.le_of_eq hD)
  have hC₀ : h₀.get? (D + 1) = none := fresh_of F (by omega)
  have hc₀ : h₀.get? (D + 2) = none := fresh_of F (by omega)
  have hLlt : @LT.lt Nat _ L D := hD ▸ F.ns.lt
  have hIlt : @LT.lt Nat _ I D := hD ▸ hfp I W.inFp
  have st0 : St 0 h₁ := W.frame _ _ _ hst fun b _ o e => old b o e
  have eC : ({ s₂ with heap := s₂.heap.push (LCg.lst []) } : Shared).heap.objs.size = D + 1 := hC
  have key : codeAny (model prog w) A (.compLoop (.ListComp elt [⟨.Name x px, iter, ifs, 0⟩] scope pos) 0 (.ref I) (.ref D) (compEnvC scope ((x, D + 2) :: cl) (D + 1) env)) (RR (.ref D) (D + 1)) { s₂ with heap := h₁ } := by
    refine loop_X (s := { s₂ with heap := h₁ }) (b := b) (m := m) (L := L) (h₀ := h₀) (led₀ := (D + 1, dictO) :: (D + 2, cellO) :: news)
      (fun i ys led => ∃ oC oc vc nw, led = (D + 1, oC) :: (D + 2, oc) :: nw ∧ LCg.NsObj oC (fun _ => none) ∧ oc.data = .cell vc ∧ (∀ p ∈ nw, p.1 ≠ D + 1 ∧ p.1 ≠ D + 2) ∧ J i ys nw) W hsz (fun hm => absurd (hfp _ hm) (by rw [hD]; exact Nat.lt_irrefl _)) hIo hIL hI₀ ?_ st0 (F.keeps old) ?_ ?_ ?_ hb ?_ ?_
    · rintro i h h' o ys led hs e e' F' N' ⟨oC', oc', vc, nw, rfl, _, _, _, hj⟩
      exact hSt i h h' o ys nw hs e e' F' (fun p hp => N' p (List.mem_cons_of_mem _ (List.mem_cons_of_mem _ hp))) hj
    · intro p hp
      rcases List.mem_cons.mp hp with rfl | hp
      · exact ⟨hacc, show @Ne Nat (D) (L) by omega, hD₀⟩
      · rcases List.mem_cons.mp hp with rfl | hp
        · exact ⟨heC, show @Ne Nat (D + 1) (L) by omega, hC₀⟩
        · rcases List.mem_cons.mp hp with rfl | hp
          · exact ⟨hec, show @Ne Nat (D + 2) (L) by omega, hc₀⟩
          · exact ⟨old _ _ (N p hp).1, (N p hp).2⟩
    · intro p hp
      rcases List.mem_cons.mp hp with rfl | hp
      · exact ⟨show @Ne Nat (D + 1) (I) by omega, show @Ne Nat (D + 1) (D) by omega⟩
      · rcases List.mem_cons.mp hp with rfl | hp
        · exact ⟨show @Ne Nat (D + 2) (I) by omega, show @Ne Nat (D + 2) (D) by omega⟩
        · exact ⟨off p hp, Nat.ne_of_lt (hltD (N p hp).1)⟩
    · exact ⟨_, _, _, news, rfl, let ⟨o, es, ep, e, r⟩ := ns_dictO heC; by (rw [heC] at e; cases e; exact ⟨es, ep, r⟩), rfl, fun p hp => ⟨show @Ne Nat p.1 (D + 1) by (have := hltD (N p hp).1; omega), show @Ne Nat p.1 (D + 2) by (have := hltD (N p hp).1; omega)⟩, hJ⟩
    · rintro i ys led v h t0 tk oI E' hi hP hb0 hbk ⟨oC', oc', vc, nw, rfl, hC', hcd, hoff, hj⟩ F' N' off' hID
      have zc := N' (D + 2, oc') (List.mem_cons_of_mem _ (List.mem_cons_of_mem _ (List.mem_cons_of_mem _ List.mem_cons_self)))
      refine wpAny_assign_Name (wpAny_storeName_cell (c := D + 2) hkind hx (by simp [compEnvC]) ⟨oc', zc.1, hcd⟩ fun h₃ hv₃ hs₃ => ?_)
      obtain ⟨oc₃, hec₃, hcd₃⟩ := hv₃
      have N₃ : News h₀ L h₃ ((I, oI) :: (D + 1, oC') :: (D, LCg.lst ys) :: (D + 2, oc₃) :: nw) := fun p hp => by
        rcases List.mem_cons.mp hp with rfl | hp
        · have z := N' (I, oI) List.mem_cons_self
          exact ⟨hs₃.extBut _ _ (show @Ne Nat (I) (D + 2) by omega) z.1, z.2⟩
        · rcases List.mem_cons.mp hp with rfl | hp
          · have z := N' (D + 1, oC') (List.mem_cons_of_mem _ (List.mem_cons_of_mem _ List.mem_cons_self))
            exact ⟨hs₃.extBut _ _ (show @Ne Nat (D + 1) (D + 2) by omega) z.1, z.2⟩
          · rcases List.mem_cons.mp hp with rfl | hp
            · have z := N' (D, LCg.lst ys) (List.mem_cons_of_mem _ List.mem_cons_self)
              exact ⟨hs₃.extBut _ _ (show @Ne Nat (D) (D + 2) by omega) z.1, z.2⟩
            · rcases List.mem_cons.mp hp with rfl | hp
              · exact ⟨hec₃, show @Ne Nat (D + 2) (L) by omega, hc₀⟩
              · have z := N' p (List.mem_cons_of_mem _ (List.mem_cons_of_mem _ (List.mem_cons_of_mem _ (List.mem_cons_of_mem _ hp))))
                exact ⟨hs₃.extBut _ _ (hoff p hp).2 z.1, z.2⟩
      have o3 : LCg.Off3 I (D + 1) D ((D + 2, oc₃) :: nw) := LCg.Off3.of fun p hp => by
        rcases List.mem_cons.mp hp with rfl | hp
        · exact ⟨show @Ne Nat (D + 2) (I) by omega, show @Ne Nat (D + 2) (D + 1) by omega, show @Ne Nat (D + 2) (D) by omega⟩
        · have z := off' p (List.mem_cons_of_mem _ (List.mem_cons_of_mem _ hp))
          exact ⟨z.1, (hoff p hp).1, z.2⟩
      have o1 : LCg.Off1 (D + 2) nw := LCg.Off3.one (I := D + 1) (C := D + 1) (LCg.Off3.of fun p hp => ⟨(hoff p hp).1, (hoff p hp).1, (hoff p hp).2⟩)
      have wrap : ∀ (J' : List (Addr × Obj) → Prop) (y : Value) (s₄ : Shared), LCg.CompEnd h₀ L m { s₂ with heap := h₃, toks := tk } I oI (D + 1) oC' D (LCg.lst ys) (fun _ => True) (fun _ nw' => ∃ nw'', nw' = (D + 2, oc₃) :: nw'' ∧ LCg.Off1 (D + 2) nw'' ∧ J' nw'') y s₄ →
          NextX h₀ L m { s₂ with heap := h, toks := tk } I oI D (LCg.lst ys) (fun led => ∃ oC oc vc nw, led = (D + 1, oC) :: (D + 2, oc) :: nw ∧ LCg.NsObj oC (fun _ => none) ∧ oc.data = .cell vc ∧ (∀ p ∈ nw, p.1 ≠ D + 1 ∧ p.1 ≠ D + 2) ∧ J' nw) s₄ := by
        rintro J' y s₄ ⟨h₄, tk₄, nw', rfl, F₄, N₄, off₄, _, nw'', rfl, o1', j₄⟩
        have o4 := off₄.mem
        have o2 : ∀ p ∈ nw'', p.1 ≠ D + 2 := fun p hp => by
          have : ∀ {l : List (Addr × Obj)}, LCg.Off1 (D + 2) l → ∀ p ∈ l, p.1 ≠ D + 2 := by
            intro l
            induction l with
            | nil => intro _ p hp; nomatch hp
            | cons a r ih =>
              intro h p hp
              rcases List.mem_cons.mp hp with rfl | hp
              · exact h.1
              · exact ih h.2 p hp
          exact this o1' p hp
        refine ⟨h₄, tk₄, (D + 1, oC') :: (D + 2, oc₃) :: nw'', rfl, F₄, fun p hp => N₄ p ?_, fun p hp => ?_, oC', oc₃, _, nw'', rfl, hC', hcd₃, fun p hp => ⟨(o4 p (List.mem_cons_of_mem _ hp)).2.1, o2 p hp⟩, j₄⟩
        · rcases List.mem_cons.mp hp with rfl | hp
          · exact List.mem_cons_self
          · rcases List.mem_cons.mp hp with rfl | hp
            · exact List.mem_cons_of_mem _ (List.mem_cons_of_mem _ List.mem_cons_self)
            · rcases List.mem_cons.mp hp with rfl | hp
              · exact List.mem_cons_of_mem _ List.mem_cons_self
              · exact List.mem_cons_of_mem _ (List.mem_cons_of_mem _ (List.mem_cons_of_mem _ hp))
        · rcases List.mem_cons.mp hp with rfl | hp
          · exact ⟨show @Ne Nat (D + 1) (I) by omega, show @Ne Nat (D + 1) (D) by omega⟩
          · exact ⟨(o4 p hp).1, (o4 p hp).2.2⟩
      refine wpAny_mono (turn i ys nw v h₃ t0 tk oI (D + 2) oc₃ (D + 1) oC' D E' hi hP hb0 hbk hj hC' hcd₃ (F'.change hs₃ (show @Ne Nat (D + 2) (L) by omega) hc₀) N₃ o3 o1 ⟨show @Ne Nat (I) (D + 1) by omega, show @Ne Nat (I) (D) by omega, show @Ne Nat (D + 1) (D) by omega⟩) (fun ok s₃ h₃' => ?_) fun _ _ e => e
      cases ok with
      | true =>
        simp only [if_true] at h₃' ⊢
        exact wpAny_mono h₃' (fun y s₄ h₄ => wrap (fun nw' => J (i + 1) (ys ++ [y]) nw') y s₄ (by
          obtain ⟨a1, a2, a3, a4, a5, a6, a7, a8, a9⟩ := h₄
          exact ⟨a1, a2, a3, a4, a5, a6, a7, a8, a9⟩)) fun _ _ e => e
      | false =>
        simp only [Bool.false_eq_true, if_false] at h₃' ⊢
        exact wrap (fun nw' => J (i + 1) ys nw') Value.none s₃ h₃'
    · rintro ys led h tk hbk ⟨oC', oc', vc, nw, rfl, hC', hcd, hoff, hj⟩ F' N' off'
      have zC := (N' (D + 1, oC') (List.mem_cons_of_mem _ List.mem_cons_self)).1
      refine hRR _ _ h tk _ ys nw hbk hj F' (fun p hp => ?_) (LCg.Off3.one (I := D + 1) (C := D + 1) (LCg.Off3.of fun p hp => ⟨(hoff p hp).1, (hoff p hp).1, off' p (List.mem_cons_of_mem _ (List.mem_cons_of_mem _ hp))⟩)) (hC'.ns zC) hC₀ (show @Ne Nat (D + 1) L by omega) (show @Ne Nat (D + 1) D by omega) fun p hp => (hoff p hp).1
      rcases List.mem_cons.mp hp with rfl | hp
      · exact N' _ List.mem_cons_self
      · exact N' p (List.mem_cons_of_mem _ (List.mem_cons_of_mem _ (List.mem_cons_of_mem _ hp)))
  have fin := codeAny_compStart_list key (W.self 0 _ _ _ st0 key)
  have e2 : (s₂.heap.push (LCg.lst [])).objs.size + 1 = D + 2 := by omega
  show codeAny (model prog w) A (.compStart _ 0 (.ref I) (.ref D) { newEnv scope (s₂.heap.push (LCg.lst [])).objs.size env.globals ((x, (s₂.heap.push (LCg.lst [])).objs.size + 1) :: cl) env.qual none .none (some env) env.builtins with scope := relabel scope env }) (RR (.ref D) (s₂.heap.push (LCg.lst [])).objs.size) _
  rw [e2, hC]
  exact fin
end
end
section
section
variable {prog : Program} {w : World} {A : Around} {E : Value → Shared → Prop} {s : Shared} {h₀ : Heap} {L : Addr} {m : PySem.Str → Option Value} {env : Env}
def SrcX1 (prog : Program) (w : World) (A : Around) (E : Value → Shared → Prop) (h₀ : Heap) (L : Addr) (m : PySem.Str → Option Value) (env : Env) (ifs : List Expr) (elt : Expr) (x : PySem.Str) (scope : Scope) (cl : List (PySem.Str × Addr)) (Fin : Shared → Nat → (Addr → List Value → List (Addr × Obj) → Heap → Nat → Prop) → Prop) (xv : Value) (s₁ : Shared) : Prop :=
  wpAny (model prog w) A (pyIter xv) (fun it s₂ => ∃ (I : Addr) (fp : List Addr) (n b : Nat) (P : Nat → Value → Nat → Nat → Prop) (St : Nat → Heap → Prop) (news : List (Addr × Obj)) (J : Nat → List Value → List (Addr × Obj) → Prop),
    it = .ref I ∧ Nx prog w A I fp n P St ∧ n ≤ sizeLine ∧ (∀ i h, St i h → ∃ o, h.get? I = some o) ∧
    (∀ i h h' o ys nw, St i h → h.get? I = some o → h'.get? I = some o → Fr h₀ L h' m → News h₀ L h' nw → J i ys nw → St i h') ∧ St 0 s₂.heap ∧ (∀ b ∈ fp, b < s₂.heap.objs.size) ∧ Fr h₀ L s₂.heap m ∧ News h₀ L s₂.heap news ∧ L ≠ I ∧ h₀.get? I = none ∧
    (∀ p ∈ news, p.1 ≠ I) ∧ J 0 [] news ∧ b ≤ s₂.toks ∧
    (∀ i ys nw v h t0 t1 oI Cc oc C oC D (E' : Value → Shared → Prop), i < n → P i v t0 t1 → b ≤ t0 → b ≤ t1 → J i ys nw → LCg.NsObj oC (fun _ => none) → oc.data = .cell (some v) → Fr h₀ L h m → News h₀ L h ((I, oI) :: (C, oC) :: (D, LCg.lst ys) :: (Cc, oc) :: nw) → LCg.Off3 I C D ((Cc, oc) :: nw) → LCg.Off1 Cc nw → ((@Ne Nat I C) ∧ (@Ne Nat I D) ∧ (@Ne Nat C D)) →
      wpAny (model prog w) A (forIn ifs true fun c r => if r = true then do let ok ← isTrue c (compEnvC scope ((x, Cc) :: cl) C env) (eval c (compEnvC scope ((x, Cc) :: cl) C env)); pure (ForInStep.yield ok) else pure (ForInStep.yield r)) (fun ok s₃ =>
          if ok = true then wpAny (model prog w) A (eval elt (compEnvC scope ((x, Cc) :: cl) C env)) (LCg.CompEnd h₀ L m { s₂ with heap := h, toks := t1 } I oI C oC D (LCg.lst ys) (fun _ => True) (fun y nw' => ∃ nw'', nw' = (Cc, oc) :: nw'' ∧ LCg.Off1 Cc nw'' ∧ J (i + 1) (ys ++ [y]) nw'')) E' s₃
          else LCg.CompEnd h₀ L m { s₂ with heap := h, toks := t1 } I oI C oC D (LCg.lst ys) (fun _ => True) (fun _ nw' => ∃ nw'', nw' = (Cc, oc) :: nw'' ∧ LCg.Off1 Cc nw'' ∧ J (i + 1) ys nw'') Value.none s₃) E' { s₂ with heap := h, toks := t1 }) ∧
    Fin s₂ b (fun D ys nw h tk => b ≤ tk ∧ J n ys nw ∧ News h₀ L h ((D, LCg.lst ys) :: nw) ∧ LCg.Off1 D nw)) E s₁
/-- the value handed on -/
def FinX1 (h₀ : Heap) (L : Addr) (m : PySem.Str → Option Value) (Q : Value → Shared → Prop) (s₂ : Shared) (_b : Nat) (P : Addr → List Value → List (Addr × Obj) → Heap → Nat → Prop) : Prop :=
  ∀ D ys nw h tk, P D ys nw h tk → Fr h₀ L h m → Q (.ref D) { s₂ with heap := h, toks := tk }
/-- the value stored under a name -/
def FinA1 (h₀ : Heap) (L : Addr) (m : PySem.Str → Option Value) (y : PySem.Str) (Q : Flow → Shared → Prop) (s₂ : Shared) (_b : Nat) (P : Addr → List Value → List (Addr × Obj) → Heap → Nat → Prop) : Prop :=
  ∀ D ys nw h tk, P D ys nw h tk → Fr h₀ L h (fun z => if z = y then some (.ref D) else m z) → Q .next { s₂ with heap := h, toks := tk }
theorem eval_X1 {elt iter : Expr} {ifs : List Expr} {x : PySem.Str} {px : Pos} {scope : Scope} {cl : List (PySem.Str × Addr)} {pos : Pos} {Q : Value → Shared → Prop} (_F₀ : Fr h₀ L s.heap m)
    (hclos : closureFor scope env = pure cl) (hc : ∀ k, cellsFrom k scope.names cl = (x, k) :: cl) (hp : ∀ h : Heap, pushCells h scope.names = h.push cellO) (hkind : scope.kind = .function)
    (hnames : ∀ y ∈ scope.names, y.2 = .local → scope.names.lookup y.1 = some .local) (hx : (relabel scope env).names.lookup x = some .cell)
    (h : wpAny (model prog w) A (eval iter env) (SrcX1 prog w A E h₀ L m env ifs elt x scope cl (FinX1 h₀ L m Q)) E s)
    (hs : ∀ x, foldedSetIterable iter env x = pure x := by intro _; rfl) :
    wpAny (model prog w) A (eval (.ListComp elt [⟨.Name x px, iter, ifs, 0⟩] scope pos) env) Q E s := by
  rw [eval_ListComp]
  refine wpAny_comprehension_free (use := none) rfl hs hclos hkind hnames (wpAny_mono h (fun xv s₁ h₁ => ?_) fun _ _ e => e)
  refine wpAny_mono h₁ (fun it s₂ h₂ => ?_) fun _ _ e => e
  obtain ⟨I, fp, n, b, P, St, news, J, rfl, W, hsz, hIo, hSt, hst, hfp, F, N, hIL, hI₀, off, hJ, hb, turn, fin⟩ := h₂
  refine block_X1 J W hsz hIo hSt hc hp hkind hx hst hfp F N hIL hI₀ off hJ hb turn ?_
  intro D C h tk m' ys nw hbk hj F' N' offD hn hC₀ hCL hCD offC
  refine ⟨m', hn, fun h'' hs'' => fin D ys nw h'' tk ⟨hbk, hj, fun p hp => ?_, offD⟩ (F'.change hs'' hCL hC₀)⟩
  refine ⟨hs''.extBut _ _ ?_ (N' p hp).1, (N' p hp).2⟩
  rcases List.mem_cons.mp hp with rfl | hp
  · exact Ne.symm hCD
  · exact offC p hp
theorem assign_X1 {elt iter : Expr} {ifs : List Expr} {x y : PySem.Str} {px py : Pos} {scope : Scope} {cl : List (PySem.Str × Addr)} {pos spos : Pos} {Q : Flow → Shared → Prop} (_F₀ : Fr h₀ L s.heap m) (hLe : env.locals = L)
    (hsw : swapsWith (.ListComp elt [⟨.Name x px, iter, ifs, 0⟩] scope pos) (some (.Name y py)) spos.line env = pure true)
    (hclos : closureFor scope env = pure cl) (hc : ∀ k, cellsFrom k scope.names cl = (x, k) :: cl) (hp : ∀ h : Heap, pushCells h scope.names = h.push cellO) (hkind : scope.kind = .function)
    (hnames : ∀ y ∈ scope.names, y.2 = .local → scope.names.lookup y.1 = some .local) (hx : (relabel scope env).names.lookup x = some .cell)
    (hy : env.kindOf y = some .local) (hpl : (env.scope.kind == .class || (env.scope.kind == .module && env.locals != env.globals)) = false)
    (h : wpAny (model prog w) A (eval iter env) (SrcX1 prog w A E h₀ L m env ifs elt x scope cl (FinA1 h₀ L m y Q)) E s)
    (hs : ∀ x, foldedSetIterable iter env x = pure x := by intro _; rfl) :
    wpAny (model prog w) A (exec (.Assign [.Name y py] (.ListComp elt [⟨.Name x px, iter, ifs, 0⟩] scope pos) spos) env) Q E s := by
  subst hLe
  rw [exec_Assign_Name_used _ _ _ _ hsw]
  refine wpAny_bind (wpAny_standAt (wpAny_bind ?_))
  show wpAny _ A (do let _ ← comprehension (.ListComp elt [⟨.Name x px, iter, ifs, 0⟩] scope pos) scope env _ (newList []) false (eval iter env) (some (assign (.Name y py) env))) _ _ s
  refine wpAny_bind (wpAny_mono (wpAny_comprehension_free (use := some (assign (.Name y py) env)) (Q := fun _ s' => Q .next s') rfl hs hclos hkind hnames
    (wpAny_mono h (fun xv s₁ h₁ => ?_) fun _ _ e => e)) (fun _ s' hq => wpAny_pure (wpAny_pure hq)) fun _ _ e => e)
  refine wpAny_mono h₁ (fun it s₂ h₂ => ?_) fun _ _ e => e
  obtain ⟨I, fp, n, b, P, St, news, J, rfl, W, hsz, hIo, hSt, hst, hfp, F, N, hIL, hI₀, off, hJ, hb, turn, fin⟩ := h₂
  refine block_X1 J W hsz hIo hSt hc hp hkind hx hst hfp F N hIL hI₀ off hJ hb turn ?_
  intro D C h tk m' ys nw hbk hj F' N' offD hn hC₀ hCL hCD offC
  refine wpAny_assign_Name (wpAny_storeName_local hy F'.ns (fun h₃ hn₃ hs₃ => ?_) hpl)
  have F₃ : Fr h₀ env.locals h₃ (fun z => if z = y then some (.ref D) else m z) := ⟨hn₃, fun b o e => hs₃.extBut b o (fun q => by
    have := Heap.lt_size e
    rw [q] at this
    exact absurd (Nat.lt_of_lt_of_le this F'.above) (Nat.lt_irrefl _)) (F'.keep b o e), F'.above⟩
  refine ⟨m', hn.at' fun o e => hs₃.extBut _ o hCL e, fun h'' hs'' => fin D ys nw h'' _ ⟨Nat.le_trans hbk (Nat.le_succ _), hj, fun p hp => ?_, offD⟩ (F₃.change hs'' hCL hC₀)⟩
  have z := N' p hp
  refine ⟨hs''.extBut _ _ ?_ (hs₃.extBut _ _ z.2.1 z.1), z.2⟩
  rcases List.mem_cons.mp hp with rfl | hp
  · exact Ne.symm hCD
  · exact offC p hp
end
end
section
abbrev wordsS : PySem.Str := PySem.Str.ofString "string argument should contain only ASCII characters"
def Spoilt (cs : List Nat) : Prop := cs.length = 4 ∧ ∃ p, p < 4 ∧ ∀ i, i < 4 → (cs.getD i 0 = 233 ∧ i = p) ∨ (cs.getD i 0 ∈ S5 ∧ i ≠ p)
end
section
section
variable {prog : Program} {w : World} {A₀ A : Around} {s : Shared} {base h₀ : Heap} {L : Addr} {m mg mb : PySem.Str → Option Value} {env : Env} {K : Frag} {p : Program} {loose : List PySem.Str} {mean : ExcName → Option Value} {news : List (Addr × Obj)}
  {R : Result → Shared → Prop} {name qual : PySem.Str} {params : Arguments} {body : List Stmt} {scope : Scope} {dV kV doc pm cdv ct oc : Value} {an od : Option Addr} {osl : Array (Option Value)} {f : Addr} {args : Args} {binds : List (PySem.Str × Value)}
/-- entering a def behind whose call the caller's frame may be another one but for its slots -/
theorem enterS (B : Below A₀ base [] h₀) (F : Fr h₀ L s.heap m) (X₀ : K.In h₀) (N : News h₀ L s.heap news) (T : Top p loose mean mg mb h₀) (hA : A.frames = some [env]) (hf : env.frame = some L) (hke : env.scope.kind = .function)
    (ho : K.lookup f = some ⟨oc, od, .func (fnOf name qual params body scope dV kV doc pm an cdv ct), osl⟩) (hcd : codeIn K cdv qual = true) (hroom : A.depth < recursionLimit)
    (hbind : BindsTo s (fnOf name qual params body scope dV kV doc pm an cdv ct) args binds) (hloc : ∀ y ∈ binds, scope.names.lookup y.1 = some .local)
    (h : ∀ g L' h₁, Fr h₀ L g m → Fr g L' h₁ (fun y => binds.reverse.lookup y) → News g L' h₁ news → Below A h₀ [env] g → K.In g → Top p loose mean mg mb g → KtsDicts ([env].filterMap (·.frame)) g →
      wpAny (model prog w) (A.deeper (envOf qual scope L' f cdv)) (execs body (envOf qual scope L' f cdv))
        (fun fl s' => LeaveS0 ([env].filterMap (·.frame)) h₀ L m g R (match fl with | .ret v => v | _ => .none) s')
        (fun e s' => wpAny (model prog w) (A.deeper (envOf qual scope L' f cdv)) (leaving (envOf qual scope L' f cdv) e) (fun _ s'' => R (.error e) s'') (fun e' s'' => R (.error e') s'') s')
        { s with heap := h₁, toks := s.toks + binds.length })
    (hco : scope.isCoroutine = false) (hgen : scope.isGenerator = false) (hk : scope.kind = .function)
    (hcell : ∀ x ∈ scope.names, x.2 ≠ .cell) : codeAny (model prog w) A (.call (.ref f) args) R s := by
  have B' : Below A₀ h₀ [] h₀ := ⟨B.stack, fun _ _ e => e, trivial⟩
  obtain ⟨FG, BG, st, _⟩ := groundX (R := R) B' F N hA hf hke
  have XG := X₀.keeps F.keep
  refine codeAny_call_def (body := body) (binds := binds) hroom (XG _ _ ho) rfl (T.nolimit.keeps F.keep) (codeRec_of XG hcd) rfl hbind hcell hloc (fun h₁ hns hk₁ => ?_) hco hgen hk
  have F' : Fr (hideAll s.heap (news.map (·.1))) s.heap.objs.size h₁ (fun y => binds.reverse.lookup y) := ⟨hns, fun b o e => hk₁ b o (of_hideAll _ e), Nat.le_of_eq (hideAll_size _ _)⟩
  have N' : News (hideAll s.heap (news.map (·.1))) s.heap.objs.size h₁ news := fun p hp => ⟨hk₁ _ _ (N p hp).1, Nat.ne_of_lt (Heap.lt_size (N p hp).1), hideAll_none _ (List.mem_map_of_mem hp)⟩
  obtain ⟨oL, es, ep, hLg, hLd, hLk, hLf⟩ := FG.ns
  have hmL : ∀ b, b ∈ [env].filterMap (·.frame) → b = L := fun b hb => by
    obtain ⟨e', he', hb'⟩ := List.mem_filterMap.mp hb
    rw [List.mem_singleton.mp he', hf] at hb'
    exact (Option.some.inj hb').symm
  have nL₀ : h₀.get? L = none := kts_self F
  refine wpAny_mono (h _ _ h₁ FG F' N' BG (X₀.keeps st) (T.keeps st) fun b hb => by
    rw [hmL b hb]
    exact ⟨oL, es, ep, hLg, hLd⟩) (fun fl s' hl => ?_) fun _ _ y => y
  obtain ⟨g', L', m', news', T', F', N', k⟩ := hl
  obtain ⟨sl, hs⟩ := T'.up hLg
  refine k ⟨⟨_, es, ep, F'.keep _ _ hs, hLd, hLk, hLf⟩, fun b o e => F'.keep b o (T'.other b o (st b o e) (fun q => by
    rw [hmL b q, nL₀] at e
    cases e)), F.above⟩ fun p hp => ⟨(N' p hp).1, fun q => ?_, ?_⟩
  · have := (N' p hp).2.2; rw [q, hs] at this; cases this
  · cases q : h₀.get? p.1 with
    | none => rfl
    | some o =>
      obtain ⟨sl', hs'⟩ := T'.up (st _ _ q)
      have := (N' p hp).2.2
      rw [hs'] at this
      cases this
end
end
section
theorem uni_new : ExcNewFacts "UnicodeEncodeError" "UnicodeEncodeError.__new__" where
  ends := by decide +kernel
  owner := by decide +kernel
  entry := entryFor_alias (id' := "BaseException.__new__") (by rw [fastTable_eq_tree]; kernel_rfl) (by first | rfl | decide +kernel) (by decide +kernel) (by rw [fastTable_eq_tree]; kernel_rfl)
  sub := by rw [isSubtype_type]; kernel_rfl
  notAttr := by rw [isSubtype_type]; kernel_rfl
  notName := by rw [isSubtype_type]; kernel_rfl
  made := by kernel_rfl
theorem uni_entry : entryFor table "UnicodeEncodeError.__init__" = some Builtin.«UnicodeEncodeError.__init__» := entryFor_of_tree (by kernel_rfl)
theorem uni_slot : Slot "UnicodeEncodeError" "__init__" "UnicodeEncodeError.__init__" := .of (owner := "UnicodeEncodeError") (n := "__init__") (by rw [typeLookup_type, builtinLookup_eq_fast]; kernel_rfl) (by decide +kernel) (by decide +kernel) (by decide +kernel)
    (by first | exact .inl (by decide +kernel) | exact .inr (by decide +kernel)) (by rw [isSubtype_type]; kernel_rfl)
theorem uni_notType : (Value.type "UnicodeEncodeError" == Value.type "type") = false := by decide +kernel
theorem uni_canMake : ((Manifest.find? "UnicodeEncodeError").bind fun x => List.findSome? (fun t => (Manifest.find? t).bind fun b =>
    if b.noNew = true then some true else if (b.attrs.any fun x => x.fst == "__new__") = true then some false else none) x.mro).getD false = false := by kernel_rfl
theorem uni_noVector (args : Args) : checkTypeCall "UnicodeEncodeError" args = pure () := by kernel_rfl
theorem uni_madeBy : Bind.madeBy (.type "UnicodeEncodeError") = pure (some "UnicodeEncodeError.__new__") := by kernel_rfl
theorem uni_newOk (rest : List Value) : checkBuiltinCall "UnicodeEncodeError.__new__" ⟨.type "UnicodeEncodeError" :: rest, []⟩ = pure () := by kernel_rfl
theorem uni_mro : ∃ m, mroOf (.type "UnicodeEncodeError") = pure m ∧ m.isEmpty = false := ⟨[.type "UnicodeEncodeError", .type "UnicodeError", .type "ValueError", .type "Exception", .type "BaseException", .type "object"], by rw [mroOf_type]; kernel_rfl, rfl⟩
theorem uni_kind : builtinKind "UnicodeEncodeError.__init__" = some .slot := by kernel_rfl
theorem uni_split : splitId "UnicodeEncodeError.__init__" = some ("UnicodeEncodeError", "__init__") := by kernel_rfl
theorem uni_row : Manifest.signature? "UnicodeEncodeError.__init__" = some ⟨.hand, "wrapper __init__", "", .self, []⟩ := by kernel_rfl
theorem uni_sub : isSubtype (.type "UnicodeEncodeError") (.type "UnicodeEncodeError") = pure true := by rw [isSubtype_type]; kernel_rfl
theorem uni_check {M : Model} {A : Around} {self : Value} {rest : List Value} {E : Value → Shared → Prop} {Q : Unit → Shared → Prop}
    {hp : Heap} {g : Array GenState} {d : Drawn} {tk : Nat} {os : OsState} (hT : Shared.TypeIs ⟨hp, g, d, tk, os⟩ self "UnicodeEncodeError") (h : Q () ⟨hp, g, d, tk, os⟩) :
    wpAny M A (checkBuiltinCall "UnicodeEncodeError.__init__" ⟨self :: rest, []⟩) Q E ⟨hp, g, d, tk, os⟩ := by
  have hsub := uni_sub
  simp only [checkBuiltinCall, uni_kind, uni_split, uni_row]
  wp_walk
  exact h

section
open Builtin.UnicodeEncodeError
variable {M : Model} {A : Around} {E : Value → Shared → Prop} {s : Shared} {e : Addr} {vs : Array Value}
def Ex (h : Heap) (e : Addr) (vs : Array Value) : Prop := h.get? e = some { cls := .type "UnicodeEncodeError", data := .fields vs }
def Oth (e : Addr) (h h' : Heap) : Prop := ∀ b ob, b ≠ e → h.get? b = some ob → h'.get? b = some ob
theorem Oth.trans {a b c : Heap} (x : Oth e a b) (y : Oth e b c) : Oth e a c := fun d ob hd q => y d ob hd (x d ob hd q)
theorem ex_upd {f : Array Value → Array Value} {Q : Unit → Shared → Prop} (h : Ex s.heap e vs) (hz : (f vs).size ≤ 100) (k : ∀ h', Ex h' e (f vs) → Oth e s.heap h' → Q () { s with heap := h' }) : wpAny M A (updateFields e f) Q E s := by
  refine wpAny_updateFields h rfl (k _ ?_ fun b ob hb q => (Heap.get?_update_other _ _ (Ne.symm hb)).trans q) (by rw [sizeLine_eq]; omega)
  exact Heap.get?_update_self _ h rfl
theorem ex_set {m : Members} {x0 x1 x2 x3 x4 x5 : Value} {own : Array Value} {Q : Unit → Shared → Prop} (h : Ex s.heap e (#[x0, x1, x2, x3, x4, x5] ++ own)) (k : ∀ h', Ex h' e #[x0, x1, x2, x3, x4, x5, m.encoding, m.object, rawInt m.start, rawInt m.stop, m.reason] → Oth e s.heap h' → Q () { s with heap := h' }) : wpAny M A (setMembers (.ref e) m) Q E s := by
  unfold setMembers
  have q : (#[x0, x1, x2, x3, x4, x5] ++ own).extract 0 6 ++ #[m.encoding, m.object, rawInt m.start, rawInt m.stop, m.reason] = #[x0, x1, x2, x3, x4, x5, m.encoding, m.object, rawInt m.start, rawInt m.stop, m.reason] := by
    obtain ⟨own⟩ := own
    simp
  refine ex_upd h (by rw [q]; simp) fun h' h1 h2 => k h' ?_ h2
  rw [q] at h1
  exact h1
theorem ex_mem6 {x0 x1 x2 x3 x4 x5 : Value} {Q : Members → Shared → Prop} (h : Ex s.heap e #[x0, x1, x2, x3, x4, x5]) (k : Q {} s) : wpAny M A (members (.ref e)) Q E s := by
  unfold members
  refine wpAny_bind (wpAny_fieldsOf h rfl ?_)
  exact wpAny_pure k
theorem ex_mem11 {x0 x1 x2 x3 x4 x5 a b r : Value} {i j : Int} {Q : Members → Shared → Prop} (h : Ex s.heap e #[x0, x1, x2, x3, x4, x5, a, b, rawInt i, rawInt j, r]) (k : Q { encoding := a, object := b, start := i, stop := j, reason := r } s) : wpAny M A (members (.ref e)) Q E s := by
  unfold members
  refine wpAny_bind (wpAny_fieldsOf h rfl ?_)
  exact wpAny_pure k
theorem ex_begin {id : String} {x0 x1 x2 x3 x4 x5 : Value} {rest : List Value} {Q : Value × List Value → Shared → Prop} (h : Ex s.heap e #[x0, x1, x2, x3, x4, x5]) (hl : rest.length = 5)
    (k : ∀ h' t a b r i j, Ex h' e #[t, x1, x2, x3, x4, x5, a, b, rawInt i, rawInt j, r] → Oth e s.heap h' → Q (.ref e, rest) { s with heap := h' }) : wpAny M A (beginInit id 5 ⟨.ref e :: rest, []⟩) Q E s := by
  unfold beginInit
  dsimp only
  rw [if_neg (by simp)]
  refine wpAny_bind (wpAny_field h rfl (x := x0) rfl ?_)
  refine wpAny_bind (wpAny_newTuple ?_ (by rw [hl, sizeLine_eq]; decide))
  have h1 : Ex (s.heap.push { cls := .type "tuple", data := .seq rest.toArray }) e #[x0, x1, x2, x3, x4, x5] := Heap.get?_push_of_some _ h
  have o1 : Oth e s.heap (s.heap.push { cls := .type "tuple", data := .seq rest.toArray }) := fun b ob _ q => Heap.get?_push_of_some _ q
  generalize hH : s.heap.push { cls := .type "tuple", data := .seq rest.toArray } = H1 at h1 o1
  refine wpAny_bind (wpAny_setField h1 rfl (by simp) ?_)
  have h2 : Ex (H1.update e (Obj.mapFields (·.setIfInBounds 0 (.ref s.heap.objs.size)))) e #[.ref s.heap.objs.size, x1, x2, x3, x4, x5] := Heap.get?_update_self _ h1 rfl
  have o2 : Oth e H1 (H1.update e (Obj.mapFields (·.setIfInBounds 0 (.ref s.heap.objs.size)))) := fun b ob hb q => (Heap.get?_update_other _ _ (Ne.symm hb)).trans q
  generalize H1.update e (Obj.mapFields (·.setIfInBounds 0 (.ref s.heap.objs.size))) = H2 at h2 o2
  refine wpAny_bind (wpAny_letGo ?_)
  rw [if_pos (by decide)]
  refine wpAny_bind (ex_mem6 h2 ?_)
  refine wpAny_bind (ex_set (own := #[]) h2 fun H3 h3 o3 => ?_)
  refine wpAny_bind (wpAny_letGo ?_)
  refine wpAny_bind (ex_mem11 h3 ?_)
  refine wpAny_bind (ex_set (own := #[_, _, _, _, _]) h3 fun H4 h4 o4 => ?_)
  refine wpAny_bind (wpAny_letGo ?_)
  refine wpAny_bind (ex_mem11 h4 ?_)
  refine wpAny_bind (ex_set (own := #[_, _, _, _, _]) h4 fun H5 h5 o5 => ?_)
  refine wpAny_bind (wpAny_letGo ?_)
  rw [if_neg (by rw [hl]; decide)]
  exact wpAny_pure (k H5 _ _ _ _ _ _ h5 (((o1.trans o2).trans o3).trans (o4.trans o5)))
theorem ex_size {id : String} {i : Int} {t : Tok} {Q : Int → Shared → Prop} (h0 : 0 ≤ i) (h1 : i < 100) (k : Q i s) : wpAny M A (sizeArgument id (.int i t)) Q E s := by
  unfold sizeArgument
  refine wpAny_bind (wpAny_of_eq (a := i) rfl ?_)
  rw [if_neg (by simp; omega)]
  exact wpAny_pure k
theorem ex_str {id : String} {n : Nat} {x : PySem.Str} {t : Tok} {Q : Unit → Shared → Prop} (k : Q () s) : wpAny M A (strArgument id n (.str x t)) Q E s := by
  unfold strArgument
  refine wpAny_bind (wpAny_of_eq (a := some x) rfl ?_)
  exact wpAny_pure k
theorem ex_range {id : String} {x0 x1 x2 x3 x4 x5 a b r : Value} {i j i' j' : Int} {ti tj : Tok} {Q : Unit → Shared → Prop} (h : Ex s.heap e #[x0, x1, x2, x3, x4, x5, a, b, rawInt i', rawInt j', r]) (hi : 0 ≤ i ∧ i < 100) (hj : 0 ≤ j ∧ j < 100)
    (k : ∀ h', Ex h' e #[x0, x1, x2, x3, x4, x5, a, b, rawInt i, rawInt j, r] → Oth e s.heap h' → Q () { s with heap := h' }) : wpAny M A (initRange id (.ref e) (.int i ti) (.int j tj)) Q E s := by
  unfold initRange
  refine wpAny_bind (ex_size hi.1 hi.2 ?_)
  refine wpAny_bind (ex_mem11 h ?_)
  refine wpAny_bind (ex_set (own := #[_, _, _, _, _]) h fun H1 h1 o1 => ?_)
  refine wpAny_bind (ex_size hj.1 hj.2 ?_)
  refine wpAny_bind (ex_mem11 h1 ?_)
  exact ex_set (own := #[_, _, _, _, _]) h1 fun H2 h2 o2 => k H2 h2 (o1.trans o2)
theorem uni_init {x0 x1 x2 x3 x4 x5 : Value} {c o r : PySem.Str} {tc to tr : Tok} {i j : Int} {ti tj : Tok} {Q : Fin → Shared → Prop} (h : Ex s.heap e #[x0, x1, x2, x3, x4, x5])
    (hi : 0 ≤ i ∧ i < 100) (hj : 0 ≤ j ∧ j < 100)
    (k : ∀ h' t a b r i j, Ex h' e #[t, x1, x2, x3, x4, x5, a, b, rawInt i, rawInt j, r] → Oth e s.heap h' → Q (.done (.ret .none)) { s with heap := h' }) :
    wpAny M A (Builtin.«UnicodeEncodeError.__init__» ⟨[.ref e, .str c tc, .str o to, .int i ti, .int j tj, .str r tr], []⟩) Q E s := by
  unfold Builtin.«UnicodeEncodeError.__init__»
  refine wpAny_bind (ex_begin h rfl fun H1 t a b r' i' j' h1 o1 => ?_)
  dsimp only
  refine wpAny_bind (ex_str ?_)
  refine wpAny_bind (ex_str ?_)
  refine wpAny_bind (ex_range h1 hi hj fun H2 h2 o2 => ?_)
  refine wpAny_bind (ex_str ?_)
  refine wpAny_bind (ex_mem11 h2 ?_)
  refine wpAny_bind (ex_set (own := #[_, _, _, _, _]) h2 fun H3 h3 o3 => ?_)
  exact wpAny_pure (k H3 _ _ _ _ _ _ h3 (o1.trans (o2.trans o3)))
end
/-- a fault that was made: its traceback and its context are still None -/
structure Made (h h' : Heap) (e : Addr) : Prop where
  keeps : ∀ b o, h.get? b = some o → h'.get? b = some o
  new : h.get? e = none
  there : ∃ a0 x3 x4 x5 own, h'.get? e = some { cls := .type "UnicodeEncodeError", data := .fields (#[a0, .none, .none, x3, x4, x5] ++ own) }
section
variable {prog : Program} {w : World} {A : Around}
theorem uni_typeCall {c o r : PySem.Str} {tc to tr : Tok} {i j : Int} {ti tj : Tok} {E : Value → Shared → Prop} {Q : Fin → Shared → Prop} {hp : Heap} {g : Array GenState} {d : Drawn} {tk : Nat} {os : OsState} (hi : 0 ≤ i ∧ i < 100) (hj : 0 ≤ j ∧ j < 100)
    (h : ∀ h' e, Made hp h' e → Q (.done (.ret (.ref e))) ⟨h', g, d, tk, os⟩) :
    wpAny (model prog w) A (Builtin.«type.__call__» ⟨.type "UnicodeEncodeError" :: [.str c tc, .str o to, .int i ti, .int j tj, .str r tr], []⟩) Q E ⟨hp, g, d, tk, os⟩ := by
  have hnt := uni_notType
  have hcan := uni_canMake
  have hchk := uni_noVector ⟨[.str c tc, .str o to, .int i ti, .int j tj, .str r tr], []⟩
  obtain ⟨m, hmro, hne⟩ := uni_mro
  have hmade := uni_madeBy
  wp_walk
  refine codeAny_call_builtin_code (Code.quiet_builtin _ (by decide +kernel)) (wpAny_of_eq (uni_newOk _) ?_)
  refine codeAny_exc_new uni_new ?_ (show 5 ≤ sizeLine by rw [sizeLine_eq]; decide)
  show wpAny _ _ _ _ _ _
  have hget : ((hp.push { cls := .type "tuple", data := .seq [Value.str c tc, .str o to, .int i ti, .int j tj, .str r tr].toArray }).push
      { cls := .type "UnicodeEncodeError", data := .fields #[.ref hp.objs.size, .none, .none, .none, .bool false, .none] }).get? (hp.objs.size + 1) = some
      { cls := .type "UnicodeEncodeError", data := .fields #[.ref hp.objs.size, .none, .none, .none, .bool false, .none] } := by heap_get
  refine wpAny_bind (wpAny_isInstance ⟨_, hget, rfl⟩ uni_sub ?_)
  wp_step
  refine wpAny_bind (wpAny_holding (wpAny_callSpecial?_slot ⟨_, hget, rfl⟩ uni_slot (wpAny_call (codeAny_call_builtin uni_slot.plain uni_entry (uni_check ⟨_, hget, rfl⟩ ?_)))))
  refine uni_init (e := hp.objs.size + 1) hget hi hj fun h' t a b r' i' j' h1 o1 => ?_
  dsimp only
  wp_walk
  refine h h' (hp.objs.size + 1) ⟨fun b ob q => o1 b ob (Nat.ne_of_lt (Nat.lt_succ_of_lt (Heap.lt_size q))) (Heap.get?_push_of_some _ (Heap.get?_push_of_some _ q)), Heap.get?_none_of_le (Nat.le_succ _), t, .none, .bool false, .none, #[a, b, rawInt i', rawInt j', r'], h1⟩
theorem uni_call {c o r : PySem.Str} {tc to tr : Tok} {i j : Int} {ti tj : Tok} {E : Value → Shared → Prop} {Q : Value → Shared → Prop} {s : Shared} (hi : 0 ≤ i ∧ i < 100) (hj : 0 ≤ j ∧ j < 100)
    (h : ∀ h' e, Made s.heap h' e → Q (.ref e) { s with heap := h' }) :
    wpAny (model prog w) A (call (.type "UnicodeEncodeError") [.str c tc, .str o to, .int i ti, .int j tj, .str r tr]) Q E s := by
  obtain ⟨hp, g, d, tk, os⟩ := s
  refine wpAny_call (codeAny_of_tree ?_)
  show wpAny _ _ (again (.builtin "type.__call__" ⟨.type "UnicodeEncodeError" :: _, []⟩)) _ _ _
  exact wpAny_pure ⟨Code.quiet_builtin _ (by decide +kernel), codeAny_builtin entry_typeCall (uni_typeCall hi hj (fun h' e hm => h h' e hm))⟩
open Builtin._codecs in
/-- the fault flies -/
theorem uni_raise {self : PySem.Str} {ts : Tok} {p : Nat} {reason : String} {E : Value → Shared → Prop} {s : Shared} {α : Type} {Q : α → Shared → Prop} (hh : A.handled = none) (hp : p < 50) (hr : (PySem.Str.ofString reason).length ≤ 100)
    (h : ∀ h' e tk, Made s.heap h' e → E (.ref e) { s with heap := h', toks := tk }) :
    wpAny (model prog w) A (raiseEncodeFault (α := α) {} "ascii" (.str self ts) p (p + 1) reason) Q E s := by
  unfold raiseEncodeFault
  refine wpAny_bind ?_
  show wpAny _ A (mkStr (PySem.Str.ofString "ascii") >>= fun a => (pure (Value.str self ts)) >>= fun b => mkInt ((p : Nat) : Int) >>= fun c => mkInt ((p + 1 : Nat) : Int) >>= fun d => mkStr (PySem.Str.ofString reason) >>= fun r => call (.type "UnicodeEncodeError") [a, b, c, d, r]) _ _ _
  refine wpAny_bind (wpAny_mkStr ?_ (by decide))
  refine wpAny_bind (wpAny_pure ?_)
  refine wpAny_bind (wpAny_bind (wpAny_fresh (wpAny_pure ?_)))
  refine wpAny_bind (wpAny_bind (wpAny_fresh (wpAny_pure ?_)))
  refine wpAny_bind (wpAny_mkStr ?_ (by rw [sizeLine_eq]; omega))
  refine uni_call (by omega) (by omega) fun h' e hm => ?_
  exact wpAny_raiseNew_none hh (h h' e _ hm)
end
end
section
section
variable {prog : Program} {w : World} {A : Around} {E : Value → Shared → Prop} {s : Shared}
open Builtin Builtin._codecs in
theorem enc_bad {ws : List Nat} (hws : Spoilt ws) {t u : Tok} {Q : Value → Shared → Prop} (hh : A.handled = none)
    (h : ∀ h' e tk, Made s.heap h' e → E (.ref e) { s with heap := h', toks := tk }) : wpAny (model prog w) A (call (.builtin "str.encode") [.str (tx ws) t, .str (PySem.Str.ofString "ascii") u]) Q E s := by
  obtain ⟨hl, p, hp, hb⟩ := hws
  refine wpAny_call_entry F.slot_str_encode (typeIs_str s _ t) F.entry_str_encode ?_ (F.args_str_encode_2 _ _)
  rw [enc_tree]
  refine wpAny_bind (wpAny_bind ?_)
  refine narrow_bad _ ws p hl hp hb ?_
  exact uni_raise hh (by omega) (by decide) h
end
/-- the fault is noted: its entry stands, its context is still None -/
def TrX (B : Heap) (e : Addr) (fl : Value) (h : Heap) : Prop :=
  ∃ a0 T x3 x4 x5 own oT ts, h.get? e = some { cls := .type "UnicodeEncodeError", data := .fields (#[a0, .ref T, .none, x3, x4, x5] ++ own) } ∧ B.get? T = none ∧ T ≠ e ∧ h.get? T = some oT ∧ oT.data = .fields ts ∧ ts[3]? = some fl
theorem g0 {a0 a1 a2 a3 a4 a5 : Value} {own : Array Value} : (#[a0, a1, a2, a3, a4, a5] ++ own)[0]? = some a0 := by obtain ⟨own⟩ := own; simp
theorem g1 {a0 a1 a2 a3 a4 a5 : Value} {own : Array Value} : (#[a0, a1, a2, a3, a4, a5] ++ own)[1]? = some a1 := by obtain ⟨own⟩ := own; simp
theorem g2 {a0 a1 a2 a3 a4 a5 : Value} {own : Array Value} : (#[a0, a1, a2, a3, a4, a5] ++ own)[2]? = some a2 := by obtain ⟨own⟩ := own; simp
theorem TrX.traced {B h : Heap} {e : Addr} {fl : Value} (x : TrX B e fl h) : ∃ a0, h.TracedAtW B e (.type "UnicodeEncodeError") a0 fl := by
  obtain ⟨a0, T, x3, x4, x5, own, oT, ts, he, hB, hT, ht, hd, h3⟩ := x
  exact ⟨a0, _, _, T, oT, ts, he, ⟨rfl, g0⟩, rfl, g1, hB, hT, ht, hd, h3⟩
theorem TrX.keeps {B h h' : Heap} {e : Addr} {fl : Value} (x : TrX B e fl h) (k : ∀ b o, h.get? b = some o → h'.get? b = some o) : TrX B e fl h' := by
  obtain ⟨a0, T, x3, x4, x5, own, oT, ts, he, hB, hT, ht, hd, h3⟩ := x
  exact ⟨a0, T, x3, x4, x5, own, oT, ts, k _ _ he, hB, hT, k _ _ ht, hd, h3⟩
section
variable {M : Model} {A : Around} {E : Value → Shared → Prop} {s : Shared}
theorem noteX {B H : Heap} {env : Env} {outer : List Env} {L e : Addr} {Q : Unit → Shared → Prop} (hfr : A.frames = some (env :: outer)) (hf : env.frame = some L) (hl : H.FunFrames B (env :: outer)) (hkb : B.StaysIn H) (hm : Made H s.heap e)
    (h : ∀ h', B.StaysIn h' → h'.FunFrames B (env :: outer) → TrX B e (rawInt L) h' → s.heap.UpToSlots h' → Q () { s with heap := h' }) : wpAny M A (noteFrame (.ref e) env) Q E s := by
  obtain ⟨a0, x3, x4, x5, own, he⟩ := hm.there
  have hl' : s.heap.FunFrames B (env :: outer) := hl.of_keeps fun b o q _ => ⟨o, hm.keeps b o q, rfl⟩
  have hkb' : B.StaysIn s.heap := fun b o q => hm.keeps b o (hkb b o q)
  have heB : B.get? e = none := by
    cases q : B.get? e with
    | none => rfl
    | some o => have := hkb e o q; rw [hm.new] at this; cases this
  unfold noteFrame
  simp only [hf]
  refine wpAny_bind (wpAny_field he rfl (x := .none) g1 ?_)
  rw [if_neg (by decide)]
  have hene : e ∉ (env :: outer).filterMap (·.frame) := fun q => by
    obtain ⟨_, o, ho, hnf⟩ := hl'.mem q
    rw [he] at ho; injection ho with ho; subst ho; exact hnf _ rfl
  refine wpAny_bind (wpAny_frameOf_fun hfr hl' hf fun h₁ hs₁ => ?_)
  refine wpAny_bind (wpAny_entryPlaceOf fun pl hpl => ?_)
  unfold EntryCells.newEntry newFields
  refine wpAny_bind (wpAny_newObj_type ?_ (hpl.sizeOk5 _ _ _ _ _))
  have he₁ := (hs₁.2.1 e hene).trans he
  have kb₁ : B.StaysIn h₁ := fun b o hbo => (hs₁.2.1 b fun q => by rw [(hl'.mem q).1] at hbo; cases hbo).trans (hkb' b o hbo)
  have he₂ := Heap.get?_push_of_some (h := h₁) { cls := .type "traceback", dict := none, data := .fields ([Value.none, .ref L, .none, rawInt L, .none] ++ (if pl.isEmpty then List.replicate 6 Value.none else pl)).toArray } he₁
  have hTe : h₁.objs.size ≠ e := Nat.ne_of_gt (Heap.lt_size he₁)
  have keep : ∀ b o, b ≠ e → h₁.get? b = some o →
      ((h₁.push { cls := .type "traceback", dict := none, data := .fields ([Value.none, .ref L, .none, rawInt L, .none] ++ (if pl.isEmpty then List.replicate 6 Value.none else pl)).toArray }).update e (Obj.mapFields (·.setIfInBounds 1 (Value.ref h₁.objs.size)))).get? b = some o :=
    fun b o hbe hb => by
      rw [Heap.get?_update_other _ _ (Ne.symm hbe)]
      exact Heap.get?_push_of_some _ hb
  have noRecord : ∀ b o, s.heap.get? b = some o → (∀ vs, o.data ≠ .fields vs) → b ≠ e := fun b o hb hnf q => by
    rw [q, he] at hb; injection hb with hb; subst hb; exact hnf _ rfl
  refine wpAny_setField he₂ rfl (by simp <;> omega) (h _ ?_ ?_ ?_ ?_)
  · exact fun b o hbo => keep b o (fun q => by rw [q, heB] at hbo; cases hbo) (kb₁ b o hbo)
  · refine hl'.of_keeps fun b o hb hnf => ?_
    obtain ⟨sl, hs⟩ := hs₁.2.2 b o hb
    exact ⟨_, keep b _ (noRecord b o hb hnf) hs, rfl⟩
  · refine ⟨a0, h₁.objs.size, x3, x4, x5, own, { cls := .type "traceback", dict := none, data := .fields ([Value.none, .ref L, .none, rawInt L, .none] ++ (if pl.isEmpty then List.replicate 6 Value.none else pl)).toArray }, _, ?_, kb₁.fresh, hTe, ?_, rfl, ?_⟩
    · have q := Heap.get?_update_self (Obj.mapFields (·.setIfInBounds 1 (Value.ref h₁.objs.size))) he₂ rfl
      refine q.trans ?_
      obtain ⟨own⟩ := own
      simp [Obj.mapFields]
    · exact (Heap.get?_update_other _ _ (Ne.symm hTe)).trans (Heap.get?_push_size h₁ rfl)
    · first | (simp; done) | (rcases hpl with rfl | ⟨_, _, _, _, _, _, _, rfl⟩ <;> simp)
  · intro b o hb hnf
    obtain ⟨sl, hs⟩ := hs₁.2.2 b o hb
    exact ⟨sl, keep b _ (noRecord b o hb hnf) hs⟩
theorem flightX {B : Heap} {l : List Env} {e : Addr} {fl : Value} {Q : Unit → Shared → Prop} (hkb : B.StaysIn s.heap) (hl : s.heap.FunFrames B l) (hx : TrX B e fl s.heap)
    (h : ∀ h', B.StaysIn h' → h'.FunFrames B l → TrX B e .none h' → s.heap.UpToSlots h' → Q () { s with heap := h' }) : wpAny M A (setFlight (.ref e) none) Q E s := by
  obtain ⟨a0, T, x3, x4, x5, own, oT, ts, he, hB, hT, ht, hd, h3⟩ := hx
  have hsz : 3 < ts.size := (Array.getElem?_eq_some_iff.mp h3).1
  have other : ∀ b, b ≠ T → (s.heap.update T (Obj.mapFields (·.setIfInBounds 3 .none))).get? b = s.heap.get? b := fun b hb => Heap.get?_update_other _ _ (Ne.symm hb)
  have noRecord : ∀ b o, s.heap.get? b = some o → (∀ vs, o.data ≠ .fields vs) → b ≠ T := fun b o hb hnf q => by
    rw [q, ht] at hb; injection hb with hb; subst hb; exact hnf ts hd
  refine wpAny_setFlight_none he rfl (tb := T) g1 ht hd hsz (h _ (fun b o hbo => (other b fun q => by rw [q, hB] at hbo; cases hbo).trans (hkb b o hbo)) (hl.of_keeps fun b o hb hnf => ⟨o, (other b (noRecord b o hb hnf)).trans hb, rfl⟩) ?_ fun b o hb hnf => ⟨o.slots, (other b (noRecord b o hb hnf)).trans hb⟩)
  exact ⟨a0, T, x3, x4, x5, own, _, _, (other e (Ne.symm hT)).trans he, hB, hT, Heap.get?_update_self _ ht (Obj.isFreed_of_fields (Obj.data_mapFields hd _)), Obj.data_mapFields hd _, by simp [hsz]⟩
end
end
section
theorem unchain_entry : entryFor table "proto.unchain" = some Builtin.«proto.unchain» := entryFor_of_tree (by kernel_rfl)
section
variable {prog : Program} {w : World} {A : Around} {E : Value → Shared → Prop} {s : Shared} {env : Env}
theorem unchain_none {e : Value} {o : Addr} {ob : Obj} {vs : Array Value} {Q : Value → Shared → Prop} (ho : s.heap.get? o = some ob) (hd : ob.data = .fields vs) (h2 : vs[2]? = some .none) (h : Q .none s) :
    wpAny (model prog w) A (runValue (.builtin "proto.unchain" ⟨[e, .ref o, .ref o, .bool false], []⟩)) Q E s := by
  refine wpAny_runValue (codeAny_builtin unchain_entry ?_)
  show wpAny _ _ (field (.ref o) 2 >>= fun _ => _) _ _ _
  refine wpAny_bind (wpAny_field ho hd h2 ?_)
  rw [if_pos (by decide)]
  refine wpAny_bind (wpAny_pure (wpAny_pure ?_))
  exact h
/-- an exception raised while another one is handled whose context is None -/
theorem raiseNew_mark {e o : Addr} {oe ob : Obj} {ve vs : Array Value} {α : Type} {Q : α → Shared → Prop} (hh : A.handled = some (.ref o)) (hne : e ≠ o) (ho : s.heap.get? o = some ob) (hd : ob.data = .fields vs) (h2 : vs[2]? = some .none)
    (he : s.heap.get? e = some oe) (hde : oe.data = .fields ve) (hsz : 2 < ve.size) (h : E (.ref e) { s with heap := s.heap.update e (Obj.mapFields (·.setIfInBounds 2 (.ref o))) }) :
    wpAny (model prog w) A (raiseNew (.ref e) : Sem α) Q E s := by
  unfold raiseNew
  refine wpAny_bind (wpAny_handled ?_)
  rw [hh]
  dsimp only
  rw [if_pos (show (Value.ref o != Value.ref e) = true from by
    refine bne_iff_ne.mpr fun q => hne ?_
    injection q with q
    exact q.symm)]
  refine wpAny_bind (wpAny_holding (unchain_none ho hd h2 ?_))
  exact wpAny_bind ((wpAny_setField he hde hsz (wpAny_throw h) : wpAny _ _ (setField (.ref e) 2 (.ref o)) _ _ _))
theorem raiseStmt_mark {cls : String} (F : ExcRaiseFacts cls) {x : Sem Value} {o : Addr} {Q : Flow → Shared → Prop} (hh : A.handled = some (.ref o))
    (h : wpAny (model prog w) A x (fun v s₁ => ∃ e t ob vs, v = .ref e ∧ e ≠ o ∧ s₁.heap.get? e = some { cls := .type cls, data := .fields #[.ref t, .none, .none, .none, .bool false, .none] } ∧ s₁.heap.get? o = some ob ∧ ob.data = .fields vs ∧ vs[2]? = some .none ∧
      E (.ref e) { s₁ with heap := s₁.heap.update e (Obj.mapFields (·.setIfInBounds 2 (.ref o))) }) E s) :
    wpAny (model prog w) A (raiseStmt env (some x) none) Q E s := by
  unfold raiseStmt
  refine wpAny_bind (wpAny_mono h (fun v s₁ h₁ => ?_) fun _ _ x => x)
  obtain ⟨e, t, ob, vs, rfl, hne, he, ho, hd, h2, hE⟩ := h₁
  obtain ⟨hp, g, d, tk, os⟩ := s₁
  have hsub := F.isExc
  have hmeta := F.plainMeta
  repeat (first | refine wpAny_loadPart he ?_ | wp_step)
  exact raiseNew_mark hh hne ho hd h2 he rfl (show 2 < 6 by decide) hE
theorem raise_mark {cls newId initId : String} (F : ExcCallFacts cls newId initId) (G : ExcRaiseFacts cls) {x : PySem.Str} {np cpos pos : Pos} {args : List Expr} {o : Addr} {Q : Flow → Shared → Prop}
    (hh : A.handled = some (.ref o)) (hplain : (backTo cpos (starEach args env)).any (·.1) = false)
    (h : wpAny (model prog w) A (eval (.Name x np) env) (fun f s₁ => f = .type cls ∧ wpAny (model prog w) A (evalArgs (.type cls) true (backTo cpos (starEach args env)) [])
      (fun a s₂ => a.kw = [] ∧ a.pos.length ≤ sizeLine ∧ ∀ h' e t, Heap.MadeExc s₂.heap h' e cls a.pos → h'.get? e = some { cls := .type cls, data := .fields #[.ref t, .none, .none, .none, .bool false, .none] } → (∃ ob vs, e ≠ o ∧ h'.get? o = some ob ∧ ob.data = .fields vs ∧ vs[2]? = some .none) ∧ E (.ref e) { s₂ with heap := h'.update e (Obj.mapFields (·.setIfInBounds 2 (.ref o))) }) E s₁) E s) :
    wpAny (model prog w) A (exec (.Raise (some (.Call (.Name x np) args [] cpos)) none pos) env) Q E s := by
  rw [arm_exec_Raise]
  show wpAny _ A (do standAt pos; raiseStmt env (some (do let v ← eval (.Call (.Name x np) args [] cpos) env; standAt pos; pure v)) none) Q E s
  refine wpAny_bind (wpAny_standAt (raiseStmt_mark G hh (wpAny_bind (wpAny_mono (wpAny_Call_ofName (wpAny_mono h (fun f s₁ h₁ => ?_) fun _ _ x => x)) (fun v s₁ h₁ => wpAny_bind (wpAny_standAt (wpAny_pure h₁))) fun _ _ x => x))))
  obtain ⟨rfl, h₁⟩ := h₁
  refine callWith_excType hplain (wpAny_mono h₁ (fun a s₂ h₂ => ?_) fun _ _ x => x)
  obtain ⟨apos, akw⟩ := a
  obtain ⟨hkw, hlen, h₂⟩ := h₂
  obtain rfl : akw = [] := hkw
  obtain ⟨hp, g, d, tk, os⟩ := s₂
  refine wpAny_call_exc F (hrest := hlen) fun h' e hm => ?_
  obtain ⟨t, ht, _, _⟩ := hm.there
  obtain ⟨⟨ob, vs, hne, ho, hd, h2⟩, hE⟩ := h₂ h' e t hm ht
  exact ⟨e, t, ob, vs, rfl, hne, ht, ho, hd, h2, hE⟩
end
end
section
theorem exc_isBase : isSubtype (.type "UnicodeEncodeError") (.type "BaseException") = pure true := by rw [isSubtype_type]; kernel_rfl
theorem exc_notTup : isSubtype (.type ((Manifest.find? "UnicodeEncodeError").elim "type" fun x => x.metatype)) (.type "tuple") = pure false := by kernel_rfl
section
variable {prog : Program} {w : World} {A : Around} {E : Value → Shared → Prop} {s : Shared} {base g H : Heap} {outer : List Env} {L a : Addr} {m : PySem.Str → Option Value} {name : PySem.Str} {scope : Scope} {cd : Value} {KF : Frag} {p : Program} {loose : List PySem.Str} {mean : ExcName → Option Value} {mg mb : PySem.Str → Option Value}
/-- what stands but the frames -/
abbrev Bare (name : PySem.Str) (scope : Scope) (L a : Addr) (cd : Value) (outer : List Env) (H : Heap) : Heap := hideAll H ((envOf name scope L a cd :: outer).filterMap (·.frame))
theorem bare_stays {H : Heap} : (Bare name scope L a cd outer H).StaysIn H := fun b o q => of_hideAll _ q
theorem bare_get {H : Heap} : ∀ b o, H.get? b = some o → b ∉ (envOf name scope L a cd :: outer).filterMap (·.frame) → (Bare name scope L a cd outer H).get? b = some o := fun b o q n => hideAll_get _ q n
theorem bare_frames (K : Below A base outer g) (F : Fr g L H m) (hk : scope.kind = .function) : H.FunFrames (Bare name scope L a cd outer H) (envOf name scope L a cd :: outer) :=
  funFrames_hide (K.push (name := name) (a := a) (cd := cd) F hk).frames fun env he b hb => List.mem_filterMap.mpr ⟨env, he, hb⟩
/-- setting the flight of an exception that is noted -/
theorem flight_some {B : Heap} {l : List Env} {e L' : Addr} {cls a0 fl : Value} {Q : Unit → Shared → Prop} (hkb : B.StaysIn s.heap) (hl : s.heap.FunFrames B l) (ht : s.heap.TracedAtW B e cls a0 fl)
    (h : ∀ h', B.StaysIn h' → h'.FunFrames B l → h'.TracedAtW B e cls a0 (rawInt L') → s.heap.UpToSlots h' → Q () { s with heap := h' }) : wpAny (model prog w) A (setFlight (.ref e) (some L')) Q E s := by
  obtain ⟨oe, vs, T, oT, ts, he, hcls, hd, h1, hnT, hTe, hT, hdT, h3⟩ := ht
  have hsz3 : 3 < ts.size := (Array.getElem?_eq_some_iff.mp h3).1
  have other : ∀ b, b ≠ T → (s.heap.update T (Obj.mapFields (·.setIfInBounds 3 ((some L').elim Value.none fun f => rawInt f)))).get? b = s.heap.get? b :=
    fun b hb => Heap.get?_update_other _ _ (Ne.symm hb)
  have noRecord : ∀ b o, s.heap.get? b = some o → (∀ vs, o.data ≠ .fields vs) → b ≠ T := fun b o hb hnf q => by
    rw [q, hT] at hb; injection hb with hb; subst hb; exact hnf ts hdT
  unfold setFlight
  refine wpAny_bind (wpAny_field he hd h1 ?_)
  rw [if_pos (show (Value.ref T != Value.none) = true from by simp)]
  refine wpAny_setField hT hdT hsz3 (h _ (fun b o hbo => (other b fun q => by rw [q, hnT] at hbo; cases hbo).trans (hkb b o hbo))
    (hl.of_keeps fun b o hb hnf => ⟨o, (other b (noRecord b o hb hnf)).trans hb, rfl⟩) ?_ fun b o hb hnf => ⟨o.slots, (other b (noRecord b o hb hnf)).trans hb⟩)
  exact ⟨oe, vs, T, _, _, (other e (Ne.symm hTe)).trans he, hcls, hd, h1, hnT, hTe, Heap.get?_update_self _ hT (Obj.isFreed_of_fields (Obj.data_mapFields hdT _)), Obj.data_mapFields hdT _, by simp [hsz3]⟩
/-- an exception came back out of a suite -/
theorem cameBack {B : Heap} {env : Env} {l : List Env} {e L' : Addr} {cls a0 fl : Value} (hf : env.frame = some L') (hkb : B.StaysIn s.heap) (hl : s.heap.FunFrames B l) (ht : s.heap.TracedAtW B e cls a0 fl)
    (h : ∀ h', B.StaysIn h' → h'.FunFrames B l → h'.TracedAtW B e cls a0 (rawInt L') → s.heap.UpToSlots h' → E (.ref e) { s with heap := h' }) : cameBackBy (model prog w) A env E (.ref e) s := by
  unfold cameBackBy
  have ht' := ht
  obtain ⟨oe, vs, T, oT, ts, he, hcls, hd, h1, hnT, hTe, hT, hdT, h3⟩ := ht'
  refine wpAny_bind (wpAny_field he hd h1 ?_)
  rw [if_neg (by simp)]
  rw [hf]
  exact flight_some hkb hl ht h
theorem handler67 {xU xV : PySem.Str} {npU npV cpos rpos hpos apos : Pos} {words : PySem.Str} {kk : Nat} {e : Addr} {Q : Flow → Shared → Prop} {R : Value → Shared → Prop}
    (K : Below A base outer g) (F : Fr g L H m) (XB : KF.In base) (TB : Top p loose mean mg mb base) (hm : Made H s.heap e) (hk : scope.kind = .function)
    (exU : nsIn KF mainGlobals xU = some none) (hvU : bootBuiltins xU = some (.type "UnicodeEncodeError")) (hnU : xU ≠ "__name__") (hxU : (envOf name scope L a cd).kindOf xU = some .globalImplicit) (hdU : (xU == ("__debug__" : PySem.Str)) = false)
    (exV : nsIn KF mainGlobals xV = some none) (hvV : bootBuiltins xV = some (.type "ValueError")) (hnV : xV ≠ "__name__") (hxV : (envOf name scope L a cd).kindOf xV = some .globalImplicit) (hdV : (xV == ("__debug__" : PySem.Str)) = false) (hw : words.length ≤ 1000)
    (k : ∀ h8 e2 t u tk, Heap.FlyingW (Bare name scope L a cd outer H) outer e2 (.type "ValueError") (.ref t) h8 → h8.TupAt t [.str words u] → (Bare name scope L a cd outer H).get? t = none → H.UpToSlots h8 → R (.ref e2) { s with heap := h8, toks := tk }) :
    wpAny (model prog w) (A.deeper (envOf name scope L a cd)) (noteFrame (.ref e) (envOf name scope L a cd))
      (fun _ s₂ => wpAny (model prog w) (A.deeper (envOf name scope L a cd)) (setFlight (.ref e) none) (fun _ s₃ =>
        wpAny (model prog w) (A.deeper (envOf name scope L a cd)) (handleBy (.ref e) (envOf name scope L a cd) [.ExceptHandler (some (.Name xU npU)) none [.Raise (some (.Call (.Name xV npV) [.Constant (.str words) kk apos] [] cpos)) none rpos] hpos]) Q
          (fun e s' => wpAny (model prog w) (A.deeper (envOf name scope L a cd)) (leaving (envOf name scope L a cd) e) (fun _ s'' => R e s'') (fun e' s'' => R e' s'') s') s₃)
          (fun e s' => wpAny (model prog w) (A.deeper (envOf name scope L a cd)) (leaving (envOf name scope L a cd) e) (fun _ s'' => R e s'') (fun e' s'' => R e' s'') s') s₂)
          (fun e s' => wpAny (model prog w) (A.deeper (envOf name scope L a cd)) (leaving (envOf name scope L a cd) e) (fun _ s'' => R e s'') (fun e' s'' => R e' s'') s') s := by
  have hfr : (A.deeper (envOf name scope L a cd)).frames = some (envOf name scope L a cd :: outer) := Around.frames_deeper K.stack
  have hBG := bare_get (name := name) (scope := scope) (L := L) (a := a) (cd := cd) (outer := outer) (H := H)
  have hBs := bare_stays (name := name) (scope := scope) (L := L) (a := a) (cd := cd) (outer := outer) (H := H)
  have hBf := bare_frames (name := name) (scope := scope) (L := L) (a := a) (cd := cd) K F hk
  generalize hBB : Bare name scope L a cd outer H = B at hBG hBs hBf k
  refine noteX hfr rfl hBf hBs hm fun h1 b1 f1 x1 u1 => ?_
  refine flightX b1 f1 x1 fun h2 b2 f2 x2 u2 => ?_
  have uH2 : H.UpToSlots h2 := (Heap.UpToSlots.of_keeps hm.keeps).trans (u1.trans u2)
  obtain ⟨g2, T2, F2, K2⟩ := kts_ground K F hBG b2 uH2
  have X2 : KF.In g2 := XB.keeps K2.stays
  have P2 : TopRead p loose mg mb g2 := topRead_of (TB.keeps K2.stays)
  obtain ⟨ob, hob, hobc⟩ : ∃ ob, h2.get? e = some ob ∧ ob.cls = .type "UnicodeEncodeError" := by
    obtain ⟨a0, T, x3, x4, x5, own, oT, ts, he, _⟩ := x2
    exact ⟨_, he, rfl⟩
  refine wpAny_handleBy_builtin (X := "UnicodeEncodeError") (T := "UnicodeEncodeError") (b := true) exc_isBase exc_notTup uni_sub (name_B F2 X2 P2 exU hvU hnU ⟨rfl, ⟨ob, hob, hobc⟩, ?_⟩ hk hxU hdU)
  refine flightX b2 f2 x2 fun h3 b3 f3 x3' u3 => ?_
  have uH3 := uH2.trans u3
  obtain ⟨g3, T3, F3, K3⟩ := kts_ground K F hBG b3 uH3
  have X3 : KF.In g3 := XB.keeps K3.stays
  have P3 : TopRead p loose mg mb g3 := topRead_of (TB.keeps K3.stays)
  refine wpAny_execs_cons ?_
  have hAh : ((A.deeper (envOf name scope L a cd)).mark (some (.ref e))).handled = some (.ref e) := rfl
  refine raise_mark PySem.F.excCall_ValueError PySem.F.excRaise_ValueError hAh rfl (name_B F3 X3 P3 exV hvV hnV ⟨rfl, ?_⟩ hk hxV hdV)
  refine (Calls.evalArgs_plain (args_cons (Constant_str (args_nil ?_)) rfl : wpAny _ _ (spliced (backTo cpos (starEach [.Constant (.str words) kk apos] (envOf name scope L a cd)))) _ _ _))
  refine ⟨rfl, by show 1 ≤ sizeLine; rw [sizeLine_eq]; decide, fun h4 e2 t hm2 hget => ?_⟩
  dsimp only at hm2
  obtain ⟨a0, T, x3, x4, x5, own, oT, ts, he3, hBT, hTe, hT3, hdT, h33⟩ := x3'
  have hne : e2 ≠ e := fun q => by
    have := hm2.new
    rw [q, he3] at this
    cases this
  refine ⟨⟨_, _, hne, hm2.keeps _ _ he3, rfl, Mine.g2⟩, ?_⟩
  obtain ⟨t', hget', htn, htup⟩ := hm2.there
  obtain rfl : t = t' := by
    rw [hget] at hget'
    injection hget' with q
    injection q with _ _ q _
    injection q with q
    have := congrArg Array.toList q
    simp at this
    exact this
  have heB2 : B.get? e2 = none := by
    cases q : B.get? e2 with
    | none => rfl
    | some o => have := b3 e2 o q; rw [hm2.new] at this; cases this
  have htB : B.get? t = none := by
    cases q : B.get? t with
    | none => rfl
    | some o => have := b3 t o q; rw [htn] at this; cases this
  have hte : t ≠ e2 := fun q => by
    rw [q, hget] at htup
    simp at htup
  have keep5 : ∀ b o, b ≠ e2 → h4.get? b = some o → (h4.update e2 (Obj.mapFields (·.setIfInBounds 2 (.ref e)))).get? b = some o := fun b o hb q => (Heap.get?_update_other _ _ (Ne.symm hb)).trans q
  have he5 : (h4.update e2 (Obj.mapFields (·.setIfInBounds 2 (.ref e)))).get? e2 = some { cls := .type "ValueError", data := .fields #[.ref t, .none, .ref e, .none, .bool false, .none] } := Heap.get?_update_self _ hget rfl
  have ne5 : ∀ b o, h3.get? b = some o → b ≠ e2 := fun b o q z => by rw [z, hm2.new] at q; cases q
  have b5 : B.StaysIn (h4.update e2 (Obj.mapFields (·.setIfInBounds 2 (.ref e)))) := fun b o q => keep5 b o (ne5 b o (b3 b o q)) (hm2.keeps _ _ (b3 b o q))
  have k5 : ∀ b o, h3.get? b = some o → (h4.update e2 (Obj.mapFields (·.setIfInBounds 2 (.ref e)))).get? b = some o := fun b o q => keep5 b o (ne5 b o q) (hm2.keeps _ _ q)
  have f5 : (h4.update e2 (Obj.mapFields (·.setIfInBounds 2 (.ref e)))).FunFrames B (envOf name scope L a cd :: outer) := f3.of_keeps fun b o q _ => ⟨o, k5 b o q, rfl⟩
  have tup5 : (h4.update e2 (Obj.mapFields (·.setIfInBounds 2 (.ref e)))).TupAt t [.str words s.toks] := ⟨_, _, keep5 _ _ hte htup, rfl, rfl⟩
  have u5 : H.UpToSlots (h4.update e2 (Obj.mapFields (·.setIfInBounds 2 (.ref e)))) := uH3.trans (Heap.UpToSlots.of_keeps k5)
  generalize h4.update e2 (Obj.mapFields (·.setIfInBounds 2 (.ref e))) = h5 at he5 b5 f5 tup5 u5
  show wpAny _ _ (noteFrame (.ref e2) _) _ _ _
  unfold noteFrame
  simp only []
  refine wpAny_bind (wpAny_field he5 rfl (x := .none) rfl ?_)
  rw [if_neg (by decide)]
  refine wpAny_entryW (base := B) (env := envOf name scope L a cd) (outer := outer) (a0 := .ref t) hfr f5 rfl he5 b5 heB2 rfl (by show 1 < 6; decide) rfl fun h6 hN => ?_
  obtain ⟨b6, f6, t6, u6⟩ := hN
  refine cameBack rfl b6 f6 t6 fun h7 b7 f7 t7 u7 => ?_
  unfold leaving
  refine wpAny_bind (wpAny_noteFrame_againW rfl t7 ?_)
  refine wpAny_landsW (base := B) (l := envOf name scope L a cd :: outer) ⟨b7, heB2, f7, t7⟩ fun h8 hfl u8 => ?_
  obtain ⟨q1, q2, ⟨_, _, q3⟩, q4⟩ := hfl
  exact k h8 e2 t s.toks _ ⟨q1, q2, q3, q4⟩ (((tup5.of_slots u6).of_slots u7).of_slots u8) htB (((u5.trans u6).trans u7).trans u8)
end
end
section
local macro_rules | `(tactic| walk_at "getMethod str") => `(tactic| (k_here; with_reducible refine gm_encode ?_))
theorem bare_raised {A : Around} {base g h H : Heap} {outer : List Env} {L a e t : Addr} {m : PySem.Str → Option Value} {name : PySem.Str} {scope : Scope} {cd : Value} {news : List (Addr × Obj)} {vs : List Value} {X : String}
    (K : Below A base outer g) (F : Fr g L H m) (N : News g L H news) (hk : scope.kind = .function) (hfl : Heap.FlyingW (Bare name scope L a cd outer H) outer e (.type X) (.ref t) h) (htup : h.TupAt t vs) (htB : (Bare name scope L a cd outer H).get? t = none) :
    RaisedS base g outer e (.type X) t vs news h := by
  have K' := K.push (name := name) (a := a) (cd := cd) F hk
  refine ⟨⟨_, fun b o q => bare_get b o (K'.stays b o q) fun hm => ?_, fun b o q n => bare_get b o (F.keep b o q) fun hm => ?_, fun q hq => ⟨bare_get _ _ (N q hq).1 fun hm => ?_, (N q hq).2.2, fresh_of_stays K.stays (N q hq).2.2⟩, hfl, htB⟩, htup⟩
  · rw [(K'.frames.mem hm).1] at q; cases q
  · rcases kts_mem hm with z | z
    · rw [z, kts_self F] at q; cases q
    · exact n z
  · rcases kts_mem hm with z | z
    · exact (N q hq).2.1 z
    · obtain ⟨_, o, ho, _⟩ := K.frames.mem z
      rw [(N q hq).2.2] at ho; cases ho
theorem num_badA (w : World) (ws : List Nat) (t : Tok) (hws : Spoilt ws) : ∀ (p : Program) (loose : List PySem.Str) (mean : ExcName → Option Value) (mg mb : PySem.Str → Option Value) (dp un : Nat) (gd : Option (List Code)) (cn : PySem.Str) (cs : Scope) (a : Addr) (ccd : Value) (cl : List (PySem.Str × Addr)) (A₀ : Around) (base h₀ : Heap) (L : Addr) (m : PySem.Str → Option Value) (s : Shared) (Q E : Value → Shared → Prop) (news : List (Addr × Obj)),
    Below A₀ base [] h₀ → Fr h₀ L s.heap m → (Mine.hd0.heap_39 w.params).In h₀ → News h₀ L s.heap news → Top p loose mean mg mb h₀ → cs.kind = .function → dp + 6 < recursionLimit → un + 16 * 6 < cLine →
    (∀ h' tk t', Fr h₀ L h' m → News h₀ L h' news → Q (.str wordsS t') { s with heap := h', toks := tk }) →
    wpAny (model PySem.Challenge.rw_in0262_01.row.prog w) (ktrTop dp un gd cn cs L a ccd cl []) (call (.ref 117) [.str (tx ws) t]) Q E s := by
  k_fill
  intro p loose mean mg mb dp un gd cn cs a ccd cl A₀ base h₀ L m s Q E news B F X N T hk hd hu k
  obtain ⟨ck, cnm, c1', c2', c3'⟩ := cs
  cases hk
  refine wpAny_call ?_
  k_dflt (refine' enterS ?k1 ?k2 ?k3 ?k4 ?k5 ?kA ?kF ?kK ?k6 ?k7 ?k8 ?k9 ?kB ?_ ?c2 ?c3 ?c4 ?c5; (case kA => exact rfl); (case kF => exact rfl); (case kK => exact rfl); (case k1 => k_asm); (case k2 => k_asm); (case k3 => k_asm); (case k4 => k_asm); (case k5 => k_asm); (case k6 => k_is); (case k7 => k_is); (case k8 => ktr_room); (case k9 => exact BindsTo.of_eq rfl); (case kB => exact locs rfl); (case c2 => exact rfl); (case c3 => exact rfl); (case c4 => exact rfl); (case c5 => decide); k_whole)
  intro g₀ L₀ h₁ FG₀ F₀ N₀ B₀ X₀ T₀ D₀
  (try dsimp only)
  iterate 2 (first | walk1 | (dsimp only; walk1))
  refine wpAny_Try_except ?_
  iterate 14 (first | walk1 | (dsimp only; walk1))
  refine wpAny_call ?_
  k_dflt walk_at "m enterP"
  rename_i g₁ L₁ h₂ FG₁ F₁ N₁ B₁ X₁ T₁ hg₁
  iterate 14 (first | walk1 | (dsimp only; walk1))
  rw [if_pos rfl]
  iterate 1 (first | walk1 | (dsimp only; walk1))
  refine wpAny_Try_except ?_
  iterate 9 (first | walk1 | (dsimp only; walk1))
  k_here
  refine enc_bad hws rfl ?_
  intro h' e tk hm
  refine handler67 (KF := Mine.hd0.heap_39 w.params) (mean := mean) (p := p) (loose := loose) (mg := mg) (mb := mb) B₁ F₁ X T hm rfl ?exU PyProof.Rows.Boot.«UnicodeEncodeError» ?hnU rfl (by decide) ?exV PyProof.Rows.Boot.«ValueError» ?hnV rfl (by decide) (by decide) ?_
  case exU => k_is
  case exV => k_is
  case hnU => decide
  case hnV => decide
  intro h8 e2 tt u tk' hfl htup htB hup
  have uS := (Heap.UpToSlots.of_keeps F₁.keep).trans hup
  have rS := bare_raised B₁ F₁ N₁ rfl hfl htup htB
  (try dsimp only at rS uS)
  clear hm
  walk1
  iterate 8 (first | walk1 | (dsimp only; walk1))
  iterate 2 (first | walk1 | (dsimp only; walk1))
  refine leaveS0_ (news' := (_, KFB.bound) :: news) (by assumption) (by assumption) (by assumption) ?_
  intro F9 N9
  exact k _ _ _ F9 fun q hq => N9 q (List.mem_cons_of_mem _ hq)
end
section
theorem num_bad (w : World) (ws : List Nat) (t : Tok) (hws : Spoilt ws) {p : Program} {loose : List PySem.Str} {mean : ExcName → Option Value} {mg mb : PySem.Str → Option Value} {dp un : Nat} {gd : Option (List Code)} {cn : PySem.Str} {cs : Scope} {a : Addr} {ccd : Value} {cl : List (PySem.Str × Addr)} {A₀ : Around} {base h₀ : Heap} {L : Addr} {m : PySem.Str → Option Value} {s : Shared} {Q E : Value → Shared → Prop} {news : List (Addr × Obj)}
    (B : Below A₀ base [] h₀) (F : Fr h₀ L s.heap m) (X : (Mine.hd0.heap_39 w.params).In h₀) (N : News h₀ L s.heap news) (T : Top p loose mean mg mb h₀) (hk : cs.kind = .function) (hd : dp + 6 < recursionLimit) (hu : un + 16 * 6 < cLine)
    (k : ∀ h' tk t', Fr h₀ L h' m → News h₀ L h' news → Q (.str wordsS t') { s with heap := h', toks := tk }) :
    wpAny (model PySem.Challenge.rw_in0262_01.row.prog w) (ktrTop dp un gd cn cs L a ccd cl []) (call (.ref 117) [.str (tx ws) t]) Q E s := by
  exact num_badA w ws t hws p loose mean mg mb dp un gd cn cs a ccd cl A₀ base h₀ L m s Q E news B F X N T hk hd hu k
end
section

end
section
theorem ints_get {vs : List Value} {ns : List Int} (h : IntsAre vs ns) : ∀ i : Nat, (vs[i]? = none ∧ ns[i]? = none) ∨ ∃ k t, vs[i]? = some (.int k t) ∧ ns[i]? = some k := by
  induction h with
  | nil => intro i; exact .inl ⟨rfl, rfl⟩
  | cons a t h ih =>
    intro i
    cases i with
    | zero => exact .inr ⟨a, t, rfl, rfl⟩
    | succ i => exact ih i
theorem ints_pick {vs : List Value} {ns : List Int} (h : IntsAre vs ns) : ∀ l : List Nat, IntsAre (l.filterMap (vs.toArray[·]?)) (l.filterMap (ns[·]?))
  | [] => .nil
  | i :: r => by
    rw [List.filterMap_cons, List.filterMap_cons]
    rcases ints_get h i with ⟨e1, e2⟩ | ⟨k, t, e1, e2⟩
    · rw [show vs.toArray[i]? = none from by simpa using e1, e2]
      exact ints_pick h r
    · rw [show vs.toArray[i]? = some (.int k t) from by simpa using e1, e2]
      exact .cons k t (ints_pick h r)
abbrev nvPick (vs : List Value) (k : Int) : List Value := (sliceRange (sliceBounds (some k) (some 24) (some 6) vs.toArray.size).1 (sliceBounds (some k) (some 24) (some 6) vs.toArray.size).2.1 6).filterMap (vs.toArray[·]?)
def pickI (ns : List Int) (k : Int) : List Int := (sliceRange (sliceBounds (some k) (some 24) (some 6) ns.length).1 (sliceBounds (some k) (some 24) (some 6) ns.length).2.1 6).filterMap (ns[·]?)
def numAt (ns : List Int) (k : Int) : Int := [35, 165, 286, 419, 545, 2700].getD k.toNat 0 + (pickI ns k).sum
abbrev nsOf {vs : List Value} {ns : List Int} (_ : IntsAre vs ns) : List Int := ns

end
section

end
section
def decB : Value → Bool
  | .str x _ => x.cps.contains 233
  | _ => false
theorem carried_mem {α : Type} {f : α → PySem.Str} : ∀ {xs : List α} {zs : List Value}, CarriedAll zs (xs.map fun k => PyData.str (f k)) → ∀ v ∈ zs, ∃ k ∈ xs, ∃ t, v = .str (f k) t
  | [], _, .nil, _, h => nomatch h
  | a :: r, _, .cons h hr, v, hv => by
    rcases List.mem_cons.mp hv with rfl | hv
    · cases h
      exact ⟨a, List.mem_cons_self, _, rfl⟩
    · obtain ⟨k, hk, t, e⟩ := carried_mem hr v hv
      exact ⟨k, List.mem_cons_of_mem _ hk, t, e⟩
theorem fig_mem (x k : Int) : fig x k ∈ [55, 59, 61, 62, 63] := by
  have h0 := Int.fmod_nonneg_of_pos (x.fdiv (5 ^ k.toNat)) (show (0:Int) < 5 by decide)
  have h1 := Int.fmod_lt_of_pos (x.fdiv (5 ^ k.toNat)) (show (0:Int) < 5 by decide)
  unfold fig
  have : ((x.fdiv (5 ^ k.toNat)).fmod 5).toNat < 5 := by omega
  generalize ((x.fdiv (5 ^ k.toNat)).fmod 5).toNat = i at this
  have hi : i = 0 ∨ i = 1 ∨ i = 2 ∨ i = 3 ∨ i = 4 := by omega
  rcases hi with rfl | rfl | rfl | rfl | rfl <;> decide
theorem fig_lt (x k : Int) : fig x k < 128 := by
  have := fig_mem x k
  simp at this
  omega
/-- four signs, an e with an accent at place p -/
def put (p a b c d : Nat) : List Nat := [if p = 0 then 233 else a, if p = 1 then 233 else b, if p = 2 then 233 else c, if p = 3 then 233 else d]
theorem put_all : (S5.all fun a => S5.all fun b => S5.all fun c => S5.all fun d => [0, 1, 2, 3, 4].all fun p => (decide (p = 4) && (put p a b c d).contains 233 == false && put p a b c d == [a, b, c, d]) || ((put p a b c d).contains 233 && spB (put p a b c d) p)) = true := by kernel_rfl
def pOf (x : Int) : Nat := if spo x = 0 then 0 else if spo x = 1 then 1 else if spo x = 2 then 2 else if spo x = 3 then 3 else 4
theorem bal_put (x : Int) : bal x = put (pOf x) (fig x 0) (fig x 1) (fig x 2) (fig x 3) := by
  unfold bal balAt pOf
  generalize spo x = y
  by_cases h0 : y = 0
  · subst h0; rfl
  by_cases h1 : y = 1
  · subst h1; rfl
  by_cases h2 : y = 2
  · subst h2; rfl
  by_cases h3 : y = 3
  · subst h3; rfl
  rw [if_neg (Ne.symm h0), if_neg (Ne.symm h1), if_neg (Ne.symm h2), if_neg (Ne.symm h3), if_neg h0, if_neg h1, if_neg h2, if_neg h3]
  rfl
theorem pOf_mem (x : Int) : pOf x ∈ [0, 1, 2, 3, 4] := by
  unfold pOf
  repeat' split
  all_goals decide
theorem bal_cases (x : Int) : (decB (.str (tx (bal x)) 0) = true ∧ Spoilt (bal x)) ∨ (decB (.str (tx (bal x)) 0) = false ∧ bal x = [fig x 0, fig x 1, fig x 2, fig x 3]) := by
  have e : decB (.str (tx (bal x)) 0) = (bal x).contains 233 := by simp [decB]
  rw [e, bal_put]
  have k := List.all_eq_true.mp (List.all_eq_true.mp (List.all_eq_true.mp (List.all_eq_true.mp (List.all_eq_true.mp put_all _ (fig_mem x 0)) _ (fig_mem x 1)) _ (fig_mem x 2)) _ (fig_mem x 3)) _ (pOf_mem x)
  simp only [Bool.or_eq_true, Bool.and_eq_true, beq_iff_eq, decide_eq_true_eq] at k
  rcases k with ⟨⟨_, k⟩, k'⟩ | ⟨k, k'⟩
  · exact .inr ⟨k, k'⟩
  · refine .inl ⟨k, rfl, pOf x, ?_, (spB_iff _ _).mp k'⟩
    have := pOf_mem x
    refine Nat.lt_of_le_of_ne (Nat.le_of_lt_succ (List.mem_range.mp (show pOf x ∈ List.range 5 from this))) fun h4 => ?_
    rw [h4] at k
    have f : ∀ i, 233 ≠ fig x i := fun i h => by have := fig_mem x i; rw [← h] at this; revert this; decide
    simp [put] at k
    rcases k with k | k | k | k <;> exact f _ k
theorem bal_mem (x k : Int) : balAt x k ∈ S6 := by
  unfold balAt
  split
  · exact List.mem_cons_self
  · exact List.mem_cons_of_mem _ (fig_mem x k)

end
section
open Builtin.Str in
theorem occ_all : ∀ a ∈ 233 :: S5, ∀ b ∈ 233 :: S5, ∀ c ∈ 233 :: S5, ∀ d ∈ 233 :: S5, (occurrences (tx [a, b, c, d]) (tx [233]) 0 4 1).isEmpty = !([a, b, c, d].contains 233) := by decide +kernel
theorem occ4 {a b c d : Nat} (ha : a ∈ S6) (hb : b ∈ S6) (hc : c ∈ S6) (hd : d ∈ S6) : (Builtin.Str.occurrences (tx [a, b, c, d]) (tx [233]) 0 4 1).isEmpty = !([a, b, c, d].contains 233) := occ_all a ha b hb c hc d hd
open Builtin.Str in
theorem occ2 (a b d : Nat) : (occurrences (tx [a, b]) (tx [d]) 0 2 1).isEmpty = !([a, b].contains d) := by
  unfold occurrences
  by_cases h0 : a = d
  · subst h0
    simp [Std.Legacy.Range.forIn_eq_forIn_range', List.range', subAt, tx_length]
  by_cases h1 : b = d
  · subst h1
    simp [Std.Legacy.Range.forIn_eq_forIn_range', List.range', subAt, tx_length, h0]
  have g0 : d ≠ a := Ne.symm h0
  have g1 : d ≠ b := Ne.symm h1
  simp [Std.Legacy.Range.forIn_eq_forIn_range', List.range', subAt, tx_length, h0, h1, g0, g1]
theorem e_acute : PySem.Str.ofString "é" = tx [233] := by decide
theorem bal_in (x : Int) (t : Tok) : (!(Builtin.Str.occurrences (tx (bal x)) (PySem.Str.ofString "é") 0 (tx (bal x)).length 1).isEmpty) = decB (.str (tx (bal x)) t) := by
  rw [e_acute]
  have h := occ4 (bal_mem x 0) (bal_mem x 1) (bal_mem x 2) (bal_mem x 3)
  have e : (tx (bal x)).length = 4 := by rw [tx_length]; rfl
  rw [e]
  unfold bal
  rw [h]
  simp [decB]
section
variable {prog : Program} {w : World} {A : Around} {E : Value → Shared → Prop} {s : Shared} {a b : Addr} {xs ys : List Value} {ns ms : List PySem.Str} {Q : Value → Shared → Prop}
theorem same_strs (ns ms : List PySem.Str) : PySem.Spec.sameAll (ns.map PyData.str) (ms.map PyData.str) = decide (ns = ms) := by
  induction ns generalizing ms with
  | nil => cases ms <;> simp [PySem.Spec.sameAll]
  | cons a r ih =>
    cases ms with
    | nil => simp [PySem.Spec.sameAll]
    | cons b t =>
      simp only [List.map_cons, PySem.Spec.sameAll, PySem.Spec.same, ih t]
      by_cases h : a = b <;> by_cases h' : r = t <;> simp [h, h']
theorem ne_strs (ha : s.heap.IsList a xs.toArray) (hb : s.heap.IsList b ys.toArray) (hi : CarriedAll xs (ns.map PyData.str)) (hj : CarriedAll ys (ms.map PyData.str)) (h1 : ∀ x ∈ ns, PyData.strOk x = true) (h2 : ∀ x ∈ ms, PyData.strOk x = true) (hu : A.units + 64 < cLine) (h : Q (.bool (!decide (ns = ms))) s) :
    wpAny (model prog w) A (compareOp .NotEq (.ref a) (.ref b)) Q E s := by
  have sh : ∀ ns : List PySem.Str, (∀ x ∈ ns, PyData.strOk x = true) → SeqAt.shaped (.list (ns.map PyData.str)) = true := by
    intro ns hn
    have c1 : PyData.canLayAll0 (ns.map PyData.str) = true := by
      induction ns with
      | nil => rfl
      | cons a r ih =>
        simp only [List.map_cons, PyData.canLayAll0, PyData.canLay0, Bool.and_eq_true]
        exact ⟨hn a List.mem_cons_self, ih fun x hx => hn x (List.mem_cons_of_mem _ hx)⟩
    have c2 : PyData.depthAll (ns.map PyData.str) = 0 := by
      clear hn c1
      induction ns with
      | nil => rfl
      | cons a r ih => simp [PyData.depthAll, PyData.depth, ih]
    simp [SeqAt.shaped, PyData.canLay0, PyData.depth, c1, c2]
  refine ne_dataH_same (reads_newData ha hi) (reads_newData hb hj) (sh _ h1) (sh _ h2) hu (SeqAt.noMix_of_shape (.list .str) rfl _ _ (list_map_has fun _ => rfl) (list_map_has fun _ => rfl)) ?_
  simp only [PySem.Spec.same]
  rw [same_strs]
  exact h
end
theorem carried_filter {α : Type} {f : α → PySem.Str} {p : Value → Bool} (hp : ∀ s t, p (.str s t) = p (.str s 0)) : ∀ {xs : List α} {zs : List Value}, CarriedAll zs (xs.map fun k => PyData.str (f k)) →
    CarriedAll (zs.filter p) ((xs.filter fun k => p (.str (f k) 0)).map fun k => PyData.str (f k))
  | [], _, .nil => .nil
  | a :: r, _, .cons h hr => by
    cases h
    rename_i t
    rw [List.filter_cons, List.filter_cons, hp]
    cases p (.str (f a) 0) with
    | true => exact .cons (.str _ _) (carried_filter hp hr)
    | false => exact carried_filter hp hr
theorem decB_tok (s : PySem.Str) (t : Tok) : decB (.str s t) = decB (.str s 0) := rfl
theorem strOk_bal (x : Int) : PyData.strOk (tx (bal x)) = true := by
  have f0 := fig_lt x 0
  have f1 := fig_lt x 1
  have f2 := fig_lt x 2
  have f3 := fig_lt x 3
  simp [PyData.strOk, bal, balAt]
  refine ⟨?_, ?_, ?_, ?_⟩ <;> split <;> omega
end
section
section
variable {prog : Program} {w : World} {A : Around} {E : Value → Shared → Prop} {s : Shared} {h₀ : Heap} {L : Addr} {m : PySem.Str → Option Value} {env : Env}
theorem getItem_txT {cs : List Nat} {t u : Tok} {i : Int} {value slice : Expr} {Q : Value → Shared → Prop} (h0 : 0 ≤ i) (h1 : i < cs.length) (hn : cs.length ≤ 100000) (h : Q (.str (tx [cs.getD i.toNat 0]) s.toks) { s with toks := s.toks + 1 })
    (hs : subscripted slice false (.str (tx cs) t) (.int i u) = operate [.str (tx cs) t, .int i u] (getItem (.str (tx cs) t) (.int i u)) := by with_unfolding_all rfl)
    (ht : ∀ r, letTemporaryGo value (.str (tx cs) t) r = pure () := by intro _; with_unfolding_all rfl) :
    wpAny (model prog w) A (subscriptTail value slice (.str (tx cs) t) (.int i u)) Q E s := by
  refine KXi.item (n := cs.length) (tx_length cs) (by omega) h1 (by omega) (fun _ => ?_) hs ht
  rw [item_tx h0 h1]
  exact h
/-- a range, the comprehension's own name in a cell -/
theorem SrcX1.range {ifs : List Expr} {elt : Expr} {x : PySem.Str} {scope : Scope} {cl : List (PySem.Str × Addr)} {Fin : Shared → Nat → (Addr → List Value → List (Addr × Obj) → Heap → Nat → Prop) → Prop} {r : Addr} {e₀ : Int} {t u v₀ : Tok} {n b : Nat} {news : List (Addr × Obj)} {s₁ : Shared} (J : Nat → List Value → List (Addr × Obj) → Prop)
    (hh : A.handled = none) (F : Fr h₀ L s₁.heap m) (N : News h₀ L s₁.heap news) (hr : IsRange s₁.heap r 0 e₀ 1 t u v₀) (hsm : Builtin.Range.small 0 e₀ 1 = true) (hn : Builtin.Range.rangeSize 0 e₀ 1 = ((n : Nat) : Int)) (hsz : n ≤ sizeLine) (hJ : J 0 [] news) (hb : b ≤ s₁.toks)
    (turn : ∀ I s₂ i ys nw t h t1 oI Cc oc C oC D (E' : Value → Shared → Prop), (∃ g, s₂ = { s₁ with heap := g }) → i < n → b ≤ t1 → J i ys nw → LCg.NsObj oC (fun _ => none) → oc.data = .cell (some (.int (i : Int) t)) → Fr h₀ L h m → News h₀ L h ((I, oI) :: (C, oC) :: (D, LCg.lst ys) :: (Cc, oc) :: nw) → LCg.Off3 I C D ((Cc, oc) :: nw) → LCg.Off1 Cc nw → ((@Ne Nat I C) ∧ (@Ne Nat I D) ∧ (@Ne Nat C D)) →
      wpAny (model prog w) A (forIn ifs true fun c r => if r = true then do let ok ← isTrue c (compEnvC scope ((x, Cc) :: cl) C env) (eval c (compEnvC scope ((x, Cc) :: cl) C env)); pure (ForInStep.yield ok) else pure (ForInStep.yield r)) (fun ok s₃ =>
          if ok = true then wpAny (model prog w) A (eval elt (compEnvC scope ((x, Cc) :: cl) C env)) (LCg.CompEnd h₀ L m { s₂ with heap := h, toks := t1 } I oI C oC D (LCg.lst ys) (fun _ => True) (fun y nw' => ∃ nw'', nw' = (Cc, oc) :: nw'' ∧ LCg.Off1 Cc nw'' ∧ J (i + 1) (ys ++ [y]) nw'')) E' s₃
          else LCg.CompEnd h₀ L m { s₂ with heap := h, toks := t1 } I oI C oC D (LCg.lst ys) (fun _ => True) (fun _ nw' => ∃ nw'', nw' = (Cc, oc) :: nw'' ∧ LCg.Off1 Cc nw'' ∧ J (i + 1) ys nw'') Value.none s₃) E' { s₂ with heap := h, toks := t1 })
    (fin : ∀ s₂, (∃ g, s₂ = { s₁ with heap := g }) → Fin s₂ b (fun D ys nw h tk => b ≤ tk ∧ J n ys nw ∧ News h₀ L h ((D, LCg.lst ys) :: nw) ∧ LCg.Off1 D nw)) :
    SrcX1 prog w A E h₀ L m env ifs elt x scope cl Fin (.ref r) s₁ := by
  have up : ∀ (o : Obj) b o', s₁.heap.get? b = some o' → (s₁.heap.push o).get? b = some o' := fun o b o' e => Heap.get?_push_of_some _ e
  have W := Nx.of_walks (LCg.range_walks (prog := prog) (w := w) (I := s₁.heap.objs.size) hh 0 n)
  refine wpAny_pyIter_range hr hsm ⟨_, _, _, b, _, _, news, J, rfl, W, hsz, fun i h st => ⟨_, st⟩, ?_, (by show IsRangeIter _ _ _ _ _; rw [hn]; simpa using Heap.get?_push_size _ rfl), ?_, F.keeps (up _), N.grown (up _), Nat.ne_of_lt F.ns.lt, next_is_new F, fun p hp => Nat.ne_of_lt (Heap.lt_size (N p hp).1), hJ, hb, ?_, ?_⟩
  · intro i h h' o ys nw hs e e' F' N' hj
    have st' : h.get? s₁.heap.objs.size = some _ := hs
    show h'.get? s₁.heap.objs.size = some _
    rw [e', ← e]
    exact st'
  · intro c hc
    show c < (s₁.heap.push _).objs.size
    rw [Heap.size_push, List.mem_singleton.mp hc]
    exact Nat.lt_succ_self _
  · rintro i ys nw v h t0 t1 oI Cc oc C oC D E' hi ⟨t, rfl⟩ _ hb1 hj hC hcd F' N' o3 o1 ne
    rw [Int.zero_add] at hcd
    exact turn _ _ i ys nw t h t1 oI Cc oc C oC D E' ⟨_, rfl⟩ hi hb1 hj hC hcd F' N' o3 o1 ne
  · exact fin _ ⟨_, rfl⟩
end
end
section
section
variable {prog : Program} {w : World} {A : Around} {R : Result → Shared → Prop} {s : Shared}
theorem turn_d1 (elt t0 i0 t1 i1 : Expr) (scope : Scope) (pos : Pos) (it acc : Value) (env : Env) :
    compTurn (.ListComp elt [⟨t0, i0, [], 0⟩, ⟨t1, i1, [], 0⟩] scope pos) 1 it acc env = (standAt i1.pos >>= fun _ => pyNext it >>= fun r => match r with
      | none => pure (.done .next)
      | some v => letOwnedTupleGo t1 it v >>= fun _ => assign t1 env v >>= fun _ =>
        (eval elt env >>= fun x => call (.builtin "list.append") [acc, x] >>= fun _ => pure ()) >>= fun _ =>
          again (.compLoop (.ListComp elt [⟨t0, i0, [], 0⟩, ⟨t1, i1, [], 0⟩] scope pos) 1 it acc env)) := by rfl
theorem turn_d0 (elt t0 i0 t1 i1 : Expr) (scope : Scope) (pos : Pos) (it acc : Value) (env : Env) :
    compTurn (.ListComp elt [⟨t0, i0, [], 0⟩, ⟨t1, i1, [], 0⟩] scope pos) 0 it acc env = (standAt i0.pos >>= fun _ => pyNext it >>= fun r => match r with
      | none => pure (.done .next)
      | some v => letOwnedTupleGo t0 it v >>= fun _ => assign t0 env v >>= fun _ =>
        eval i1 env >>= fun x => standAt i1.pos >>= fun _ => foldedSetIterable i1 env x >>= fun x => holding [x] (pyIter x) >>= fun it2 =>
          runOwn (.compStart (.ListComp elt [⟨t0, i0, [], 0⟩, ⟨t1, i1, [], 0⟩] scope pos) 1 it2 acc env) env >>= fun _ =>
          again (.compLoop (.ListComp elt [⟨t0, i0, [], 0⟩, ⟨t1, i1, [], 0⟩] scope pos) 0 it acc env)) := by rfl
theorem loop_d1 {elt t0 i0 t1 i1 : Expr} {scope : Scope} {pos : Pos} {it acc : Value} {env : Env} (I : Nat → Shared → Prop)
    (turn : ∀ n s, I n s → wpAny (model prog w) A (pyNext it) (fun r s₁ => match r with
      | none => R (.ok .next) s₁
      | some v => wpAny (model prog w) A (assign t1 env v) (fun _ s₂ => wpAny (model prog w) A (eval elt env) (fun x s₃ =>
          wpAny (model prog w) A (call (.builtin "list.append") [acc, x]) (fun _ s₄ => ∃ m, m < n ∧ I m s₄) (notedBy (model prog w) A env fun e s' => R (.error e) s') s₃)
          (notedBy (model prog w) A env fun e s' => R (.error e) s') s₂) (notedBy (model prog w) A env fun e s' => R (.error e) s') s₁) (notedBy (model prog w) A env fun e s' => R (.error e) s') s)
    (n : Nat) (h : I n s) (ht : ∀ v, letOwnedTupleGo t1 it v = pure () := by intro _; rfl) :
    codeAny (model prog w) A (.compLoop (.ListComp elt [⟨t0, i0, [], 0⟩, ⟨t1, i1, [], 0⟩] scope pos) 1 it acc env) R s := by
  refine codeAny_loop rfl I (fun n s hI => ?_) n h
  show wpAny _ A ((compTurn (.ListComp elt [⟨t0, i0, [], 0⟩, ⟨t1, i1, [], 0⟩] scope pos) 1 it acc env).onRaise (fun x => do noteFrame x env; theTreesLotGoes x)) _ _ s
  refine wpAny_noted ?_
  rw [turn_d1]
  refine wpAny_bind (wpAny_standAt (wpAny_bind (wpAny_mono (turn n s hI) (fun r s₁ h₁ => ?_) fun _ _ h' => h')))
  cases r with
  | none => exact wpAny_pure h₁
  | some v =>
    refine wpAny_bind (wpAny_of_eq (ht v) ?_)
    refine wpAny_bind (wpAny_mono h₁ (fun _ s₂ h₂ => wpAny_bind (wpAny_bind (wpAny_mono h₂ (fun x s₃ h₃ => wpAny_bind (wpAny_mono h₃ (fun _ s₄ h₄ => wpAny_pure (wpAny_pure ⟨rfl, h₄⟩)) fun _ _ h' => h')) fun _ _ h' => h'))) fun _ _ h' => h')
theorem loop_d0 {elt t0 i0 t1 i1 : Expr} {scope : Scope} {pos : Pos} {it acc : Value} {env : Env} (I : Nat → Shared → Prop)
    (turn : ∀ n s (E' : Value → Shared → Prop), I n s → wpAny (model prog w) A (pyNext it) (fun r s₁ => match r with
      | none => R (.ok .next) s₁
      | some v => wpAny (model prog w) A (assign t0 env v) (fun _ s₂ => wpAny (model prog w) A (eval i1 env) (fun x s₃ => wpAny (model prog w) A (pyIter x) (fun it2 s₄ =>
          codeAny (model prog w) (A.mark none) (.compStart (.ListComp elt [⟨t0, i0, [], 0⟩, ⟨t1, i1, [], 0⟩] scope pos) 1 it2 acc env) (fun r s₅ => match r with | .ok _ => ∃ m, m < n ∧ I m s₅ | .error e => cameBackBy (model prog w) A env E' e s₅) s₄) E' s₃) E' s₂) E' s₁) E' s)
    (n : Nat) (h : I n s) (hs : ∀ x, foldedSetIterable i1 env x = pure x) (ht : ∀ v, letOwnedTupleGo t0 it v = pure () := by intro _; rfl) :
    codeAny (model prog w) A (.compLoop (.ListComp elt [⟨t0, i0, [], 0⟩, ⟨t1, i1, [], 0⟩] scope pos) 0 it acc env) R s := by
  refine codeAny_loop rfl I (fun n s hI => ?_) n h
  show wpAny _ A ((compTurn (.ListComp elt [⟨t0, i0, [], 0⟩, ⟨t1, i1, [], 0⟩] scope pos) 0 it acc env).onRaise (fun x => do noteFrame x env; theTreesLotGoes x)) _ _ s
  refine wpAny_noted ?_
  rw [turn_d0]
  refine wpAny_bind (wpAny_standAt (wpAny_bind (wpAny_mono (turn n s _ hI) (fun r s₁ h₁ => ?_) fun _ _ h' => h')))
  cases r with
  | none => exact wpAny_pure h₁
  | some v =>
    refine wpAny_bind (wpAny_of_eq (ht v) ?_)
    refine wpAny_bind (wpAny_mono h₁ (fun _ s₂ h₂ => wpAny_bind (wpAny_mono h₂ (fun x s₃ h₃ => wpAny_bind (wpAny_standAt (wpAny_bind (wpAny_of_eq (hs x) (wpAny_bind (wpAny_holding (wpAny_mono h₃ (fun it2 s₄ h₄ => ?_) fun _ _ h' => h'))))))) fun _ _ h' => h')) fun _ _ h' => h')
    refine wpAny_bind (wpAny_runOwn (codeAny_mono h₄ fun r s₅ h₅ => ?_))
    cases r with
    | ok f => exact wpAny_pure ⟨rfl, h₅⟩
    | error e => exact h₅
theorem start_d1 {elt t0 i0 t1 i1 : Expr} {scope : Scope} {pos : Pos} {it acc : Value} {env : Env}
    (h0 : codeAny (model prog w) A (.compLoop (.ListComp elt [⟨t0, i0, [], 0⟩, ⟨t1, i1, [], 0⟩] scope pos) 1 it acc env) R s)
    (h : wpAny (model prog w) A (pyIter it) (fun it' s' => codeAny (model prog w) A (.compLoop (.ListComp elt [⟨t0, i0, [], 0⟩, ⟨t1, i1, [], 0⟩] scope pos) 1 it' acc env) R s')
      (notedBy (model prog w) A env fun x s' => R (.error x) s') s) :
    codeAny (model prog w) A (.compStart (.ListComp elt [⟨t0, i0, [], 0⟩, ⟨t1, i1, [], 0⟩] scope pos) 1 it acc env) R s := by
  refine codeAny_of_tree ?_
  show wpAny _ _ ((compStart (.ListComp elt [⟨t0, i0, [], 0⟩, ⟨t1, i1, [], 0⟩] scope pos) 1 it acc env).onRaise (fun x => do noteFrame x env; standAt theWindowsPlace)) _ _ s
  refine wpAny_notedAt ?_
  unfold compStart
  show wpAny _ _ (ask >>= _) _ _ s
  refine wpAny_bind (wpAny_askSetting (wpAny_ite ?_))
  split
  · first
      | exact wpAny_bind (wpAny_pure (wpAny_pure (And.intro rfl h0)))
      | exact wpAny_pure (And.intro rfl h0)
  · first
      | exact wpAny_bind (wpAny_rule (wpAny_bind (wpAny_standAt (wpAny_bind (wpAny_mono h (fun it' s' h' => wpAny_pure (And.intro rfl h')) fun _ _ x => x)))))
      | (refine wpAny_bind (wpAny_rule ?_); show wpAny _ _ (standAt i1.pos >>= _) _ _ s; exact wpAny_bind (wpAny_standAt (wpAny_bind (wpAny_mono h (fun it' s' h' => wpAny_pure (And.intro rfl h')) fun _ _ x => x))))
end
end
section
section
variable {prog : Program} {w : World} {A : Around} {E : Value → Shared → Prop} {s : Shared} {h₀ : Heap} {L : Addr} {m : PySem.Str → Option Value}
theorem ns_step {h h' : Heap} {C : Addr} {oC : Obj} {mC : PySem.Str → Option Value} (hC : LCg.NsObj oC mC) (e : h'.get? C = some oC) : h'.Ns C mC := hC.ns e
/-- storing a local name of the comprehension: the ledger with the new namespace -/
theorem store_local {env : Env} {x : PySem.Str} {px : Pos} {v : Value} {C : Addr} {oC : Obj} {mC : PySem.Str → Option Value} {rest : List (Addr × Obj)} {Q : Unit → Shared → Prop} (hl : env.kindOf x = some .local) (hC : env.locals = C) (hoC : LCg.NsObj oC mC) (F : Fr h₀ L s.heap m) (N : News h₀ L s.heap ((C, oC) :: rest)) (off : ∀ p ∈ rest, p.1 ≠ C)
    (hp : (env.scope.kind == .class || (env.scope.kind == .module && env.locals != env.globals)) = false)
    (k : ∀ h' oC', LCg.NsObj oC' (fun z => if z = x then some v else mC z) → Fr h₀ L h' m → News h₀ L h' ((C, oC') :: rest) → (∀ b o, b ≠ C → s.heap.get? b = some o → h'.get? b = some o) → Q () { s with heap := h', toks := s.toks + 1 }) :
    wpAny (model prog w) A (assign (.Name x px) env v) Q E s := by
  have z := N (C, oC) List.mem_cons_self
  subst hC
  refine wpAny_assign_Name (wpAny_storeName_local hl (hoC.ns z.1) (fun h₃ hn₃ hs₃ => ?_) hp)
  obtain ⟨oC₃, heC₃, hoC₃⟩ := LCg.ns_obj hn₃
  refine k h₃ oC₃ hoC₃ (F.change hs₃ z.2.1 z.2.2) (fun p hp => ?_) fun b o hb e => hs₃.extBut b o hb e
  rcases List.mem_cons.mp hp with rfl | hp
  · exact ⟨heC₃, z.2⟩
  · have y := N p (List.mem_cons_of_mem _ hp)
    exact ⟨hs₃.extBut _ _ (off p hp) y.1, y.2⟩
/-- the inner loop of a comprehension of two clauses: over the signs of a text -/
theorem inner_2 {elt t0 i0 i1 : Expr} {x2 : PySem.Str} {px2 : Pos} {scope : Scope} {pos : Pos} {cenv : Env} {I2 C D : Addr} {cs : List Nat} {tt : Tok} {b : Nat} {oC : Obj} {mC : PySem.Str → Option Value} {ys0 : List Value} {rest : List (Addr × Obj)} {R : Result → Shared → Prop} (K : Nat → List Value → (PySem.Str → Option Value) → Prop)
    (hh : A.handled = none) (hl : cenv.kindOf x2 = some .local) (hC : cenv.locals = C) (hpl : (cenv.scope.kind == .class || (cenv.scope.kind == .module && cenv.locals != cenv.globals)) = false)
    (hst : s.heap.IsStrIter I2 "str_ascii_iterator" (tx cs) tt 0) (F : Fr h₀ L s.heap m) (N : News h₀ L s.heap ((C, oC) :: (D, LCg.lst ys0) :: rest)) (off : LCg.Off3 I2 C D rest) (ne : (@Ne Nat I2 C) ∧ (@Ne Nat I2 D) ∧ (@Ne Nat C D)) (hIL : L ≠ I2) (hI₀ : h₀.get? I2 = none) (hoC : LCg.NsObj oC mC) (hb : b ≤ s.toks) (hK : K 0 ys0 mC) (hlen : ys0.length ≤ 1000) (hcs : cs.length ≤ 10)
    (turn : ∀ j c t0 ys h tk oC m₂ (E' : Value → Shared → Prop), cs[j]? = some c → b ≤ t0 → t0 < tk → ys.length ≤ 1000 + j → LCg.NsObj oC (fun z => if z = x2 then some (.str (tx [c]) t0) else m₂ z) → K j ys m₂ → Fr h₀ L h m → News h₀ L h ((C, oC) :: (D, LCg.lst ys) :: rest) →
      wpAny (model prog w) A (eval elt cenv) (fun y s' => ∃ tk', s' = { s with heap := h, toks := tk' } ∧ K (j + 1) (ys ++ [y]) (fun z => if z = x2 then some (.str (tx [c]) t0) else m₂ z)) E' { s with heap := h, toks := tk })
    (done : ∀ ys h tk oC m₂, b ≤ tk → ys.length ≤ ys0.length + cs.length → LCg.NsObj oC m₂ → K cs.length ys m₂ → Fr h₀ L h m → News h₀ L h ((C, oC) :: (D, LCg.lst ys) :: rest) → R (.ok .next) { s with heap := h, toks := tk }) :
    codeAny (model prog w) A (.compLoop (.ListComp elt [⟨t0, i0, [], 0⟩, ⟨.Name x2 px2, i1, [], 0⟩] scope pos) 1 (.ref I2) (.ref D) cenv) R s := by
  have W := Nx.ascii (prog := prog) (w := w) hh I2 (tx cs) tt
  have hn : (tx cs).cps.size = cs.length := by simp
  rw [hn] at W
  have o3 := off.mem
  refine loop_d1 (fun k s' => ∃ j h' tk' ys oC m₂, s' = { s with heap := h', toks := tk' } ∧ j ≤ cs.length ∧ k = cs.length + 1 - j ∧ ys.length ≤ ys0.length + j ∧ b ≤ tk' ∧ h'.IsStrIter I2 "str_ascii_iterator" (tx cs) tt j ∧ Fr h₀ L h' m ∧ News h₀ L h' ((C, oC) :: (D, LCg.lst ys) :: rest) ∧ LCg.NsObj oC m₂ ∧ K j ys m₂) ?_ (cs.length + 1)
    ⟨0, s.heap, s.toks, ys0, oC, mC, rfl, Nat.zero_le _, rfl, Nat.le_refl _, hb, hst, F, N, hoC, hK⟩
  rintro k s' ⟨j, h', tk', ys, oC', m₂, rfl, hj, rfl, hyl, hb', hst', F', N', hC', hK'⟩
  have offI : ∀ p ∈ (C, oC') :: (D, LCg.lst ys) :: rest, p.1 ≠ I2 := fun p hp => by
    rcases List.mem_cons.mp hp with rfl | hp
    · exact Ne.symm ne.1
    · rcases List.mem_cons.mp hp with rfl | hp
      · exact Ne.symm ne.2.1
      · exact (o3 p hp).1
  by_cases hlt : j < cs.length
  · refine W.item j _ _ _ hlt hst' fun v h₂ tk₂ hPv hst₂ hk₂ => ?_
    obtain ⟨c, hc, rfl, rfl⟩ := hPv
    have hc' : cs[j]? = some c := by simpa using hc
    refine store_local (C := C) hl hC hC' (LCg.fr_but F' hk₂ hIL hI₀) (LCg.news_but N' hk₂ offI) (fun p hp => ?_) hpl fun h₃ oC₃ hC₃ F₃ N₃ hk₃ => ?_
    · rcases List.mem_cons.mp hp with rfl | hp
      · exact Ne.symm ne.2.2
      · exact (o3 p hp).2.1
    · refine wpAny_mono (wpAny_toks_of (n := b) (show b ≤ tk' + 1 + 1 by omega) (turn j c tk' ys h₃ (tk' + 1 + 1) oC₃ m₂ _ hc' hb' (by omega) (by omega) hC₃ hK' F₃ N₃)) (fun y s₄ h₄ => ?_) fun _ _ e => e.2
      obtain ⟨hb4, tk₄, rfl, hK₄⟩ := h₄
      have zD := N₃ (D, LCg.lst ys) (List.mem_cons_of_mem _ List.mem_cons_self)
      have zC := N₃ (C, oC₃) List.mem_cons_self
      refine append_at (hsz := by show ys.toArray.size ≤ sizeLine; rw [List.size_toArray, sizeLine_eq]; omega) zD.1 fun h₅ hs₅ hD₅ => ?_
      refine ⟨cs.length + 1 - (j + 1), by omega, j + 1, h₅, tk₄, ys ++ [y], oC₃, _, rfl, hlt, rfl, by rw [List.length_append, List.length_singleton]; omega, hb4, ?_, F₃.change hs₅ zD.2.1 zD.2.2, fun p hp => ?_, hC₃, hK₄⟩
      · obtain ⟨o, ho, r⟩ := hst₂
        exact ⟨o, hs₅.extBut _ _ ne.2.1 (hk₃ _ _ ne.1 ho), r⟩
      · rcases List.mem_cons.mp hp with rfl | hp
        · exact ⟨hs₅.extBut _ _ ne.2.2 zC.1, zC.2⟩
        · rcases List.mem_cons.mp hp with rfl | hp
          · exact ⟨hD₅.trans (congrArg some (LCg.lst_snoc ys y)), zD.2⟩
          · have z := N₃ p (List.mem_cons_of_mem _ (List.mem_cons_of_mem _ hp))
            exact ⟨hs₅.extBut _ _ (o3 p hp).2.2 z.1, z.2⟩
  · obtain rfl : j = cs.length := Nat.le_antisymm hj (Nat.not_lt.mp hlt)
    refine wpAny_with_toks (n := b) hb' (W.done _ _ _ hst' fun h₂ tk₂ hk₂ hbk => ?_)
    exact done ys h₂ tk₂ oC' m₂ hbk hyl hC' hK' (LCg.fr_but F' hk₂ hIL hI₀) (LCg.news_but N' hk₂ offI)
end
end
section
theorem off1_of' {D : Addr} : ∀ {l : List (Addr × Obj)}, (∀ p ∈ l, @Ne Nat p.1 D) → LCg.Off1 D l
  | [], _ => trivial
  | _ :: _, h => ⟨h _ List.mem_cons_self, off1_of' fun p hp => h p (List.mem_cons_of_mem _ hp)⟩
section
variable {prog : Program} {w : World} {A : Around} {E : Value → Shared → Prop} {s : Shared} {h₀ : Heap} {L : Addr} {m : PySem.Str → Option Value} {env : Env}
/-- a comprehension of two clauses, stored under a name: over a list of the ledger, then over the signs of a text -/
theorem assign_2 {elt i0 i1 : Expr} {x x2 y : PySem.Str} {px px2 py : Pos} {scope : Scope} {cl : List (PySem.Str × Addr)} {pos spos : Pos} {Q : Flow → Shared → Prop} {cs : List Nat} (_F₀ : Fr h₀ L s.heap m) (hLe : env.locals = L) (hh : A.handled = none)
    (hsw : swapsWith (.ListComp elt [⟨.Name x px, i0, [], 0⟩, ⟨.Name x2 px2, i1, [], 0⟩] scope pos) (some (.Name y py)) spos.line env = pure true)
    (hclos : closureFor scope env = pure cl) (hcell : ∀ y ∈ scope.names, y.2 ≠ .cell) (hkind : scope.kind = .function)
    (hnames : ∀ y ∈ scope.names, y.2 = .local → scope.names.lookup y.1 = some .local) (hx : scope.names.lookup x = some .local) (hx2 : scope.names.lookup x2 = some .local)
    (hy : env.kindOf y = some .local) (hpl : (env.scope.kind == .class || (env.scope.kind == .module && env.locals != env.globals)) = false)
    (hcs : cs.length ≤ 10) (hca : ∀ c ∈ cs, c < 128)
    (hi1 : ∀ (C : Addr) (s' : Shared) (Q' : Value → Shared → Prop) (E' : Value → Shared → Prop), (∀ tt tk, s'.toks ≤ tk → Q' (.str (tx cs) tt) { s' with toks := tk }) → wpAny (model prog w) A (eval i1 (compEnvC scope cl C env)) Q' E' s')
    (h : wpAny (model prog w) A (eval i0 env) (fun xv s₁ => ∃ (ax : Addr) (its : List Value) (k b : Nat) (news : List (Addr × Obj)) (J : Nat → Nat → List Value → Prop), xv = .ref ax ∧ Fr h₀ L s₁.heap m ∧ News h₀ L s₁.heap news ∧ (ax, ({ cls := .type "list", data := .seq its.toArray k } : Obj)) ∈ news ∧ its.length ≤ 50 ∧ J 0 0 [] ∧ b ≤ s₁.toks ∧
      (∀ i j v c (t0 : Nat) ys h (tk : Nat) oC (m₂ : PySem.Str → Option Value) C D nw (E' : Value → Shared → Prop), its[i]? = some v → cs[j]? = some c → b ≤ t0 → t0 < tk → J i j ys → LCg.NsObj oC (fun z => if z = x2 then some (.str (tx [c]) t0) else m₂ z) → m₂ x = some v → Fr h₀ L h m → News h₀ L h ((C, oC) :: (D, LCg.lst ys) :: nw) →
        wpAny (model prog w) A (eval elt (compEnvC scope cl C env)) (fun y s' => ∃ tk', s' = { s₁ with heap := h, toks := tk' } ∧ J i (j + 1) (ys ++ [y])) E' { s₁ with heap := h, toks := tk }) ∧
      (∀ i ys, J i cs.length ys → J (i + 1) 0 ys) ∧
      ∀ D ys h tk, b ≤ tk → J its.length 0 ys → Fr h₀ L h (fun z => if z = y then some (.ref D) else m z) → News h₀ L h ((D, LCg.lst ys) :: news) → LCg.Off1 D news → Q .next { s₁ with heap := h, toks := tk }) E s)
    (hne : x ≠ x2) (hs : ∀ x, foldedSetIterable i0 env x = pure x := by intro _; rfl) (hs1 : ∀ C x, foldedSetIterable i1 (compEnvC scope cl C env) x = pure x := by intro _ _; rfl) :
    wpAny (model prog w) A (exec (.Assign [.Name y py] (.ListComp elt [⟨.Name x px, i0, [], 0⟩, ⟨.Name x2 px2, i1, [], 0⟩] scope pos) spos) env) Q E s := by
  subst hLe
  rw [exec_Assign_Name_used _ _ _ _ hsw]
  refine wpAny_bind (wpAny_standAt (wpAny_bind ?_))
  show wpAny _ A (do let _ ← comprehension (.ListComp elt [⟨.Name x px, i0, [], 0⟩, ⟨.Name x2 px2, i1, [], 0⟩] scope pos) scope env _ (newList []) false (eval i0 env) (some (assign (.Name y py) env))) _ _ s
  refine wpAny_bind (wpAny_mono (wpAny_comprehension_free (use := some (assign (.Name y py) env)) (Q := fun _ s' => Q .next s') rfl hs hclos hkind hnames
    (wpAny_mono h (fun xv s₁ h₁ => ?_) fun _ _ e => e)) (fun _ s' hq => wpAny_pure (wpAny_pure hq)) fun _ _ e => e)
  obtain ⟨ax, its, k, b, news, J, rfl, F, N, hm, hil, hJ, hb, turn, step, fin⟩ := h₁
  have hl : s₁.heap.IsList ax its.toArray := ⟨_, (N _ hm).1, rfl, _, rfl⟩
  have hlt : ax < s₁.heap.objs.size := Heap.lt_size (N _ hm).1
  refine wpAny_pyIter_list hl ?_
  generalize hI : s₁.heap.objs.size = I
  generalize hH0 : s₁.heap.push { cls := .type "list_iterator", data := .fields #[.ref ax, .int 0 0] } = H0
  have sz0 : H0.objs.size = I + 1 := by rw [← hH0, Heap.size_push, hI]
  have up0 : ∀ b o, s₁.heap.get? b = some o → H0.get? b = some o := fun b o e => hH0 ▸ Heap.get?_push_of_some _ e
  have hit0 : H0.IsListIter I ax 0 := by rw [← hI, ← hH0]; exact ⟨_, Heap.get?_push_size _ rfl, rfl, rfl⟩
  refine wpAny_newObj_type (wpAny_newFunctionEnv hcell (by intro y hy; simp at hy) (fun h₁ hns₁ hsb₁ => ?_) hkind)
  dsimp only at hns₁ hsb₁ ⊢
  have szD : H0.objs.size = I + 1 := sz0
  have szC : (H0.push (LCg.lst [])).objs.size = I + 2 := by rw [Heap.size_push, sz0]
  change h₁.Ns (H0.push (LCg.lst [])).objs.size _ at hns₁
  change Heap.SameBut (H0.push (LCg.lst [])).objs.size _ h₁ at hsb₁
  rw [szC] at hns₁ hsb₁
  have hltI : ∀ {b o}, s₁.heap.get? b = some o → @LT.lt Nat _ b I := fun e => hI ▸ Heap.lt_size e
  have old0 : ∀ b o, H0.get? b = some o → h₁.get? b = some o := fun b o e => hsb₁.extBut b o (show @Ne Nat b (I + 2) by (have hb1 : @LT.lt Nat _ b (I + 1) := sz0 ▸ Heap.lt_size e; omega)) (Heap.get?_push_of_some _ (Heap.get?_push_of_some _ e))
  have old : ∀ b o, s₁.heap.get? b = some o → h₁.get? b = some o := fun b o e => old0 b o (up0 b o e)
  have hacc : h₁.get? (I + 1) = some (LCg.lst []) := hsb₁.extBut _ _ (show @Ne Nat (I + 1) (I + 2) by omega) (Heap.get?_push_of_some _ (by rw [← sz0]; exact Heap.get?_push_size _ rfl))
  have hLlt : @LT.lt Nat _ env.locals I := hI ▸ F.ns.lt
  have hI₀ : h₀.get? I = none := fresh_of F (Nat.le_of_eq hI)
  have hD₀ : h₀.get? (I + 1) = none := fresh_of F (by omega)
  have hC₀ : h₀.get? (I + 2) = none := fresh_of F (by omega)
  obtain ⟨oC₁, heC₁, hoC₁⟩ := LCg.ns_obj hns₁
  have W := Nx.of_walks (Walks.list (prog := prog) (w := w) hh I ax (hI ▸ Nat.ne_of_lt hlt) its.toArray)
  have hn : its.toArray.size = its.length := by simp
  rw [hn] at W
  have st0 : h₁.IsListIter I ax 0 ∧ h₁.IsList ax its.toArray := ⟨hit0.at fun o e => old0 _ o e, hl.at fun o e => old _ o e⟩
  have kx : ∀ C, (compEnvC scope cl C env).kindOf x = some .local := fun C => lookup_relabel_local hx
  have kx2 : ∀ C, (compEnvC scope cl C env).kindOf x2 = some .local := fun C => lookup_relabel_local hx2
  have kp : ∀ C, ((compEnvC scope cl C env).scope.kind == .class || ((compEnvC scope cl C env).scope.kind == .module && (compEnvC scope cl C env).locals != (compEnvC scope cl C env).globals)) = false := fun C => by simp [compEnvC, relabel, hkind]
  show codeAny (model prog w) A (.compStart (.ListComp elt [⟨.Name x px, i0, [], 0⟩, ⟨.Name x2 px2, i1, [], 0⟩] scope pos) 0 (.ref I) (.ref H0.objs.size) (compEnvC scope cl (H0.push (LCg.lst [])).objs.size env)) (compPost (model prog w) A E (some (assign (.Name y py) env)) (fun _ s' => Q .next s') (.ref H0.objs.size) (H0.push (LCg.lst [])).objs.size) { s₁ with heap := h₁, toks := s₁.toks + 0 }
  rw [szC, sz0]
  have newsOff : ∀ p ∈ news, @LT.lt Nat _ p.1 I := fun p hp => hltI (N p hp).1
  have key : codeAny (model prog w) A (.compLoop (.ListComp elt [⟨.Name x px, i0, [], 0⟩, ⟨.Name x2 px2, i1, [], 0⟩] scope pos) 0 (.ref I) (.ref (I + 1)) (compEnvC scope cl (I + 2) env)) (compPost (model prog w) A E (some (assign (.Name y py) env)) (fun _ s' => Q .next s') (.ref (I + 1)) (I + 2)) { s₁ with heap := h₁, toks := s₁.toks + 0 } := by
    refine loop_d0 (fun k s' => ∃ i h' tk' ys oC mC, s' = { s₁ with heap := h', toks := tk' } ∧ i ≤ its.length ∧ k = its.length + 1 - i ∧ ys.length ≤ i * cs.length ∧ b ≤ tk' ∧ (h'.IsListIter I ax i ∧ h'.IsList ax its.toArray) ∧ Fr h₀ env.locals h' m ∧ News h₀ env.locals h' ((I + 2, oC) :: (I + 1, LCg.lst ys) :: news) ∧ LCg.NsObj oC mC ∧ J i 0 ys) ?_ (its.length + 1)
      ⟨0, h₁, s₁.toks + 0, [], oC₁, _, rfl, Nat.zero_le _, rfl, Nat.zero_le _, hb, st0, F.keeps old, fun p hp => ?_, hoC₁, hJ⟩ (hs1 _)
    · rintro k s' E' ⟨i, h', tk', ys, oC, mC, rfl, hi, rfl, hyl, hb', hst', F', N', hC', hj⟩
      have nI : ∀ p ∈ (I + 2, oC) :: (I + 1, LCg.lst ys) :: news, p.1 ≠ I := fun p hp => by
        rcases List.mem_cons.mp hp with rfl | hp
        · exact (show @Ne Nat (I + 2) I by omega)
        · rcases List.mem_cons.mp hp with rfl | hp
          · exact (show @Ne Nat (I + 1) I by omega)
          · exact Nat.ne_of_lt (newsOff p hp)
      by_cases hlt2 : i < its.length
      · refine wpAny_with_toks (n := b) hb' (W.item i _ _ _ hlt2 hst' fun v h₂ tk₂ hPv hst₂ hk₂ hbk => ?_)
        have hPv' : its[i]? = some v := by simpa using hPv
        have hA : A.mark none = A := by
          cases A
          simp only [Around.mark] at hh ⊢
          simp_all
        have F₂ := LCg.fr_but F' hk₂ (Nat.ne_of_lt hLlt) hI₀
        have N₂ := LCg.news_but N' hk₂ nI
        refine store_local (C := I + 2) (kx _) rfl hC' F₂ N₂ (fun p hp => ?_) (kp _) fun h₃ oC₃ hC₃ F₃ N₃ hk₃ => ?_
        · rcases List.mem_cons.mp hp with rfl | hp
          · exact (show @Ne Nat (I + 1) (I + 2) by omega)
          · exact Nat.ne_of_lt (Nat.lt_trans (newsOff p hp) (Nat.lt_add_of_pos_right (by decide)))
        refine hi1 _ _ _ _ fun tt tk₃ htk => ?_
        refine wpAny_pyIter_ascii (by simpa using hca) ?_
        rw [hA]
        generalize hI2 : ({ s₁ with heap := h₃, toks := tk₃ } : Shared).heap.objs.size = I2
        generalize hH4 : h₃.push { cls := .type "str_ascii_iterator", data := .fields #[.str (tx cs) tt, .int 0 0] } = h₄
        have hI2' : h₃.objs.size = I2 := hI2
        have up4 : ∀ b o, h₃.get? b = some o → h₄.get? b = some o := fun b o e => hH4 ▸ Heap.get?_push_of_some _ e
        have st2 : h₄.IsStrIter I2 "str_ascii_iterator" (tx cs) tt 0 := by rw [← hI2', ← hH4]; exact ⟨_, Heap.get?_push_size _ rfl, rfl, rfl⟩
        have lt2 : ∀ {b o}, h₃.get? b = some o → @LT.lt Nat _ b I2 := fun e => hI2' ▸ Heap.lt_size e
        have N₄ : News h₀ env.locals h₄ ((I + 2, oC₃) :: (I + 1, LCg.lst ys) :: news) := N₃.grown up4
        have hit2 : h₄.IsListIter I ax (i + 1) ∧ h₄.IsList ax its.toArray := ⟨hst₂.1.at fun o e => up4 _ _ (hk₃ _ _ (show @Ne Nat I (I + 2) by omega) e), ⟨_, (N₄ _ (List.mem_cons_of_mem _ (List.mem_cons_of_mem _ hm))).1, rfl, _, rfl⟩⟩
        obtain ⟨oI, hoI, rI⟩ := hit2.1
        have N₅ : News h₀ env.locals h₄ ((I + 2, oC₃) :: (I + 1, LCg.lst ys) :: (I, oI) :: news) := fun p hp => by
          rcases List.mem_cons.mp hp with rfl | hp
          · exact N₄ _ List.mem_cons_self
          · rcases List.mem_cons.mp hp with rfl | hp
            · exact N₄ _ (List.mem_cons_of_mem _ List.mem_cons_self)
            · rcases List.mem_cons.mp hp with rfl | hp
              · exact ⟨hoI, (show @Ne Nat I env.locals by omega), hI₀⟩
              · exact N₄ _ (List.mem_cons_of_mem _ (List.mem_cons_of_mem _ hp))
        have lC : @LT.lt Nat _ (I + 2) I2 := lt2 (N₃ (I + 2, oC₃) List.mem_cons_self).1
        refine start_d1 ?k (wpAny_pyIter_striter_ascii st2 ?k)
        refine inner_2 (s := { s₁ with heap := h₄, toks := tk₃ }) (I2 := I2) (C := I + 2) (D := I + 1) (cs := cs) (tt := tt) (b := b) (oC := oC₃) (ys0 := ys) (rest := (I, oI) :: news) (mC := fun z => if z = x then some v else mC z) (fun j ys m₂ => J i j ys ∧ m₂ x = some v) hh (kx2 _) rfl (kp _) st2 (F₃.keeps up4) N₅ (LCg.Off3.of fun p hp => ?_) ⟨(show @Ne Nat I2 (I + 2) by omega), (show @Ne Nat I2 (I + 1) by omega), (show @Ne Nat (I + 2) (I + 1) by omega)⟩ (show @Ne Nat env.locals I2 by omega) (fresh_of F₃ (Nat.le_of_eq hI2')) hC₃ (show b ≤ tk₃ from Nat.le_trans (Nat.le_succ_of_le hbk) htk) ⟨hj, by simp⟩ (by
          have h1 : i * cs.length ≤ 50 * 10 := Nat.mul_le_mul (by omega) hcs
          omega) hcs ?_ ?_
        · rcases List.mem_cons.mp hp with rfl | hp
          · exact ⟨(show @Ne Nat I I2 by omega), (show @Ne Nat I (I + 2) by omega), (show @Ne Nat I (I + 1) by omega)⟩
          · have hq := newsOff p hp
            exact ⟨(show @Ne Nat p.1 I2 by omega), (show @Ne Nat p.1 (I + 2) by omega), (show @Ne Nat p.1 (I + 1) by omega)⟩
        · rintro j c t0 ys' h tk oC' m₂ E'' hc hb0 ht hyl' hC' ⟨hj', hmx⟩ F' N'
          refine wpAny_mono (turn i j v c t0 ys' h tk oC' m₂ (I + 2) (I + 1) ((I, oI) :: news) E'' hPv' hc hb0 ht hj' hC' hmx F' N') (fun y s' hq => ?_) fun _ _ e => e
          obtain ⟨tk', e, hj2⟩ := hq
          exact ⟨tk', e, hj2, by dsimp only; rw [if_neg hne]; exact hmx⟩
        · rintro ys' h tk oC' m₂ hbk' hyl' hC' ⟨hj', hmx⟩ F' N'
          refine ⟨its.length + 1 - (i + 1), by omega, i + 1, h, tk, ys', oC', m₂, rfl, hlt2, rfl, by rw [Nat.succ_mul]; omega, hbk', ⟨⟨oI, (N' (I, oI) (List.mem_cons_of_mem _ (List.mem_cons_of_mem _ List.mem_cons_self))).1, rI⟩, ⟨_, (N' _ (List.mem_cons_of_mem _ (List.mem_cons_of_mem _ (List.mem_cons_of_mem _ hm)))).1, rfl, _, rfl⟩⟩, F', fun p hp => N' p ?_, hC', step i ys' hj'⟩
          rcases List.mem_cons.mp hp with rfl | hp
          · exact List.mem_cons_self
          · rcases List.mem_cons.mp hp with rfl | hp
            · exact List.mem_cons_of_mem _ List.mem_cons_self
            · exact List.mem_cons_of_mem _ (List.mem_cons_of_mem _ (List.mem_cons_of_mem _ hp))
      · obtain rfl : i = its.length := Nat.le_antisymm hi (Nat.not_lt.mp hlt2)
        refine wpAny_with_toks (n := b) hb' (W.done _ _ _ hst' fun h₂ tk₂ hk₂ hbk => ?_)
        have F₂ := LCg.fr_but F' hk₂ (Nat.ne_of_lt hLlt) hI₀
        have N₂ := LCg.news_but N' hk₂ nI
        show wpAny _ A (assign (.Name y py) env (.ref (I + 1))) _ _ _
        refine wpAny_assign_Name (wpAny_storeName_local hy F₂.ns (fun h₃ hn₃ hs₃ => ?_) hpl)
        have F₃ : Fr h₀ env.locals h₃ (fun z => if z = y then some (.ref (I + 1)) else m z) := ⟨hn₃, fun b o e => hs₃.extBut b o (fun q => by
          have := Heap.lt_size e
          rw [q] at this
          exact absurd (Nat.lt_of_lt_of_le this F₂.above) (Nat.lt_irrefl _)) (F₂.keep b o e), F₂.above⟩
        have N₃ : News h₀ env.locals h₃ ((I + 2, oC) :: (I + 1, LCg.lst ys) :: news) := fun p hp => ⟨hs₃.extBut _ _ (N₂ p hp).2.1 (N₂ p hp).1, (N₂ p hp).2⟩
        have zC := N₃ (I + 2, oC) List.mem_cons_self
        refine ⟨mC, hC'.ns zC.1, fun h'' hs'' => fin (I + 1) ys h'' _ (Nat.le_succ_of_le hbk) hj (F₃.change hs'' zC.2.1 zC.2.2) (fun p hp => ?_) (off1_of' fun p hp => Nat.ne_of_lt (Nat.lt_succ_of_lt (newsOff p hp)))⟩
        have z := N₃ p (List.mem_cons_of_mem _ hp)
        refine ⟨hs''.extBut _ _ ?_ z.1, z.2⟩
        rcases List.mem_cons.mp hp with rfl | hp
        · exact (show @Ne Nat (I + 1) (I + 2) by omega)
        · exact Nat.ne_of_lt (Nat.lt_trans (newsOff p hp) (Nat.lt_add_of_pos_right (by decide)))
    · rcases List.mem_cons.mp hp with rfl | hp
      · exact ⟨heC₁, (show @Ne Nat (I + 2) env.locals by omega), hC₀⟩
      · rcases List.mem_cons.mp hp with rfl | hp
        · exact ⟨hacc, (show @Ne Nat (I + 1) env.locals by omega), hD₀⟩
        · exact ⟨old _ _ (N p hp).1, (N p hp).2⟩
  exact codeAny_compStart_list key (W.self 0 _ _ _ st0 key)
end
end
section

end
section
def decG (v : Value) : Bool := !decB v
theorem decG_tok (s : PySem.Str) (t : Tok) : decG (.str s t) = decG (.str s 0) := rfl
def Sign5 (c : Nat) : Prop := c = 55 ∨ c = 59 ∨ c = 61 ∨ c = 62 ∨ c = 63
def Ballot4 (b : List Nat) : Prop := ∃ a0 a1 a2 a3, b = [a0, a1, a2, a3] ∧ Sign5 a0 ∧ Sign5 a1 ∧ Sign5 a2 ∧ Sign5 a3
theorem fig_sign (x k : Int) : Sign5 (fig x k) := by
  have := fig_mem x k
  simp at this
  unfold Sign5
  omega
theorem good_ballots {xs : List Int} {zs : List Value} (h : CarriedAll zs (xs.map fun k => PyData.str (tx (bal k)))) (hn : xs.length ≤ 6) :
    ∃ gs : List (List Nat), CarriedAll (zs.filter decG) (gs.map fun b => PyData.str (tx b)) ∧ gs.length ≤ 6 ∧ ∀ b ∈ gs, Ballot4 b := by
  refine ⟨(xs.filter fun k => decG (.str (tx (bal k)) 0)).map bal, ?_, ?_, ?_⟩
  · rw [List.map_map]
    exact carried_filter decG_tok h
  · rw [List.length_map]
    exact Nat.le_trans (List.length_filter_le _ _) hn
  · intro b hb
    obtain ⟨x, hx, rfl⟩ := List.mem_map.mp hb
    have hx2 := (List.mem_filter.mp hx).2
    rcases bal_cases x with ⟨hd, _⟩ | ⟨_, e⟩
    · simp [decG, hd] at hx2
    · exact ⟨_, _, _, _, e, fig_sign x 0, fig_sign x 1, fig_sign x 2, fig_sign x 3⟩

end
section
def sg (j : Nat) : Nat := [55, 59, 61, 62].getD j 0
def cnt (gs : List (List Nat)) (p c : Nat) : Nat := (gs.map fun b => b.getD p 0).count c
abbrev pairO (a b : Value) : Obj := { cls := .type "tuple", data := .seq #[a, b] }
/-- the votes at a place, as objects -/
def ColAt (ext : List (Addr × Obj)) (gs : List (List Nat)) (p : Nat) (y : Value) : Prop :=
  ∃ a tups, y = .ref a ∧ (a, LCg.lst tups) ∈ ext ∧ tups.length = 4 ∧ ∀ j, j < 4 → ∃ T t u, tups[j]? = some (.ref T) ∧ (T, pairO (.int (cnt gs p (sg j) : Nat) t) (.str (tx [sg j]) u)) ∈ ext
def Apart (ext base : List (Addr × Obj)) : Prop := ∀ q ∈ ext, ∀ r ∈ base, @Ne Nat q.1 r.1
def VJ (base : List (Addr × Obj)) (gs : List (List Nat)) (i : Nat) (ys : List Value) (nw : List (Addr × Obj)) : Prop :=
  ∃ ext, nw = base ++ ext ∧ Apart ext base ∧ ys.length = i ∧ ∀ p, p < i → ∃ y, ys[p]? = some y ∧ ColAt ext gs p y
abbrev gsOf {bz : List Value} {gs : List (List Nat)} (_ : CarriedAll bz (gs.map fun b => PyData.str (tx b))) : List (List Nat) := gs
abbrev ledOf {h₀ h : Heap} {L : Addr} {l : List (Addr × Obj)} (_ : News h₀ L h l) : List (Addr × Obj) := l
def SJ (base : List (Addr × Obj)) (gs : List (List Nat)) (p : Nat) (j : Nat) (zs : List Value) (nw : List (Addr × Obj)) : Prop :=
  ∃ ext, nw = base ++ ext ∧ Apart ext base ∧ zs.length = j ∧ ∀ k, k < j → ∃ T t u, zs[k]? = some (.ref T) ∧ (T, pairO (.int (cnt gs p (sg k) : Nat) t) (.str (tx [sg k]) u)) ∈ ext
def BJ (base : List (Addr × Obj)) (gs : List (List Nat)) (p b : Nat) (k : Nat) (ws : List Value) (nw : List (Addr × Obj)) : Prop :=
  nw = base ∧ ∃ ds : List (Nat × Tok), ws = ds.map (fun q => Value.str (tx [q.1]) q.2) ∧ ds.map (·.1) = (gs.take k).map (fun b => b.getD p 0) ∧ ∀ q ∈ ds, @LE.le Nat _ b q.2
theorem carried_at : ∀ {bz : List Value} {gs : List (List Nat)}, CarriedAll bz (gs.map fun b => PyData.str (tx b)) → ∀ (k : Nat) (v : Value), bz[k]? = some v → ∃ b tv, gs[k]? = some b ∧ v = .str (tx b) tv
  | _, [], .nil, k, v, h => by simp at h
  | _, a :: r, .cons h hr, 0, v, e => by
    cases h
    simp at e
    exact ⟨a, _, rfl, e.symm⟩
  | _, a :: r, .cons h hr, k + 1, v, e => carried_at hr k v e
theorem ds_snoc {ds : List (Nat × Tok)} {gs : List (List Nat)} {p k : Nat} {bl : List Nat} {t : Tok} (h : ds.map (·.1) = (gs.take k).map (fun b => b.getD p 0)) (hb : gs[k]? = some bl) : (ds ++ [(bl.getD p 0, t)]).map (·.1) = (gs.take (k + 1)).map (fun b => b.getD p 0) := by
  rw [List.map_append, h, List.take_add_one, hb, List.map_append]
  rfl
theorem end_new {h₀ : Heap} {L I C D T : Addr} {m : PySem.Str → Option Value} {s₁ : Shared} {oI oC oD oT : Obj} {rest : Value → List (Addr × Obj) → Prop} {y : Value} {h' : Heap} {tk : Nat} {nw all : List (Addr × Obj)} (F : Fr h₀ L h' m) (N : News h₀ L h' all)
    (hall : ∀ p ∈ (I, oI) :: (C, oC) :: (D, oD) :: nw, p ∈ all) (hT : (T, oT) ∈ all) (off : LCg.Off3 I C D nw) (n1 : @LT.lt Nat _ I T) (n2 : @LT.lt Nat _ C T) (n3 : @LT.lt Nat _ D T) (r : rest y (nw ++ [(T, oT)])) :
    LCg.CompEnd h₀ L m s₁ I oI C oC D oD (fun _ => True) rest y { s₁ with heap := h', toks := tk } :=
  ⟨h', tk, nw ++ [(T, oT)], rfl, F, fun p hp => N p (by
    rcases List.mem_cons.mp hp with rfl | hp
    · exact hall _ List.mem_cons_self
    · rcases List.mem_cons.mp hp with rfl | hp
      · exact hall _ (List.mem_cons_of_mem _ List.mem_cons_self)
      · rcases List.mem_cons.mp hp with rfl | hp
        · exact hall _ (List.mem_cons_of_mem _ (List.mem_cons_of_mem _ List.mem_cons_self))
        · rcases List.mem_append.mp hp with hp | hp
          · exact hall _ (List.mem_cons_of_mem _ (List.mem_cons_of_mem _ (List.mem_cons_of_mem _ hp)))
          · obtain rfl := List.mem_singleton.mp hp
            exact hT), LCg.Off3.of fun p hp => by
    rcases List.mem_append.mp hp with hp | hp
    · exact off.mem p hp
    · obtain rfl := List.mem_singleton.mp hp
      exact ⟨Ne.symm (Nat.ne_of_lt n1), Ne.symm (Nat.ne_of_lt n2), Ne.symm (Nat.ne_of_lt n3)⟩, trivial, r⟩
theorem SJ_next {base ext : List (Addr × Obj)} {p j : Nat} {gs : List (List Nat)} {zs : List Value} {T : Addr} {t u : Tok} {c : Nat} {nw : List (Addr × Obj)} (hnw : nw = base ++ (ext ++ [(T, pairO (.int (cnt gs p c : Nat) t) (.str (tx [c]) u))])) (hlo : Apart ext base) (hT : ∀ r ∈ base, @LT.lt Nat _ r.1 T) (hz : zs.length = j)
    (hzs : ∀ k, k < j → ∃ T t u, zs[k]? = some (.ref T) ∧ (T, pairO (.int (cnt gs p (sg k) : Nat) t) (.str (tx [sg k]) u)) ∈ ext) (hc : c = sg j) : SJ base gs p (j + 1) (zs ++ [.ref T]) nw := by
  subst hc
  refine ⟨_, hnw, fun q hq => ?_, by simp [hz], fun k hk => ?_⟩
  · rcases List.mem_append.mp hq with hq | hq
    · exact hlo q hq
    · obtain rfl := List.mem_singleton.mp hq
      exact fun r hr => Ne.symm (Nat.ne_of_lt (hT r hr))
  · by_cases e : k = j
    · subst e
      exact ⟨T, t, u, by rw [List.getElem?_append_right (by omega)]; simp [hz], List.mem_append_right _ (List.mem_singleton.mpr rfl)⟩
    · obtain ⟨T', t', u', h1, h2⟩ := hzs k (by omega)
      exact ⟨T', t', u', by rw [List.getElem?_append_left (by omega)]; exact h1, List.mem_append_left _ h2⟩
theorem off1_of {D : Addr} : ∀ {l : List (Addr × Obj)}, (∀ p ∈ l, @Ne Nat p.1 D) → LCg.Off1 D l
  | [], _ => trivial
  | _ :: _, h => ⟨h _ List.mem_cons_self, off1_of fun p hp => h p (List.mem_cons_of_mem _ hp)⟩
theorem off1_mem {D : Addr} : ∀ {l : List (Addr × Obj)}, LCg.Off1 D l → ∀ p ∈ l, @Ne Nat p.1 D
  | [], _, _, h => nomatch h
  | _ :: _, x, p, h => by
    rcases List.mem_cons.mp h with rfl | h
    · exact x.1
    · exact off1_mem x.2 p h
theorem end_col {h₀ : Heap} {L I C D Cc D2 : Addr} {m : PySem.Str → Option Value} {s₁ : Shared} {oI oC oD oc o2 : Obj} {J : Value → List (Addr × Obj) → Prop} {y : Value} {h' : Heap} {tk : Nat} {base ext ext2 all : List (Addr × Obj)} (F : Fr h₀ L h' m) (N : News h₀ L h' all)
    (e : all = (D2, o2) :: (((I, oI) :: (C, oC) :: (D, oD) :: (Cc, oc) :: (base ++ ext)) ++ ext2)) (off : LCg.Off3 I C D ((Cc, oc) :: (base ++ ext))) (o1 : LCg.Off1 Cc (base ++ ext)) (hap : Apart ext2 ((I, oI) :: (C, oC) :: (D, oD) :: (Cc, oc) :: (base ++ ext)))
    (o2' : ∀ p ∈ ((I, oI) :: (C, oC) :: (D, oD) :: (Cc, oc) :: (base ++ ext)) ++ ext2, p.1 ≠ D2) (r : J y (base ++ (ext ++ (ext2 ++ [(D2, o2)])))) :
    LCg.CompEnd h₀ L m s₁ I oI C oC D oD (fun _ => True) (fun y nw' => ∃ nw'', nw' = (Cc, oc) :: nw'' ∧ LCg.Off1 Cc nw'' ∧ J y nw'') y { s₁ with heap := h', toks := tk } := by
  subst e
  have hin : ∀ p ∈ base ++ (ext ++ (ext2 ++ [(D2, o2)])), p ∈ base ++ ext ∨ p ∈ ext2 ∨ p = (D2, o2) := fun p hp => by
    rcases List.mem_append.mp hp with hp | hp
    · exact .inl (List.mem_append_left _ hp)
    · rcases List.mem_append.mp hp with hp | hp
      · exact .inl (List.mem_append_right _ hp)
      · rcases List.mem_append.mp hp with hp | hp
        · exact .inr (.inl hp)
        · exact .inr (.inr (List.mem_singleton.mp hp))
  have hD2 : ∀ r ∈ ((I, oI) :: (C, oC) :: (D, oD) :: (Cc, oc) :: (base ++ ext)), @Ne Nat D2 r.1 := fun r hr => Ne.symm (o2' r (List.mem_append_left _ hr))
  have mI : (I, oI) ∈ ((I, oI) :: (C, oC) :: (D, oD) :: (Cc, oc) :: (base ++ ext)) := List.mem_cons_self
  have mC : (C, oC) ∈ ((I, oI) :: (C, oC) :: (D, oD) :: (Cc, oc) :: (base ++ ext)) := List.mem_cons_of_mem _ List.mem_cons_self
  have mD : (D, oD) ∈ ((I, oI) :: (C, oC) :: (D, oD) :: (Cc, oc) :: (base ++ ext)) := List.mem_cons_of_mem _ (List.mem_cons_of_mem _ List.mem_cons_self)
  have mc : (Cc, oc) ∈ ((I, oI) :: (C, oC) :: (D, oD) :: (Cc, oc) :: (base ++ ext)) := List.mem_cons_of_mem _ (List.mem_cons_of_mem _ (List.mem_cons_of_mem _ List.mem_cons_self))
  refine ⟨h', tk, (Cc, oc) :: (base ++ (ext ++ (ext2 ++ [(D2, o2)]))), rfl, F, fun p hp => N p ?_, LCg.Off3.of fun p hp => ?_, trivial, _, rfl, off1_of fun p hp => ?_, r⟩
  · rcases List.mem_cons.mp hp with rfl | hp
    · exact List.mem_cons_of_mem _ (List.mem_append_left _ mI)
    · rcases List.mem_cons.mp hp with rfl | hp
      · exact List.mem_cons_of_mem _ (List.mem_append_left _ mC)
      · rcases List.mem_cons.mp hp with rfl | hp
        · exact List.mem_cons_of_mem _ (List.mem_append_left _ mD)
        · rcases List.mem_cons.mp hp with rfl | hp
          · exact List.mem_cons_of_mem _ (List.mem_append_left _ mc)
          · rcases hin p hp with hp | hp | rfl
            · exact List.mem_cons_of_mem _ (List.mem_append_left _ (List.mem_cons_of_mem _ (List.mem_cons_of_mem _ (List.mem_cons_of_mem _ (List.mem_cons_of_mem _ hp)))))
            · exact List.mem_cons_of_mem _ (List.mem_append_right _ hp)
            · exact List.mem_cons_self
  · rcases List.mem_cons.mp hp with rfl | hp
    · exact off.mem _ List.mem_cons_self
    · rcases hin p hp with hp | hp | rfl
      · exact off.mem p (List.mem_cons_of_mem _ hp)
      · exact ⟨hap p hp _ mI, hap p hp _ mC, hap p hp _ mD⟩
      · exact ⟨hD2 _ mI, hD2 _ mC, hD2 _ mD⟩
  · rcases hin p hp with hp | hp | rfl
    · exact off1_mem o1 p hp
    · exact hap p hp _ mc
    · exact hD2 _ mc
theorem VJ_next {base ext ext2 b4 : List (Addr × Obj)} {i : Nat} {gs : List (List Nat)} {ys zs : List Value} {D2 : Addr} (h1 : Apart ext base) (h2 : Apart ext2 b4) (hb : ∀ r ∈ base, r ∈ b4) (h3 : ∀ r ∈ base, @Ne Nat D2 r.1) (hy : ys.length = i) (hc : ∀ p, p < i → ∃ y, ys[p]? = some y ∧ ColAt ext gs p y) (hz : zs.length = 4)
    (hzs : ∀ k, k < 4 → ∃ T t u, zs[k]? = some (.ref T) ∧ (T, pairO (.int (cnt gs i (sg k) : Nat) t) (.str (tx [sg k]) u)) ∈ ext2) : VJ base gs (i + 1) (ys ++ [.ref D2]) (base ++ (ext ++ (ext2 ++ [(D2, LCg.lst zs)]))) := by
  refine ⟨_, rfl, fun q hq r hr => ?_, by simp [hy], fun p hp => ?_⟩
  · rcases List.mem_append.mp hq with hq | hq
    · exact h1 q hq r hr
    · rcases List.mem_append.mp hq with hq | hq
      · exact h2 q hq r (hb r hr)
      · obtain rfl := List.mem_singleton.mp hq
        exact h3 r hr
  · by_cases e : p = i
    · subst e
      refine ⟨.ref D2, by rw [List.getElem?_append_right (by omega)]; simp [hy], D2, zs, rfl, by simp, hz, fun k hk => ?_⟩
      obtain ⟨T, t, u, a1, a2⟩ := hzs k hk
      exact ⟨T, t, u, a1, List.mem_append_right _ (List.mem_append_left _ a2)⟩
    · obtain ⟨y, a1, a, tups, a2, a3, a4, a5⟩ := hc p (by omega)
      refine ⟨y, by rw [List.getElem?_append_left (by omega)]; exact a1, a, tups, a2, List.mem_append_left _ a3, a4, fun k hk => ?_⟩
      obtain ⟨T, t, u, b1, b2⟩ := a5 k hk
      exact ⟨T, t, u, b1, List.mem_append_left _ b2⟩
theorem signs_tx : PySem.Str.ofString "7;=>" = tx [55, 59, 61, 62] := by decide

end
section
def rep (s : Nat) (b : List Nat) : List Nat := b.map fun c => if c = 63 then s else c
theorem repl_all : ∀ a ∈ S5, ∀ b ∈ S5, ∀ c ∈ S5, ∀ d ∈ S5, ∀ s ∈ [55, 62], (PySem.Txt.replace (tx [a, b, c, d]) (tx [63]) (tx [s])).cps = (rep s [a, b, c, d]).toArray := by decide +kernel
theorem s5_of {c : Nat} (h : Sign5 c) : c ∈ S5 := by rcases h with rfl | rfl | rfl | rfl | rfl <;> decide
theorem txt_repl {a b c d s : Nat} (ha : Sign5 a) (hb : Sign5 b) (hc : Sign5 c) (hd : Sign5 d) (hs : s ∈ [55, 62]) : PySem.Txt.replace (tx [a, b, c, d]) (tx [63]) (tx [s]) = tx (rep s [a, b, c, d]) :=
  congrArg PySem.Str.mk (repl_all a (s5_of ha) b (s5_of hb) c (s5_of hc) d (s5_of hd) s hs)
end
section
def nm (gs : List (List Nat)) (i j : Nat) : List (List Nat) := (gs.take i).flatMap (fun b => [rep 55 b, rep 62 b]) ++ (([55, 62] : List Nat).take j).map fun s => rep s (gs.getD i [])
def NJ (gs : List (List Nat)) (i j : Nat) (ys : List Value) : Prop := (0 < j → i < gs.length) ∧ CarriedAll ys ((nm gs i j).map fun b => PyData.str (tx b))
theorem carried_snoc {ys : List Value} {ds : List PyData} {y : Value} {d : PyData} (h : CarriedAll ys ds) (hy : CarriedAll [y] [d]) : CarriedAll (ys ++ [y]) (ds ++ [d]) := by
  induction h with
  | nil => exact hy
  | cons a b ih => exact .cons a ih
theorem NJ_step {gs : List (List Nat)} {i : Nat} {ys : List Value} (h : NJ gs i 2 ys) : NJ gs (i + 1) 0 ys := by
  obtain ⟨h1, h2⟩ := h
  have hi := h1 (by omega)
  refine ⟨fun h => absurd h (Nat.lt_irrefl 0), ?_⟩
  have e : nm gs i 2 = nm gs (i + 1) 0 := by
    have t : gs.take (i + 1) = gs.take i ++ [gs[i]] := by rw [List.take_add_one, List.getElem?_eq_getElem hi]; rfl
    unfold nm
    rw [t, List.flatMap_append]
    simp [List.getD_eq_getElem?_getD, hi]
  rw [← e]
  exact h2
theorem NJ_turn {gs : List (List Nat)} {i j c : Nat} {ys : List Value} {b : List Nat} {t : Tok} (h : NJ gs i j ys) (hb : gs[i]? = some b) (hc : ([55, 62] : List Nat)[j]? = some c) : NJ gs i (j + 1) (ys ++ [.str (tx (rep c b)) t]) := by
  refine ⟨fun _ => (List.getElem?_eq_some_iff.mp hb).1, ?_⟩
  have e : nm gs i (j + 1) = nm gs i j ++ [rep c b] := by
    unfold nm
    rw [List.take_add_one, hc]
    simp [List.getD_eq_getElem?_getD, hb]
  rw [e, List.map_append]
  exact carried_snoc h.2 (.cons (.str _ _) .nil)

end
section
/-- which of two pairs of a number and a text is the greater -/
def gtP (x y : Int) (c d : PySem.Str) : Bool := if x = y then (if c = d then false else decide (d.cps.toList < c.cps.toList)) else decide (y < x)
theorem rc_gt_int {prog : Program} {w : World} {A : Around} {E : Value → Shared → Prop} {s : Shared} {a b : Int} {t u : Tok} {Q : Value → Shared → Prop} (h : Q (.bool (decide (b < a))) s) : wpAny (model prog w) A (richCompare .Gt (.int a t) (.int b u)) Q E s :=
  show wpAny _ A (compareOp .Gt (.int a t) (.int b u)) Q E s from PyProof.Rows.gt_int h
theorem rc_gt_str {prog : Program} {w : World} {A : Around} {E : Value → Shared → Prop} {s : Shared} {a b : PySem.Str} {t u : Tok} {Q : Value → Shared → Prop} (h : Q (.bool (decide (b.cps.toList < a.cps.toList))) s) : wpAny (model prog w) A (richCompare .Gt (.str a t) (.str b u)) Q E s :=
  show wpAny _ A (compareOp .Gt (.str a t) (.str b u)) Q E s from PySem.P.gt_str h
theorem pair_gt (l b : Addr) (x y : Int) (t t' : Tok) (c d : PySem.Str) (u u' : Tok) :
    Meets (Builtin.«tuple.__gt__» ⟨[.ref l, .ref b], []⟩)
      (fun A R s => s.heap.get? l = some { cls := .type "tuple", data := .seq #[.int x t, .str c u] } ∧ s.heap.get? b = some { cls := .type "tuple", data := .seq #[.int y t', .str d u'] } ∧ R (.ok (.ret (.bool (gtP x y c d)))) s) :=
  .of_wp fun prog w A R s h => by
    obtain ⟨hp, g, dd, tk, os⟩ := s; obtain ⟨hl, hb, h⟩ := h
    have f2 := AutoSeq1.sub_tuple_tuple
    wp_walk using AutoSeq1.wpAny_loadPart' hl, AutoSeq1.wpAny_loadPart' hb
    refine SeqAt.EqAt.int_int x t y t' prog w _ _ ?_
    by_cases e : x = y
    · subst e
      rw [show (x == x) = true from beq_self_eq_true x]
      wp_walk
      refine SeqAt.EqAt.str_str c u d u' prog w _ _ ?_
      by_cases e2 : c = d
      · subst e2
        rw [show (c == c) = true from beq_self_eq_true c]
        have hg : gtP x x c c = false := by unfold gtP; rw [if_pos rfl, if_pos rfl]
        rw [hg] at h
        wp_walk
        exact ⟨_, rfl, h⟩
      · rw [show (c == d) = false from beq_eq_false_iff_ne.mpr e2]
        have hg : gtP x x c d = decide (d.cps.toList < c.cps.toList) := by unfold gtP; rw [if_pos rfl, if_neg e2]
        rw [hg] at h
        wp_walk using rc_gt_str
        exact ⟨_, rfl, h⟩
    · rw [show (x == y) = false from beq_eq_false_iff_ne.mpr e]
      have hg : gtP x y c d = decide (y < x) := by unfold gtP; rw [if_neg e]
      rw [hg] at h
      wp_walk using rc_gt_int
      exact ⟨_, rfl, h⟩
section
variable {prog : Program} {w : World} {A : Around} {E : Value → Shared → Prop} {s : Shared}
theorem pair_gtW {l b : Addr} {x y : Int} {t t' : Tok} {c d : PySem.Str} {u u' : Tok} {Q : Value → Shared → Prop} (hl : s.heap.get? l = some { cls := .type "tuple", data := .seq #[.int x t, .str c u] }) (hb : s.heap.get? b = some { cls := .type "tuple", data := .seq #[.int y t', .str d u'] }) (hu : A.units < cLine)
    (h : Q (.bool (gtP x y c d)) s) : wpAny (model prog w) A (richCompare .Gt (.ref l) (.ref b)) Q E s :=
  richCompare_meets_room (op := .Gt) ⟨_, hl, rfl⟩ ⟨_, hb, rfl⟩ F.slot_tuple_gt F.entry_tuple_gt (F.args_tuple_gt_2 _ _) (pair_gt l b x y t t' c d u u') ⟨hl, hb, ⟨(fun x => nomatch x), h⟩⟩ hu
/-- the place of the greatest of the pairs -/
def bestP (ks : List (Int × PySem.Str)) : Nat → Nat := argBest fun i j => gtP (ks.getD i (0, ⟨#[]⟩)).1 (ks.getD j (0, ⟨#[]⟩)).1 (ks.getD i (0, ⟨#[]⟩)).2 (ks.getD j (0, ⟨#[]⟩)).2
/-- the pairs of a ground -/
def Pairs (h : Heap) (vs : List Value) (ks : List (Int × PySem.Str)) : Prop :=
  ∀ i, i < ks.length → ∃ T t u, vs[i]? = some (.ref T) ∧ h.get? T = some { cls := .type "tuple", data := .seq #[.int (ks.getD i (0, ⟨#[]⟩)).1 t, .str (ks.getD i (0, ⟨#[]⟩)).2 u] }
/-- what an object is as long as the runner and the best stay apart -/
def Kept (ws : List Addr) (h h' : Heap) : Prop := ∀ b o, b ∉ ws → h.get? b = some o → h'.get? b = some o
theorem maxT_loop {l I S : Addr} {vs : List Value} {ks : List (Int × PySem.Str)} {h₀ : Heap} {R : Result → Shared → Prop} (hh : A.handled = none) (hu : A.in1.units < cLine) (hlen : vs.length = ks.length) (hl : h₀.IsList l vs.toArray) (hP : Pairs h₀ vs ks) (hIn : h₀.get? I = none) (hSn : h₀.get? S = none) (hIS : I ≠ S) :
    ∀ (k j : Nat) (s : Shared) (vb : Value) (c : Nat), vs.length - (j + 1) = k → j + 1 ≤ vs.length → s.heap.IsListIter I l (j + 1) → Kept [I, S] h₀ s.heap → vs[bestP ks j]? = some vb →
    s.heap.get? S = some { cls := .type "list", dict := none, data := .seq #[vb, vb] c, slots := #[] } →
    (∀ v h' tk, vs[bestP ks (vs.length - 1)]? = some v → Kept [I, S] h₀ h' → R (.ok (.ret v)) { s with heap := h', toks := tk }) →
    codeAny (model prog w) A (.builtin "max.loop" ⟨[.ref I, .none, .ref S], []⟩) R s := by
  have hname : (toString "max" ++ toString ".loop" : String) = "max.loop" := by decide
  have hlI : l ≠ I := by
    rintro rfl
    obtain ⟨o, e, _⟩ := hl
    rw [hIn] at e
    cases e
  have W := Walks.list (prog := prog) (w := w) (A := A.in1) hh I l hlI vs.toArray
  have hsz : vs.toArray.size = vs.length := List.size_toArray ..
  have hlk : ∀ h, Kept [I, S] h₀ h → h.IsList l vs.toArray := fun h hk => by
    obtain ⟨o, e, r⟩ := hl
    refine ⟨o, hk l o ?_ e, r⟩
    intro hm
    rcases List.mem_cons.mp hm with rfl | hm
    · exact hlI rfl
    · rw [List.mem_singleton.mp hm, hSn] at e
      cases e
  have step : ∀ (h h' : Heap) (ws : List Addr), (∀ a ∈ ws, a = I ∨ a = S) → Kept [I, S] h₀ h → (∀ b o, b ∉ ws → h.get? b = some o → h'.get? b = some o) → Kept [I, S] h₀ h' := fun h h' ws hw hk hs b o hb e => hs b o (fun hm => hb (by rcases hw b hm with rfl | rfl <;> simp)) (hk b o hb e)
  have pr : ∀ h, Kept [I, S] h₀ h → Pairs h vs ks := fun h hk i hi => by
    obtain ⟨T, t, u, e1, e2⟩ := hP i hi
    refine ⟨T, t, u, e1, hk T _ ?_ e2⟩
    intro hm
    rcases List.mem_cons.mp hm with rfl | hm
    · rw [hIn] at e2; cases e2
    · rw [List.mem_singleton.mp hm, hSn] at e2; cases e2
  have bl : ∀ j, bestP ks j ≤ j := by
    intro j
    induction j with
    | zero => exact Nat.le_refl _
    | succ j ih =>
      unfold bestP argBest
      split
      · exact Nat.le_refl _
      · exact Nat.le_succ_of_le ih
  intro k
  induction k with
  | zero =>
    intro j s vb c hk hj hit hkp hvb hS hR
    have hin : j + 1 = vs.length := by omega
    refine codeAny_builtin PySem.F.entry_max_loop ?_
    rw [Around.under_plainId PySem.F.plain_max_loop _]
    show wpAny _ A.in1 (seqItems? (.ref S) >>= _) _ _ s
    refine wpAny_bind (wpAny_seqItems hS rfl ?_)
    show wpAny _ A.in1 (tryCatch (pyNext (.ref I)) _ >>= _) _ _ s
    refine wpAny_bind (wpAny_tryCatch (W.done s _ _ ⟨by rw [hsz, ← hin]; exact hit, hlk _ hkp⟩ fun h' tk hk' => ?_))
    have hS' := hk' S _ (by simpa using Ne.symm hIS) hS
    show wpAny _ A.in1 (updateSeq S (fun _ => #[]) >>= _) _ _ _
    refine wpAny_bind ?_
    refine wpAny_updateSeq hS' rfl (wpAny_bind (wpAny_letGo (wpAny_pure ?_)))
    refine hR vb _ tk (by rw [← hin]; exact hvb) ?_
    exact step _ _ [S] (by simp) (step _ _ [I] (by simp) hkp hk') fun b o hb e => (Heap.get?_update_other _ _ (fun q => hb (by simp [q]))).trans e
  | succ k ih =>
    intro j s vb c hk hj hit hkp hvb hS hR
    have hlt : j + 1 < vs.length := by omega
    refine codeAny_builtin PySem.F.entry_max_loop ?_
    rw [Around.under_plainId PySem.F.plain_max_loop _]
    show wpAny _ A.in1 (seqItems? (.ref S) >>= _) _ _ s
    refine wpAny_bind (wpAny_seqItems hS rfl ?_)
    show wpAny _ A.in1 (tryCatch (pyNext (.ref I)) _ >>= _) _ _ s
    refine wpAny_bind (wpAny_tryCatch (W.item (j + 1) s _ _ (by rw [hsz]; exact hlt) ⟨hit, hlk _ hkp⟩ fun v h' tk hv hst' hk' => ?_))
    have hv' : vs[j + 1]? = some v := by simpa using hv
    have hit' := hst'.1
    have hS' := hk' S _ (by simpa using Ne.symm hIS) hS
    have hkp' : Kept [I, S] h₀ h' := step _ _ [I] (by simp) hkp hk'
    obtain ⟨T1, t1, u1, a1, a2⟩ := pr h' hkp' (j + 1) (by omega)
    obtain ⟨T2, t2, u2, b1, b2⟩ := pr h' hkp' (bestP ks j) (by have := bl j; omega)
    rw [hv'] at a1
    rw [hvb] at b1
    cases a1
    cases b1
    show wpAny _ A.in1 (tryCatch (holding [_, _] (richCompare .Gt (.ref T1) (.ref T2) >>= _)) _ >>= _) _ _ _
    refine wpAny_bind (wpAny_tryCatch (wpAny_holding (wpAny_bind (pair_gtW a2 b2 hu ?_))))
    refine wpAny_bind (wpAny_holding (wpAny_truthy_bool ?_))
    refine wpAny_bind (wpAny_letGo (wpAny_pure ?_))
    cases hb : gtP (ks.getD (j + 1) (0, ⟨#[]⟩)).1 (ks.getD (bestP ks j) (0, ⟨#[]⟩)).1 (ks.getD (j + 1) (0, ⟨#[]⟩)).2 (ks.getD (bestP ks j) (0, ⟨#[]⟩)).2 with
    | true =>
      have hbj : bestP ks (j + 1) = j + 1 := by
        show (if _ then _ else _) = _
        rw [if_pos]
        exact hb
      simp only [if_true]
      refine wpAny_bind ?_
      refine wpAny_updateSeq hS' rfl (wpAny_bind (wpAny_letGo ?_))
      rw [hname]
      have hup : ∀ (f : Array Value → Array Value) b o, b ∉ [S] → h'.get? b = some o → (h'.update S (Obj.mapSeq f)).get? b = some o := fun f b o hb e => (Heap.get?_update_other _ _ (fun q => hb (by simp [q]))).trans e
      refine wpAny_pure ⟨plainId_quiet PySem.F.plain_max_loop _, ih (j + 1) _ (.ref T1) _ (by omega) hlt ?_ (step _ _ [S] (by simp) hkp' (hup _)) (by rw [hbj]; exact hv') (Heap.get?_update_self _ hS' rfl) fun v' h'' tk'' hP' hk'' => hR v' h'' tk'' hP' hk''⟩
      obtain ⟨o, e, r⟩ := hit'
      exact ⟨o, hup _ I o (by simpa using hIS) e, r⟩
    | false =>
      have hbj : bestP ks (j + 1) = bestP ks j := by
        show (if _ then _ else _) = _
        rw [if_neg]
        · rfl
        · show ¬ (gtP _ _ _ _ = true)
          rw [show gtP (ks.getD (j + 1) (0, ⟨#[]⟩)).1 (ks.getD (argBest _ j) (0, ⟨#[]⟩)).1 (ks.getD (j + 1) (0, ⟨#[]⟩)).2 (ks.getD (argBest _ j) (0, ⟨#[]⟩)).2 = false from hb]
          simp
      simp only [Bool.false_eq_true, if_false]
      refine wpAny_bind (wpAny_letGo ?_)
      rw [hname]
      exact wpAny_pure ⟨plainId_quiet PySem.F.plain_max_loop _, ih (j + 1) _ (.ref T2) c (by omega) hlt hit' hkp' (by rw [hbj]; exact hvb) hS' fun v' h'' tk'' hP' hk'' => hR v' h'' tk'' hP' hk''⟩
/-- max of a list of pairs -/
theorem maxT {l : Addr} {vs : List Value} {ks : List (Int × PySem.Str)} {Q : Value → Shared → Prop} (hh : A.handled = none) (hu : A.in1.units < cLine) (hlen : vs.length = ks.length) (hne : 0 < vs.length) (hl : s.heap.IsList l vs.toArray) (hP : Pairs s.heap vs ks)
    (hQ : ∀ v h' tk, vs[bestP ks (vs.length - 1)]? = some v → (∀ b o, s.heap.get? b = some o → h'.get? b = some o) → Q v { s with heap := h', toks := tk }) :
    wpAny (model prog w) A (call (.builtin "max") [.ref l]) Q E s := by
  have hname : (toString "max" ++ toString ".loop" : String) = "max.loop" := by decide
  refine call_function_tree PySem.F.kind_max PySem.F.plain_max PySem.F.entry_max (PySem.F.args_max1 _) ?_
  show wpAny _ A.in1 (Builtin.Builtins.bindParams "max" ["key", "default"] 0 ⟨[], []⟩ >>= _) _ _ s
  refine wpAny_bind (wpAny_of_eq (show Builtin.Builtins.bindParams "max" ["key", "default"] 0 ⟨[], []⟩ = pure [none, none] from rfl) ?_)
  refine wpAny_bind (wpAny_pure ?_)
  refine wpAny_bind (wpAny_pyIter_list hl ?_)
  refine wpAny_bind (wpAny_newObj_type ?_)
  rw [hname]
  refine wpAny_pure ⟨plainId_quiet PySem.F.plain_max_loop _, ?_⟩
  refine codeAny_builtin PySem.F.entry_max_loop ?_
  rw [Around.under_plainId PySem.F.plain_max_loop _]
  have hH : ∀ o : Obj, ∀ b o', s.heap.get? b = some o' → (s.heap.push o).get? b = some o' := fun o b o' e => Heap.get?_push_of_some _ e
  generalize hH1 : s.heap.push { cls := .type "list_iterator", data := .fields #[.ref l, .int 0 0] } = H1
  have hI : H1.get? s.heap.objs.size = some { cls := .type "list_iterator", data := .fields #[.ref l, .int 0 0] } := hH1 ▸ Heap.get?_push_size _ rfl
  have k1 : ∀ b o', s.heap.get? b = some o' → H1.get? b = some o' := fun b o' e => hH1 ▸ Heap.get?_push_of_some _ e
  have hS1 : H1.objs.size = s.heap.objs.size + 1 := by rw [← hH1, Heap.size_push]
  dsimp only
  generalize hH2 : H1.push { cls := .type "list", data := .seq (#[] : Array Value) } = H2
  have hS : H2.get? H1.objs.size = some { cls := .type "list", dict := none, data := .seq #[] 0, slots := #[] } := hH2 ▸ Heap.get?_push_size _ rfl
  have k2 : ∀ b o', H1.get? b = some o' → H2.get? b = some o' := fun b o' e => hH2 ▸ Heap.get?_push_of_some _ e
  have hIS : s.heap.objs.size ≠ H1.objs.size := by rw [hS1]; exact Nat.ne_of_lt (Nat.lt_succ_self _)
  have hlI : l ≠ s.heap.objs.size := by
    obtain ⟨o, e, _⟩ := hl
    exact Nat.ne_of_lt (Heap.lt_size e)
  have n1 : s.heap.get? s.heap.objs.size = none := by
    cases q : s.heap.get? s.heap.objs.size with
    | none => rfl
    | some o => exact absurd (Heap.lt_size q) (Nat.lt_irrefl _)
  have n2 : s.heap.get? H1.objs.size = none := by
    cases q : s.heap.get? H1.objs.size with
    | none => rfl
    | some o => exact absurd (Heap.lt_size (k1 _ _ q)) (Nat.lt_irrefl _)
  have W := Walks.list (prog := prog) (w := w) (A := A.in1) hh s.heap.objs.size l hlI vs.toArray
  have hsz : vs.toArray.size = vs.length := List.size_toArray ..
  have hl2 : H2.IsList l vs.toArray := by
    obtain ⟨o, e, r⟩ := hl
    exact ⟨o, k2 _ _ (k1 _ _ e), r⟩
  show wpAny _ A.in1 (seqItems? (.ref H1.objs.size) >>= _) _ _ _
  refine wpAny_bind (wpAny_seqItems hS rfl ?_)
  show wpAny _ A.in1 (tryCatch (pyNext (.ref s.heap.objs.size)) _ >>= _) _ _ _
  refine wpAny_bind (wpAny_tryCatch (W.item 0 _ _ _ (by rw [hsz]; exact hne) ⟨⟨_, k2 _ _ hI, rfl, rfl⟩, hl2⟩ fun v h' tk hv hst' hk' => ?_))
  have hv' : vs[0]? = some v := by simpa using hv
  have hS' := hk' H1.objs.size _ (by simpa using Ne.symm hIS) hS
  show wpAny _ A.in1 (updateSeq (H1.objs.size) (fun _ => #[v, v]) >>= _) _ _ _
  refine wpAny_bind ?_
  refine wpAny_updateSeq hS' rfl ?_
  rw [hname]
  have hup : ∀ (f : Array Value → Array Value) b o, b ∉ [H1.objs.size] → h'.get? b = some o → (h'.update H1.objs.size (Obj.mapSeq f)).get? b = some o := fun f b o hb e => (Heap.get?_update_other _ _ (fun q => hb (by simp [q]))).trans e
  refine wpAny_pure ⟨plainId_quiet PySem.F.plain_max_loop _, maxT_loop (I := s.heap.objs.size) (S := H1.objs.size) hh hu hlen hl hP n1 n2 hIS _ 0 _ v _ rfl hne ?_ ?_ hv' (Heap.get?_update_self _ hS' rfl) fun v' h'' tk'' hP' hk'' => ?_⟩
  · obtain ⟨o, e, r⟩ := hst'.1
    exact ⟨o, hup _ _ o (by simpa using hIS) e, r⟩
  · intro b o hb e
    exact hup _ b o (fun q => hb (by simp at q; simp [q])) (hk' b o (fun q => hb (by simp at q; simp [q])) (k2 _ _ (k1 _ _ e)))
  · refine hQ v' h'' tk'' hP' fun b o e => hk'' b o ?_ e
    intro hm
    rcases List.mem_cons.mp hm with rfl | hm
    · rw [n1] at e; cases e
    · rw [List.mem_singleton.mp hm, n2] at e; cases e
end
end
section
section
variable {prog : Program} {w : World} {A : Around} {E : Value → Shared → Prop} {s : Shared}
theorem join_signs {l : Addr} {ds : List (Nat × Tok)} {t : Tok} {Q : Value → Shared → Prop} (hl : s.heap.get? l = some (LCg.lst (ds.map fun q => Value.str (tx [q.1]) q.2))) (hn : ds.length ≤ 1000)
    (h : ∀ t' tk, Q (.str (tx (ds.map (·.1))) t') { s with toks := tk }) : wpAny (model prog w) A (call (.builtin "str.join") [.str (PySem.Str.ofString "") t, .ref l]) Q E s := by
  have hc : CarriedAll (ds.map fun q => Value.str (tx [q.1]) q.2) (ds.map fun q => PyData.str (tx [q.1])) := by
    clear hl hn h
    induction ds with
    | nil => exact .nil
    | cons a r ih => exact .cons (.str _ _) ih
  refine KT.join_B (g := fun q : Nat × Tok => tx [q.1]) 1 ⟨_, hl, rfl, _, rfl⟩ hc (fun c _ => ?_) (by omega) (by decide) fun t' k => ?_
  · rw [tx_length]; exact Nat.le_refl _
  · have e : ds.map (fun q => tx [q.1]) = (ds.map (fun q => [q.1])).map tx := by rw [List.map_map]; rfl
    rw [e, join_tx]
    have e2 : (ds.map (fun q => [q.1])).flatten = ds.map (·.1) := by
      clear hl hc h e hn
      induction ds with
      | nil => rfl
      | cons a r ih => rw [List.map_cons, List.flatten_cons, ih]; rfl
    rw [e2]
    exact h t' k
end
theorem news_drop {h₀ h : Heap} {L : Addr} {a : Addr × Obj} {l : List (Addr × Obj)} (N : News h₀ L h (a :: l)) : News h₀ L h l := fun p hp => N p (List.mem_cons_of_mem _ hp)
section
variable {prog : Program} {w : World} {A : Around} {E : Value → Shared → Prop} {s : Shared} {h₀ : Heap} {L : Addr} {m : PySem.Str → Option Value}
theorem append_lst {D : Addr} {ys : List Value} {x : Value} {rest : List (Addr × Obj)} {Q : Value → Shared → Prop} (F : Fr h₀ L s.heap m) (N : News h₀ L s.heap ((D, LCg.lst ys) :: rest)) (hap : ∀ p ∈ rest, p.1 ≠ D) (hsz : ys.length ≤ 1000)
    (h : ∀ h', Fr h₀ L h' m → News h₀ L h' ((D, LCg.lst (ys ++ [x])) :: rest) → Q .none { s with heap := h' }) :
    wpAny (model prog w) A (call (.builtin "list.append") [.ref D, x]) Q E s := by
  refine append_head F N hap (fun h' F' N' => h h' F' ?_) (by rw [List.size_toArray, sizeLine_eq]; omega)
  rw [← LCg.lst_snoc ys x]
  exact N'
end
end
section
section
variable {prog : Program} {w : World} {A : Around} {E : Value → Shared → Prop} {s : Shared} {h₀ : Heap} {L : Addr} {m : PySem.Str → Option Value} {env : Env}
/-- a list of the ledger, the comprehension's own name in a cell -/
theorem SrcX1.list {ifs : List Expr} {elt : Expr} {x : PySem.Str} {scope : Scope} {cl : List (PySem.Str × Addr)} {Fin : Shared → Nat → (Addr → List Value → List (Addr × Obj) → Heap → Nat → Prop) → Prop} {ax : Addr} {its : List Value} {k b : Nat} {news : List (Addr × Obj)} {s₁ : Shared} (J : Nat → List Value → List (Addr × Obj) → Prop)
    (hh : A.handled = none) (F : Fr h₀ L s₁.heap m) (N : News h₀ L s₁.heap news) (hm : (ax, ({ cls := .type "list", data := .seq its.toArray k } : Obj)) ∈ news) (hsz : its.length ≤ sizeLine) (hJ : J 0 [] news) (hb : b ≤ s₁.toks)
    (hJm : ∀ i ys nw, J i ys nw → (ax, ({ cls := .type "list", data := .seq its.toArray k } : Obj)) ∈ nw)
    (turn : ∀ I s₂ i ys nw v h t1 oI Cc oc C oC D (E' : Value → Shared → Prop), (∃ g, s₂ = { s₁ with heap := g }) → its[i]? = some v → b ≤ t1 → J i ys nw → LCg.NsObj oC (fun _ => none) → oc.data = .cell (some v) → Fr h₀ L h m → News h₀ L h ((I, oI) :: (C, oC) :: (D, LCg.lst ys) :: (Cc, oc) :: nw) → LCg.Off3 I C D ((Cc, oc) :: nw) → LCg.Off1 Cc nw → ((@Ne Nat I C) ∧ (@Ne Nat I D) ∧ (@Ne Nat C D)) →
      wpAny (model prog w) A (forIn ifs true fun c r => if r = true then do let ok ← isTrue c (compEnvC scope ((x, Cc) :: cl) C env) (eval c (compEnvC scope ((x, Cc) :: cl) C env)); pure (ForInStep.yield ok) else pure (ForInStep.yield r)) (fun ok s₃ =>
          if ok = true then wpAny (model prog w) A (eval elt (compEnvC scope ((x, Cc) :: cl) C env)) (LCg.CompEnd h₀ L m { s₂ with heap := h, toks := t1 } I oI C oC D (LCg.lst ys) (fun _ => True) (fun y nw' => ∃ nw'', nw' = (Cc, oc) :: nw'' ∧ LCg.Off1 Cc nw'' ∧ J (i + 1) (ys ++ [y]) nw'')) E' s₃
          else LCg.CompEnd h₀ L m { s₂ with heap := h, toks := t1 } I oI C oC D (LCg.lst ys) (fun _ => True) (fun _ nw' => ∃ nw'', nw' = (Cc, oc) :: nw'' ∧ LCg.Off1 Cc nw'' ∧ J (i + 1) ys nw'') Value.none s₃) E' { s₂ with heap := h, toks := t1 })
    (fin : ∀ s₂, (∃ g, s₂ = { s₁ with heap := g }) → Fin s₂ b (fun D ys nw h tk => b ≤ tk ∧ J its.length ys nw ∧ News h₀ L h ((D, LCg.lst ys) :: nw) ∧ LCg.Off1 D nw)) :
    SrcX1 prog w A E h₀ L m env ifs elt x scope cl Fin (.ref ax) s₁ := by
  have hl : s₁.heap.IsList ax its.toArray := ⟨_, (N _ hm).1, rfl, _, rfl⟩
  have hlt : ax < s₁.heap.objs.size := Heap.lt_size (N _ hm).1
  have up : ∀ b o, s₁.heap.get? b = some o → (s₁.heap.push { cls := .type "list_iterator", data := .fields #[.ref ax, .int 0 0] }).get? b = some o := fun b o e => Heap.get?_push_of_some _ e
  have W := Nx.of_walks (Walks.list (prog := prog) (w := w) hh s₁.heap.objs.size ax (Nat.ne_of_lt hlt) its.toArray)
  have hn : its.toArray.size = its.length := by simp
  rw [hn] at W
  refine wpAny_pyIter_list hl ⟨_, _, _, b, _, _, news, J, rfl, W, hsz, fun i h st => by obtain ⟨o, e, _⟩ := st.1; exact ⟨o, e⟩, ?_, ⟨⟨_, Heap.get?_push_size _ rfl, rfl, rfl⟩, hl.push _⟩, ?_, F.keeps up, N.grown up, Nat.ne_of_lt F.ns.lt, next_is_new F, fun p hp => Nat.ne_of_lt (Heap.lt_size (N p hp).1), hJ, hb, ?_, ?_⟩
  · intro i h h' o ys nw hs e e' F' N' hj
    refine ⟨?_, ⟨_, (N' _ (hJm i ys nw hj)).1, rfl, _, rfl⟩⟩
    obtain ⟨o', q, r⟩ := hs.1
    rw [e] at q
    cases q
    exact ⟨o, e', r⟩
  · intro c hc
    show c < (s₁.heap.push _).objs.size
    rw [Heap.size_push]
    rcases List.mem_cons.mp hc with rfl | hc
    · exact Nat.lt_succ_self _
    · rw [List.mem_singleton.mp hc]; exact Nat.lt_succ_of_lt hlt
  · intro i ys nw v h t0 t1 oI Cc oc C oC D E' hi hP _ hb1 hj hC hcd F' N' o3 o1 ne
    exact turn _ _ i ys nw v h t1 oI Cc oc C oC D E' ⟨_, rfl⟩ (by simpa using hP) hb1 hj hC hcd F' N' o3 o1 ne
  · exact fin _ ⟨_, rfl⟩
end
section
variable {prog : Program} {w : World} {A : Around} {E : Value → Shared → Prop} {s : Shared} {h₀ : Heap} {L : Addr} {m : PySem.Str → Option Value}
/-- a list of texts, whatever its count of changes -/
abbrev lstV (ys : List Value) (n : Nat) : Obj := { cls := .type "list", data := .seq ys.toArray n }
theorem extend_lst {b D : Addr} {ys zs : List Value} {rest : List (Addr × Obj)} {Q : Value → Shared → Prop} (F : Fr h₀ L s.heap m) (N : News h₀ L s.heap ((b, LCg.lst zs) :: (D, LCg.lst ys) :: rest)) (hap : ∀ p ∈ rest, p.1 ≠ D) (h1 : ys.length ≤ 1000) (h2 : zs.length ≤ 1000)
    (h : ∀ h' n, Fr h₀ L h' m → News h₀ L h' ((D, lstV (ys ++ zs) n) :: rest) → Q .none { s with heap := h' }) :
    wpAny (model prog w) A (call (.builtin "list.extend") [.ref D, .ref b]) Q E s := by
  have z := N (D, LCg.lst ys) (List.mem_cons_of_mem _ List.mem_cons_self)
  have zb := N (b, LCg.lst zs) List.mem_cons_self
  have hn : ¬ (!ys.toArray.isEmpty && Builtin.List.listTooLong (ys.toArray.size + zs.toArray.size)) = true := by
    have : Builtin.List.listTooLong (ys.toArray.size + zs.toArray.size) = false := by
      simp only [List.size_toArray]
      unfold Builtin.List.listTooLong
      have e := sizeLine_eq
      simp
      omega
    rw [this, Bool.and_false]
    simp
  have q := PySem.IsL.update z.1 (fun x => x ++ zs.toArray)
  generalize (if ((ys.toArray ++ zs.toArray).size == ys.toArray.size) = true then ys.length else ys.length + 1) = n' at q
  rw [List.append_toArray] at q
  have N' : News h₀ L (s.heap.update D (Obj.mapSeq fun x => x ++ zs.toArray)) ((D, lstV (ys ++ zs) n') :: rest) := fun p hp => by
    rcases List.mem_cons.mp hp with rfl | hp
    · exact ⟨q, z.2⟩
    · exact ⟨(Heap.get?_update_other _ _ (Ne.symm (hap p hp))).trans (N p (List.mem_cons_of_mem _ (List.mem_cons_of_mem _ hp))).1, (N p (List.mem_cons_of_mem _ (List.mem_cons_of_mem _ hp))).2⟩
  exact call_meets PySem.F.slot_list_extend ⟨_, z.1, rfl⟩ PySem.F.entry_list_extend (PySem.F.args_list_extend_2 _ _) (PySem.AutoSeq1.list_extend_list_list_0 D ys.toArray _ b zs.toArray _ hn (by rw [List.size_toArray, sizeLine_eq]; omega) (by rw [List.size_toArray, List.size_toArray, sizeLine_eq]; omega)) ⟨z.1, zb.1, h _ n' (F.change (Heap.SameBut.update ..) z.2.1 z.2.2) N'⟩
end
end
section
abbrev gsOf2 {ext : List (Addr × Obj)} {ys : List Value} {gs : List (List Nat)} (_ : ∀ p, p < 4 → ∃ y, ys[p]? = some y ∧ ColAt ext gs p y) : List (List Nat) := gs
abbrev extOf {ext base : List (Addr × Obj)} (_ : Apart ext base) : List (Addr × Obj) := ext
def kvs (gs : List (List Nat)) (p : Nat) : List (Int × PySem.Str) := (List.range 4).map fun j => (((cnt gs p (sg j) : Nat) : Int), tx [sg j])
/-- the sign that leads at a place -/
def lead (gs : List (List Nat)) (p : Nat) : Nat := sg (bestP (kvs gs p) 3)
def LJ (base : List (Addr × Obj)) (gs : List (List Nat)) (k : Nat) (ws : List Value) (nw : List (Addr × Obj)) : Prop :=
  nw = base ∧ ∃ ds : List (Nat × Tok), ws = ds.map (fun q => Value.str (tx [q.1]) q.2) ∧ ds.map (·.1) = (List.range k).map (lead gs)
theorem kvs_at {gs : List (List Nat)} {p j : Nat} (h : j < 4) : (kvs gs p).getD j (0, ⟨#[]⟩) = (((cnt gs p (sg j) : Nat) : Int), tx [sg j]) := by
  unfold kvs
  simp [List.getD_eq_getElem?_getD, List.getElem?_range, h]
theorem col_pairs {h₀ h : Heap} {L : Addr} {l ext : List (Addr × Obj)} {gs : List (List Nat)} {p : Nat} {tups : List Value} (N : News h₀ L h l) (hl : ∀ q ∈ ext, q ∈ l)
    (ht : ∀ j, j < 4 → ∃ T t u, tups[j]? = some (.ref T) ∧ (T, pairO (.int (cnt gs p (sg j) : Nat) t) (.str (tx [sg j]) u)) ∈ ext) : Pairs h tups (kvs gs p) := by
  intro i hi
  have h4 : (kvs gs p).length = 4 := by simp [kvs]
  obtain ⟨T, t, u, e1, e2⟩ := ht i (by omega)
  refine ⟨T, t, u, e1, ?_⟩
  rw [kvs_at (by omega)]
  exact (N _ (hl _ e2)).1
theorem bestP_le (ks : List (Int × PySem.Str)) : ∀ j, bestP ks j ≤ j := by
  intro j
  induction j with
  | zero => exact Nat.le_refl _
  | succ j ih =>
    unfold bestP argBest
    split
    · exact Nat.le_refl _
    · exact Nat.le_succ_of_le ih
theorem carriedAll_len2 {bz : List Value} {gs : List (List Nat)} (h : CarriedAll bz (gs.map fun b => PyData.str (tx b))) : bz.length = gs.length := by
  have := carriedAll_lenA h
  rwa [List.length_map] at this
theorem nm_len (gs : List (List Nat)) (i : Nat) : (nm gs i 0).length = 2 * (gs.take i).length := by
  unfold nm
  rw [List.length_append]
  generalize gs.take i = l
  induction l with
  | nil => rfl
  | cons a r ih =>
    simp only [List.flatMap_cons, List.length_append, List.length_cons, List.length_nil, List.take_zero, List.map_nil] at ih ⊢
    omega
theorem NJ_len {gs : List (List Nat)} {k : Nat} {ys : List Value} (hn : gs.length ≤ 6) (hk : k = gs.length) (h : NJ gs k 0 ys) : ys.length ≤ 1000 := by
  have := carriedAll_lenA h.2
  rw [List.length_map, nm_len, List.length_take] at this
  omega

end
section
def namAt (x k : Int) : Nat := [55, 59, 61, 62].getD ((x.fdiv (4 ^ k.toNat)).fmod 4).toNat 0
def nam (x : Int) : List Nat := [namAt x 0, namAt x 1, namAt x 2, namAt x 3]
theorem signs4_lit : PySem.Str.ofString "7;=>" = tx [55, 59, 61, 62] := by decide
theorem nam_item {x k : Int} : PySem.Txt.item (PySem.Str.ofString "7;=>") ((x.fdiv (4 ^ k.toNat)).fmod 4) = tx [namAt x k] := by
  have h0 := Int.fmod_nonneg_of_pos (x.fdiv (4 ^ k.toNat)) (show (0:Int) < 4 by decide)
  have h1 := Int.fmod_lt_of_pos (x.fdiv (4 ^ k.toNat)) (show (0:Int) < 4 by decide)
  rw [signs4_lit, item_tx h0 (by simpa using h1)]
  rfl
theorem nam_join (x : Int) : PySem.Txt.join (PySem.Str.ofString "") ((rangeKs 0 4).map fun a => tx [namAt x a]) = tx (nam x) := join_tx [[namAt x 0], [namAt x 1], [namAt x 2], [namAt x 3]]
def XJ (base : List (Addr × Obj)) (xs : List Int) (k : Nat) (ws : List Value) (nw : List (Addr × Obj)) : Prop :=
  nw = base ∧ CarriedAll ws ((xs.take k).map fun x => PyData.str (tx (nam x)))
theorem ints_at {vs : List Value} {ns : List Int} (h : IntsAre vs ns) (i : Nat) (v : Value) (e : vs[i]? = some v) : ∃ k t, v = .int k t ∧ ns[i]? = some k := by
  rcases ints_get h i with ⟨a, _⟩ | ⟨k, t, a, b⟩
  · rw [a] at e; cases e
  · rw [a] at e; cases e
    exact ⟨k, t, rfl, b⟩
theorem XJ_snoc {xs : List Int} {k : Nat} {ws : List Value} {x : Int} {t : Tok} (h : CarriedAll ws ((xs.take k).map fun x => PyData.str (tx (nam x)))) (hx : xs[k]? = some x) : CarriedAll (ws ++ [.str (tx (nam x)) t]) ((xs.take (k + 1)).map fun x => PyData.str (tx (nam x))) := by
  rw [List.take_add_one, hx, List.map_append]
  exact carried_snoc h (.cons (.str _ _) .nil)
theorem NJ_len2 {gs : List (List Nat)} {k : Nat} {ys : List Value} (hn : gs.length ≤ 6) (hk : k = gs.length) (h : NJ gs k 0 ys) : ys.length ≤ 12 := by
  have := carriedAll_lenA h.2
  rw [List.length_map, nm_len, List.length_take] at this
  omega
/-- all the names -/
def allNm (gs : List (List Nat)) (xs : List Int) : List (List Nat) := nm gs gs.length 0 ++ [(List.range 4).map (lead gs)] ++ xs.map nam
theorem carried_app {ys zs : List Value} {ds es : List PyData} (h : CarriedAll ys ds) (g : CarriedAll zs es) : CarriedAll (ys ++ zs) (ds ++ es) := by
  induction h with
  | nil => exact g
  | cons a b ih => exact .cons a ih
theorem names_carried {bz ys zs : List Value} {gs : List (List Nat)} {xs : List Int} {t : Tok} {h₀ h : Heap} {L D : Addr} {n : Nat} {rest : List (Addr × Obj)} (_N : News h₀ L h ((D, lstV (ys ++ [.str (tx ((List.range 4).map (lead gs))) t] ++ zs) n) :: rest)) (hgs : CarriedAll bz (gs.map fun b => PyData.str (tx b))) (hJ : NJ gs bz.length 0 ys) (hx : CarriedAll zs (xs.map fun x => PyData.str (tx (nam x)))) :
    CarriedAll (ys ++ [.str (tx ((List.range 4).map (lead gs))) t] ++ zs) ((allNm gs xs).map fun b => PyData.str (tx b)) := by
  have h := hJ.2
  rw [carriedAll_len2 hgs] at h
  unfold allNm
  rw [List.map_append, List.map_append]
  refine carried_app (carried_app h (.cons (.str _ _) .nil)) ?_
  rw [List.map_map]
  exact hx

end
section
def RJ (base : List (Addr × Obj)) (gs : List (List Nat)) (k : Nat) (ws : List Value) (nw : List (Addr × Obj)) : Prop :=
  nw = base ∧ IntsAre ws ((gs.take k).map numOf)
theorem ints_snoc {ws : List Value} {ns : List Int} {k : Int} {t : Tok} (h : IntsAre ws ns) : IntsAre (ws ++ [.int k t]) (ns ++ [k]) := by
  induction h with
  | nil => exact .cons k t .nil
  | cons a t' b ih => exact .cons a t' ih
theorem RJ_snoc {gs : List (List Nat)} {k : Nat} {ws : List Value} {b : List Nat} {t : Tok} (h : IntsAre ws ((gs.take k).map numOf)) (hb : gs[k]? = some b) : IntsAre (ws ++ [.int (numOf b) t]) ((gs.take (k + 1)).map numOf) := by
  rw [List.take_add_one, hb, List.map_append]
  exact ints_snoc h
theorem sign5_lt {c : Nat} (h : Sign5 c) : c < 128 := by unfold Sign5 at h; omega

end
section
theorem bitAnd_nat (a b : Nat) : Builtin.bitAnd (a : Int) (b : Int) = ((a &&& b : Nat) : Int) := by
  unfold Builtin.bitAnd
  simp
theorem bitOr_nat (a b : Nat) : Builtin.bitOr (a : Int) (b : Int) = ((a ||| b : Nat) : Int) := by
  have h : ∀ x : Nat, decide ((0 : Int) ≤ -(x : Int) - 1) = false := fun x => decide_eq_false (by omega)
  have h1 : ∀ x : Nat, decide ((1 : Int) ≤ -(x : Int)) = false := fun x => decide_eq_false (by omega)
  have h2 : ∀ x : Nat, (-(-(x : Int) - 1)).toNat - 1 = x := fun x => by omega
  unfold Builtin.bitOr Builtin.bitAnd
  simp [Builtin.bitNot, h, h1, h2]
  omega
section
variable {α β : Type}
def stepG (an or : α → α → α) (d : α) (ns : List α) (j : Int) : List α := (ns.set j.toNat (an (ns.getD j.toNat d) (ns.getD (j.toNat + 1) d))).set (j.toNat + 1) (or (ns.getD j.toNat d) (ns.getD (j.toNat + 1) d))
def layG (an or : α → α → α) (d : α) (ns : List α) (e : Int) : List α := (rangeKs 0 e.toNat).foldl (stepG an or d) ns
def sortG (an or : α → α → α) (d : α) (ns : List α) : List α := (downKs (ns.length - 1) (ns.length - 1)).foldl (layG an or d) ns
theorem getD_mapG (f : α → β) (d : α) (ns : List α) (i : Nat) : (ns.map f).getD i (f d) = f (ns.getD i d) := by
  simp only [List.getD_eq_getElem?_getD, List.getElem?_map]
  cases ns[i]? <;> rfl
theorem stepG_map {an or : α → α → α} {d : α} {an' or' : β → β → β} {f : α → β} (ha : ∀ x y, f (an x y) = an' (f x) (f y)) (ho : ∀ x y, f (or x y) = or' (f x) (f y)) (ns : List α) (j : Int) : (stepG an or d ns j).map f = stepG an' or' (f d) (ns.map f) j := by
  unfold stepG
  rw [List.map_set, List.map_set, ha, ho, getD_mapG, getD_mapG]
theorem foldl_mapG {γ : Type} {g : List α → γ → List α} {g' : List β → γ → List β} {f : α → β} (h : ∀ ns j, (g ns j).map f = g' (ns.map f) j) : ∀ (l : List γ) (ns : List α), (l.foldl g ns).map f = l.foldl g' (ns.map f)
  | [], _ => rfl
  | j :: l, ns => by rw [List.foldl_cons, List.foldl_cons, foldl_mapG h l, h]
theorem sortG_map {an or : α → α → α} {d : α} {an' or' : β → β → β} {f : α → β} (ha : ∀ x y, f (an x y) = an' (f x) (f y)) (ho : ∀ x y, f (or x y) = or' (f x) (f y)) (ns : List α) : (sortG an or d ns).map f = sortG an' or' (f d) (ns.map f) := by
  unfold sortG
  rw [List.length_map]
  exact foldl_mapG (g := layG an or d) (g' := layG an' or' (f d)) (fun ns e => foldl_mapG (g := stepG an or d) (g' := stepG an' or' (f d)) (stepG_map ha ho) _ ns) _ ns
theorem stepG_len (an or : α → α → α) (d : α) (ns : List α) (j : Int) : (stepG an or d ns j).length = ns.length := by
  unfold stepG
  rw [List.length_set, List.length_set]
theorem foldl_lenG {γ : Type} {g : List α → γ → List α} (h : ∀ ns j, (g ns j).length = ns.length) : ∀ (l : List γ) (ns : List α), (l.foldl g ns).length = ns.length
  | [], _ => rfl
  | j :: l, ns => by rw [List.foldl_cons, foldl_lenG h l, h]
theorem sortG_len (an or : α → α → α) (d : α) (ns : List α) : (sortG an or d ns).length = ns.length := foldl_lenG (fun ns e => foldl_lenG (stepG_len an or d) _ ns) _ ns
end
abbrev sortB (bs : List Bool) : List Bool := sortG (· && ·) (· || ·) false bs
theorem sortB0 : ∀ k, k < 0 → (sortB []).getD k false = decide (([] : List Bool).count false ≤ k) := fun k h => absurd h (Nat.not_lt_zero k)
theorem sortB1 : ∀ a : Bool, ∀ k, k < 1 → (sortB [a]).getD k false = decide (([a] : List Bool).count false ≤ k) := by decide +kernel
theorem sortB2 : ∀ a b : Bool, ∀ k, k < 2 → (sortB [a, b]).getD k false = decide (([a, b] : List Bool).count false ≤ k) := by decide +kernel
theorem sortB3 : ∀ a b c : Bool, ∀ k, k < 3 → (sortB [a, b, c]).getD k false = decide (([a, b, c] : List Bool).count false ≤ k) := by decide +kernel
theorem sortB4 : ∀ a b c d : Bool, ∀ k, k < 4 → (sortB [a, b, c, d]).getD k false = decide (([a, b, c, d] : List Bool).count false ≤ k) := by decide +kernel
theorem sortB5 : ∀ a b c d e : Bool, ∀ k, k < 5 → (sortB [a, b, c, d, e]).getD k false = decide (([a, b, c, d, e] : List Bool).count false ≤ k) := by decide +kernel
theorem sortB6 : ∀ a b c d e f : Bool, ∀ k, k < 6 → (sortB [a, b, c, d, e, f]).getD k false = decide (([a, b, c, d, e, f] : List Bool).count false ≤ k) := by decide +kernel
theorem sortB_spec : ∀ bs : List Bool, bs.length ≤ 6 → ∀ k, k < bs.length → (sortB bs).getD k false = decide (bs.count false ≤ k)
  | [], _ => sortB0
  | [a], _ => sortB1 a
  | [a, b], _ => sortB2 a b
  | [a, b, c], _ => sortB3 a b c
  | [a, b, c, d], _ => sortB4 a b c d
  | [a, b, c, d, e], _ => sortB5 a b c d e
  | [a, b, c, d, e, f], _ => sortB6 a b c d e f
  | _ :: _ :: _ :: _ :: _ :: _ :: _ :: _, h => by simp at h
def natOf (b : List Nat) : Nat := ((b.getD 0 0 * 256 + b.getD 1 0) * 256 + b.getD 2 0) * 256 + b.getD 3 0
theorem numOf_nat (a b c d : Nat) : numOf [a, b, c, d] = ((natOf [a, b, c, d] : Nat) : Int) := by
  simp [numOf, natOf]
theorem bit_add (x u i : Nat) (h : u < 256) : (x * 256 + u).testBit i = if i < 8 then u.testBit i else x.testBit (i - 8) := by
  have e : x * 256 + u = 2 ^ 8 * x + u := by omega
  rw [e]
  exact Nat.testBit_two_pow_mul_add x (show u < 2 ^ 8 from h) i
theorem natOf_bit {b : List Nat} (h : ∀ p, p < 4 → b.getD p 0 < 256) (i : Nat) : (natOf b).testBit i = if i < 32 then (b.getD (3 - i / 8) 0).testBit (i % 8) else false := by
  unfold natOf
  rw [bit_add _ _ _ (h 3 (by omega)), bit_add _ _ _ (h 2 (by omega)), bit_add _ _ _ (h 1 (by omega))]
  by_cases h1 : i < 8
  · rw [if_pos h1, if_pos (by omega), show 3 - i / 8 = 3 by omega, show i % 8 = i by omega]
  · rw [if_neg h1]
    by_cases h2 : i - 8 < 8
    · rw [if_pos h2, if_pos (by omega), show 3 - i / 8 = 2 by omega, show i % 8 = i - 8 by omega]
    · rw [if_neg h2]
      by_cases h3 : i - 8 - 8 < 8
      · rw [if_pos h3, if_pos (by omega), show 3 - i / 8 = 1 by omega, show i % 8 = i - 8 - 8 by omega]
      · rw [if_neg h3]
        by_cases h4 : i < 32
        · rw [if_pos h4, show 3 - i / 8 = 0 by omega, show i % 8 = i - 8 - 8 - 8 by omega]
        · rw [if_neg h4]
          refine Nat.testBit_lt_two_pow (Nat.lt_of_lt_of_le (h 0 (by omega)) ?_)
          exact (Nat.pow_le_pow_right (by decide) (show 8 ≤ i - 8 - 8 - 8 by omega) : 2 ^ 8 ≤ 2 ^ (i - 8 - 8 - 8))
end
section
def thrP (z0 z1 z2 z3 : Bool) : Nat := 48 + (if z3 then 8 else 0) + (if z2 then 4 else 0) + (if z1 then 2 else 0) + (if z0 then 1 else 0)
theorem thrP_bits : ∀ z0 z1 z2 z3 : Bool, ∀ b, b < 8 → (thrP z0 z1 z2 z3).testBit b = (if b = 0 then z0 else if b = 1 then z1 else if b = 2 then z2 else if b = 3 then z3 else decide (b < 6)) := by decide +kernel
theorem sign_bits {c : Nat} (h : Sign5 c) : ∀ b, b < 8 → c.testBit b = (if b = 0 then !(c == 62) else if b = 1 then !(c == 61) else if b = 2 then !(c == 59) else if b = 3 then !(c == 55) else decide (b < 6)) := by
  unfold Sign5 at h
  rcases h with rfl | rfl | rfl | rfl | rfl <;> decide +kernel
theorem count_not (l : List Nat) (c : Nat) : (l.map fun x => !(x == c)).count false = l.count c := by
  induction l with
  | nil => rfl
  | cons a r ih =>
    rw [List.map_cons, List.count_cons, List.count_cons, ih]
    by_cases h : a = c
    · subst h; simp
    · simp [h]
theorem ballot_at {b : List Nat} (h : Ballot4 b) {p : Nat} (hp : p < 4) : Sign5 (b.getD p 0) := by
  obtain ⟨a0, a1, a2, a3, rfl, h0, h1, h2, h3⟩ := h
  have : p = 0 ∨ p = 1 ∨ p = 2 ∨ p = 3 := by omega
  rcases this with rfl | rfl | rfl | rfl <;> assumption
theorem col_false {gs : List (List Nat)} (h4 : ∀ b ∈ gs, Ballot4 b) {p k : Nat} (hp : p < 4) (hk : k < gs.length) {j : Nat} (hj : j < 8) :
    decide ((gs.map fun g => (g.getD p 0).testBit j).count false ≤ k) = (thrP (decide (cnt gs p 62 ≤ k)) (decide (cnt gs p 61 ≤ k)) (decide (cnt gs p 59 ≤ k)) (decide (cnt gs p 55 ≤ k))).testBit j := by
  rw [thrP_bits _ _ _ _ j hj]
  have e : (gs.map fun g => (g.getD p 0).testBit j) = (gs.map fun g => (if j = 0 then !(g.getD p 0 == 62) else if j = 1 then !(g.getD p 0 == 61) else if j = 2 then !(g.getD p 0 == 59) else if j = 3 then !(g.getD p 0 == 55) else decide (j < 6))) :=
    List.map_congr_left fun g hg => sign_bits (ballot_at (h4 g hg) hp) j hj
  rw [e]
  have q : ∀ c, (gs.map fun g => !(g.getD p 0 == c)).count false = cnt gs p c := by
    intro c
    have := count_not (gs.map fun b => b.getD p 0) c
    rw [List.map_map] at this
    exact this
  by_cases h0 : j = 0
  · simp only [h0, if_true]; rw [q]
  by_cases h1 : j = 1
  · subst h1; simp only [if_neg h0, if_true]; rw [q]
  by_cases h2 : j = 2
  · subst h2; simp only [if_neg h0, if_neg h1, if_true]; rw [q]
  by_cases h3 : j = 3
  · subst h3; simp only [if_neg h0, if_neg h1, if_neg h2, if_true]; rw [q]
  simp only [if_neg h0, if_neg h1, if_neg h2, if_neg h3]
  by_cases h6 : j < 6
  · rw [decide_eq_true h6]
    have : (gs.map fun _ => true).count false = 0 := by
      rw [List.count_eq_zero]
      simp
    rw [this]
    exact decide_eq_true (Nat.zero_le _)
  · rw [decide_eq_false h6]
    have : (gs.map fun _ => false).count false = gs.length := by
      rw [List.map_const', List.count_replicate_self]
    rw [this]
    exact decide_eq_false (by omega)
theorem sort_nat {gs : List (List Nat)} (h4 : ∀ b ∈ gs, Ballot4 b) : sortBits (gs.map numOf) = (sortG (· &&& ·) (· ||| ·) 0 (gs.map natOf)).map (fun n : Nat => (n : Int)) := by
  rw [sortG_map (an' := Builtin.bitAnd) (or' := Builtin.bitOr) (f := fun n : Nat => (n : Int)) (fun x y => (bitAnd_nat x y).symm) (fun x y => (bitOr_nat x y).symm)]
  have e : (gs.map natOf).map (fun n : Nat => (n : Int)) = gs.map numOf := by
    rw [List.map_map]
    refine List.map_congr_left fun b hb => ?_
    obtain ⟨a0, a1, a2, a3, rfl, _⟩ := h4 b hb
    exact (numOf_nat _ _ _ _).symm
  rw [e]
  rfl
theorem rows_bit {gs : List (List Nat)} (hn : gs.length ≤ 6) (h4 : ∀ b ∈ gs, Ballot4 b) {k : Nat} (hk : k < gs.length) (r : List Nat) (hr : ∀ p, p < 4 → r.getD p 0 = thrP (decide (cnt gs p 62 ≤ k)) (decide (cnt gs p 61 ≤ k)) (decide (cnt gs p 59 ≤ k)) (decide (cnt gs p 55 ≤ k))) :
    (sortG (· &&& ·) (· ||| ·) 0 (gs.map natOf)).getD k 0 = natOf r := by
  refine Nat.eq_of_testBit_eq fun i => ?_
  have hb : ∀ b ∈ gs, ∀ p, p < 4 → b.getD p 0 < 256 := fun b hb p hp => by
    have := ballot_at (h4 b hb) hp
    unfold Sign5 at this
    omega
  have hr256 : ∀ p, p < 4 → r.getD p 0 < 256 := fun p hp => by
    rw [hr p hp]
    unfold thrP
    split <;> split <;> split <;> split <;> omega
  have e1 := getD_mapG (fun n : Nat => n.testBit i) 0 (sortG (· &&& ·) (· ||| ·) 0 (gs.map natOf)) k
  rw [← e1, sortG_map (an' := (· && ·)) (or' := (· || ·)) (f := fun n : Nat => n.testBit i) (fun x y => Nat.testBit_and x y i) (fun x y => Nat.testBit_or x y i), Nat.zero_testBit]
  rw [sortB_spec _ (by rw [List.length_map, List.length_map]; exact hn) k (by rw [List.length_map, List.length_map]; exact hk)]
  rw [List.map_map, natOf_bit hr256]
  by_cases hi : i < 32
  · rw [if_pos hi, hr _ (by omega), ← col_false h4 (p := 3 - i / 8) (k := k) (by omega) hk (j := i % 8) (by omega)]
    congr 2
    refine congrArg (List.count false) (List.map_congr_left fun b hbm => ?_)
    show (natOf b).testBit i = _
    rw [natOf_bit (hb b hbm), if_pos hi]
  · rw [if_neg hi]
    have : (gs.map ((fun n : Nat => n.testBit i) ∘ natOf)) = gs.map fun _ => false := List.map_congr_left fun b hbm => by
      show (natOf b).testBit i = _
      rw [natOf_bit (hb b hbm), if_neg hi]
    rw [this, List.map_const', List.count_replicate_self]
    exact decide_eq_false (by omega)
end
section
section
variable {w : World} {A₀ : Around} {s : Shared} {base h₀ : Heap} {outer : List Env} {L : Addr} {m mg mb : PySem.Str → Option Value} {p : Program} {loose : List PySem.Str} {mean : ExcName → Option Value}
  {dp un : Nat} {gd : Option (List Code)} {cn : PySem.Str} {cs : Scope} {a f : Addr} {ccd : Value} {cl : List (PySem.Str × Addr)} {Q E : Value → Shared → Prop}
theorem sort_use {D : Addr} {vs : List Value} {ns : List Int} {n : Nat} {rest : List (Addr × Obj)} (hi : IntsAre vs ns) (hn : ns.length ≤ 6) (off : ∀ p ∈ rest, p.1 ≠ D) (B : Below A₀ base outer h₀) (F : Fr h₀ L s.heap m) (X : (Mine.hd0.heap_39 w.params).In h₀) (N : News h₀ L s.heap ((D, listOf vs.toArray n) :: rest)) (T : Top p loose mean mg mb h₀) (hk : cs.kind = .function) (hd : dp + 4 < recursionLimit) (hu : un + 16 * 4 < cLine)
    (k : ∀ h' tk vs' n', Fr h₀ L h' m → News h₀ L h' ((D, listOf vs'.toArray n') :: rest) → IntsAre vs' (sortBits ns) → Q (.ref D) { s with heap := h', toks := tk }) :
    wpAny (model PySem.Challenge.rw_in0262_01.row.prog w) (ktrTop dp un gd cn cs L a ccd cl outer) (call (.ref 124) [.ref D]) Q E s := by
  have zD := N _ List.mem_cons_self
  refine wpAny_mono (sort_walk w D vs ns n hi hn p loose mean mg mb dp un gd cn cs a ccd cl outer A₀ base h₀ L m s E B F (fun q hq => N q (by rw [List.mem_singleton.mp hq]; exact List.mem_cons_self)) X T hk hd hu) (fun v s' hv => ?_) fun _ _ e => e
  obtain ⟨h', tk, vs', n', rfl, rfl, hkeep, hD, hi'⟩ := hv
  have hk' : ∀ b o, b ∉ [D] → s.heap.get? b = some o → h'.get? b = some o := fun b o hb e => hkeep b o (fun q => hb (by simp [q])) e
  refine k h' tk vs' n' (LCg.fr_but F hk' (Ne.symm zD.2.1) zD.2.2) (fun q hq => ?_) hi'
  rcases List.mem_cons.mp hq with rfl | hq
  · exact ⟨hD, zD.2⟩
  · exact LCg.news_but (fun q hq => N q (List.mem_cons_of_mem _ hq)) hk' off q hq
end
end
section
/-- what the network leaves at a place: 48 and a bit for each sign with at most k votes -/
def thr (gs : List (List Nat)) (p k : Nat) : Nat := 48 + (if cnt gs p 55 ≤ k then 8 else 0) + (if cnt gs p 59 ≤ k then 4 else 0) + (if cnt gs p 61 ≤ k then 2 else 0) + (if cnt gs p 62 ≤ k then 1 else 0)
theorem thr_range (gs : List (List Nat)) (p k : Nat) : 48 ≤ thr gs p k ∧ thr gs p k ≤ 63 := by
  unfold thr
  split <;> split <;> split <;> split <;> omega
def row4 (gs : List (List Nat)) (k : Nat) : List Nat := [thr gs 0 k, thr gs 1 k, thr gs 2 k, thr gs 3 k]
theorem rows_law {gs : List (List Nat)} (hn : gs.length ≤ 6) (h4 : ∀ b ∈ gs, Ballot4 b) : sortBits (gs.map numOf) = (List.range gs.length).map fun k => numOf (row4 gs k) := by
  rw [sort_nat h4]
  have hl : (sortG (· &&& ·) (· ||| ·) 0 (gs.map natOf)).length = gs.length := by rw [sortG_len, List.length_map]
  refine List.ext_getElem (by simp [hl]) fun k h1 h2 => ?_
  have hk : k < gs.length := by simpa using h2
  have hrow : ∀ p, p < 4 → (row4 gs k).getD p 0 = thrP (decide (cnt gs p 62 ≤ k)) (decide (cnt gs p 61 ≤ k)) (decide (cnt gs p 59 ≤ k)) (decide (cnt gs p 55 ≤ k)) := by
    intro p hp
    have e : (row4 gs k).getD p 0 = thr gs p k := by
      have : p = 0 ∨ p = 1 ∨ p = 2 ∨ p = 3 := by omega
      rcases this with rfl | rfl | rfl | rfl <;> rfl
    rw [e]
    unfold thr thrP
    simp
  have e := rows_bit hn h4 hk (row4 gs k) hrow
  have hk' : k < (sortG (· &&& ·) (· ||| ·) 0 (gs.map natOf)).length := by rw [hl]; exact hk
  rw [List.getElem_map, List.getElem_map, List.getElem_range]
  rw [List.getD_eq_getElem?_getD, List.getElem?_eq_getElem hk', Option.getD_some] at e
  rw [e]
  exact (numOf_nat _ _ _ _).symm
theorem rows_at {gs : List (List Nat)} {rs : List Value} (hn : gs.length ≤ 6) (h4 : ∀ b ∈ gs, Ballot4 b) (h : IntsAre rs (sortBits (gs.map numOf))) : rs.length = gs.length ∧ ∀ k, k < gs.length → ∃ t, rs[k]? = some (.int (numOf (row4 gs k)) t) := by
  rw [rows_law hn h4] at h
  refine ⟨by rw [h.length]; simp, fun k hk => ?_⟩
  rcases ints_get h k with ⟨_, e⟩ | ⟨x, t, e1, e2⟩
  · simp [hk] at e
  · simp [hk] at e2
    subst e2
    exact ⟨t, e1⟩
theorem rows_getD {gs : List (List Nat)} {k : Nat} (hn : gs.length ≤ 6) (h4 : ∀ b ∈ gs, Ballot4 b) (hk : k < gs.length) : (sortBits (gs.map numOf)).getD (k : Int).toNat 0 = numOf [thr gs 0 k, thr gs 1 k, thr gs 2 k, thr gs 3 k] := by
  rw [rows_law hn h4, Int.toNat_natCast]
  simp [List.getD_eq_getElem?_getD, hk, row4]
end
section
/-- the end of a turn of a for -/
def TEnd (h₀ : Heap) (L : Addr) (I : Addr) (oI : Obj) (J : (PySem.Str → Option Value) → List (Addr × Obj) → Prop) (s : Shared) (Q : Flow → Shared → Prop) (f : Flow) (s₃ : Shared) : Prop :=
  match f with
  | .next | .cont => ∃ m' news' h' tk', s₃ = { s with heap := h', toks := tk' } ∧ J m' news' ∧ Fr h₀ L h' m' ∧ News h₀ L h' ((I, oI) :: news') ∧ ∀ p ∈ news', p.1 ≠ I
  | .brk => Q .next s₃
  | .ret v => Q (.ret v) s₃
section
variable {prog : Program} {w : World} {A : Around} {E : Value → Shared → Prop} {s : Shared} {h₀ : Heap} {L : Addr} {env : Env} {Q : Flow → Shared → Prop}
def LoopX (prog : Program) (w : World) (A : Around) (h₀ : Heap) (L : Addr) (target : Expr) (body : List Stmt) (env : Env) (Q : Flow → Shared → Prop) (it : Value) (s : Shared) : Prop :=
  ∃ (I : Addr) (fp : List Addr) (n : Nat) (P : Nat → Value → Nat → Nat → Prop) (St : Nat → Heap → Prop) (m₀ : PySem.Str → Option Value) (news₀ : List (Addr × Obj)) (J : Nat → (PySem.Str → Option Value) → List (Addr × Obj) → Prop),
    it = .ref I ∧ Nx prog w A I fp n P St ∧ (∀ i h, St i h → ∃ o, h.get? I = some o) ∧ (∀ i h h' o m nw, St i h → h.get? I = some o → h'.get? I = some o → Fr h₀ L h' m → News h₀ L h' nw → J i m nw → St i h') ∧ St 0 s.heap ∧ Fr h₀ L s.heap m₀ ∧ News h₀ L s.heap news₀ ∧ L ≠ I ∧ h₀.get? I = none ∧ (∀ p ∈ news₀, p.1 ≠ I) ∧ J 0 m₀ news₀ ∧
    (∀ i m nw v h t0 t1 oI (E' : Value → Shared → Prop), i < n → P i v t0 t1 → J i m nw → Fr h₀ L h m → News h₀ L h ((I, oI) :: nw) → (∀ p ∈ nw, p.1 ≠ I) →
      wpAny (model prog w) A (assign target env v) (fun _ s₂ => wpAny (model prog w) A (execs body env) (TEnd h₀ L I oI (J (i + 1)) { s with heap := h, toks := t1 } Q) E' s₂) E' { s with heap := h, toks := t1 }) ∧
    ∀ m nw h tk, J n m nw → Fr h₀ L h m → News h₀ L h nw → Q .next { s with heap := h, toks := tk }
theorem for_X {target iter : Expr} {body : List Stmt} {pos : Pos} (hL : L = env.locals) {m : PySem.Str → Option Value} (_F : Fr h₀ L s.heap m) (hs : ∀ x, foldedSetIterable iter env x = pure x) (ht : ∀ I v, letOwnedTupleGo target (.ref I) v = pure ())
    (h : wpAny (model prog w) A (eval iter env) (fun xv s₁ => wpAny (model prog w) A (pyIter xv) (fun it s₂ => LoopX prog w A h₀ L target body env Q it s₂) E s₁) E s) :
    wpAny (model prog w) A (exec (.For target iter body [] pos) env) Q E s := by
  refine wpAny_For (wpAny_mono h (fun xv s₁ h₁ => wpAny_mono h₁ (fun it s₂ h₂ => ?_) fun _ _ e => e) fun _ _ e => e) hs
  obtain ⟨I, fp, n, P, St, m₀, news₀, J, rfl, W, hIo, hSt, hst, F, N, hLI, hI₀, off, hJ, turn, done⟩ := h₂
  refine codeAny_forLoop_any (fun k s' => ∃ h' tk' m' nw i, s' = { s₂ with heap := h', toks := tk' } ∧ St i h' ∧ Fr h₀ L h' m' ∧ News h₀ L h' nw ∧ (∀ p ∈ nw, p.1 ≠ I) ∧ J i m' nw ∧ i ≤ n ∧ k = n + 1 - i) ?_ (n + 1) ⟨s₂.heap, s₂.toks, m₀, news₀, 0, rfl, hst, F, N, off, hJ, Nat.zero_le _, rfl⟩
  rintro k s' ⟨h', tk', m', nw, i, rfl, hst', F', N', off', hJ', hi, rfl⟩
  by_cases hlt : i < n
  · refine W.item i _ _ _ hlt hst' fun v h₂ tk₂ hPv hst₂ hk₂ => ?_
    obtain ⟨oI, heI⟩ := hIo _ _ hst₂
    have F₂ := LCg.fr_but F' hk₂ hLI hI₀
    have N₂ := LCg.news_but N' hk₂ off'
    have N₃ : News h₀ L h₂ ((I, oI) :: nw) := fun p hp => by
      rcases List.mem_cons.mp hp with rfl | hp
      · exact ⟨heI, Ne.symm hLI, hI₀⟩
      · exact N₂ p hp
    refine wpAny_of_eq (ht I v) ?_
    have fin : ∀ s₃, TEnd h₀ L I oI (J (i + 1)) { s₂ with heap := h₂, toks := tk₂ } Q .next s₃ → ∃ k', k' < n + 1 - i ∧ ∃ h' tk' m' nw i, s₃ = { s₂ with heap := h', toks := tk' } ∧ St i h' ∧ Fr h₀ L h' m' ∧ News h₀ L h' nw ∧ (∀ p ∈ nw, p.1 ≠ I) ∧ J i m' nw ∧ i ≤ n ∧ k' = n + 1 - i := by
      rintro s₃ ⟨m₃, nw₃, h₃, tk₃, rfl, hJ₃, F₃, N₄, off₃⟩
      have N₅ : News h₀ L h₃ nw₃ := fun p hp => N₄ p (List.mem_cons_of_mem _ hp)
      exact ⟨n + 1 - (i + 1), by omega, h₃, tk₃, m₃, nw₃, i + 1, rfl, hSt _ _ _ _ _ _ hst₂ heI (N₄ _ List.mem_cons_self).1 F₃ N₅ hJ₃, F₃, N₅, off₃, hJ₃, hlt, rfl⟩
    refine wpAny_mono (turn i m' nw v h₂ tk' tk₂ oI _ hlt hPv hJ' F₂ N₃ off') (fun _ s₃ h₃ => wpAny_mono h₃ (fun f s₄ h₄ => ?_) fun _ _ e => e) fun _ _ e => e
    cases f with
    | next => exact fin s₄ h₄
    | cont => exact fin s₄ h₄
    | brk => exact h₄
    | ret v => exact h₄
  · have hin : i = n := by omega
    subst hin
    refine W.done _ _ _ hst' fun h₂ tk₂ hk₂ => wpAny_execs_nil ?_
    exact done m' nw h₂ tk₂ hJ' (LCg.fr_but F' hk₂ hLI hI₀) (LCg.news_but N' hk₂ off')
/-- over a range -/
theorem LoopX.range {target : Expr} {body : List Stmt} {m₀ : PySem.Str → Option Value} {r : Addr} {e₀ : Int} {t u v₀ : Tok} {n : Nat} {news : List (Addr × Obj)} (J : Nat → (PySem.Str → Option Value) → List (Addr × Obj) → Prop)
    (hh : A.handled = none) (F : Fr h₀ L s.heap m₀) (N : News h₀ L s.heap news) (hr : IsRange s.heap r 0 e₀ 1 t u v₀) (hsm : Builtin.Range.small 0 e₀ 1 = true) (hn : Builtin.Range.rangeSize 0 e₀ 1 = ((n : Nat) : Int)) (hJ : J 0 m₀ news)
    (turn : ∀ I s₂ i m nw t h t1 oI (E' : Value → Shared → Prop), (∃ g, s₂ = { s with heap := g }) → i < n → J i m nw → Fr h₀ L h m → News h₀ L h ((I, oI) :: nw) → (∀ p ∈ nw, p.1 ≠ I) →
      wpAny (model prog w) A (assign target env (.int (i : Int) t)) (fun _ s₃ => wpAny (model prog w) A (execs body env) (TEnd h₀ L I oI (J (i + 1)) { s₂ with heap := h, toks := t1 } Q) E' s₃) E' { s₂ with heap := h, toks := t1 })
    (done : ∀ s₂ m nw h tk, (∃ g, s₂ = { s with heap := g }) → J n m nw → Fr h₀ L h m → News h₀ L h nw → Q .next { s₂ with heap := h, toks := tk }) :
    wpAny (model prog w) A (pyIter (.ref r)) (fun it s₂ => LoopX prog w A h₀ L target body env Q it s₂) E s := by
  have up : ∀ (o : Obj) b o', s.heap.get? b = some o' → (s.heap.push o).get? b = some o' := fun o b o' e => Heap.get?_push_of_some _ e
  have W := Nx.of_walks (LCg.range_walks (prog := prog) (w := w) (I := s.heap.objs.size) hh 0 n)
  refine wpAny_pyIter_range hr hsm ⟨_, _, _, _, _, m₀, news, J, rfl, W, fun i h st => ⟨_, st⟩, ?_, (by show IsRangeIter _ _ _ _ _; rw [hn]; simpa using Heap.get?_push_size _ rfl), F.keeps (up _), N.grown (up _), Nat.ne_of_lt F.ns.lt, next_is_new F, fun p hp => Nat.ne_of_lt (Heap.lt_size (N p hp).1), hJ, ?_, ?_⟩
  · intro i h h' o m nw hs e e' F' N' hj
    have st' : h.get? s.heap.objs.size = some _ := hs
    show h'.get? s.heap.objs.size = some _
    rw [e', ← e]
    exact st'
  · rintro i m nw v h t0 t1 oI E' hi ⟨t, rfl⟩ hj F' N' off
    rw [Int.zero_add]
    exact turn _ _ i m nw t h t1 oI E' ⟨_, rfl⟩ hi hj F' N' off
  · exact fun m nw h tk => done _ m nw h tk ⟨_, rfl⟩
/-- over a list of the ledger -/
theorem LoopX.list {target : Expr} {body : List Stmt} {m₀ : PySem.Str → Option Value} {ax : Addr} {its : List Value} {k : Nat} {news : List (Addr × Obj)} (J : Nat → (PySem.Str → Option Value) → List (Addr × Obj) → Prop)
    (hh : A.handled = none) (F : Fr h₀ L s.heap m₀) (N : News h₀ L s.heap news) (hm : (ax, ({ cls := .type "list", data := .seq its.toArray k } : Obj)) ∈ news) (hJ : J 0 m₀ news)
    (hJm : ∀ i m nw, J i m nw → (ax, ({ cls := .type "list", data := .seq its.toArray k } : Obj)) ∈ nw)
    (turn : ∀ I s₂ i m nw v h t1 oI (E' : Value → Shared → Prop), (∃ g, s₂ = { s with heap := g }) → its[i]? = some v → J i m nw → Fr h₀ L h m → News h₀ L h ((I, oI) :: nw) → (∀ p ∈ nw, p.1 ≠ I) →
      wpAny (model prog w) A (assign target env v) (fun _ s₃ => wpAny (model prog w) A (execs body env) (TEnd h₀ L I oI (J (i + 1)) { s₂ with heap := h, toks := t1 } Q) E' s₃) E' { s₂ with heap := h, toks := t1 })
    (done : ∀ s₂ m nw h tk, (∃ g, s₂ = { s with heap := g }) → J its.length m nw → Fr h₀ L h m → News h₀ L h nw → Q .next { s₂ with heap := h, toks := tk }) :
    wpAny (model prog w) A (pyIter (.ref ax)) (fun it s₂ => LoopX prog w A h₀ L target body env Q it s₂) E s := by
  have hl : s.heap.IsList ax its.toArray := ⟨_, (N _ hm).1, rfl, _, rfl⟩
  have hlt : ax < s.heap.objs.size := Heap.lt_size (N _ hm).1
  have up : ∀ b o, s.heap.get? b = some o → (s.heap.push { cls := .type "list_iterator", data := .fields #[.ref ax, .int 0 0] }).get? b = some o := fun b o e => Heap.get?_push_of_some _ e
  have W := Nx.of_walks (Walks.list (prog := prog) (w := w) hh s.heap.objs.size ax (Nat.ne_of_lt hlt) its.toArray)
  have hn : its.toArray.size = its.length := by simp
  rw [hn] at W
  refine wpAny_pyIter_list hl ⟨_, _, _, _, _, m₀, news, J, rfl, W, fun i h st => by obtain ⟨o, e, _⟩ := st.1; exact ⟨o, e⟩, ?_, ⟨⟨_, Heap.get?_push_size _ rfl, rfl, rfl⟩, hl.push _⟩, F.keeps up, N.grown up, Nat.ne_of_lt F.ns.lt, next_is_new F, fun p hp => Nat.ne_of_lt (Heap.lt_size (N p hp).1), hJ, ?_, ?_⟩
  · intro i h h' o m nw hs e e' F' N' hj
    refine ⟨?_, ⟨_, (N' _ (hJm i m nw hj)).1, rfl, _, rfl⟩⟩
    obtain ⟨o', q, r⟩ := hs.1
    rw [e] at q
    cases q
    exact ⟨o, e', r⟩
  · intro i m nw v h t0 t1 oI E' hi hP hj F' N' off
    exact turn _ _ i m nw v h t1 oI E' ⟨_, rfl⟩ (by simpa using hP) hj F' N' off
  · exact fun m nw h tk => done _ m nw h tk ⟨_, rfl⟩
end
end
section
/-- the i-th entry's address stands nowhere else in the ledger -/
def Solo (l : List (Addr × Obj)) (i : Nat) : Prop := ∀ n p q, l[i]? = some q → l[n]? = some p → p.1 = q.1 → n = i
theorem Solo.set {l : List (Addr × Obj)} {i j : Nat} {c : Addr} {o o' : Obj} (h : Solo l i) (hj : l[j]? = some (c, o)) : Solo (l.set j (c, o')) i := by
  have key : ∀ (n : Nat) (p : Addr × Obj), (l.set j (c, o'))[n]? = some p → ∃ p' : Addr × Obj, l[n]? = some p' ∧ p'.1 = p.1 := by
    intro n p hp
    by_cases e : j = n
    · subst e
      have hlt : j < l.length := (List.getElem?_eq_some_iff.mp hj).1
      rw [List.getElem?_set_self hlt] at hp
      cases hp
      exact ⟨_, hj, rfl⟩
    · rw [List.getElem?_set_ne e] at hp
      exact ⟨p, hp, rfl⟩
  intro n p q hq hp he
  obtain ⟨p', h1, e1⟩ := key n p hp
  obtain ⟨q', h2, e2⟩ := key i q hq
  exact h n p' q' h2 h1 (e1.trans (he.trans e2.symm))
theorem Solo.cons {l : List (Addr × Obj)} {i : Nat} {a : Addr × Obj} (h : Solo l i) (ha : ∀ p ∈ l, p.1 ≠ a.1) : Solo (a :: l) (i + 1) := by
  intro n p q hq hp he
  rw [List.getElem?_cons_succ] at hq
  cases n with
  | zero =>
    rw [List.getElem?_cons_zero] at hp
    cases hp
    exact absurd he.symm (ha q (List.mem_of_getElem? hq))
  | succ n =>
    rw [List.getElem?_cons_succ] at hp
    rw [h n p q hq hp he]
theorem Solo.of {pre post : List (Addr × Obj)} {c : Addr} {o : Obj} (h1 : ∀ p ∈ pre, p.1 ≠ c) (h2 : ∀ p ∈ post, p.1 ≠ c) : Solo (pre ++ (c, o) :: post) pre.length := by
  intro n p q hq hp he
  rw [List.getElem?_append_right (Nat.le_refl _), Nat.sub_self, List.getElem?_cons_zero] at hq
  cases hq
  rcases Nat.lt_trichotomy n pre.length with hl | hl | hl
  · rw [List.getElem?_append_left hl] at hp
    exact absurd he (h1 p (List.mem_of_getElem? hp))
  · exact hl
  · rw [List.getElem?_append_right (Nat.le_of_lt hl)] at hp
    obtain ⟨k, hk⟩ : ∃ k, n - pre.length = k + 1 := ⟨n - pre.length - 1, by omega⟩
    rw [hk, List.getElem?_cons_succ] at hp
    exact absurd he (h2 p (List.mem_of_getElem? hp))
section
variable {M : Model} {A : Around} {E : Value → Shared → Prop} {s : Shared} {h₀ : Heap} {L : Addr} {m : PySem.Str → Option Value}
theorem set_news {h h' : Heap} {l : List (Addr × Obj)} {i : Nat} {c : Addr} {o o' : Obj} (N : News h₀ L h l) (hi : l[i]? = some (c, o)) (S : Solo l i) (hs : Heap.SameBut c h h') (ho : h'.get? c = some o') : News h₀ L h' (l.set i (c, o')) := by
  intro p hp
  obtain ⟨n, hn⟩ := List.getElem?_of_mem hp
  by_cases e : i = n
  · subst e
    have hlt : i < l.length := (List.getElem?_eq_some_iff.mp hi).1
    rw [List.getElem?_set_self hlt] at hn
    cases hn
    exact ⟨ho, (N _ (List.mem_of_getElem? hi)).2⟩
  · rw [List.getElem?_set_ne e] at hn
    have hpl := List.mem_of_getElem? hn
    refine ⟨(hs.2 _ fun q => e ?_).trans (N p hpl).1, (N p hpl).2⟩
    exact (S n p (c, o) hi hn q).symm
theorem store_cell {env : Env} {x : PySem.Str} {i : Nat} {c : Addr} {o : Obj} {v : Value} {v₀ : Option Value} {l : List (Addr × Obj)} {Q : Unit → Shared → Prop} (F : Fr h₀ L s.heap m) (N : News h₀ L s.heap l) (hi : l[i]? = some (c, o)) (S : Solo l i) (hc : env.cells.lookup x = some c) (hd : o.data = .cell v₀)
    (hk : env.scope.kind = .function) (hl : env.kindOf x = some .cell) (h : ∀ h' o', Fr h₀ L h' m → News h₀ L h' (l.set i (c, o')) → o'.data = .cell (some v) → Q () { s with heap := h' }) : wpAny M A (storeName env x v) Q E s := by
  have hm := N _ (List.mem_of_getElem? hi)
  refine wpAny_storeName_cell hk hl hc ⟨o, hm.1, hd⟩ fun h' hv hs => ?_
  obtain ⟨o', ho', hd'⟩ := hv
  exact h h' o' (F.change hs hm.2.1 hm.2.2) (set_news N hi S hs ho') hd'
end

/-- the cells of the law, told, strong and so on: k stands at 5, told at 2, strong at 1, name at 0 -/
theorem cells_solo {n : Nat} {o7 o6 o5 o4 o3 o2 o1 o9 : Obj} {ext : List (Addr × Obj)} (h93 : 93 < n) (h7 : ∀ p ∈ ext, @Ne Nat p.1 (n + 1 + 1 + 1 + 1 + 1 + 1 + 1)) (h6 : ∀ p ∈ ext, @Ne Nat p.1 (n + 1 + 1 + 1 + 1 + 1 + 1)) (h5 : ∀ p ∈ ext, @Ne Nat p.1 (n + 1 + 1 + 1 + 1 + 1)) (h2 : ∀ p ∈ ext, @Ne Nat p.1 (n + 1 + 1)) :
    Solo ((n + 1 + 1 + 1 + 1 + 1 + 1 + 1, o7) :: (n + 1 + 1 + 1 + 1 + 1 + 1, o6) :: (n + 1 + 1 + 1 + 1 + 1, o5) :: (n + 1 + 1 + 1 + 1, o4) :: (n + 1 + 1 + 1, o3) :: (n + 1 + 1, o2) :: (n + 1, o1) :: (93, o9) :: ext) 0 ∧
    Solo ((n + 1 + 1 + 1 + 1 + 1 + 1 + 1, o7) :: (n + 1 + 1 + 1 + 1 + 1 + 1, o6) :: (n + 1 + 1 + 1 + 1 + 1, o5) :: (n + 1 + 1 + 1 + 1, o4) :: (n + 1 + 1 + 1, o3) :: (n + 1 + 1, o2) :: (n + 1, o1) :: (93, o9) :: ext) 1 ∧
    Solo ((n + 1 + 1 + 1 + 1 + 1 + 1 + 1, o7) :: (n + 1 + 1 + 1 + 1 + 1 + 1, o6) :: (n + 1 + 1 + 1 + 1 + 1, o5) :: (n + 1 + 1 + 1 + 1, o4) :: (n + 1 + 1 + 1, o3) :: (n + 1 + 1, o2) :: (n + 1, o1) :: (93, o9) :: ext) 2 ∧
    Solo ((n + 1 + 1 + 1 + 1 + 1 + 1 + 1, o7) :: (n + 1 + 1 + 1 + 1 + 1 + 1, o6) :: (n + 1 + 1 + 1 + 1 + 1, o5) :: (n + 1 + 1 + 1 + 1, o4) :: (n + 1 + 1 + 1, o3) :: (n + 1 + 1, o2) :: (n + 1, o1) :: (93, o9) :: ext) 5 := by
  have nn : ∀ {a b : Nat}, a ≠ b → @Ne Addr a b := fun h => h
  refine ⟨Solo.of (pre := []) (fun _ h => nomatch h) ?_, Solo.of (pre := [_]) ?_ ?_, Solo.of (pre := [_, _]) ?_ ?_, Solo.of (pre := [_, _, _, _, _]) ?_ ?_⟩
  all_goals (intro p hp; simp only [List.mem_cons, List.not_mem_nil, or_false] at hp)
  · rcases hp with rfl | rfl | rfl | rfl | rfl | rfl | rfl | hp
    all_goals first | exact h7 p hp | exact nn (by dsimp only; omega)
  · rcases hp with rfl
    exact nn (by dsimp only; omega)
  · rcases hp with rfl | rfl | rfl | rfl | rfl | rfl | hp
    all_goals first | exact h6 p hp | exact nn (by dsimp only; omega)
  · rcases hp with rfl | rfl
    all_goals exact nn (by dsimp only; omega)
  · rcases hp with rfl | rfl | rfl | rfl | rfl | hp
    all_goals first | exact h5 p hp | exact nn (by dsimp only; omega)
  · rcases hp with rfl | rfl | rfl | rfl | rfl
    all_goals exact nn (by dsimp only; omega)
  · rcases hp with rfl | rfl | hp
    all_goals first | exact h2 p hp | exact nn (by dsimp only; omega)
/-- the four cells, by their places -/
structure Solos (l : List (Addr × Obj)) (a b c d : Nat) : Prop where
  sa : Solo l a
  sb : Solo l b
  sc : Solo l c
  sd : Solo l d
theorem Solos.cons {l : List (Addr × Obj)} {a b c d : Nat} {x : Addr × Obj} (h : Solos l a b c d) (hx : ∀ p ∈ l, p.1 ≠ x.1) : Solos (x :: l) (a + 1) (b + 1) (c + 1) (d + 1) := ⟨h.sa.cons hx, h.sb.cons hx, h.sc.cons hx, h.sd.cons hx⟩
theorem Solos.set {l : List (Addr × Obj)} {a b c d : Nat} {j : Nat} {e : Addr} {o o' : Obj} (h : Solos l a b c d) (hj : l[j]? = some (e, o)) : Solos (l.set j (e, o')) a b c d := ⟨h.sa.set hj, h.sb.set hj, h.sc.set hj, h.sd.set hj⟩
end
section
/-- the sign that translate makes of a sign -/
def pc (c : Nat) : Nat := if c = 63 then 46 else c
def t11 (a b c d : Nat) : List Nat := [40, 63, 115, 58, a, b, c, d, 41, 92, 90]
theorem told_t11 (a b c d : Nat) : told [a, b, c, d] = t11 (pc a) (pc b) (pc c) (pc d) := by
  have e : ∀ x, piece x = [pc x] := by
    intro x
    unfold piece pc
    split <;> rfl
  unfold told t11
  simp [e]
theorem slice_head (a b c d : Nat) : PySem.Txt.slice (tx (t11 a b c d)) none (some 4) = tx [40, 63, 115, 58] := by
  first | rfl | (unfold t11; decide) | kernel_rfl
theorem slice_tail (a b c d : Nat) : PySem.Txt.slice (tx (t11 a b c d)) (some (-3)) none = tx [41, 92, 90] := by
  first | rfl | (unfold t11; decide) | kernel_rfl
theorem t11_size (a b c d : Nat) : (tx (t11 a b c d)).length ≤ sizeLine := by
  rw [tx_length, sizeLine_eq]
  simp [t11]
end
section
abbrev pairV (a b : Value) : Obj := { cls := .type "tuple", data := .seq #[a, b] }
section
variable {prog : Program} {w : World} {A : Around} {E : Value → Shared → Prop} {s : Shared} {h₀ : Heap} {L : Addr} {m : PySem.Str → Option Value} {env : Env}
/-- the end of a turn, the ledger as it was -/
abbrev EndP (h₀ : Heap) (L : Addr) (m : PySem.Str → Option Value) (s : Shared) (I : Addr) (oI : Obj) (C : Addr) (oC : Obj) (D : Addr) (ys : List Value) (news : List (Addr × Obj)) (J : Value → Prop) (y : Value) (s' : Shared) : Prop :=
  LCg.CompEnd h₀ L m s I oI C oC D (LCg.lst ys) (fun _ => True) (fun y nw' => nw' = news ∧ J y) y s'
/-- a comprehension over pairs of a list of the ledger, with a test -/
theorem block_XP {elt iter c : Expr} {a b : PySem.Str} {pa pb tp : Pos} {kk : Nat} {scope : Scope} {cl : List (PySem.Str × Addr)} {pos : Pos} {s₁ : Shared} {ax I : Addr} {its : List Value} {vn : Nat} {news : List (Addr × Obj)}
    (J : Nat → List Value → Prop) {RR : Value → Addr → Result → Shared → Prop} (hh : A.handled = none) (hit : s₁.heap.IsListIter I ax 0) (hsz : its.length ≤ sizeLine) (hm : (ax, ({ cls := .type "list", data := .seq its.toArray vn } : Obj)) ∈ news)
    (hp : ∀ (i : Nat) (v : Value), its[i]? = some v → ∃ t v₁ v₂, v = .ref t ∧ (t, pairV v₁ v₂) ∈ news)
    (hcell : ∀ y ∈ scope.names, y.2 ≠ .cell) (hkind : scope.kind = .function) (hxa : scope.names.lookup a = some .local) (hxb : scope.names.lookup b = some .local) (hab : ¬ a = b)
    (F : Fr h₀ L s₁.heap m) (N : News h₀ L s₁.heap news) (hIL : L ≠ I) (hI₀ : h₀.get? I = none) (off : ∀ p ∈ news, p.1 ≠ I) (hJ : J 0 [])
    (turn : ∀ i ys t v₁ v₂ h tk I oI C oC D m₂ (E' : Value → Shared → Prop), its[i]? = some (.ref t) → (t, pairV v₁ v₂) ∈ news → J i ys → LCg.NsObj oC m₂ → m₂ a = some v₁ → m₂ b = some v₂ → Fr h₀ L h m → News h₀ L h ((I, oI) :: (C, oC) :: (D, LCg.lst ys) :: news) → LCg.Off3 I C D news → ((@Ne Nat I C) ∧ (@Ne Nat I D) ∧ (@Ne Nat C D)) →
      wpAny (model prog w) A (isTrue c (compEnvC scope cl C env) (eval c (compEnvC scope cl C env))) (fun okb s₃ => if okb = true then
        wpAny (model prog w) A (eval elt (compEnvC scope cl C env)) (EndP h₀ L m { s₁ with heap := h, toks := tk } I oI C oC D ys news (fun y => J (i + 1) (ys ++ [y]))) E' s₃
        else EndP h₀ L m { s₁ with heap := h, toks := tk } I oI C oC D ys news (fun _ => J (i + 1) ys) Value.none s₃) E' { s₁ with heap := h, toks := tk })
    (hRR : ∀ D C h tk m' ys, J its.length ys → Fr h₀ L h m → News h₀ L h ((D, LCg.lst ys) :: news) → (∀ p ∈ news, p.1 ≠ D) → h.Ns C m' → h₀.get? C = none → C ≠ L → C ≠ D → (∀ p ∈ news, p.1 ≠ C) → RR (.ref D) C (.ok .next) { s₁ with heap := h, toks := tk }) :
    wpAny (model prog w) A (newList []) (fun acc s₃ => wpAny (model prog w) A (newFunctionEnv scope env.globals cl [] env.qual none .none (some env)) (fun cenv s₄ =>
      codeAny (model prog w) A (.compStart (.ListComp elt [⟨.Tuple [.Name a pa, .Name b pb] kk tp, iter, [c], 0⟩] scope pos) 0 (.ref I) acc { cenv with scope := relabel scope env }) (RR acc cenv.locals) s₄) E s₃) E s₁ := by
  refine wpAny_newObj_type (wpAny_newFunctionEnv hcell (by intro y hy; simp at hy) (fun h₁ hns₁ hsb₁ => ?_) hkind)
  dsimp only at hns₁ hsb₁ ⊢
  generalize hH2 : s₁.heap.push { cls := .type "list", dict := none, data := .seq ([] : List Value).toArray } = H2 at hns₁ hsb₁ ⊢
  have hC : H2.objs.size = s₁.heap.objs.size + 1 := by rw [← hH2, Heap.size_push]
  have hlt : s₁.heap.objs.size < H2.objs.size := by rw [hC]; exact Nat.lt_succ_self _
  have old : ∀ b o, s₁.heap.get? b = some o → h₁.get? b = some o := fun b o e => hsb₁.extBut b o (Nat.ne_of_lt (Nat.lt_trans (Heap.lt_size e) hlt)) (Heap.get?_push_of_some _ (hH2 ▸ Heap.get?_push_of_some _ e))
  have hacc : h₁.get? s₁.heap.objs.size = some (LCg.lst []) := hsb₁.extBut _ _ (Nat.ne_of_lt hlt) (Heap.get?_push_of_some _ (hH2 ▸ Heap.get?_push_size _ rfl))
  have hD₀ : h₀.get? s₁.heap.objs.size = none := fresh_of F (Nat.le_refl _)
  have hC₀ : h₀.get? H2.objs.size = none := fresh_of F (Nat.le_of_lt hlt)
  have hLlt : L < s₁.heap.objs.size := F.ns.lt
  have hIlt : I < s₁.heap.objs.size := by obtain ⟨o, e, _⟩ := id hit; exact Heap.lt_size e
  have hDL : s₁.heap.objs.size ≠ L := Ne.symm (Nat.ne_of_lt hLlt)
  have hCL : H2.objs.size ≠ L := Ne.symm (Nat.ne_of_lt (Nat.lt_trans hLlt hlt))
  have hCD : H2.objs.size ≠ s₁.heap.objs.size := Ne.symm (Nat.ne_of_lt hlt)
  have hIC : I ≠ H2.objs.size := Nat.ne_of_lt (Nat.lt_trans hIlt hlt)
  have hID : I ≠ s₁.heap.objs.size := Nat.ne_of_lt hIlt
  have offD : ∀ p ∈ news, p.1 ≠ s₁.heap.objs.size := fun p hp => Nat.ne_of_lt (Heap.lt_size (N p hp).1)
  have offC : ∀ p ∈ news, p.1 ≠ H2.objs.size := fun p hp => Nat.ne_of_lt (Nat.lt_trans (Heap.lt_size (N p hp).1) hlt)
  have o3 : LCg.Off3 I H2.objs.size s₁.heap.objs.size news := LCg.Off3.of fun p hp => ⟨off p hp, offC p hp, offD p hp⟩
  have haxI : ax ≠ I := off _ hm
  have W := Walks.list (prog := prog) (w := w) hh I ax haxI its.toArray
  have hn : its.toArray.size = its.length := by simp
  rw [hn] at W
  have hit₁ : h₁.IsListIter I ax 0 := by obtain ⟨o, e, r⟩ := hit; exact ⟨o, old _ _ e, r⟩
  have main : codeAny (model prog w) A (.compLoop (.ListComp elt [⟨.Tuple [.Name a pa, .Name b pb] kk tp, iter, [c], 0⟩] scope pos) 0 (.ref I) (.ref s₁.heap.objs.size) (compEnvC scope cl H2.objs.size env)) (RR (.ref s₁.heap.objs.size) H2.objs.size) { s₁ with heap := h₁, toks := s₁.toks + ([] : List (PySem.Str × Value)).length } := by
    refine PySem.W.kct_loop (fun k s' => ∃ h' tk' i ys mC, s' = { s₁ with heap := h', toks := tk' } ∧ i ≤ its.length ∧ k = its.length + 1 - i ∧ ys.length ≤ i ∧ h'.IsListIter I ax i ∧ Fr h₀ L h' m ∧ h'.Ns H2.objs.size mC ∧ News h₀ L h' ((s₁.heap.objs.size, LCg.lst ys) :: news) ∧ J i ys) ?_ (its.length + 1)
      ⟨h₁, _, 0, [], _, rfl, Nat.zero_le _, rfl, Nat.le_refl _, hit₁, F.keeps old, hns₁, fun p hp => ?_, hJ⟩
    · rintro k s' ⟨h', tk', i, ys, mC, rfl, hi, rfl, hyl, hit', F', hnC', N', hJ'⟩
      have offI' : ∀ p ∈ (s₁.heap.objs.size, LCg.lst ys) :: news, p.1 ≠ I := fun p hp => by
        rcases List.mem_cons.mp hp with rfl | hp
        · exact Ne.symm hID
        · exact off p hp
      have hl' : h'.IsList ax its.toArray := ⟨_, (N' _ (List.mem_cons_of_mem _ hm)).1, rfl, _, rfl⟩
      by_cases hlt' : i < its.length
      · refine W.item i _ _ _ hlt' ⟨hit', hl'⟩ fun v h₂ tk₂ hPv hst₂ hk₂ => ?_
        have hv : its[i]? = some v := by simpa using hPv
        obtain ⟨t, v₁, v₂, rfl, hmt⟩ := hp i v hv
        have N₂ := LCg.news_but N' hk₂ offI'
        have F₂ := LCg.fr_but F' hk₂ hIL hI₀
        have ht : IsTup h₂ t #[v₁, v₂] := ⟨_, (N₂ _ (List.mem_cons_of_mem _ hmt)).1, rfl, _, rfl⟩
        refine wpAny_letOwnedTupleGo_listiter hst₂.1 ?_
        refine assign_Tuple_tuple hh ht rfl rfl fun h₅ he => ?_
        have he' : ∀ b o, h₂.get? b = some o → h₅.get? b = some o := fun b o e => he b o (Nat.ne_of_lt (Heap.lt_size e)) e
        refine assignInOrder_cons (wpAny_assign_Name (wpAny_storeName_local (lookup_relabel_local hxa) ((hnC'.at' fun o e => hk₂ _ o (by simpa using Ne.symm hIC) e).at' fun o e => he' _ o e) (fun h₆ hn₆ hs₆ => ?_) (by simp [compEnvC, relabel, hkind])))
        refine assignInOrder_cons (wpAny_assign_Name (wpAny_storeName_local (lookup_relabel_local hxb) hn₆ (fun h₃ hn₃ hs₃ => ?_) (by simp [compEnvC, relabel, hkind])))
        refine assignInOrder_nil ?_
        have old3 : ∀ b o, b ≠ H2.objs.size → h₂.get? b = some o → h₃.get? b = some o := fun b o hb e => hs₃.extBut b o hb (hs₆.extBut b o hb (he' b o e))
        obtain ⟨oI, heI, hIc, hId⟩ := hst₂.1
        have heI3 : h₃.get? I = some oI := old3 _ _ hIC heI
        obtain ⟨oC, heC, hoC⟩ := LCg.ns_obj hn₃
        have F₃ : Fr h₀ L h₃ m := ((F₂.keeps he').change hs₆ hCL hC₀).change hs₃ hCL hC₀
        have N₃ : News h₀ L h₃ ((I, oI) :: (H2.objs.size, oC) :: (s₁.heap.objs.size, LCg.lst ys) :: news) := fun p hp => by
          rcases List.mem_cons.mp hp with rfl | hp
          · exact ⟨heI3, Ne.symm hIL, hI₀⟩
          · rcases List.mem_cons.mp hp with rfl | hp
            · exact ⟨heC, hCL, hC₀⟩
            · have z := N₂ p hp
              refine ⟨old3 _ _ ?_ z.1, z.2⟩
              rcases List.mem_cons.mp hp with rfl | hp
              · exact Ne.symm hCD
              · exact offC p hp
        refine wpAny_mono (turn i ys t v₁ v₂ h₃ _ I oI H2.objs.size oC s₁.heap.objs.size _ _ hv hmt hJ' hoC (by simp [hab]) (by simp) F₃ N₃ o3 ⟨hIC, hID, hCD⟩) (fun okb s₃ h₃' => ?_) fun _ _ e => e
        cases okb with
        | true =>
          simp only [if_true] at h₃' ⊢
          refine wpAny_mono h₃' (fun y s₄ h₄ => ?_) fun _ _ e => e
          obtain ⟨h₄, tk₄, nw', rfl, F₄, N₄, off₄, _, rfl, hJ₄⟩ := h₄
          have zI := (N₄ (I, oI) List.mem_cons_self).1
          have zC := (N₄ (H2.objs.size, oC) (List.mem_cons_of_mem _ List.mem_cons_self)).1
          have zD := (N₄ (s₁.heap.objs.size, LCg.lst ys) (List.mem_cons_of_mem _ (List.mem_cons_of_mem _ List.mem_cons_self))).1
          refine append_at (hsz := by show ys.toArray.size ≤ sizeLine; rw [List.size_toArray]; omega) zD fun h₈ hs₈ hD₈ => ?_
          refine ⟨its.length + 1 - (i + 1), by omega, h₈, tk₄, i + 1, ys ++ [y], _, rfl, hlt', rfl, by rw [List.length_append, List.length_singleton]; omega, ⟨oI, hs₈.extBut _ _ hID zI, hIc, hId⟩, F₄.change hs₈ hDL hD₀, (hoC.ns zC).sameBut hs₈ hCD, fun p hp => ?_, hJ₄⟩
          rcases List.mem_cons.mp hp with rfl | hp
          · exact ⟨hD₈.trans (congrArg some (LCg.lst_snoc ys y)), hDL, hD₀⟩
          · have z := N₄ p (List.mem_cons_of_mem _ (List.mem_cons_of_mem _ (List.mem_cons_of_mem _ hp)))
            exact ⟨hs₈.extBut _ _ (offD p hp) z.1, z.2⟩
        | false =>
          simp only [Bool.false_eq_true, if_false] at h₃' ⊢
          obtain ⟨h₄, tk₄, nw', rfl, F₄, N₄, off₄, _, rfl, hJ₄⟩ := h₃'
          have zI := (N₄ (I, oI) List.mem_cons_self).1
          have zC := (N₄ (H2.objs.size, oC) (List.mem_cons_of_mem _ List.mem_cons_self)).1
          exact ⟨its.length + 1 - (i + 1), by omega, h₄, tk₄, i + 1, ys, _, rfl, hlt', rfl, by omega, ⟨oI, zI, hIc, hId⟩, F₄, hoC.ns zC, fun p hp => N₄ p (List.mem_cons_of_mem _ (List.mem_cons_of_mem _ hp)), hJ₄⟩
      · obtain rfl : i = its.length := Nat.le_antisymm hi (Nat.not_lt.mp hlt')
        refine W.done _ _ _ ⟨hit', hl'⟩ fun h₂ tk₂ hk₂ => ?_
        exact hRR _ _ h₂ tk₂ _ ys hJ' (LCg.fr_but F' hk₂ hIL hI₀) (LCg.news_but N' hk₂ offI') offD (hnC'.at' fun o e => hk₂ _ o (by simpa using Ne.symm hIC) e) hC₀ hCL hCD offC
    · rcases List.mem_cons.mp hp with rfl | hp
      · exact ⟨hacc, hDL, hD₀⟩
      · exact ⟨old _ _ (N p hp).1, (N p hp).2⟩
  exact codeAny_compStart_list main (W.self 0 _ _ _ ⟨hit₁, by obtain ⟨o, e, r⟩ : s₁.heap.IsList ax its.toArray := ⟨_, (N _ hm).1, rfl, _, rfl⟩; exact ⟨o, old _ _ e, r⟩⟩ main)
/-- what the source of such a comprehension hands on -/
def SrcXP (prog : Program) (w : World) (A : Around) (h₀ : Heap) (L : Addr) (m : PySem.Str → Option Value) (env : Env) (c elt : Expr) (a b : PySem.Str) (scope : Scope) (cl : List (PySem.Str × Addr)) (Q : Value → Shared → Prop) (xv : Value) (s₁ : Shared) : Prop :=
  ∃ (ax : Addr) (its : List Value) (vn : Nat) (news : List (Addr × Obj)) (J : Nat → List Value → Prop), xv = .ref ax ∧ A.handled = none ∧ its.length ≤ sizeLine ∧ (ax, ({ cls := .type "list", data := .seq its.toArray vn } : Obj)) ∈ news ∧
    (∀ (i : Nat) (v : Value), its[i]? = some v → ∃ t v₁ v₂, v = .ref t ∧ (t, pairV v₁ v₂) ∈ news) ∧ Fr h₀ L s₁.heap m ∧ News h₀ L s₁.heap news ∧ J 0 [] ∧
    (∀ s₂ i ys t v₁ v₂ h tk I oI C oC D m₂ (E' : Value → Shared → Prop), (∃ g, s₂ = { s₁ with heap := g }) → its[i]? = some (.ref t) → (t, pairV v₁ v₂) ∈ news → J i ys → LCg.NsObj oC m₂ → m₂ a = some v₁ → m₂ b = some v₂ → Fr h₀ L h m → News h₀ L h ((I, oI) :: (C, oC) :: (D, LCg.lst ys) :: news) → LCg.Off3 I C D news → ((@Ne Nat I C) ∧ (@Ne Nat I D) ∧ (@Ne Nat C D)) →
      wpAny (model prog w) A (isTrue c (compEnvC scope cl C env) (eval c (compEnvC scope cl C env))) (fun okb s₃ => if okb = true then
        wpAny (model prog w) A (eval elt (compEnvC scope cl C env)) (EndP h₀ L m { s₂ with heap := h, toks := tk } I oI C oC D ys news (fun y => J (i + 1) (ys ++ [y]))) E' s₃
        else EndP h₀ L m { s₂ with heap := h, toks := tk } I oI C oC D ys news (fun _ => J (i + 1) ys) Value.none s₃) E' { s₂ with heap := h, toks := tk }) ∧
    ∀ s₂ D ys h tk, (∃ g, s₂ = { s₁ with heap := g }) → J its.length ys → Fr h₀ L h m → News h₀ L h ((D, LCg.lst ys) :: news) → (∀ p ∈ news, p.1 ≠ D) → Q (.ref D) { s₂ with heap := h, toks := tk }
theorem eval_XP {elt iter c : Expr} {a b : PySem.Str} {pa pb tp : Pos} {kk : Nat} {scope : Scope} {cl : List (PySem.Str × Addr)} {pos : Pos} {Q : Value → Shared → Prop} (_F₀ : Fr h₀ L s.heap m)
    (hclos : closureFor scope env = pure cl) (hcell : ∀ y ∈ scope.names, y.2 ≠ .cell) (hkind : scope.kind = .function)
    (hnames : ∀ y ∈ scope.names, y.2 = .local → scope.names.lookup y.1 = some .local) (hxa : scope.names.lookup a = some .local) (hxb : scope.names.lookup b = some .local) (hab : ¬ a = b)
    (h : wpAny (model prog w) A (eval iter env) (SrcXP prog w A h₀ L m env c elt a b scope cl Q) E s)
    (hs : ∀ x, foldedSetIterable iter env x = pure x := by intro _; rfl) :
    wpAny (model prog w) A (eval (.ListComp elt [⟨.Tuple [.Name a pa, .Name b pb] kk tp, iter, [c], 0⟩] scope pos) env) Q E s := by
  rw [eval_ListComp]
  refine wpAny_comprehension_free (use := none) rfl hs hclos hkind hnames (wpAny_mono h (fun xv s₁ h₁ => ?_) fun _ _ e => e)
  obtain ⟨ax, its, vn, news, J, rfl, hh, hsz, hm, hp, F, N, hJ, turn, fin⟩ := h₁
  have hl : s₁.heap.IsList ax its.toArray := ⟨_, (N _ hm).1, rfl, _, rfl⟩
  have up : ∀ b o, s₁.heap.get? b = some o → (s₁.heap.push { cls := .type "list_iterator", data := .fields #[.ref ax, .int 0 0] }).get? b = some o := fun b o e => Heap.get?_push_of_some _ e
  refine wpAny_pyIter_list hl ?_
  refine block_XP (I := s₁.heap.objs.size) J hh ⟨_, Heap.get?_push_size _ rfl, rfl, rfl⟩ hsz hm hp hcell hkind hxa hxb hab (F.keeps up) (N.grown up) (Nat.ne_of_lt F.ns.lt) (next_is_new F) (fun p hp => Nat.ne_of_lt (Heap.lt_size (N p hp).1)) hJ (fun i ys t v₁ v₂ h tk I oI C oC D m₂ E' => turn _ i ys t v₁ v₂ h tk I oI C oC D m₂ E' ⟨_, rfl⟩) ?_
  intro D C h tk m' ys hj F' N' offD hn hC₀ hCL hCD offC
  refine ⟨m', hn, fun h'' hs'' => fin { s₁ with heap := s₁.heap.push { cls := .type "list_iterator", data := .fields #[.ref ax, .int 0 0] } } D ys h'' tk ⟨_, rfl⟩ hj (F'.change hs'' hCL hC₀) (fun p hp => ?_) offD⟩
  refine ⟨hs''.extBut _ _ ?_ (N' p hp).1, (N' p hp).2⟩
  rcases List.mem_cons.mp hp with rfl | hp
  · exact Ne.symm hCD
  · exact offC p hp
end
end
section
section
variable {prog : Program} {w : World} {A : Around} {E : Value → Shared → Prop} {s : Shared} {h₀ : Heap} {L : Addr} {m : PySem.Str → Option Value} {env : Env}
/-- a range, the comprehension's own name a local one -/
theorem SrcX0.range {ifs : List Expr} {elt : Expr} {x : PySem.Str} {scope : Scope} {cl : List (PySem.Str × Addr)} {Q : Value → Shared → Prop} {r : Addr} {e₀ : Int} {t u v₀ : Tok} {n : Nat} {news : List (Addr × Obj)} {s₁ : Shared} (J : Nat → List Value → List (Addr × Obj) → Prop)
    (hh : A.handled = none) (F : Fr h₀ L s₁.heap m) (N : News h₀ L s₁.heap news) (hr : IsRange s₁.heap r 0 e₀ 1 t u v₀) (hsm : Builtin.Range.small 0 e₀ 1 = true) (hn : Builtin.Range.rangeSize 0 e₀ 1 = ((n : Nat) : Int)) (hsz : n ≤ sizeLine) (hJ : J 0 [] news)
    (turn : ∀ I s₂ i ys nw t h tk oI C oC D m₂ (E' : Value → Shared → Prop), (∃ g, s₂ = { s₁ with heap := g }) → i < n → J i ys nw → LCg.NsObj oC m₂ → m₂ x = some (.int (i : Int) t) → Fr h₀ L h m → News h₀ L h ((I, oI) :: (C, oC) :: (D, LCg.lst ys) :: nw) → LCg.Off3 I C D nw → ((@Ne Nat I C) ∧ (@Ne Nat I D) ∧ (@Ne Nat C D)) →
      wpAny (model prog w) A (forIn ifs true fun c r => if r = true then do let ok ← isTrue c (compEnvC scope cl C env) (eval c (compEnvC scope cl C env)); pure (ForInStep.yield ok) else pure (ForInStep.yield r)) (fun ok s₃ =>
          if ok = true then wpAny (model prog w) A (eval elt (compEnvC scope cl C env)) (LCg.CompEnd h₀ L m { s₂ with heap := h, toks := tk } I oI C oC D (LCg.lst ys) (fun _ => True) (fun y nw' => J (i + 1) (ys ++ [y]) nw')) E' s₃
          else LCg.CompEnd h₀ L m { s₂ with heap := h, toks := tk } I oI C oC D (LCg.lst ys) (fun _ => True) (fun _ nw' => J (i + 1) ys nw') Value.none s₃) E' { s₂ with heap := h, toks := tk })
    (fin : ∀ s₂ D ys nw h tk, (∃ g, s₂ = { s₁ with heap := g }) → J n ys nw → Fr h₀ L h m → News h₀ L h ((D, LCg.lst ys) :: nw) → (∀ p ∈ nw, p.1 ≠ D) → Q (.ref D) { s₂ with heap := h, toks := tk }) :
    SrcX0 prog w A E h₀ L m env ifs elt x scope cl Q (.ref r) s₁ := by
  have up : ∀ (o : Obj) b o', s₁.heap.get? b = some o' → (s₁.heap.push o).get? b = some o' := fun o b o' e => Heap.get?_push_of_some _ e
  have W := Nx.of_walks (LCg.range_walks (prog := prog) (w := w) (I := s₁.heap.objs.size) hh 0 n)
  refine wpAny_pyIter_range hr hsm ⟨_, _, _, 0, _, _, news, J, rfl, W, hsz, fun i h st => ⟨_, st⟩, ?_, (by show IsRangeIter _ _ _ _ _; rw [hn]; simpa using Heap.get?_push_size _ rfl), ?_, F.keeps (up _), N.grown (up _), Nat.ne_of_lt F.ns.lt, next_is_new F, fun p hp => Nat.ne_of_lt (Heap.lt_size (N p hp).1), hJ, Nat.zero_le _, ?_, ?_⟩
  · intro i h h' o ys nw hs e e' F' N' hj
    have st' : h.get? s₁.heap.objs.size = some _ := hs
    show h'.get? s₁.heap.objs.size = some _
    rw [e', ← e]
    exact st'
  · intro c hc
    show c < (s₁.heap.push _).objs.size
    rw [Heap.size_push, List.mem_singleton.mp hc]
    exact Nat.lt_succ_self _
  · rintro i ys nw v h t0 t1 tk oI C oC D m₂ E' hi ⟨t, rfl⟩ _ _ _ hj hC hx' F' N' o3 ne
    rw [Int.zero_add] at hx'
    exact turn _ _ i ys nw t h tk oI C oC D m₂ E' ⟨_, rfl⟩ hi hj hC hx' F' N' o3 ne
  · intro D ys nw h tk _ hj F' N' o
    exact fin _ D ys nw h tk ⟨_, rfl⟩ hj F' N' o
end
section
variable {prog : Program} {w : World} {A : Around} {E : Value → Shared → Prop} {s : Shared}
/-- a list compared with an empty one -/
theorem eq_nil {a b : Addr} {xs : List Value} {n k : Nat} {Q : Value → Shared → Prop} (ha : s.heap.get? a = some { cls := .type "list", data := .seq xs.toArray n }) (hb : s.heap.get? b = some { cls := .type "list", data := .seq (#[] : Array Value) k }) (hu : A.units < cLine)
    (h : Q (.bool xs.isEmpty) s) : wpAny (model prog w) A (compareOp .Eq (.ref a) (.ref b)) Q E s := by
  show wpAny _ A (richCompare .Eq (.ref a) (.ref b)) Q E s
  cases xs with
  | nil =>
    refine SeqAt.RcAt.lists (e := fun _ => true) (items := #[]) (items2 := #[]) ⟨_, ha, rfl, _, rfl⟩ ⟨_, hb, rfl, _, rfl⟩ rfl hu (fun j h1 => absurd h1 (Nat.not_lt_zero j)) prog w E Q ?_
    exact h
  | cons x r =>
    refine SeqAt.RcAt.lists_lengths (items := (x :: r).toArray) (items2 := #[]) ⟨_, ha, rfl, _, rfl⟩ ⟨_, hb, rfl, _, rfl⟩ (by simp) hu prog w E Q ?_
    exact h
/-- a text sought in a tuple of two -/
theorem notIn_two {l : Addr} {n : Nat} {x y z : PySem.Str} {t u v : Tok} {Q : Value → Shared → Prop} (hl : s.heap.get? l = some { cls := .type "tuple", data := .seq #[.str y u, .str z v] n })
    (h : Q (.bool (!(y == x || z == x))) s) : wpAny (model prog w) A (compareOp .NotIn (.str x t) (.ref l)) Q E s := by
  refine SeqAt.notIn_tupleAt (items := #[.str y u, .str z v]) (fun w => match w with | .str q _ => q == x | _ => false) ⟨_, hl, rfl, _, rfl⟩ ?_ ?_
  · intro w hw
    simp at hw
    rcases hw with rfl | rfl
    · exact SeqAt.EqAt.str_str _ _ _ _
    · exact SeqAt.EqAt.str_str _ _ _ _
  · simpa using h
end
end
section
section
variable {prog : Program} {w : World} {A : Around} {E : Value → Shared → Prop} {s : Shared}
theorem item_lst {value slice : Expr} {l : Addr} {vs : List Value} {n k : Nat} {u : Tok} {x : Value} {Q : Value → Shared → Prop} (hl : s.heap.get? l = some { cls := .type "list", data := .seq vs.toArray n }) (hk : k ≤ 1000) (hx : vs[k]? = some x) (h : Q x s)
    (hs : subscripted slice false (.ref l) (.int (k : Int) u) = operate [.ref l, .int (k : Int) u] (getItem (.ref l) (.int (k : Int) u)) := by with_unfolding_all rfl) :
    wpAny (model prog w) A (subscriptTail value slice (.ref l) (.int (k : Int) u)) Q E s := by
  have hL : s.heap.IsList l vs.toArray := ⟨_, hl, rfl, _, rfl⟩
  exact tail_any hL.typeIs slot_list_getitem.lookup (getItem_listL hL (Int.natCast_nonneg k) (by omega) (by rw [Int.toNat_natCast]; exact hx) h) hs
end
theorem carried_get : ∀ {ys : List Value} {ns : List PySem.Str}, CarriedAll ys (ns.map PyData.str) → ∀ (i : Nat) (x : PySem.Str), ns[i]? = some x → ∃ t, ys[i]? = some (.str x t)
  | _, [], .nil, i, x, e => by simp at e
  | _, a :: r, .cons h hr, 0, x, e => by
    cases h
    simp at e
    subst e
    exact ⟨_, rfl⟩
  | _, a :: r, .cons h hr, i + 1, x, e => by
    obtain ⟨t, q⟩ := carried_get hr i x (by simpa using e)
    exact ⟨t, by simpa using q⟩
end
section
open Builtin Builtin._codecs in
theorem deco_entry (c : UInt8) (cs : List UInt8) (t u : Tok) : Builtin.«bytes.decode» ⟨[.bytes (c :: cs).toArray t, .str (PySem.Str.ofString "ascii") u], []⟩ = (mkStr (PySem.Str.ofString "utf-8") >>= fun _ => mkStr (PySem.Str.ofString "ascii") >>= fun e => mkStr (PySem.Str.ofString "bytes.decode") >>= fun d =>
    call (.builtin "_codecs.decode.text") [.bytes (c :: cs).toArray t, e, .none, d] >>= fun v => ret v) := by
  kernel_rfl
theorem deco_args (a b : Value) : argsOk "bytes.decode" ⟨[a, b], []⟩ := by unfold argsOk; kernel_rfl
open Builtin Builtin._codecs in
theorem deco_road (id : String) (b : Array UInt8) : decodeRoad id b (PySem.Str.ofString "ascii") none [] = (runDecoder id asciiDecoder none true b 0 [] >>= fun r => mkStr ⟨r.1⟩) := by kernel_rfl
open Builtin Builtin._codecs in
theorem deco_run (id : String) (c0 c1 c2 c3 : Nat) (h0 : c0 < 128) (h1 : c1 < 128) (h2 : c2 < 128) (h3 : c3 < 128) : runDecoder id asciiDecoder none true #[c0.toUInt8, c1.toUInt8, c2.toUInt8, c3.toUInt8] 0 [] = pure ((tx [c0, c1, c2, c3]).cps, 4) := by
  have u : ∀ c, c < 128 → c.toUInt8.toNat = c := fun c h => by rw [show c.toUInt8.toNat = c % 256 from by simp [Nat.toUInt8]]; omega
  have hs : ¬ sizeLine < 0 := by rw [sizeLine_eq]; decide
  have hs1 : ¬ sizeLine < 1 := by rw [sizeLine_eq]; decide
  have hs2 : ¬ sizeLine < 2 := by rw [sizeLine_eq]; decide
  have hs3 : ¬ sizeLine < 3 := by rw [sizeLine_eq]; decide
  unfold runDecoder
  simp [asciiDecoder, Found.char, Std.Legacy.Range.forIn_eq_forIn_range', List.range', List.forIn_cons, u _ h0, u _ h1, u _ h2, u _ h3, h0, h1, h2, h3, hs1, hs2, hs3]
section
variable {prog : Program} {w : World} {A : Around} {E : Value → Shared → Prop} {s : Shared}
open Builtin in
theorem deco_text {c : UInt8} {cs : List UInt8} {x : PySem.Str} {n : Nat} {t t1 t2 : Tok} {d : PySem.Str} (hd : ∀ id, _codecs.runDecoder id _codecs.asciiDecoder none true (c :: cs).toArray 0 [] = pure (x.cps, n)) :
    Meets («_codecs.decode.text» ⟨[.bytes (c :: cs).toArray t, .str (PySem.Str.ofString "ascii") t1, .none, .str d t2], []⟩) (fun _ R s => x.length ≤ sizeLine ∧ R (.ok (.ret (.str x s.toks))) { s with toks := s.toks + 1 }) := by
  refine .of_wp fun prog w A R s hS => ?_
  obtain ⟨hsz, h⟩ := hS
  show wpAny _ _ (Bytes.bytesLike _ (.bytes _ t) >>= fun r => _) _ _ s
  refine wpAny_bind (wpAny_of_eq PySem.W.KBd.like_eq ?_)
  refine wpAny_bind (wpAny_of_eq PySem.W.KBd.held_eq ?_)
  show wpAny _ _ (_codecs.decodeRoad _ _ (PySem.Str.ofString "ascii") none [] >>= fun v => _) _ _ s
  rw [deco_road, hd]
  refine wpAny_bind (wpAny_bind (wpAny_pure ?_))
  exact wpAny_mkStr (wpAny_pure ⟨_, rfl, h⟩) hsz
open Builtin in
theorem deco_meets {c : UInt8} {cs : List UInt8} {x : PySem.Str} {n : Nat} {t u : Tok} (hd : ∀ id, _codecs.runDecoder id _codecs.asciiDecoder none true (c :: cs).toArray 0 [] = pure (x.cps, n)) :
    Meets («bytes.decode» ⟨[.bytes (c :: cs).toArray t, .str (PySem.Str.ofString "ascii") u], []⟩) (fun _ R s => x.length ≤ sizeLine ∧ ∀ t' k, R (.ok (.ret (.str x t'))) { s with toks := k }) := by
  refine .of_wp fun prog w A R s hS => ?_
  obtain ⟨hsz, h⟩ := hS
  rw [deco_entry]
  refine wpAny_bind (wpAny_mkStr ?_ (by decide))
  refine wpAny_bind (wpAny_mkStr ?_ (by decide))
  refine wpAny_bind (wpAny_mkStr ?_ (by decide))
  exact wpAny_bind (call_function_meets PySem.W.KBd.kind_text PySem.W.KBd.plain_text PySem.W.KBd.entry_text (PySem.W.KBd.args_text _ _ _ _) (deco_text hd) ⟨hsz, wpAny_pure ⟨_, rfl, h _ _⟩⟩)
theorem deco_call {c0 c1 c2 c3 : Nat} (h0 : c0 < 128) (h1 : c1 < 128) (h2 : c2 < 128) (h3 : c3 < 128) {t u : Tok} {Q : Value → Shared → Prop} (h : ∀ t' k, Q (.str (tx [c0, c1, c2, c3]) t') { s with toks := k }) :
    wpAny (model prog w) A (call (.builtin "bytes.decode") [.bytes #[c0.toUInt8, c1.toUInt8, c2.toUInt8, c3.toUInt8] t, .str (PySem.Str.ofString "ascii") u]) Q E s :=
  call_meets FB.slot_bytes_decode (typeIs_bytes _ _ _) FB.entry_bytes_decode (deco_args _ _) (deco_meets (x := tx [c0, c1, c2, c3]) (n := 4) (fun id => deco_run id c0 c1 c2 c3 h0 h1 h2 h3)) ⟨by rw [tx_length, sizeLine_eq]; simp, h⟩
theorem bytes_of_ints {b : Array UInt8} {c0 c1 c2 c3 : Nat} (h : PySem.W.KBw.bInts b = [((c0 : Nat) : Int), (c1 : Int), (c2 : Int), (c3 : Int)]) : b = #[c0.toUInt8, c1.toUInt8, c2.toUInt8, c3.toUInt8] := by
  unfold PySem.W.KBw.bInts at h
  obtain ⟨l⟩ := b
  match l, h with
  | [a0, a1, a2, a3], h =>
    simp at h
    obtain ⟨e0, e1, e2, e3⟩ := h
    have u : ∀ (a : UInt8) (c : Nat), (a.toNat : Int) = (c : Int) → a = c.toUInt8 := fun a c e => by
      have e' : a.toNat = c := by omega
      subst e'
      simp [Nat.toUInt8]
    simp only [List.toArray]
    rw [u _ _ (by omega : (a0.toNat : Int) = c0), u _ _ (by omega : (a1.toNat : Int) = c1), u _ _ (by omega : (a2.toNat : Int) = c2), u _ _ (by omega : (a3.toNat : Int) = c3)]
theorem little_num {c0 c1 c2 c3 : Nat} (h0 : c0 < 256) (h1 : c1 < 256) (h2 : c2 < 256) (h3 : c3 < 256) : (PySem.W.KTBy.little 4 (numOf [c0, c1, c2, c3])).reverse = [((c0 : Nat) : Int), (c1 : Int), (c2 : Int), (c3 : Int)] := by
  have e : numOf [c0, c1, c2, c3] = ((((c0 : Int)) * 256 + c1) * 256 + c2) * 256 + c3 := by simp [numOf]
  rw [e]
  simp only [PySem.W.KTBy.little, List.reverse_cons, List.reverse_nil, List.nil_append, List.cons_append]
  have a3 : (((((c0 : Int)) * 256 + c1) * 256 + c2) * 256 + c3) % 256 = c3 := by omega
  have d3 : (((((c0 : Int)) * 256 + c1) * 256 + c2) * 256 + c3) / 256 = (((c0 : Int)) * 256 + c1) * 256 + c2 := by omega
  have a2 : ((((c0 : Int)) * 256 + c1) * 256 + c2) % 256 = c2 := by omega
  have d2 : ((((c0 : Int)) * 256 + c1) * 256 + c2) / 256 = ((c0 : Int)) * 256 + c1 := by omega
  have a1 : (((c0 : Int)) * 256 + c1) % 256 = c1 := by omega
  have d1 : (((c0 : Int)) * 256 + c1) / 256 = (c0 : Int) := by omega
  have a0 : (c0 : Int) % 256 = c0 := by omega
  rw [d3, d2, d1, a3, a2, a1, a0]
theorem big_num {c0 c1 c2 c3 : Nat} (h0 : c0 < 256) (h1 : c1 < 256) (h2 : c2 < 256) (h3 : c3 < 256) {t u v : Tok} {Q : Value → Shared → Prop} (h : ∀ t' k, Q (.bytes #[c0.toUInt8, c1.toUInt8, c2.toUInt8, c3.toUInt8] t') { s with toks := k }) :
    wpAny (model prog w) A (call (.builtin "int.to_bytes") [.int (numOf [c0, c1, c2, c3]) t, .int 4 u, .str (PySem.Str.ofString "big") v]) Q E s := by
  have e : numOf [c0, c1, c2, c3] = ((((c0 : Int)) * 256 + c1) * 256 + c2) * 256 + c3 := by simp [numOf]
  refine PySem.W.KTBy.to_big (k := 4) (B := 4294967296) (by decide) (by decide) (by rw [e]; omega) (by rw [e]; omega) ?_
  intro b t' k' hb _
  rw [little_num h0 h1 h2 h3] at hb
  rw [bytes_of_ints hb]
  exact h t' k'
end
section
variable {prog : Program} {w : World} {A : Around} {E : Value → Shared → Prop} {s : Shared}
theorem big_numE {x : Int} {c0 c1 c2 c3 : Nat} (hx : x = numOf [c0, c1, c2, c3]) (h0 : c0 < 128) (h1 : c1 < 128) (h2 : c2 < 128) (h3 : c3 < 128) {t u v : Tok} {Q : Value → Shared → Prop} (h : ∀ t' k, Q (.bytes #[c0.toUInt8, c1.toUInt8, c2.toUInt8, c3.toUInt8] t') { s with toks := k }) :
    wpAny (model prog w) A (call (.builtin "int.to_bytes") [.int x t, .int 4 u, .str (PySem.Str.ofString "big") v]) Q E s := by
  subst hx
  exact big_num (by omega) (by omega) (by omega) (by omega) h
end
end
section
/-- the ledger of the law with the four cells that the loops change -/
def reLed (l : List (Addr × Obj)) (on os ot ok : Obj) : List (Addr × Obj) :=
  match l with
  | r0 :: r1 :: r2 :: r3 :: r4 :: c7 :: c6 :: c5 :: x4 :: x3 :: c2 :: rest => r0 :: r1 :: r2 :: r3 :: r4 :: (c7.1, on) :: (c6.1, os) :: (c5.1, ot) :: x4 :: x3 :: (c2.1, ok) :: rest
  | l => l
abbrev vsOf {vs : List Value} {ns : List Int} (_ : IntsAre vs ns) : List Value := vs
abbrev gsB {gs : List (List Nat)} (_ : ∀ b ∈ gs, Ballot4 b) : List (List Nat) := gs
abbrev o4Of {h₀ h : Heap} {L : Addr} {r0 r1 r2 r3 r4 c7 c6 c5 c4 c3 c2 c1 x9 : Addr × Obj} {l : List (Addr × Obj)} (_ : News h₀ L h (r0 :: r1 :: r2 :: r3 :: r4 :: c7 :: c6 :: c5 :: c4 :: c3 :: c2 :: c1 :: x9 :: l)) : Obj := c4.2
abbrev o3Of {h₀ h : Heap} {L : Addr} {r0 r1 r2 r3 r4 c7 c6 c5 c4 c3 c2 c1 x9 : Addr × Obj} {l : List (Addr × Obj)} (_ : News h₀ L h (r0 :: r1 :: r2 :: r3 :: r4 :: c7 :: c6 :: c5 :: c4 :: c3 :: c2 :: c1 :: x9 :: l)) : Obj := c3.2
abbrev o1Of {h₀ h : Heap} {L : Addr} {r0 r1 r2 r3 r4 c7 c6 c5 c4 c3 c2 c1 x9 : Addr × Obj} {l : List (Addr × Obj)} (_ : News h₀ L h (r0 :: r1 :: r2 :: r3 :: r4 :: c7 :: c6 :: c5 :: c4 :: c3 :: c2 :: c1 :: x9 :: l)) : Obj := c1.2
abbrev o9Of {h₀ h : Heap} {L : Addr} {r0 r1 r2 r3 r4 c7 c6 c5 c4 c3 c2 c1 x9 : Addr × Obj} {l : List (Addr × Obj)} (_ : News h₀ L h (r0 :: r1 :: r2 :: r3 :: r4 :: c7 :: c6 :: c5 :: c4 :: c3 :: c2 :: c1 :: x9 :: l)) : Obj := x9.2
theorem off1_app {D : Addr} {l ext : List (Addr × Obj)} (h : LCg.Off1 D l) (h2 : ∀ p ∈ ext, p.1 ≠ D) : ∀ p ∈ l ++ ext, p.1 ≠ D := fun p hp => by
  rcases List.mem_append.mp hp with hp | hp
  · exact off1_mem h p hp
  · exact h2 p hp
abbrev mOf {h₀ h : Heap} {L : Addr} {m : PySem.Str → Option Value} (_ : Fr h₀ L h m) : PySem.Str → Option Value := m
def CellO (o : Obj) : Prop := ∃ v, o.data = .cell v
theorem if_taken (m : PySem.Str → Option Value) : m = fun z => if z = PySem.Str.ofString "taken" then m (PySem.Str.ofString "taken") else m z := by
  funext z
  by_cases hz : z = PySem.Str.ofString "taken"
  · rw [if_pos hz, hz]
  · rw [if_neg hz]
/-- where an entry stood before the cells came to the front -/
def back : Nat → Nat
  | 0 => 5 | 1 => 6 | 2 => 7 | 3 => 10 | 4 => 0 | 5 => 1 | 6 => 2 | 7 => 12 | 8 => 3 | 9 => 4 | 10 => 8 | 11 => 9 | 12 => 11 | n + 13 => n + 13
def forth : Nat → Nat
  | 5 => 0 | 6 => 1 | 7 => 2 | 10 => 3 | 0 => 4 | 1 => 5 | 2 => 6 | 12 => 7 | 3 => 8 | 4 => 9 | 8 => 10 | 9 => 11 | 11 => 12 | n + 13 => n + 13
theorem forth_back : ∀ n, forth (back n) = n
  | 0 | 1 | 2 | 3 | 4 | 5 | 6 | 7 | 8 | 9 | 10 | 11 | 12 => rfl
  | _ + 13 => rfl
theorem back_inj {a b : Nat} (h : back a = back b) : a = b := by
  rw [← forth_back a, ← forth_back b, h]
theorem solo_back {l l' : List (Addr × Obj)} {i : Nat} (h : Solo l (back i)) (key : ∀ n p, l'[n]? = some p → l[back n]? = some p) : Solo l' i :=
  fun n p q hq hp he => back_inj (h (back n) p q (key i q hq) (key n p hp) he)
/-- what stands at the head of a turn of the outer loop -/
def OJ (m₀ : PySem.Str → Option Value) (base : List (Addr × Obj)) (a7 a6 a5 a2 : Addr) (_ : Nat) (m : PySem.Str → Option Value) (nw : List (Addr × Obj)) : Prop :=
  ∃ (u : Option Value) (on os ot ok : Obj), CellO on ∧ CellO os ∧ CellO ot ∧ CellO ok ∧ m = (fun z => if z = PySem.Str.ofString "taken" then u else m₀ z) ∧ nw = (a7, on) :: (a6, os) :: (a5, ot) :: (a2, ok) :: base
/-- the cells that the loops change stand in front, then what the loops read; the rest is one list -/
theorem regroup {h₀ h : Heap} {L : Addr} {r0 r1 r2 r3 r4 c7 c6 c5 x4 x3 c2 c1 x9 : Addr × Obj} {ext : List (Addr × Obj)} (N : News h₀ L h (r0 :: r1 :: r2 :: r3 :: r4 :: c7 :: c6 :: c5 :: x4 :: x3 :: c2 :: c1 :: x9 :: ext))
    (hS : ∀ on os ot ok, Solos (reLed (r0 :: r1 :: r2 :: r3 :: r4 :: c7 :: c6 :: c5 :: x4 :: x3 :: c2 :: c1 :: x9 :: ext) on os ot ok) 5 6 7 10) :
    ∃ B, (∀ q, q ∈ ext → q ∈ B) ∧ (∀ on os ot ok, Solos ((c7.1, on) :: (c6.1, os) :: (c5.1, ot) :: (c2.1, ok) :: r0 :: r1 :: r2 :: x9 :: B) 0 1 2 3) ∧ News h₀ L h (c7 :: c6 :: c5 :: c2 :: r0 :: r1 :: r2 :: x9 :: B) := by
  refine ⟨r3 :: r4 :: x4 :: x3 :: c1 :: ext, fun q hq => by simp only [List.mem_cons, hq, or_true], fun on os ot ok => ?_, fun p hp => ?_⟩
  rotate_left
  · refine N p ?_
    simp only [List.mem_cons] at hp ⊢
    rcases hp with h | h | h | h | h | h | h | h | h | h | h | h | h | h <;> simp only [h, true_or, or_true]
  have H := hS on os ot ok
  unfold reLed at H
  have key : ∀ n p, ((c7.1, on) :: (c6.1, os) :: (c5.1, ot) :: (c2.1, ok) :: r0 :: r1 :: r2 :: x9 :: r3 :: r4 :: x4 :: x3 :: c1 :: ext)[n]? = some p → (r0 :: r1 :: r2 :: r3 :: r4 :: (c7.1, on) :: (c6.1, os) :: (c5.1, ot) :: x4 :: x3 :: (c2.1, ok) :: c1 :: x9 :: ext)[back n]? = some p := by
    intro n p h
    match n, h with
    | 0, h | 1, h | 2, h | 3, h | 4, h | 5, h | 6, h | 7, h | 8, h | 9, h | 10, h | 11, h | 12, h => exact h
    | n + 13, h => exact h
  exact ⟨solo_back H.sa key, solo_back H.sb key, solo_back H.sc key, solo_back H.sd key⟩

end
section

abbrev kOf {o : Obj} {k : Nat} {t : Tok} (_ : o.data = Data.cell (some (Value.int (k : Int) t))) : Nat := k
theorem thr_lt (gs : List (List Nat)) (p k : Nat) : thr gs p k < 128 := by
  have := thr_range gs p k
  omega
theorem row_range (gs : List (List Nat)) (k : Nat) : ∀ c ∈ [thr gs 0 k, thr gs 1 k, thr gs 2 k, thr gs 3 k], 48 ≤ c ∧ c ≤ 63 := by
  intro c hc
  simp at hc
  rcases hc with rfl | rfl | rfl | rfl <;> exact thr_range _ _ _

end
section


end
section
/-- the signs with more than k votes at a place -/
def strg (gs : List (List Nat)) (p k : Nat) : List Nat := ([55, 59, 61, 62] : List Nat).filter fun c => decide (k < cnt gs p c)
def TJ (base : List (Addr × Obj)) (gs : List (List Nat)) (k : Nat) (i : Nat) (ys : List Value) (nw : List (Addr × Obj)) : Prop :=
  nw = base ∧ CarriedAll ys ((List.range i).map fun p => PyData.str (tx (strg gs p k)))
def PJ (gs : List (List Nat)) (p k : Nat) (j : Nat) (ys : List Value) : Prop :=
  ∃ ds : List (Nat × Tok), ys = ds.map (fun q => Value.str (tx [q.1]) q.2) ∧ ds.map (·.1) = ((([55, 59, 61, 62] : List Nat).take j).filter fun c => decide (k < cnt gs p c))
theorem sg_at {j : Nat} (h : j < 4) : ([55, 59, 61, 62] : List Nat)[j]? = some (sg j) := by
  have : j = 0 ∨ j = 1 ∨ j = 2 ∨ j = 3 := by omega
  rcases this with rfl | rfl | rfl | rfl <;> rfl
theorem PJ_yes {gs : List (List Nat)} {p k j : Nat} {ds : List (Nat × Tok)} {t : Tok} (h : ds.map (·.1) = ((([55, 59, 61, 62] : List Nat).take j).filter fun c => decide (k < cnt gs p c))) (hj : j < 4) (hk : k < cnt gs p (sg j)) : PJ gs p k (j + 1) (ds.map (fun q => Value.str (tx [q.1]) q.2) ++ [.str (tx [sg j]) t]) := by
  refine ⟨ds ++ [(sg j, t)], by rw [List.map_append]; rfl, ?_⟩
  rw [List.map_append, h, List.take_add_one, sg_at hj, List.filter_append]
  simp [hk]
theorem PJ_no {gs : List (List Nat)} {p k j : Nat} {ys : List Value} (h : PJ gs p k j ys) (hj : j < 4) (hk : ¬ k < cnt gs p (sg j)) : PJ gs p k (j + 1) ys := by
  obtain ⟨ds, e, h⟩ := h
  refine ⟨ds, e, ?_⟩
  rw [h, List.take_add_one, sg_at hj, List.filter_append]
  simp [hk]
theorem PJ_len {gs : List (List Nat)} {p k : Nat} {ds : List (Nat × Tok)} (h : ds.map (·.1) = ((([55, 59, 61, 62] : List Nat).take 4).filter fun c => decide (k < cnt gs p c))) : ds.length ≤ 1000 := by
  have e := congrArg List.length h
  rw [List.length_map] at e
  have := List.length_filter_le (fun c => decide (k < cnt gs p c)) (([55, 59, 61, 62] : List Nat).take 4)
  have e4 : (([55, 59, 61, 62] : List Nat).take 4).length = 4 := rfl
  omega
theorem TJ_snoc {gs : List (List Nat)} {k i : Nat} {ws : List Value} {t : Tok} (h : CarriedAll ws ((List.range i).map fun p => PyData.str (tx (strg gs p k)))) : CarriedAll (ws ++ [.str (tx ((([55, 59, 61, 62] : List Nat).take 4).filter fun c => decide (k < cnt gs i c))) t]) ((List.range (i + 1)).map fun p => PyData.str (tx (strg gs p k))) := by
  rw [List.range_succ, List.map_append]
  exact carried_snoc h (.cons (.str _ _) .nil)
theorem pair_same {h₀ h : Heap} {L : Addr} {l : List (Addr × Obj)} {t : Addr} {a b c d : Value} (N : News h₀ L h l) (h1 : (t, pairV a b) ∈ l) (h2 : (t, pairV c d) ∈ l) : a = c ∧ b = d := by
  have e1 := (N _ h1).1
  have e2 := (N _ h2).1
  rw [e1] at e2
  injection e2 with e2
  injection e2 with _ _ e2 _
  injection e2 with e2 _
  have := congrArg Array.toList e2
  simpa using this


end
section
def thrB (b1 b2 b3 b4 : Bool) : Nat := 48 + (if b1 then 8 else 0) + (if b2 then 4 else 0) + (if b3 then 2 else 0) + (if b4 then 1 else 0)
def strB (b1 b2 b3 b4 : Bool) : List Nat := (if b1 then [] else [55]) ++ (if b2 then [] else [59]) ++ (if b3 then [] else [61]) ++ (if b4 then [] else [62])
theorem agreeB : ∀ b1 b2 b3 b4 : Bool, ∀ c ∈ ([55, 59, 61, 62] : List Nat), ([46, c] : List Nat).contains (pc (thrB b1 b2 b3 b4)) = (([] : List Nat) == strB b1 b2 b3 b4 || [c] == strB b1 b2 b3 b4) := by decide
theorem thr_B (gs : List (List Nat)) (p k : Nat) : thr gs p k = thrB (decide (cnt gs p 55 ≤ k)) (decide (cnt gs p 59 ≤ k)) (decide (cnt gs p 61 ≤ k)) (decide (cnt gs p 62 ≤ k)) := by
  unfold thr thrB
  simp
theorem str_B (gs : List (List Nat)) (p k : Nat) : strg gs p k = strB (decide (cnt gs p 55 ≤ k)) (decide (cnt gs p 59 ≤ k)) (decide (cnt gs p 61 ≤ k)) (decide (cnt gs p 62 ≤ k)) := by
  unfold strg strB
  have e : ∀ c, decide (k < cnt gs p c) = !decide (cnt gs p c ≤ k) := by
    intro c
    by_cases h : cnt gs p c ≤ k
    · rw [decide_eq_true h, decide_eq_false (by omega)]; rfl
    · rw [decide_eq_false h, decide_eq_true (by omega)]; rfl
  simp only [List.filter, e]
  cases decide (cnt gs p 55 ≤ k) <;> cases decide (cnt gs p 59 ≤ k) <;> cases decide (cnt gs p 61 ≤ k) <;> cases decide (cnt gs p 62 ≤ k) <;> rfl
theorem tx_beq (a b : List Nat) : (tx a == tx b) = (a == b) := by
  by_cases h : a = b
  · subst h; simp
  · have : ¬ tx a = tx b := fun q => h (tx_inj q)
    rw [beq_eq_false_iff_ne.mpr h, beq_eq_false_iff_ne.mpr this]
theorem agree (gs : List (List Nat)) (p k c : Nat) (hc : c ∈ ([55, 59, 61, 62] : List Nat)) : ([46, c] : List Nat).contains (pc (thr gs p k)) = (PySem.Str.ofString "" == tx (strg gs p k) || tx [c] == tx (strg gs p k)) := by
  rw [thr_B, str_B, show PySem.Str.ofString "" = tx [] from by decide, tx_beq, tx_beq]
  exact agreeB _ _ _ _ c hc
/-- a name: four signs -/
def Name4 (b : List Nat) : Prop := ∃ a0 a1 a2 a3, b = [a0, a1, a2, a3] ∧ a0 ∈ ([55, 59, 61, 62] : List Nat) ∧ a1 ∈ ([55, 59, 61, 62] : List Nat) ∧ a2 ∈ ([55, 59, 61, 62] : List Nat) ∧ a3 ∈ ([55, 59, 61, 62] : List Nat)
theorem rep_name {b : List Nat} (h : Ballot4 b) {s : Nat} (hs : s = 55 ∨ s = 62) : Name4 (rep s b) := by
  obtain ⟨a0, a1, a2, a3, rfl, h0, h1, h2, h3⟩ := h
  have key : ∀ a, Sign5 a → (if a = 63 then s else a) ∈ ([55, 59, 61, 62] : List Nat) := by
    intro a ha
    unfold Sign5 at ha
    rcases ha with rfl | rfl | rfl | rfl | rfl <;> rcases hs with rfl | rfl <;> simp
  exact ⟨_, _, _, _, rfl, key _ h0, key _ h1, key _ h2, key _ h3⟩
theorem sg_sign (j : Nat) (h : j < 4) : sg j ∈ ([55, 59, 61, 62] : List Nat) := by
  have : j = 0 ∨ j = 1 ∨ j = 2 ∨ j = 3 := by omega
  rcases this with rfl | rfl | rfl | rfl <;> decide
theorem lead_name (gs : List (List Nat)) : Name4 ((List.range 4).map (lead gs)) := by
  have key : ∀ p, lead gs p ∈ ([55, 59, 61, 62] : List Nat) := fun p => sg_sign _ (Nat.lt_succ_of_le (bestP_le _ 3))
  exact ⟨_, _, _, _, rfl, key 0, key 1, key 2, key 3⟩
theorem nam_name (x : Int) : Name4 (nam x) := by
  have key : ∀ k, namAt x k ∈ ([55, 59, 61, 62] : List Nat) := by
    intro k
    unfold namAt
    have h0 := Int.fmod_nonneg_of_pos (x.fdiv (4 ^ k.toNat)) (show (0:Int) < 4 by decide)
    have h1 := Int.fmod_lt_of_pos (x.fdiv (4 ^ k.toNat)) (show (0:Int) < 4 by decide)
    generalize (x.fdiv (4 ^ k.toNat)).fmod 4 = y at h0 h1
    exact sg_sign y.toNat (by omega)
  exact ⟨_, _, _, _, rfl, key 0, key 1, key 2, key 3⟩
theorem all_names {gs : List (List Nat)} {xs : List Int} (h4 : ∀ b ∈ gs, Ballot4 b) : ∀ b ∈ allNm gs xs, Name4 b := by
  intro b hb
  unfold allNm nm at hb
  simp only [List.mem_append, List.mem_singleton, List.take_length, List.mem_flatMap, List.mem_map, List.take_zero, List.map_nil, List.not_mem_nil, or_false, List.mem_cons] at hb
  rcases hb with (⟨b', hb', rfl | rfl⟩ | rfl) | ⟨x, _, rfl⟩
  · exact rep_name (h4 _ hb') (.inl rfl)
  · exact rep_name (h4 _ hb') (.inr rfl)
  · exact lead_name gs
  · exact nam_name x
end
section
theorem if_if (m : PySem.Str → Option Value) (u v : Option Value) : (fun z => if z = PySem.Str.ofString "taken" then u else (if z = PySem.Str.ofString "taken" then v else m z)) = fun z => if z = PySem.Str.ofString "taken" then u else m z := by
  funext z
  by_cases hz : z = PySem.Str.ofString "taken"
  · rw [if_pos hz, if_pos hz]
  · rw [if_neg hz, if_neg hz, if_neg hz]
theorem outer_end {h₀ h : Heap} {L I D : Addr} {oI oD : Obj} {m₀ m : PySem.Str → Option Value} {base : List (Addr × Obj)} {k tk : Nat} {s : Shared} {Q : Flow → Shared → Prop} {u v : Option Value} {a7 a6 a5 a2 : Addr} {on os ot ok : Obj} {vs vt vk : Option Value}
    (F : Fr h₀ L h (fun z => if z = PySem.Str.ofString "taken" then u else m z)) (hm : m = fun z => if z = PySem.Str.ofString "taken" then v else m₀ z)
    (N : News h₀ L h ((D, oD) :: (I, oI) :: (a7, on) :: (a6, os) :: (a5, ot) :: (a2, ok) :: base))
    (hon : CellO on) (hos : os.data = .cell vs) (hot : ot.data = .cell vt) (hok : ok.data = .cell vk) (off : ∀ p ∈ (a7, on) :: (a6, os) :: (a5, ot) :: (a2, ok) :: base, p.1 ≠ I) :
    TEnd h₀ L I oI (OJ m₀ base a7 a6 a5 a2 (k + 1)) s Q .next { s with heap := h, toks := tk } := by
  rw [hm, if_if] at F
  exact ⟨_, _, h, tk, rfl, ⟨u, on, os, ot, ok, hon, ⟨_, hos⟩, ⟨_, hot⟩, ⟨_, hok⟩, rfl, rfl⟩, F, fun p hp => N p (List.mem_cons_of_mem _ hp), off⟩
abbrev nmsOf {ys : List Value} {ns : List (List Nat)} (_ : CarriedAll ys (ns.map fun b => PyData.str (tx b))) : List (List Nat) := ns
/-- the ledger with the cell of the name -/
def reN (l : List (Addr × Obj)) (on : Obj) : List (Addr × Obj) :=
  match l with
  | a0 :: a1 :: c7 :: rest => a0 :: a1 :: (c7.1, on) :: rest
  | l => l
/-- what stands at the head of a turn of the inner loop -/
def IJ (m₀ : PySem.Str → Option Value) (l : List (Addr × Obj)) (_ : Nat) (m : PySem.Str → Option Value) (nw : List (Addr × Obj)) : Prop :=
  ∃ (u : Option Value) (on : Obj), CellO on ∧ m = (fun z => if z = PySem.Str.ofString "taken" then u else m₀ z) ∧ nw = reN l on


end
section
abbrev csOf {o : Obj} {cs : List Nat} {t : Tok} (_ : o.data = Data.cell (some (Value.str (tx cs) t))) : List Nat := cs
def KJ (base : List (Addr × Obj)) (f : Nat → Bool) (k : Nat) (ys : List Value) (nw : List (Addr × Obj)) : Prop := nw = base ∧ ys.isEmpty = !((List.range k).any f)
theorem KJ_yes {base : List (Addr × Obj)} {f : Nat → Bool} {k : Nat} {ys : List Value} {y : Value} {nw : List (Addr × Obj)} (h : nw = base) (hf : f k = true) : KJ base f (k + 1) (ys ++ [y]) nw := by
  refine ⟨h, ?_⟩
  rw [List.range_succ, List.any_append]
  simp [hf]
theorem KJ_no {base : List (Addr × Obj)} {f : Nat → Bool} {k : Nat} {ys : List Value} {nw : List (Addr × Obj)} (h : KJ base f k ys nw) (hf : f k = false) : KJ base f (k + 1) ys nw := by
  refine ⟨h.1, ?_⟩
  rw [h.2, List.range_succ, List.any_append]
  simp [hf]
/-- whether a pattern's sign bars a name's -/
def barB (gs : List (List Nat)) (k : Nat) (cs : List Nat) (p : Nat) : Bool := !([46, cs.getD p 0] : List Nat).contains (pc (thr gs p k))
theorem idx4 {p : Nat} (hp : p < 4) : (0 : Int) ≤ 4 + (p : Int) ∧ (4 + (p : Int)) < ((11 : Nat) : Int) := by omega
theorem dot_tx (x : Nat) : PySem.Str.ofString "." ++ tx [x] = tx [46, x] := by rw [show PySem.Str.ofString "." = tx [46] from by decide, tx_append]; rfl
theorem bar_occ (gs : List (List Nat)) (k : Nat) (cs : List Nat) (p : Nat) : (!!(Builtin.Str.occurrences (tx [46, cs.getD p 0]) (tx [pc (thr gs p k)]) 0 (tx [46, cs.getD p 0]).length 1).isEmpty) = barB gs k cs p := by
  have e : (tx [46, cs.getD p 0]).length = 2 := by rw [tx_length]; rfl
  rw [e, occ2]
  simp [barB]
theorem t11_at (gs : List (List Nat)) (k p : Nat) (hp : p < 4) : (t11 (pc (thr gs 0 k)) (pc (thr gs 1 k)) (pc (thr gs 2 k)) (pc (thr gs 3 k))).getD (4 + (p : Int)).toNat 0 = pc (thr gs p k) := by
  have : p = 0 ∨ p = 1 ∨ p = 2 ∨ p = 3 := by omega
  rcases this with rfl | rfl | rfl | rfl <;> rfl


end
section
theorem inner_end {h₀ h : Heap} {L I : Addr} {oI : Obj} {m₀ : PySem.Str → Option Value} {l rest : List (Addr × Obj)} {i tk : Nat} {s : Shared} {Q : Flow → Shared → Prop} {u v : Option Value} {r0 r1 : Addr × Obj} {a7 : Addr} {on : Obj} {vn : Option Value}
    (F : Fr h₀ L h (fun z => if z = PySem.Str.ofString "taken" then u else (if z = PySem.Str.ofString "taken" then v else m₀ z)))
    (N : News h₀ L h ((I, oI) :: r0 :: r1 :: (a7, on) :: rest)) (hl : reN l on = r0 :: r1 :: (a7, on) :: rest)
    (hon : on.data = .cell vn) (off : ∀ p ∈ r0 :: r1 :: (a7, on) :: rest, p.1 ≠ I) :
    TEnd h₀ L I oI (IJ m₀ l (i + 1)) s Q .next { s with heap := h, toks := tk } := by
  rw [if_if] at F
  exact ⟨_, _, h, tk, rfl, ⟨u, on, ⟨_, hon⟩, rfl, hl.symm⟩, F, N, off⟩
/-- whether the strong signs of a place bar a name -/
def barS (gs : List (List Nat)) (k : Nat) (cs : List Nat) (p : Nat) : Bool := !(PySem.Str.ofString "" == tx (strg gs p k) || tx [cs.getD p 0] == tx (strg gs p k))
theorem bars_same {gs : List (List Nat)} {k c0 c1 c2 c3 : Nat} (q0 : c0 ∈ ([55, 59, 61, 62] : List Nat)) (q1 : c1 ∈ ([55, 59, 61, 62] : List Nat)) (q2 : c2 ∈ ([55, 59, 61, 62] : List Nat)) (q3 : c3 ∈ ([55, 59, 61, 62] : List Nat)) :
    ((!(List.range 4).any (barB gs k [c0, c1, c2, c3])) != !(List.range 4).any (barS gs k [c0, c1, c2, c3])) = false := by
  have e : ∀ p, p < 4 → barB gs k [c0, c1, c2, c3] p = barS gs k [c0, c1, c2, c3] p := by
    intro p hp
    unfold barB barS
    rw [agree]
    have : p = 0 ∨ p = 1 ∨ p = 2 ∨ p = 3 := by omega
    rcases this with rfl | rfl | rfl | rfl <;> assumption
  have e2 : (List.range 4).any (barB gs k [c0, c1, c2, c3]) = (List.range 4).any (barS gs k [c0, c1, c2, c3]) := by
    show (List.range 4).any _ = _
    simp only [List.range, List.range.loop, List.any_cons, List.any_nil, e 0 (by omega), e 1 (by omega), e 2 (by omega), e 3 (by omega)]
  rw [e2]
  simp
theorem strong_at {gs : List (List Nat)} {k : Nat} {ys : List Value} (h : CarriedAll ys ((List.range 4).map fun p => PyData.str (tx (strg gs p k)))) {p : Nat} (hp : p < 4) : ∃ t, ys[p]? = some (.str (tx (strg gs p k)) t) := by
  have h' : CarriedAll ys (((List.range 4).map fun p => tx (strg gs p k)).map PyData.str) := by rw [List.map_map]; exact h
  refine carried_get h' p _ ?_
  rw [List.getElem?_map, List.getElem?_range hp]
  rfl


end
section
local macro_rules | `(tactic| walk_at "getAttr ref") => `(tactic| (k_here; (with_reducible show wpAny _ _ (getAttr (Value.ref _) (PySem.Str.ofString "append") true) _ _ _); k_dflt (refine ap_getattr_K (by k_asm) (by k_asm) (by k_mem) ?_); intro f' h' tk' F' N' l1; (try k_lt l1); (try k_sweep)))
local macro_rules | `(tactic| walk_at "callWith ref") => `(tactic| (k_here; (with_reducible show wpAny _ _ (callWith _ (Value.ref _) _ (backTo _ (starEach (_ :: _) _)) []) _ _ _); k_dflt (refine' ap_callWith_K ?k1 ?k2 ?_; (case k1 => k_asm); (case k2 => k_mem); k_whole)))
local macro_rules | `(tactic| walk_at "And") => `(tactic| ((with_reducible show AppAt _ _ _ ∧ _); k_dflt (refine ⟨News.get (by k_asm) (by k_mem), ?_⟩); (try dsimp only [List.nil_append, List.cons_append])))
local macro_rules | `(tactic| walk_at "call ref") => `(tactic| (k_here; (with_reducible show wpAny _ _ (call (Value.ref _) [_]) _ _ _); k_dflt (refine' ap_call_K ?k1 ?k2 ?k3 ?k4 ?k5 ?_; (case k1 => k_asm); (case k2 => k_asm); (case k3 => k_mem); (case k4 => k_upd); (case k5 => size_fits); k_whole); intro h' F' N'; (try k_sweep)))
local macro_rules | `(tactic| walk_at "eval Name") => `(tactic| (k_here; (with_reducible rename Fr _ _ _ _ => kF); k_dflt (refine nameX_L kF (by assumption) ?_ (by rfl) (by rfl))))
local macro_rules | `(tactic| walk_at "loadName") => `(tactic| (k_here; (with_reducible rename Fr _ _ _ _ => kF); k_dflt (refine ldn kF (by assumption) ?_)))
local macro_rules | `(tactic| walk_at "binaryOp Pow int int") => `(tactic| (k_here; (refine pow_int_small ?kb1 ?kb2 ?kb3 ?_); (case kb1 => omega); (case kb2 => omega); (case kb3 => decide)))
local macro_rules | `(tactic| k_all) => `(tactic| (with_reducible rename Apart _ _ => hapZ; refine' fun p hp => hapZ p hp (_, ?o) ?m; (case m => (repeat (first | exact List.Mem.head _ | apply List.Mem.tail)))))
theorem law_all : PySem.Challenge.rw_in0262_01.Holds := by
  refine Mine.hd ?_
  k_go0
  (all_goals try k_fold)
  rename Fr _ _ _ _ => F0
  obtain ⟨m0, F0'⟩ : ∃ m0, Fr _ _ _ m0 := ⟨_, F0⟩
  clear F0
  iterate 2 walk1
  iterate 7 (first | walk1 | (dsimp only; walk1))
  k_dflt (refine LCg.CompSrc.range (n := 6) (by rfl) (by k_asm) (by k_asm) (by assumption) (by decide) (by decide) (by decide) ?_)
  intro g₁
  rename IntsAre _ _ => hI
  refine kcf_range (fun k => numAt (nsOf hI) k) ?_ ?_
  · intro k t I oI C oC D m₂ ys h tk E' hk1 hk2 hC hx F₁ N₁ off ne mk
    iterate 13 (first | walk1 | (dsimp only; walk1))
    iterate 21 (first | walk1 | (dsimp only; walk1))
    rename News _ _ _ _ => N5
    rename Fr _ _ _ _ => F5
    have hI6 : IntsAre (nvPick _ k) _ := ints_pick hI (sliceRange (sliceBounds (some k) (some 24) (some 6) _).1 (sliceBounds (some k) (some 24) (some 6) _).2.1 6)
    k_dflt (refine sumK (by rfl) F5 N5 ⟨_, (N5 _ List.mem_cons_self).1, rfl, _, rfl⟩ hI6 ?_)
    intro h6 tk6 t6 F6 N6
    iterate 1 (first | walk1 | (dsimp only; walk1))
    refine LCg.CompEnd.intro F6 N6 _ (fun p hp => by repeat (first | exact hp | apply List.mem_cons_of_mem)) off trivial ?_
    refine kcf_el (r' := _) ?_ rfl rfl
    unfold numAt pickI nsOf
    rw [List.size_toArray, hI.length]
  unfold KPfDone
  intro ys hy D h tk F N off
  simp only [LCg.Off1, and_true] at off
  dsimp only
  iterate 3 (first | walk1 | (dsimp only; walk1))
  rename IntsAre _ (List.map _ (rangeKs 0 6)) => hy
  k_dflt (refine LCg.CompSrc.ledger (by rfl) (by k_asm) (by k_asm) (by k_mem) (by rw [List.size_toArray, hy.length, sizeLine_eq]; simp [rangeKs]) ?_)
  intro g₁
  refine kct_list (fun x => tx (bal x)) hy ?_ ?_
  · intro k t I oI C oC D m₂ ys h tk E' hk1 hC hx F₁ N₁ off ne mk
    iterate 8 (first | walk1 | (dsimp only; walk1))
    k_dflt (refine' PE.use (ballot_pe _ _ _) ?kB ?kF ?kX ?kN ?kT ?kk ?kd ?ku ?kp ?_; (case kB => k_asm); (case kF => k_asm); (case kX => k_asm); (case kN => k_asm); (case kT => k_asm); (case kk => rfl); (case kd => ktr_room); (case ku => ktr_units); (case kp => exact trivial); k_whole)
    rintro _ h2 tk2 ⟨t2, rfl⟩ hx F2 N2 hnew
    refine LCg.CompEnd.intro F2 N2 _ (fun _ h => h) off (.inr ⟨_, List.mem_cons_self, rfl, _, rfl⟩) ?_
    exact kct_el (r' := _) rfl rfl rfl
  unfold KPfDone
  intro zs hz _ D' h' tk' F' N' off'
  simp only [LCg.Off1, and_true] at off'
  dsimp only
  iterate 7 (first | walk1 | (dsimp only; walk1))
  k_dflt (refine LCt.ListComp_T (F₀ := by k_asm) (by with_unfolding_all rfl) (by decide) (by rfl) (by decide) (by rfl) ?_)
  iterate 1 (first | walk1 | (dsimp only; walk1))
  rename CarriedAll _ _ => hz
  k_dflt (refine LCt.CompSrcT.ledger (by rfl) (by k_asm) (by k_asm) (by k_mem) (by rw [List.size_toArray, carriedAll_lenA hz, sizeLine_eq]; simp [rangeKs]) ?_)
  intro g₁
  refine restT_filter decB ?_ ?_
  · intro v I oI C oC D m₂ ys h tk E' hv hC hx F₁ N₁ off ne
    obtain ⟨x, hxm, tv, rfl⟩ := carried_mem hz v hv
    rcases bal_cases x with ⟨hdx, hsp⟩ | ⟨hdx, hbx⟩
    · iterate 9 (first | walk1 | (dsimp only; walk1))
      k_dflt (refine num_bad _ _ _ hsp (by k_asm) (by k_asm) (by k_asm) (by k_asm) (by k_asm) rfl (by ktr_room) (by ktr_units) ?_)
      intro h2 tk2 t2 F2 N2
      iterate 3 (first | walk1 | (dsimp only; walk1))
      refine ⟨hdx.symm, ?_⟩
      rw [if_pos (by decide)]
      iterate 1 (first | walk1 | (dsimp only; walk1))
      exact LCg.CompEnd.intro F2 N2 _ (fun _ h => h) off (.inr ⟨_, List.mem_cons_self, rfl, _, rfl⟩) ⟨rfl, rfl⟩
    · rw [hbx] at hx ⊢
      iterate 9 (first | walk1 | (dsimp only; walk1))
      k_dflt (refine' PE.use (num_ok _ _ _ _ _ _ (fig_mem x 0) (fig_mem x 1) (fig_mem x 2) (fig_mem x 3)) ?kB ?kF ?kX ?kN ?kT ?kk ?kd ?ku ?kp ?_; (case kB => k_asm); (case kF => k_asm); (case kX => k_asm); (case kN => k_asm); (case kT => k_asm); (case kk => rfl); (case kd => ktr_room); (case ku => ktr_units); (case kp => exact trivial); k_whole)
      rintro _ h2 tk2 ⟨t2, rfl⟩ hx2 F2 N2 hnew2
      clear hnew2
      iterate 3 (first | walk1 | (dsimp only; walk1))
      refine ⟨by rw [← hbx]; exact hdx.symm, ?_⟩
      rw [if_neg (by decide)]
      exact LCg.CompEnd.intro F2 N2 _ (fun _ h => h) off (.inr ⟨_, List.mem_cons_self, rfl, _, rfl⟩) rfl
  unfold LCg.FinE
  intro D1 h1 tk1 F1 N1 off1
  simp only [LCg.Off1, and_true] at off1
  k_dflt (refine LCt.ListComp_T (F₀ := by k_asm) (by with_unfolding_all rfl) (by decide) (by rfl) (by decide) (by rfl) ?_)
  iterate 1 (first | walk1 | (dsimp only; walk1))
  rename CarriedAll _ _ => hz
  k_dflt (refine LCt.CompSrcT.ledger (by rfl) (by k_asm) (by k_asm) (by k_mem) (by rw [List.size_toArray, carriedAll_lenA hz, sizeLine_eq]; simp [rangeKs]) ?_)
  intro g₁
  refine restT_filter decB ?_ ?_
  · intro v I oI C oC D m₂ ys h tk E' hv hC hx F₁ N₁ off ne
    obtain ⟨x, hxm, tv, rfl⟩ := carried_mem hz v hv
    iterate 4 (first | walk1 | (dsimp only; walk1))
    rw [bal_in x tv]
    iterate 1 (first | walk1 | (dsimp only; walk1))
    refine ⟨rfl, ?_⟩
    by_cases hb : decB (.str (tx (bal x)) tv) = true
    · rw [if_pos hb]
      iterate 1 (first | walk1 | (dsimp only; walk1))
      exact LCg.CompEnd.intro F₁ N₁ _ (fun _ h => h) off (.inr ⟨_, List.mem_cons_of_mem _ List.mem_cons_self, rfl, _, rfl⟩) ⟨rfl, rfl⟩
    · rw [if_neg hb]
      exact LCg.CompEnd.intro F₁ N₁ _ (fun _ h => h) off (.inr ⟨_, List.mem_cons_of_mem _ List.mem_cons_self, rfl, _, rfl⟩) rfl
  unfold LCg.FinE
  intro D2 h2 tk2 F2 N2 off2
  simp only [LCg.Off1, and_true] at off2
  have hzf := carried_filter decB_tok hz
  rw [show ∀ l : List Int, l.map (fun k => PyData.str (tx (bal k))) = (l.map fun k => tx (bal k)).map PyData.str from fun l => by rw [List.map_map]; rfl] at hzf
  k_here
  k_dflt (refine ne_strs ⟨_, (N2 _ (List.mem_cons_of_mem _ List.mem_cons_self)).1, rfl, _, rfl⟩ ⟨_, (N2 _ List.mem_cons_self).1, rfl, _, rfl⟩ hzf hzf ?so ?so2 (by ke_room) ?_)
  case so =>
    intro y hy
    obtain ⟨x, _, rfl⟩ := List.mem_map.mp hy
    exact strOk_bal x
  case so2 =>
    intro y hy
    obtain ⟨x, _, rfl⟩ := List.mem_map.mp hy
    exact strOk_bal x
  rw [decide_eq_true rfl]
  have N3 := news_drop2 N2
  clear hzf N2 off2
  iterate 5 (first | walk1 | (dsimp only; walk1))
  k_dflt (refine LCt.ListComp_T (F₀ := by k_asm) (by with_unfolding_all rfl) (by decide) (by rfl) (by decide) (by rfl) ?_)
  iterate 1 (first | walk1 | (dsimp only; walk1))
  rename CarriedAll _ _ => hz
  k_dflt (refine LCt.CompSrcT.ledger (by rfl) (by k_asm) (by k_asm) (by k_mem) (by rw [List.size_toArray, carriedAll_lenA hz, sizeLine_eq]; simp [rangeKs]) ?_)
  intro g₁
  refine restT_filter decG ?_ ?_
  · intro v I oI C oC D m₂ ys h tk E' hv hC hx F₁ N₁ off ne
    obtain ⟨x, hxm, tv, rfl⟩ := carried_mem hz v hv
    iterate 4 (first | walk1 | (dsimp only; walk1))
    rw [bal_in x tv]
    iterate 1 (first | walk1 | (dsimp only; walk1))
    refine ⟨rfl, ?_⟩
    by_cases hb : (!decB (.str (tx (bal x)) tv)) = true
    · rw [if_pos hb]
      iterate 1 (first | walk1 | (dsimp only; walk1))
      exact LCg.CompEnd.intro F₁ N₁ _ (fun _ h => h) off (.inr ⟨_, List.mem_cons_self, rfl, _, rfl⟩) ⟨rfl, rfl⟩
    · rw [if_neg hb]
      exact LCg.CompEnd.intro F₁ N₁ _ (fun _ h => h) off (.inr ⟨_, List.mem_cons_self, rfl, _, rfl⟩) rfl
  unfold LCg.FinE
  intro D2 h2 tk2 F2 N2 off2
  simp only [LCg.Off1, and_true] at off2
  iterate 1 (first | walk1 | (dsimp only; walk1))
  obtain ⟨gs, hgs, hgn, hg4⟩ := good_ballots hz (by simp [rangeKs])
  dsimp only
  rename News _ _ _ _ => N9
  have N8 := news_drop_2nd N9
  clear N9 hz
  generalize List.filter decG _ = bz at *
  iterate 1 (first | walk1 | (dsimp only; walk1))
  k_here
  k_dflt (refine assign_X1 (by k_asm) rfl (by rfl) (by with_unfolding_all rfl) (fun _ => by rfl) (fun _ => by rfl) (by rfl) (by decide) (by rfl) (by rfl) (by rfl) ?_)
  iterate 6 (first | walk1 | (dsimp only; walk1))
  refine wpAny_with_toks (n := 1) (Nat.le_add_left 1 _) ?_
  iterate 1 (first | walk1 | (dsimp only; walk1))
  intro hb1
  rename CarriedAll _ _ => hgs
  rename News _ _ _ _ => N9
  rename IsRange _ _ _ _ _ _ _ _ => hr
  rename Fr _ _ _ _ => F9
  k_dflt (refine SrcX1.range (n := 4) (b := 1) (VJ _ (gsOf hgs)) (by rfl) F9 N9 hr (by decide) (by decide) (by decide) ⟨[], (List.append_nil _).symm, (fun _ h => nomatch h), rfl, fun p hp => absurd hp (Nat.not_lt_zero p)⟩ hb1 ?_ ?_)
  · intro I s₂ i ys nw t h t1 oI Cc oc C oC D E' hs2 hi hb hJ hC hcd F₁ N₁ o3 o1 ne
    obtain ⟨g₁, rfl⟩ := hs2
    obtain ⟨ext, rfl, hlo, hyl, hcols⟩ := hJ
    refine wpAny_tests_nil ?_
    simp only [if_true]
    simp only [List.cons_append, List.nil_append] at N₁ o3 o1
    k_dflt (refine eval_X0 F₁ (by with_unfolding_all rfl) (by decide) (by rfl) (by decide) (by rfl) ?_)
    iterate 1 (first | walk1 | (dsimp only; walk1))
    rw [signs_tx]
    k_dflt (refine SrcX0.ascii (b := 1) (SJ _ (gsOf hgs) i) (by rfl) F₁ N₁ (by decide) (by decide) ⟨[], (List.append_nil _).symm, (fun _ h => nomatch h), rfl, fun p hp => absurd hp (Nat.not_lt_zero p)⟩ (by first | exact hb | exact Nat.le_succ_of_le hb) ?_ ?_)
    · intro I2 s₃ j zs nw c t0 h2 tk oI2 C2 oC2 D2 m2 E2 hs3 hcj ht0 ht1 hJ2 hC2 hx2 F₂ N₂ o32 ne2
      obtain ⟨g₂, rfl⟩ := hs3
      obtain ⟨ext2, rfl, hlo2, hzl, hzs⟩ := hJ2
      refine wpAny_tests_nil ?_
      simp only [if_true]
      simp only [List.cons_append, List.nil_append, List.append_assoc] at N₂ o32
      iterate 6 (first | walk1 | (dsimp only; walk1))
      iterate 1 (first | walk1 | (dsimp only; walk1))
      k_dflt (refine eval_X0 (by k_asm) (by with_unfolding_all rfl) (by decide) (by rfl) (by decide) (by rfl) ?_)
      iterate 1 (first | walk1 | (dsimp only; walk1))
      rename List.length _ ≤ 6 => hgn
      rename ∀ b, b ∈ _ → Ballot4 b => hg4
      rename News _ _ _ _ => N10
      rename Fr _ _ _ _ => F10
      k_dflt (refine SrcX0.list (its := _) (b := t0 + 1) (BJ _ (gsOf hgs) i (t0 + 1)) (by rfl) F10 N10 (by k_mem) (by rw [carriedAll_lenA hgs, List.length_map, sizeLine_eq]; omega) ⟨rfl, [], rfl, rfl, fun _ h => nomatch h⟩ ?hb3 ?hm3 ?_ ?_)
      case hb3 => exact ht1
      case hm3 =>
        rintro k ws nw ⟨rfl, _⟩
        k_mem
      · intro I4 s₄ k ws nw v h4 tk4 oI4 C4 oC4 D4 m4 E4 hs4 hk4 hb4 hJ4 hC4 hx4 F₄ N₄ o34 ne4
        obtain ⟨g₄, rfl⟩ := hs4
        obtain ⟨rfl, ds, rfl, hds, hdt⟩ := hJ4
        obtain ⟨bl, tv, hbl, rfl⟩ := carried_at hgs k v hk4
        obtain ⟨a0, a1, a2, a3, rfl, _⟩ := hg4 bl (List.mem_of_getElem? hbl)
        refine wpAny_tests_nil ?_
        simp only [if_true]
        iterate 3 (first | walk1 | (dsimp only; walk1))
        k_here
        k_dflt (refine getItem_txT (by omega) (by simp only [List.length_cons, List.length_nil]; omega) (by simp) ?_)
        refine LCg.CompEnd.intro F₄ N₄ _ (fun _ h => h) o34 trivial ⟨rfl, ds ++ [(_, _)], by rw [List.map_append]; rfl, ?_, ?_⟩
        · exact ds_snoc hds hbl
        · intro q hq
          rcases List.mem_append.mp hq with hq | hq
          · exact hdt q hq
          · obtain rfl := List.mem_singleton.mp hq
            exact hb4
      intro s₃ D3 ws nw h3 tk3 hs3 hb3 hJ3 F₃ N₃ off3
      obtain ⟨g₃, rfl⟩ := hs3
      obtain ⟨rfl, ds, rfl, hds, hdt⟩ := hJ3
      iterate 4 (first | walk1 | (dsimp only; walk1))
      have hbn : List.length _ = List.length _ := carriedAll_lenA hgs
      rw [List.length_map] at hbn
      rw [hbn, List.take_length] at hds
      have hdl : ds.length ≤ 1000 := by
        have e := congrArg List.length hds
        rw [List.length_map, List.length_map] at e
        omega
      have ht00 : t0 ≠ 0 := Nat.ne_of_gt ht0
      k_dflt (refine' PE.use (count_pe _ D3 ds c t0 ht00 (fun q hq => ⟨Nat.ne_of_gt (Nat.lt_of_lt_of_le (Nat.succ_pos t0) (hdt q hq)), Nat.ne_of_gt (hdt q hq)⟩) hdl) ?kB ?kF ?kX ?kN ?kT ?kk ?kd ?ku ?kp ?_; (case kB => k_asm); (case kF => k_asm); (case kX => k_asm); (case kN => k_asm); (case kT => k_asm); (case kk => rfl); (case kd => ktr_room); (case ku => ktr_units); (case kp => exact (N₃ _ List.mem_cons_self).1); k_whole)
      rintro _ h5 tk5 ⟨t5, rfl⟩ hx5 F5 N5 hnew5
      clear hnew5
      have hT5 := fun p hp => Heap.lt_size (N5 p hp).1
      rw [hds]
      iterate 4 (first | walk1 | (dsimp only; walk1))
      have hsg : c = sg j := by
        have hj4 : j < 4 := (List.getElem?_eq_some_iff.mp hcj).1
        have : j = 0 ∨ j = 1 ∨ j = 2 ∨ j = 3 := by omega
        rcases this with rfl | rfl | rfl | rfl <;> (simp at hcj; exact hcj.symm)
      refine end_new (T := h5.objs.size) (by assumption) (by assumption) (fun p hp => List.mem_cons_of_mem _ (List.mem_cons_of_mem _ hp)) List.mem_cons_self o32 (hT5 (I2, oI2) (List.mem_cons_of_mem _ List.mem_cons_self)) (hT5 (C2, oC2) (List.mem_cons_of_mem _ (List.mem_cons_of_mem _ List.mem_cons_self))) (hT5 (D2, _) (List.mem_cons_of_mem _ (List.mem_cons_of_mem _ (List.mem_cons_of_mem _ List.mem_cons_self)))) ?_
      refine SJ_next (ext := ext2) (by simp only [List.cons_append, List.nil_append, List.append_assoc]; rfl) hlo2 (fun r hr => hT5 r (List.mem_cons_of_mem _ (List.mem_cons_of_mem _ (List.mem_cons_of_mem _ (List.mem_cons_of_mem _ (by have hr' := List.mem_append_left ext2 hr; simpa only [List.cons_append, List.append_assoc] using hr')))))) hzl hzs hsg
    intro s₃ D2 zs nw h3 tk3 hs3 hb3 hJ3 F₃ N₃ off3
    obtain ⟨g₃, rfl⟩ := hs3
    obtain ⟨ext2, rfl, hap2, hzl, hzs⟩ := hJ3
    refine end_col (base := ledOf N9) (ext := ext) (ext2 := ext2) F₃ N₃ rfl o3 o1 hap2 off3 ?_
    exact VJ_next hlo hap2 (fun r hr => List.mem_cons_of_mem _ (List.mem_cons_of_mem _ (List.mem_cons_of_mem _ (List.mem_cons_of_mem _ (List.mem_append_left _ hr))))) (fun r hr => Ne.symm (off3 r (List.mem_append_left _ (List.mem_cons_of_mem _ (List.mem_cons_of_mem _ (List.mem_cons_of_mem _ (List.mem_cons_of_mem _ (List.mem_append_left _ hr)))))))) hyl hcols hzl hzs
  intro s₂ hs2
  obtain ⟨g₁, rfl⟩ := hs2
  intro D ys nw h tk hP F₁
  obtain ⟨hb, ⟨ext, rfl, hap, hyl, hcols⟩, N₁, off⟩ := hP
  simp only [List.cons_append, List.nil_append] at N₁ off
  simp only [LCg.Off1] at off
  dsimp only
  iterate 1 (first | walk1 | (dsimp only; walk1))
  k_here
  rename CarriedAll _ _ => hgs
  rename List.length _ ≤ 6 => hgn
  rename ∀ b, b ∈ _ → Ballot4 b => hg4
  k_dflt (refine assign_2 (cs := [55, 62]) (by k_asm) rfl (by rfl) (by rfl) (by with_unfolding_all rfl) (by decide) (by rfl) (by decide) (by rfl) (by rfl) (by rfl) (by rfl) (by decide) (by decide) ?_ ?_ (by decide))
  · intro C s' Q' E' hq
    iterate 1 (first | walk1 | (dsimp only; walk1))
    rw [show PySem.Str.ofString "7>" = tx [55, 62] by decide]
    exact hq _ _ (by first | exact Nat.le_refl _ | exact Nat.le_succ _)
  iterate 1 (first | walk1 | (dsimp only; walk1))
  rename News _ _ _ _ => N9
  rename Fr _ _ _ _ => F9
  refine ⟨_, _, _, 1, _, NJ (gsOf hgs), rfl, F9, N9, by k_mem, by rw [carriedAll_lenA hgs, List.length_map]; omega, ⟨fun h => absurd h (Nat.lt_irrefl 0), .nil⟩, by assumption, ?_, fun i ys h => NJ_step h, ?_⟩
  · intro i j v c t0 ys h tk oC m₂ C D nw E' hv hc hb0 ht hj hC hmx F₁ N₁
    obtain ⟨bl, tv, hbl, rfl⟩ := carried_at hgs i v hv
    obtain ⟨a0, a1, a2, a3, rfl, q0, q1, q2, q3⟩ := hg4 bl (List.mem_of_getElem? hbl)
    have e1 : (fun z => if z = PySem.Str.ofString "sign" then some (Value.str (tx [c]) t0) else m₂ z) (PySem.Str.ofString "sign") = some (.str (tx [c]) t0) := if_pos rfl
    have e2 : (fun z => if z = PySem.Str.ofString "sign" then some (Value.str (tx [c]) t0) else m₂ z) (PySem.Str.ofString "ballot") = some (.str (tx [a0, a1, a2, a3]) tv) := (if_neg (by decide)).trans hmx
    clear hmx
    generalize (fun z => if z = PySem.Str.ofString "sign" then some (Value.str (tx [c]) t0) else m₂ z) = mm at hC e1 e2
    iterate 6 (first | walk1 | (dsimp only; walk1))
    iterate 4 (first | walk1 | (dsimp only; walk1))
    rw [show PySem.Str.ofString "?" = tx [63] by decide]
    have hc2 : c = 55 ∨ c = 62 := by
      have := List.mem_of_getElem? hc
      simpa using this
    refine PySem.SC.replaceW ?_ ?_ ?_ ?_ (by rw [tx_length]; simp) (by rw [tx_length]; simp) ?_
    · exact Nat.ne_of_gt (Nat.lt_of_le_of_lt (Nat.zero_le _) ht)
    · exact Nat.ne_of_gt hb0
    · exact Nat.ne_of_gt ht
    · rcases hc2 with rfl | rfl <;> decide
    · intro t' k
      rw [txt_repl q0 q1 q2 q3 (List.mem_of_getElem? hc)]
      exact ⟨_, rfl, NJ_turn hj hbl hc⟩
  intro D ys h tk hb hJ F₁ N₁ off
  simp only [LCg.Off1] at off
  dsimp only
  iterate 12 (first | walk1 | (dsimp only; walk1))
  rename News _ _ _ _ => N9
  rename Fr _ _ _ _ => F9
  rename Apart _ _ => hap
  rename CarriedAll _ _ => hgs
  rename ∀ p, p < 4 → _ => hcols
  rename List.length _ = 4 => hyl
  rename List.length _ ≤ 6 => hgn
  k_dflt (refine eval_X0 F9 (by with_unfolding_all rfl) (by decide) (by rfl) (by decide) (by rfl) ?_)
  iterate 1 (first | walk1 | (dsimp only; walk1))
  k_dflt (refine SrcX0.list (b := 0) (LJ (ledOf N9) (gsOf2 hcols)) (by rfl) F9 N9 (by k_mem) (by rw [hyl, sizeLine_eq]; omega) ⟨rfl, [], rfl, rfl⟩ (Nat.zero_le _) ?hm ?_ ?_)
  case hm =>
    rintro i ys nw ⟨rfl, _⟩
    k_mem
  · intro I s₂ i ws nw v h tk oI C oC D m₂ E' hs2 hv hb0 hJ2 hC hmx F₁ N₁ o3 ne
    obtain ⟨g₁, rfl⟩ := hs2
    obtain ⟨rfl, ds, rfl, hds⟩ := hJ2
    have hi4 : i < 4 := by
      have := (List.getElem?_eq_some_iff.mp hv).1
      omega
    obtain ⟨y, hy1, a, tups, rfl, hain, htl, hts⟩ := hcols i hi4
    rw [hv] at hy1
    cases hy1
    refine wpAny_tests_nil ?_
    simp only [if_true]
    iterate 7 (first | walk1 | (dsimp only; walk1))
    k_here
    have hext : ∀ q ∈ extOf hap, q ∈ (I, oI) :: (C, oC) :: (D, LCg.lst (ds.map fun q => Value.str (tx [q.1]) q.2)) :: ledOf N9 := fun q hq => by
      refine List.mem_cons_of_mem _ (List.mem_cons_of_mem _ (List.mem_cons_of_mem _ ?_))
      exact List.mem_append_right [_, _, _, _, _, _, _, _, _, _, _, _] hq
    refine maxT (ks := kvs (gsOf2 hcols) i) (by rfl) (by ktr_units) (by rw [htl]; rfl) (by omega) ⟨_, (N₁ _ (hext _ hain)).1, rfl, _, rfl⟩ (col_pairs N₁ hext hts) ?_
    intro v h' tk' hv' hx'
    have F₂ := F₁.keeps hx'
    have N₂ := N₁.grown hx'
    clear F₁ N₁
    have hbl : bestP (kvs (gsOf2 hcols) i) (tups.length - 1) = bestP (kvs (gsOf2 hcols) i) 3 := by rw [htl]
    rw [hbl] at hv'
    obtain ⟨T, t, u, e1, e2⟩ := hts _ (Nat.lt_succ_of_le (bestP_le (kvs (gsOf2 hcols) i) 3))
    rw [hv'] at e1
    cases e1
    have hTl := hext _ e2
    iterate 2 (first | walk1 | (dsimp only; walk1))
    refine LCg.CompEnd.intro F₂ N₂ _ (fun _ h => h) o3 trivial ⟨rfl, ds ++ [(_, _)], by rw [List.map_append]; rfl, ?_⟩
    rw [List.map_append, hds, List.range_succ, List.map_append]
    rfl
  intro s₂ D ys nw h tk hs2 hb hJ F₁ N₁ off
  obtain ⟨g₁, rfl⟩ := hs2
  obtain ⟨rfl, ds, rfl, hds⟩ := hJ
  rw [hyl] at hds
  iterate 1 (first | walk1 | (dsimp only; walk1))
  k_here
  refine join_signs (News.get N₁ (by k_mem)) (by have := congrArg List.length hds; simp at this; omega) ?_
  intro t1 tk1
  rw [hds]
  have Nd := news_drop N₁
  clear N₁
  iterate 1 (first | walk1 | (dsimp only; walk1))
  k_here
  rename NJ _ _ _ _ => hJ
  refine append_lst (by k_asm) Nd (off1_mem (by assumption)) (NJ_len hgn (carriedAll_len2 hgs) hJ) ?_
  intro h5 F5 N5
  iterate 1 (first | walk1 | (dsimp only; walk1))
  rename CarriedAll _ _ => hgs
  iterate 7 (first | walk1 | (dsimp only; walk1))
  k_dflt (refine eval_X1 (by k_asm) (by with_unfolding_all rfl) (fun _ => by rfl) (fun _ => by rfl) (by rfl) (by decide) (by rfl) ?_)
  iterate 1 (first | walk1 | (dsimp only; walk1))
  rename News _ _ _ _ => N9
  rename Fr _ _ _ _ => F9
  rename IntsAre _ _ => hI
  k_dflt (refine SrcX1.list (b := 0) (XJ (ledOf N9) (nsOf hI)) (by rfl) F9 N9 (by k_mem) (by rw [hI.length, sizeLine_eq]; simp [rangeKs]) ⟨rfl, .nil⟩ (Nat.zero_le _) ?hm ?_ ?_)
  case hm =>
    rintro i ys nw ⟨rfl, _⟩
    k_mem
  · intro I s₂ i ws nw v h t1 oI Cc oc C oC D E' hs2 hv _ hJ2 hC hcd F₁ N₁ o3 o1 ne
    obtain ⟨g₁, rfl⟩ := hs2
    obtain ⟨rfl, hw⟩ := hJ2
    obtain ⟨x, tx0, rfl, hx⟩ := ints_at hI i v hv
    refine wpAny_tests_nil ?_
    simp only [if_true]
    iterate 6 (first | walk1 | (dsimp only; walk1))
    k_dflt (refine LCg.ListComp_U (F₀ := F₁) (by with_unfolding_all rfl) (by decide) (by rfl) (by decide) (by rfl) ?_)
    iterate 7 (first | walk1 | (dsimp only; walk1))
    k_dflt (refine LCg.CompSrc.range (n := 4) (by rfl) (by k_asm) (by k_asm) (by assumption) (by decide) (by decide) (by decide) ?_)
    intro g₂
    refine kct_range (fun k => Mine.tx [namAt x k]) ?_ ?_
    · intro k t I oI C oC D m₂ ys h tk E' hk1 hk2 hC hx F₁ N₁ off ne mk
      have hk4 : k = 0 ∨ k = 1 ∨ k = 2 ∨ k = 3 := by omega
      rcases hk4 with rfl | rfl | rfl | rfl
      all_goals (iterate 13 (first | walk1 | (dsimp only; walk1)))
      all_goals (refine LCg.CompEnd.intro (by assumption) N₁ _ (fun _ h => h) off trivial ?_)
      all_goals exact kct_el (r' := _) (nam_item (x := x)).symm rfl rfl
    · unfold KPfDone
      intro ys hy _
      unfold LCg.FinE
      intro D2 h2 tk2 F2 N2 off2
      obtain ⟨u0, u1, u2, u3, rfl⟩ := carried4 hy
      clear hy
      iterate 1 (first | walk1 | (dsimp only; walk1))
      k_here
      refine join_signs (ds := [(namAt x 0, u0), (namAt x 1, u1), (namAt x 2, u2), (namAt x 3, u3)]) (News.get N2 (by k_mem)) (by simp) ?_
      intro t9 tk9
      refine LCg.CompEnd.intro F2 (news_drop N2) _ (fun _ h => h) o3 trivial ⟨_, rfl, o1, rfl, XJ_snoc hw hx⟩
  intro s₂ hs2
  obtain ⟨g₁, rfl⟩ := hs2
  intro D ys nw h tk hP F₁
  obtain ⟨_, ⟨rfl, hxs⟩, N₁, off⟩ := hP
  rw [hI.length, List.take_length] at hxs
  iterate 1 (first | walk1 | (dsimp only; walk1))
  k_here
  rename NJ _ _ _ _ => hJ
  rename List.length _ ≤ 6 => hgn
  have hnl := NJ_len2 hgn (carriedAll_len2 hgs) hJ
  refine extend_lst F₁ N₁ (off1_mem (by assumption)) (by rw [List.length_append]; simp; omega) (by have := carriedAll_lenA hxs; rw [List.length_map] at this; rw [this]; simp [nsOf, rangeKs]) ?_
  intro h6 n6 F6 N6
  have hnames := names_carried N6 hgs hJ hxs
  generalize (_ ++ [Value.str _ _]) ++ ys = nz at *
  clear N₁ F₁ hxs hJ
  iterate 1 (first | walk1 | (dsimp only; walk1))
  rename CarriedAll _ _ => hnames
  revert hnames
  rename CarriedAll _ _ => hgs
  intro hnames
  rename List.length _ ≤ 6 => hgn
  rename ∀ b, b ∈ _ → Ballot4 b => hg4
  iterate 5 (first | walk1 | (dsimp only; walk1))
  rename News _ _ _ _ => N9
  rename Fr _ _ _ _ => F9
  k_dflt (refine eval_X0 F9 (by with_unfolding_all rfl) (by decide) (by rfl) (by decide) (by rfl) ?_)
  iterate 1 (first | walk1 | (dsimp only; walk1))
  k_dflt (refine SrcX0.list (b := 0) (RJ (ledOf N9) (gsOf hgs)) (by rfl) F9 N9 (by k_mem) (by rw [carriedAll_lenA hgs, List.length_map, sizeLine_eq]; omega) ⟨rfl, .nil⟩ (Nat.zero_le _) ?hm ?_ ?_)
  case hm =>
    rintro i ys nw ⟨rfl, _⟩
    k_mem
  · intro I s₂ i ws nw v h tk oI C oC D m₂ E' hs2 hv hb0 hJ2 hC hmx F₁ N₁ o3 ne
    obtain ⟨g₁, rfl⟩ := hs2
    obtain ⟨rfl, hw⟩ := hJ2
    obtain ⟨bl, tv, hbl, rfl⟩ := carried_at hgs i v hv
    obtain ⟨a0, a1, a2, a3, rfl, q0, q1, q2, q3⟩ := hg4 bl (List.mem_of_getElem? hbl)
    refine wpAny_tests_nil ?_
    simp only [if_true]
    iterate 8 (first | walk1 | (dsimp only; walk1))
    k_dflt (refine' PE.use (num_ok _ _ _ _ _ _ (s5_of q0) (s5_of q1) (s5_of q2) (s5_of q3)) ?kB ?kF ?kX ?kN ?kT ?kk ?kd ?ku ?kp ?_; (case kB => k_asm); (case kF => k_asm); (case kX => k_asm); (case kN => k_asm); (case kT => k_asm); (case kk => rfl); (case kd => ktr_room); (case ku => ktr_units); (case kp => exact trivial); k_whole)
    rintro _ h2 tk2 ⟨t2, rfl⟩ hx2 F2 N2 hnew2
    clear hnew2
    exact LCg.CompEnd.intro F2 N2 _ (fun _ h => h) o3 trivial ⟨rfl, RJ_snoc hw hbl⟩
  intro s₂ D ys nw h tk hs2 hb hJ F₁ N₁ off
  obtain ⟨g₁, rfl⟩ := hs2
  obtain ⟨rfl, hrows⟩ := hJ
  rw [carriedAll_len2 hgs, List.take_length] at hrows
  iterate 2 (first | walk1 | (dsimp only; walk1))
  k_dflt (refine' sort_use hrows ?kl off ?kB ?kF ?kX N₁ ?kT ?kk ?kd ?ku ?_; (case kl => rw [List.length_map]; exact hgn); (case kB => k_asm); (case kF => k_asm); (case kX => k_asm); (case kT => k_asm); (case kk => rfl); (case kd => ktr_room); (case ku => ktr_units); k_whole)
  intro h6 tk6 rs n6 F6 N6 hrs
  have off1 := off1_of off
  clear N₁ hrows F₁ off F9
  simp only [LCg.Off1] at off1
  iterate 1 (first | walk1 | (dsimp only; walk1))
  iterate 1 (first | walk1 | (dsimp only; walk1))
  iterate 1 (first | walk1 | (dsimp only; walk1))
  rename IntsAre _ (sortBits _) => hrs
  rename List.length _ ≤ 6 => hgn
  rename ∀ b, b ∈ _ → Ballot4 b => hg4
  obtain ⟨hrl, hra⟩ := rows_at hgn hg4 hrs
  have hgn' := hgn
  rw [← hrl] at hgn'
  have hgn2 : (vsOf hrs).length ≤ 6 := hgn'
  rename Apart _ _ => hapL
  rename 93 < _ => h93
  k_dflt (refine for_X rfl (by k_asm) (by intro _; rfl) (by intro _ _; rfl) ?_)
  iterate 10 (first | walk1 | (dsimp only; walk1))
  k_here
  rename News _ _ _ _ => N9
  refine kun_lenL (k := ((vsOf hrs).length : Int)) ⟨_, News.get N9 (by k_mem), rfl, _, rfl⟩ (by simp) (by omega) ?_
  iterate 1 (first | walk1 | (dsimp only; walk1))
  iterate 1 (first | walk1 | (dsimp only; walk1))
  rename News _ _ _ _ => N9
  rename Fr _ _ _ _ => F9
  rename IsRange _ _ _ _ _ _ _ _ => hr
  rename IntsAre _ (sortBits _) => hrs
  rename _ = List.length (sortBits _) => he
  generalize hN : List.length (sortBits _) = nN at hr he
  have hsl : nN ≤ 6 := by rw [← he]; exact hgn2
  have hNg : nN = (gsB hg4).length := by rw [← he]; exact hrl
  have hS : ∀ on os ot ok, Solos (reLed (ledOf N9) on os ot ok) 5 6 7 10 := by
    intro on os ot ok
    have hc := cells_solo (o7 := on) (o6 := os) (o5 := ot) (o4 := o4Of N9) (o3 := o3Of N9) (o2 := ok) (o1 := o1Of N9) (o9 := o9Of N9) (ext := extOf hapL) h93 ?_ ?_ ?_ ?_
    · refine Solos.cons (Solos.cons (Solos.cons (Solos.cons (Solos.cons ⟨hc.1, hc.2.1, hc.2.2.1, hc.2.2.2⟩ (off1_app (l := [_, _, _, _, _, _, _, _]) ?_ ?_)) (off1_app (l := [_, _, _, _, _, _, _, _, _]) ?_ ?_)) (off1_mem ?_)) (off1_mem ?_)) (off1_mem ?_)
      · simp only [LCg.Off1, and_true]; first | assumption | (refine And.right (a := ?_) ?_; rotate_left; assumption)
      · refine fun p hp => hapL p hp (_, ?_) ?_; rotate_left; repeat (first | exact List.Mem.head _ | apply List.Mem.tail)
      · simp only [LCg.Off1, and_true]; first | assumption | (refine And.right (a := ?_) ?_; rotate_left; assumption)
      · refine fun p hp => hapL p hp (_, ?_) ?_; rotate_left; repeat (first | exact List.Mem.head _ | apply List.Mem.tail)
      all_goals assumption
    all_goals (refine fun p hp => hapL p hp (_, ?_) ?_; rotate_left; repeat (first | exact List.Mem.head _ | apply List.Mem.tail))
  obtain ⟨base, hbx, hS', N9'⟩ := regroup N9 hS
  obtain ⟨m₀, F9', hmr, hmn, hmv⟩ : ∃ m₀, Fr _ _ _ m₀ ∧ m₀ (PySem.Str.ofString "rows") = some _ ∧ m₀ (PySem.Str.ofString "names") = some _ ∧ m₀ (PySem.Str.ofString "votes") = some _ := ⟨_, F9, rfl, rfl, rfl⟩
  clear hS N9 F9
  k_dflt (refine LoopX.range (n := nN) (OJ m₀ _ _ _ _ _) (by rfl) F9' N9' hr ?hs ?hn ⟨m₀ (PySem.Str.ofString "taken"), _, _, _, _, ⟨_, by assumption⟩, ⟨_, by assumption⟩, ⟨_, by assumption⟩, ⟨_, by assumption⟩, if_taken m₀, rfl⟩ ?_ ?_)
  case hs => exact small_one (by omega) (by omega) (by omega) (by omega)
  case hn => rw [rangeSize_nat]; omega
  rotate_left
  · intro s₂ m nw h tk hs2 hJ F₁ N₁
    obtain ⟨g₁, rfl⟩ := hs2
    obtain ⟨u, on, os, ot, ok, ⟨vn, hvn⟩, ⟨vs, hvs⟩, ⟨vt, hvt⟩, ⟨vk, hvk⟩, rfl, rfl⟩ := hJ
    iterate 3 (first | walk1 | (dsimp only; walk1))
    dsimp only
    walk1
    · k_end; kc_close
    · walk1
  intro I s₂ k m nw t h t1 oI E' hs2 hk hJ F₁ N₁ off
  obtain ⟨g₁, rfl⟩ := hs2
  obtain ⟨u, on, os, ot, ok, ⟨vn, hvn⟩, ⟨vs, hvs⟩, ⟨vt, hvt⟩, ⟨vk, hvk⟩, hm, rfl⟩ := hJ
  have emr := (congrFun hm (PySem.Str.ofString "rows")).trans ((if_neg (by decide)).trans hmr)
  have emn := (congrFun hm (PySem.Str.ofString "names")).trans ((if_neg (by decide)).trans hmn)
  have emv := (congrFun hm (PySem.Str.ofString "votes")).trans ((if_neg (by decide)).trans hmv)
  have hkG : k < (gsB hg4).length := by rw [← hNg]; exact hk
  have hS1 := Solos.cons (x := (I, oI)) (hS' on os ot ok) off
  have offI := off1_of off
  clear off hS' hgn2 hgn' hmr hmn hmv
  iterate 1 (first | walk1 | (dsimp only; walk1))
  rename News _ _ _ _ => N9
  rename Fr _ _ _ _ => F9
  rename Solos _ _ _ _ _ => hS
  k_here
  refine store_cell F9 N9 (i := 4) (by rfl) hS.sd (by rfl) (by assumption) (by rfl) (by rfl) ?_
  intro h2 ok2 F2 N2 dk2
  have hS2 := hS.set (j := 4) (o' := ok2) (by rfl)
  dsimp only [List.set] at N2 hS2
  clear F9 N9 hS
  iterate 19 (first | walk1 | (dsimp only; walk1))
  rename List.length _ ≤ 6 => hgn
  rename ∀ b, b ∈ _ → Ballot4 b => hg4
  rename _ < List.length _ => hkG
  have hkN : kOf dk2 < (gsB hg4).length := hkG
  k_here
  refine big_numE (rows_getD hgn hg4 hkN) (thr_lt _ _ _) (thr_lt _ _ _) (thr_lt _ _ _) (thr_lt _ _ _) ?_
  intro tb kb
  iterate 5 (first | walk1 | (dsimp only; walk1))
  k_here
  refine deco_call (thr_lt _ _ _) (thr_lt _ _ _) (thr_lt _ _ _) (thr_lt _ _ _) ?_
  intro tc kc
  iterate 2 (first | walk1 | (dsimp only; walk1))
  k_dflt (refine' PE.use (trans_pe _ [thr (gsB hg4) 0 (kOf dk2), thr (gsB hg4) 1 (kOf dk2), thr (gsB hg4) 2 (kOf dk2), thr (gsB hg4) 3 (kOf dk2)] _ (row_range (gsB hg4) (kOf dk2)) (by simp)) ?kB ?kF ?kX ?kN ?kT ?kk ?kd ?ku ?kp ?_; (case kB => k_asm); (case kF => k_asm); (case kX => k_asm); (case kN => k_asm); (case kT => k_asm); (case kk => rfl); (case kd => ktr_room); (case ku => ktr_units); (case kp => exact trivial); k_whole)
  rintro _ h3 tk3 ⟨t3, rfl⟩ hx3 F3 N3 hnew3
  clear hnew3
  rw [told_t11]
  rename Fr _ _ _ _ => F3
  rename News _ _ _ _ => N3
  k_here
  refine store_cell F3 N3 (i := 3) (by rfl) hS2.sc (by rfl) (by assumption) (by rfl) (by rfl) ?_
  intro h4 ot2 F4 N4 dt2
  have hS4 := hS2.set (j := 3) (o' := ot2) (by rfl)
  dsimp only [List.set] at N4 hS4
  clear F3 N3 hS2
  iterate 1 (first | walk1 | (dsimp only; walk1))
  rename _ = Data.cell (some (Value.str (tx (t11 _ _ _ _)) _)) => dt
  iterate 10 (first | walk1 | (dsimp only; walk1))
  k_here
  rename Fr _ _ _ _ => F9
  rename News _ _ _ _ => N9
  refine slice_strN_ns (hsz := t11_size _ _ _ _) (s := ⟨_, _, _, _, _⟩) F9 N9 ?_
  intro h2 t2 k2 F2 N2
  rw [slice_head]
  clear F9 N9
  iterate 2 (first | walk1 | (dsimp only; walk1))
  rw [show (tx [40, 63, 115, 58] != PySem.Str.ofString "(?s:") = false by decide]
  iterate 13 (first | walk1 | (dsimp only; walk1))
  k_here
  refine slice_strN_sn (hsz := t11_size _ _ _ _) (s := ⟨_, _, _, _, _⟩) F2 N2 ?_
  intro h3 t3 k3 F3 N3
  rw [slice_tail]
  clear F2 N2
  iterate 2 (first | walk1 | (dsimp only; walk1))
  rw [show (tx [41, 92, 90] != PySem.Str.ofString ")\\Z") = false by decide]
  iterate 10 (first | walk1 | (dsimp only; walk1))
  k_here
  refine len_tx (by simp [t11]) ?_
  intro t4 k4
  rw [show (((t11 (pc _) (pc _) (pc _) (pc _)).length : Nat) : Int) = 11 from rfl]
  iterate 2 (first | walk1 | (dsimp only; walk1))
  rw [show ((11 : Int) != 11) = false from rfl]
  iterate 6 (first | walk1 | (dsimp only; walk1))
  iterate 1 (first | walk1 | (dsimp only; walk1))
  rename Fr _ _ _ _ => F9
  rename News _ _ _ _ => N9
  rename ∀ p, p < 4 → _ => hcols
  rename _ = 4 => hyl
  rename Apart _ _ => hap
  rename ∀ q, q ∈ _ → q ∈ _ => hbx
  rename _ = Data.cell (some (Value.int _ _)) => dk2
  iterate 1 (first | walk1 | (dsimp only; walk1))
  k_dflt (refine eval_X0 F9 (by with_unfolding_all rfl) (by decide) (by rfl) (by decide) (by rfl) ?_)
  iterate 1 (first | walk1 | (dsimp only; walk1))
  rename Fr _ _ _ _ => F9
  k_dflt (refine SrcX0.list (b := 0) (TJ (ledOf N9) (gsOf2 hcols) (kOf dk2)) (by rfl) F9 N9 (by k_mem) (by rw [hyl, sizeLine_eq]; omega) ⟨rfl, .nil⟩ (Nat.zero_le _) ?hm ?_ ?_)
  case hm =>
    rintro i ys nw ⟨rfl, _⟩
    k_mem
  · intro I s₂ i ws nw v h tk oI C oC D m₂ E' hs2 hv hb0 hJ2 hC hmx F₁ N₁ o3 ne
    obtain ⟨g₁, rfl⟩ := hs2
    obtain ⟨rfl, hw⟩ := hJ2
    have hi4 : i < 4 := by
      have := (List.getElem?_eq_some_iff.mp hv).1
      rwa [hyl] at this
    obtain ⟨y, hy1, a, tups, rfl, hain, htl, hts⟩ := hcols i hi4
    rw [hv] at hy1
    cases hy1
    refine wpAny_tests_nil ?_
    simp only [if_true]
    iterate 6 (first | walk1 | (dsimp only; walk1))
    have hext : ∀ q ∈ extOf hap, q ∈ (I, oI) :: (C, oC) :: (D, LCg.lst ws) :: ledOf N9 := fun q hq => by
      refine List.mem_cons_of_mem _ (List.mem_cons_of_mem _ (List.mem_cons_of_mem _ ?_))
      exact List.mem_cons_of_mem _ (List.mem_cons_of_mem _ (List.mem_cons_of_mem _ (List.mem_cons_of_mem _ (List.mem_cons_of_mem _ (List.mem_cons_of_mem _ (List.mem_cons_of_mem _ (List.mem_cons_of_mem _ (List.mem_cons_of_mem _ (hbx q hq)))))))))
    k_here
    k_dflt (refine eval_XP F₁ (by with_unfolding_all rfl) (by decide) (by rfl) (by decide) (by rfl) (by rfl) (by decide) ?_)
    iterate 1 (first | walk1 | (dsimp only; walk1))
    refine ⟨a, tups, _, _, PJ (gsOf2 hcols) i (kOf dk2), rfl, by rfl, by rw [htl, sizeLine_eq]; decide, hext _ hain, ?_, F₁, N₁, ⟨[], rfl, rfl⟩, ?_, ?_⟩
    · intro j v hj
      have hj4 : j < 4 := by
        have := (List.getElem?_eq_some_iff.mp hj).1
        rwa [htl] at this
      obtain ⟨T, tt, uu, e1, e2⟩ := hts j hj4
      rw [hj] at e1
      cases e1
      exact ⟨T, _, _, rfl, hext _ e2⟩
    · intro s₃ j ys T v₁ v₂ h3 tk3 I3 oI3 C3 oC3 D3 m3 E3 hs3 hj hT hJ3 hC3 ha3 hb3 F₃ N₃ o33 ne3
      obtain ⟨g₃, rfl⟩ := hs3
      have hj4 : j < 4 := by
        have := (List.getElem?_eq_some_iff.mp hj).1
        rwa [htl] at this
      obtain ⟨T', tt, uu, e1, e2⟩ := hts j hj4
      rw [hj] at e1
      cases e1
      obtain ⟨rfl, rfl⟩ := pair_same N₁ hT (hext _ e2)
      iterate 5 (first | walk1 | (dsimp only; walk1))
      by_cases hkc : kOf dk2 < cnt (gsOf2 hcols) i (sg j)
      · rw [if_pos (decide_eq_true (Int.ofNat_lt.mpr hkc))]
        iterate 1 (first | walk1 | (dsimp only; walk1))
        obtain ⟨ds, rfl, hds⟩ := hJ3
        exact LCg.CompEnd.intro F₃ N₃ _ (fun _ h => h) o33 trivial ⟨rfl, PJ_yes hds hj4 hkc⟩
      · rw [if_neg (fun q => hkc (Int.ofNat_lt.mp (of_decide_eq_true q)))]
        exact LCg.CompEnd.intro F₃ N₃ _ (fun _ h => h) o33 trivial ⟨rfl, PJ_no hJ3 hj4 hkc⟩
    · intro s₃ D3 ys h3 tk3 hs3 hJ3 F₃ N₃ off3
      obtain ⟨g₃, rfl⟩ := hs3
      obtain ⟨ds, rfl, hds⟩ := hJ3
      rw [htl] at hds
      iterate 1 (first | walk1 | (dsimp only; walk1))
      k_here
      refine join_signs (News.get N₃ List.mem_cons_self) (PJ_len hds) ?_
      intro t9 tk9
      rw [hds]
      exact LCg.CompEnd.intro F₃ (news_drop N₃) _ (fun _ h => h) o3 trivial ⟨rfl, TJ_snoc hw⟩
  intro s₂ D ys nw h tk hs2 hb hJ F₁ N₁ off
  obtain ⟨g₁, rfl⟩ := hs2
  obtain ⟨rfl, hst⟩ := hJ
  rw [hyl] at hst
  rename Solos _ _ _ _ _ => hS
  have hS5 := Solos.cons (x := (D, LCg.lst ys)) hS off
  clear hS off
  k_here
  refine store_cell F₁ N₁ (i := 3) (by rfl) hS5.sb (by rfl) (by assumption) (by rfl) (by rfl) ?_
  intro h4 os2 F4 N4 ds2
  have hS6 := hS5.set (j := 3) (o' := os2) (by rfl)
  dsimp only [List.set] at N4 hS6
  clear F₁ N₁ hS5
  dsimp only
  iterate 1 (first | walk1 | (dsimp only; walk1))
  rename Fr _ _ _ _ => F9
  rename News _ _ _ _ => N9
  rename Solos _ _ _ _ _ => hS
  rename CarriedAll _ (List.map _ (List.range 4)) => hstr
  revert hstr
  rename CarriedAll _ (List.map _ (allNm _ _)) => hnames
  intro hstr
  rename ∀ b, b ∈ _ → Ballot4 b => hg4
  k_dflt (refine for_X rfl F9 (by intro _; rfl) (by intro _ _; rfl) ?_)
  iterate 1 (first | walk1 | (dsimp only; walk1))
  have hSN : ∀ on, Solos (reN (ledOf N9) on) 2 3 4 5 := fun on => hS.set (j := 2) (o' := on) (by rfl)
  rename Fr _ _ _ _ => F9
  k_dflt (refine LoopX.list (IJ (mOf F9) (ledOf N9)) (by rfl) F9 N9 (by k_mem) ?hJ0 ?hm0 ?_ ?_)
  case hJ0 =>
    refine ⟨mOf F9 (PySem.Str.ofString "taken"), _, ?qa, ?qb, rfl⟩
    case qa => exact ⟨_, by assumption⟩
    case qb => exact if_taken _
  case hm0 =>
    rintro i m nw ⟨u, on, _, _, rfl⟩
    dsimp only [reN, ledOf]
    k_mem
  rotate_left
  · intro s₂ m nw h tk hs2 hJ F₁ N₁
    obtain ⟨g₁, rfl⟩ := hs2
    obtain ⟨u, on, hon, rfl, rfl⟩ := hJ
    dsimp only [reN, ledOf] at N₁
    iterate 1 (first | walk1 | (dsimp only; walk1))
    exact outer_end F₁ (by assumption) N₁ hon (by assumption) (by assumption) (by assumption) (off1_mem offI)
  intro I2 s₂ i m nw v h t1 oI2 E' hs2 hv hJ F₁ N₁ off
  obtain ⟨g₁, rfl⟩ := hs2
  obtain ⟨u, on, ⟨vn, hon⟩, rfl, rfl⟩ := hJ
  obtain ⟨nm0, tn, hnm, rfl⟩ := carried_at hnames i v hv
  obtain ⟨c0, c1, c2, c3, rfl, q0, q1, q2, q3⟩ := all_names hg4 nm0 (List.mem_of_getElem? hnm)
  have hS1 := Solos.cons (x := (I2, oI2)) (hSN on) off
  have offN := off1_of off
  clear off hSN
  dsimp only [reN, ledOf] at N₁ hS1
  iterate 1 (first | walk1 | (dsimp only; walk1))
  k_here
  refine store_cell F₁ N₁ (i := 3) (by rfl) hS1.sa (by rfl) (by assumption) (by rfl) (by rfl) ?_
  intro h4 on2 F4 N4 dn2
  have hS6 := hS1.set (j := 3) (o' := on2) (by rfl)
  dsimp only [List.set] at N4 hS6
  clear F₁ N₁ hS1
  iterate 1 (first | walk1 | (dsimp only; walk1))
  iterate 2 (first | walk1 | (dsimp only; walk1))
  rename Fr _ _ _ _ => F9
  rename News _ _ _ _ => N9
  rename _ = Data.cell (some (Value.str (tx (t11 _ _ _ _)) _)) => dt
  rename _ = Data.cell (some (Value.str (tx [_, _, _, _]) _)) => dn
  rename _ = Data.cell (some (Value.int _ _)) => dk
  rename ∀ b, b ∈ _ → Ballot4 b => hg4
  k_dflt (refine eval_X0 F9 (by with_unfolding_all rfl) (by decide) (by rfl) (by decide) (by rfl) ?_)
  iterate 7 (first | walk1 | (dsimp only; walk1))
  rename Fr _ _ _ _ => F8
  rename News _ _ _ _ => N8
  rename IsRange _ _ _ _ _ _ _ _ => hr
  k_dflt (refine SrcX0.range (n := 4) (KJ (ledOf N8) (barB (gsB hg4) (kOf dk) (csOf dn))) (by rfl) F8 N8 hr (by decide) (by decide) (by decide) ⟨rfl, rfl⟩ ?_ ?_)
  · intro I s₂ i ws nw t h tk oI C oC D m₂ E' hs2 hi4 hJ2 hC hmx F₁ N₁ o3 ne
    obtain ⟨g₁, rfl⟩ := hs2
    obtain ⟨rfl, hw⟩ := hJ2
    refine wpAny_tests_one ?_
    iterate 7 (first | walk1 | (dsimp only; walk1))
    k_here
    refine getItem_tx (idx4 hi4).1 (idx4 hi4).2 (show 11 ≤ 100000 by decide) ?_
    intro t5 k5
    rw [t11_at _ _ _ hi4]
    iterate 5 (first | walk1 | (dsimp only; walk1))
    k_here
    refine getItem_tx (Int.natCast_nonneg i) (show (i : Int) < ((4 : Nat) : Int) from Int.ofNat_lt.mpr hi4) (show 4 ≤ 100000 by decide) ?_
    intro t6 k6
    iterate 1 (first | walk1 | (dsimp only; walk1))
    rw [dot_tx, Int.toNat_natCast]
    iterate 2 (first | walk1 | (dsimp only; walk1))
    rw [bar_occ (gsB hg4) (kOf dk) (csOf dn) i]
    by_cases hb : barB (gsB hg4) (kOf dk) (csOf dn) i = true
    · rw [if_pos hb]
      iterate 1 (first | walk1 | (dsimp only; walk1))
      exact LCg.CompEnd.intro F₁ N₁ _ (fun _ h => h) o3 trivial (KJ_yes rfl hb)
    · rw [if_neg hb]
      exact LCg.CompEnd.intro F₁ N₁ _ (fun _ h => h) o3 trivial (KJ_no ⟨rfl, hw⟩ (Bool.not_eq_true _ ▸ hb))
  intro s₂ D ys nw h tk hs2 hJ F₁ N₁ off
  obtain ⟨g₁, rfl⟩ := hs2
  obtain ⟨rfl, hys⟩ := hJ
  iterate 2 (first | walk1 | (dsimp only; walk1))
  iterate 1 (first | walk1 | (dsimp only; walk1))
  rename Fr _ _ _ _ => F7
  rename News _ _ _ _ => N7
  k_here
  refine eq_nil (News.get N7 (by k_mem)) (News.get N7 (by k_mem)) (by ktr_units) ?_
  rw [hys]
  have Nd : News _ _ _ (ledOf N8) := fun p hp => N7 p (by first | exact List.mem_append_right _ (List.mem_cons_of_mem _ hp) | exact List.mem_cons_of_mem _ (List.mem_cons_of_mem _ hp) | exact List.mem_append_left _ (List.mem_cons_of_mem _ hp))
  rename _ ∧ _ => l1
  clear N7 l1 hys
  iterate 1 (first | walk1 | (dsimp only; walk1))
  iterate 1 (first | walk1 | (dsimp only; walk1))
  iterate 5 (first | walk1 | (dsimp only; walk1))
  rename Fr _ _ _ _ => F9
  rename News _ _ _ _ => N9
  rename _ = Data.cell (some (Value.str (tx [_, _, _, _]) _)) => dn
  rename _ = Data.cell (some (Value.int _ _)) => dk
  rename ∀ b, b ∈ _ → Ballot4 b => hg4
  rename CarriedAll _ (List.map _ (List.range 4)) => hstr
  k_dflt (refine eval_X0 F9 (by with_unfolding_all rfl) (by decide) (by rfl) (by decide) (by rfl) ?_)
  iterate 7 (first | walk1 | (dsimp only; walk1))
  rename Fr _ _ _ _ => F8
  rename News _ _ _ _ => N8
  rename IsRange _ _ _ _ _ _ _ _ => hr
  k_dflt (refine SrcX0.range (n := 4) (KJ (ledOf N8) (barS (gsB hg4) (kOf dk) (csOf dn))) (by rfl) F8 N8 hr (by decide) (by decide) (by decide) ⟨rfl, rfl⟩ ?_ ?_)
  · intro I s₂ i ws nw t h tk oI C oC D m₂ E' hs2 hi4 hJ2 hC hmx F₁ N₁ o3 ne
    obtain ⟨g₁, rfl⟩ := hs2
    obtain ⟨rfl, hw⟩ := hJ2
    refine wpAny_tests_one ?_
    iterate 4 (first | walk1 | (dsimp only; walk1))
    obtain ⟨ts, hts⟩ := strong_at hstr hi4
    k_here
    refine item_lst (News.get N₁ (by k_mem)) (Nat.le_trans (Nat.le_of_lt hi4) (by decide)) hts ?_
    iterate 7 (first | walk1 | (dsimp only; walk1))
    k_here
    refine getItem_tx (Int.natCast_nonneg i) (show (i : Int) < ((4 : Nat) : Int) from Int.ofNat_lt.mpr hi4) (show 4 ≤ 100000 by decide) ?_
    intro t6 k6
    rw [Int.toNat_natCast]
    iterate 2 (first | walk1 | (dsimp only; walk1))
    rename Fr _ _ _ _ => F5
    rename News _ _ _ _ => N5
    k_here
    refine notIn_two (News.get N5 List.mem_cons_self) ?_
    iterate 1 (first | walk1 | (dsimp only; walk1))
    by_cases hb : barS (gsB hg4) (kOf dk) (csOf dn) i = true
    · rw [if_pos (show (!(_ || _)) = true from hb)]
      iterate 1 (first | walk1 | (dsimp only; walk1))
      exact LCg.CompEnd.intro F5 N5 _ (fun _ h => List.mem_cons_of_mem _ h) o3 trivial (KJ_yes rfl hb)
    · rw [if_neg (show ¬ (!(_ || _)) = true from hb)]
      exact LCg.CompEnd.intro F5 N5 _ (fun _ h => List.mem_cons_of_mem _ h) o3 trivial (KJ_no ⟨rfl, hw⟩ (Bool.not_eq_true _ ▸ hb))
  intro s₂ D ys nw h tk hs2 hJ F₁ N₁ off
  obtain ⟨g₁, rfl⟩ := hs2
  obtain ⟨rfl, hys⟩ := hJ
  iterate 2 (first | walk1 | (dsimp only; walk1))
  iterate 1 (first | walk1 | (dsimp only; walk1))
  rename Fr _ _ _ _ => F7
  rename News _ _ _ _ => N7
  k_here
  refine eq_nil (News.get N7 (by k_mem)) (News.get N7 (by k_mem)) (by ktr_units) ?_
  rw [hys]
  have Nd : News _ _ _ (ledOf N8) := fun p hp => N7 p (by first | exact List.mem_append_right _ (List.mem_cons_of_mem _ hp) | exact List.mem_cons_of_mem _ (List.mem_cons_of_mem _ hp) | exact List.mem_append_left _ (List.mem_cons_of_mem _ hp))
  rename _ ∧ _ => l1
  clear N7 l1 hys
  iterate 1 (first | walk1 | (dsimp only; walk1))
  rw [bars_same (gs := gsB hg4) (k := kOf dk) (by assumption) (by assumption) (by assumption) (by assumption)]
  iterate 4 (first | walk1 | (dsimp only; walk1))
  iterate 1 (first | walk1 | (dsimp only; walk1))
  rename LCg.Off1 _ (reN _ _) => offN
  exact inner_end (by assumption) Nd rfl (by assumption) (off1_mem offN)
end
end Mine

theorem PySem.Challenge.cw_in0262_01_holds : PySem.Challenge.rw_in0262_01.Holds :=
  Mine.law_all
