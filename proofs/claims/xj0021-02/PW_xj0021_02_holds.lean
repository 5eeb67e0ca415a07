import PyProof.Rows.All
import Wide.All
import OpenK.AllK
import Wide.FinOn
import Lean
import PySem.Challenge.RW_xj0021_02
open PySem PySem.W PyProof.Rows PySem.Spec PySem.Calls
set_option Elab.async false
set_option compiler.extract_closed false
set_option linter.all false
set_option maxRecDepth 100000
set_option maxHeartbeats 8000000

-- MToks
namespace Mine
theorem runs_toks {M : Model} {Γ : PySem.Ctx} {p : Pos} {t : Sem PySem.Fin} {fs : List PySem.Frame} {s s' : Shared} {e : End} (h : Runs M Γ p t fs s e s') : s.toks ≤ s'.toks := by
  induction h <;> (try simp only [Shared.setGen] at *) <;> first | omega | exact Nat.le_refl _ | exact Nat.le_trans (by assumption) (by assumption) | (simp_all <;> omega) | skip
theorem wakes_toks {M : Model} {Γ : PySem.Ctx} {p : Pos} {g : Nat} {r : Resume} {s s' : Shared} {res : GenResult} (h : Wakes M Γ p g r s res s') : s.toks ≤ s'.toks := by
  unfold Wakes at h
  repeat' split at h
  all_goals (first | exact h.elim | (obtain ⟨_, rfl⟩ := h; exact Nat.le_refl _) | (obtain ⟨_, _, hr, _, _, rfl⟩ := h; have := runs_toks hr; exact this) | skip)
theorem wp_toks {α : Type} {M : Model} {Γ : PySem.Ctx} {n : Nat} {Q : α → Pos → Shared → Prop} {E : Value → Pos → Shared → Prop} : ∀ (t : Sem α) (p : Pos) (s : Shared), n ≤ s.toks →
    Sem.wp M Γ t (fun a p s' => n ≤ s'.toks → Q a p s') (fun e p s' => n ≤ s'.toks → E e p s') p s → Sem.wp M Γ t Q E p s
  | .pure _, _, _, h, k => k h
  | .raise _, _, _, h, k => k h
  | .unsupported _, _, _, _, k => k
  | .finish _, _, _, _, k => k
  | .rule _ f, _, _, h, k => wp_toks (f ()) _ _ h k
  | .at _ f, _, _, h, k => wp_toks (f ()) _ _ h k
  | .load _ _ f, _, _, h, ⟨o, e, k⟩ => ⟨o, e, wp_toks (f o) _ _ h k⟩
  | .update _ _ _ f, _, _, h, ⟨e, k⟩ => ⟨e, wp_toks (f ()) _ _ h k⟩
  | .loadIfAlive _ f, _, _, h, k => wp_toks (f _) _ _ h k
  | .point _ f, _, _, h, k => wp_toks (f ()) _ _ h k
  | .register _ _, _, _, _, k => k
  | .alloc _ f, _, _, h, k => wp_toks (f _) _ _ h k
  | .fresh f, _, s, h, k => wp_toks (f _) _ { s with toks := s.toks + 1 } (Nat.le_succ_of_le h) k
  | .ask f, _, _, h, k => wp_toks (f _) _ _ h k
  | .choose _ _ f, _, _, h, ⟨e, k⟩ => ⟨e, wp_toks (f _) _ _ h k⟩
  | .os _ _ f, _, _, h, k => wp_toks (f _) _ _ h k
  | .call _ _ _ _ f, _, _, h, ⟨r, s', hr, k⟩ => ⟨r, s', hr, wp_toks (f r) _ _ (Nat.le_trans h (runs_toks hr)) k⟩
  | .handled _ f, _, _, h, k => wp_toks (f _) _ _ h k
  | .genState _ f, _, _, h, ⟨st, e, k⟩ => ⟨st, e, wp_toks (f _) _ _ h k⟩
  | .newGen _ f, _, _, h, k => wp_toks (f _) _ _ h k
  | .resume _ _ _ f, _, _, h, ⟨r, s', hw, k⟩ => ⟨r, s', hw, wp_toks (f _) _ _ (Nat.le_trans h (wakes_toks hw)) k⟩
  | .yield .., _, _, _, k => k
  | .stack f, _, _, h, k => wp_toks (f _) _ _ h k
  | .fork .., _, _, _, k => k
  | .thread f, _, _, h, k => wp_toks (f _) _ _ h k
  | .await .., _, _, _, k => k
theorem wpAny_toks {α : Type} {M : Model} {A : Around} {t : Sem α} {Q : α → Shared → Prop} {E : Value → Shared → Prop} {s : Shared}
    (h : wpAny M A t (fun v s' => s.toks ≤ s'.toks → Q v s') E s) : wpAny M A t Q E s := fun Γ p hΓ =>
  wp_toks t p s (Nat.le_refl _) (Sem.wp_mono M Γ t (post := fun v _ s' => s.toks ≤ s'.toks → Q v s') (exc := fun e _ s' => E e s') (exc' := fun e _ s' => s.toks ≤ s'.toks → E e s') (fun _ _ _ x => x) (fun _ _ _ x _ => x) p s (h Γ p hΓ))
section
variable {prog : Program} {w : World} {A : Around} {E : Value → Shared → Prop} {s : Shared} {x y z : Str} {t u v : Tok} {Q : Value → Shared → Prop}
theorem replaceT (hu : @LT.lt Nat instLTNat 0 u) (huv : @LT.lt Nat instLTNat u v) (hyz : (y == z) = false) (hx : x.length ≤ 1048576) (hz : z.length ≤ 14)
    (hq : ∀ t' k, s.toks ≤ k → Q (.str (Txt.replace x y z) t') { s with toks := k }) : wpAny (model prog w) A (call (.builtin "str.replace") [.str x t, .str y u, .str z v]) Q E s :=
  wpAny_toks (SC.replaceW (Nat.ne_of_gt hu) (Nat.ne_of_gt (Nat.lt_trans hu huv)) (Nat.ne_of_lt huv) hyz hx hz fun t' k h => hq t' k h)
theorem cutNext {st : Stmt} {env : Env} {Q : Flow → Shared → Prop} (Post : Shared → Prop) (h1 : ∀ Q' : Flow → Shared → Prop, (∀ s', Post s' → Q' .next s') → wpAny (model prog w) A (exec st env) Q' E s) (h2 : ∀ s', Post s' → Q .next s') :
    wpAny (model prog w) A (exec st env) Q E s := h1 Q h2
end
end Mine

-- MRep
section
namespace Mine
open Builtin Builtin.Str StrLaws
/-- replace, on signs -/
noncomputable def rep (y z : List Nat) : Nat → List Nat → List Nat
  | _, [] => []
  | k + 1, _ :: l => rep y z k l
  | 0, c :: l => if (c :: l).take y.length = y then z ++ rep y z (y.length - 1) l else c :: rep y z 0 l
theorem rep_skip (y z : List Nat) : ∀ (k : Nat) (l : List Nat), rep y z k l = rep y z 0 (l.drop k)
  | 0, _ => rfl
  | _ + 1, [] => rfl
  | k + 1, _ :: l => rep_skip y z k l
theorem rep_hit {y z l : List Nat} (hy : 1 ≤ y.length) (h : l.take y.length = y) : rep y z 0 l = z ++ rep y z 0 (l.drop y.length) := by
  cases l with
  | nil => rw [List.take_nil] at h; subst h; simp at hy
  | cons c l =>
    show (if (c :: l).take y.length = y then z ++ rep y z (y.length - 1) l else c :: rep y z 0 l) = _
    rw [if_pos h, rep_skip]
    obtain ⟨k, hk⟩ : ∃ k, y.length = k + 1 := ⟨y.length - 1, by omega⟩
    rw [hk]; rfl
theorem rep_miss {y z l : List Nat} {c : Nat} (h : (c :: l).take y.length ≠ y) : rep y z 0 (c :: l) = c :: rep y z 0 l := by
  show (if (c :: l).take y.length = y then z ++ rep y z (y.length - 1) l else c :: rep y z 0 l) = _
  rw [if_neg h]
theorem at_iff {x y : Str} {k : Nat} (hy : 1 ≤ y.length) : At x y x.length k ↔ (x.cps.toList.drop k).take y.length = y.cps.toList := by
  unfold At
  rw [subAt_eq, beq_iff_eq]
  constructor
  · exact fun h => h.2
  · intro h
    refine ⟨?_, h⟩
    have := congrArg List.length h
    simp only [List.length_take, List.length_drop, Array.length_toList] at this
    have e1 : y.cps.size = y.length := rfl
    have e2 : x.cps.size = x.length := rfl
    omega
theorem rep_to {x y : Str} {z : List Nat} (hy : 1 ≤ y.length) {c : Nat} : ∀ (m a : Nat), a + m = c → c ≤ x.length → (∀ k, a ≤ k → k < c → ¬ At x y x.length k) →
    rep y.cps.toList z 0 (x.cps.toList.drop a) = (x.cps.toList.drop a).take m ++ rep y.cps.toList z 0 (x.cps.toList.drop c)
  | 0, a, h, _, _ => by rw [show a = c by omega]; simp
  | m + 1, a, h, hc, hn => by
    have hl : a < x.cps.toList.length := by simp only [Array.length_toList]; show a < x.length; omega
    have ih := rep_to (z := z) hy m (a + 1) (by omega) hc fun k h1 h2 => hn k (by omega) h2
    rw [List.drop_eq_getElem_cons hl]
    have hm := hn a (Nat.le_refl _) (by omega)
    rw [at_iff hy, List.drop_eq_getElem_cons hl] at hm
    rw [rep_miss hm, ih, List.take_succ_cons, List.cons_append]
theorem rep_parts {x y z : Str} (hy : 1 ≤ y.length) : ∀ (cuts : List Nat) (a f : Nat), ChainG x y x.length a cuts f → (∀ k, f ≤ k → ¬ At x y x.length k) → a ≤ x.length →
    (Str.join z (partsFrom x y.length a cuts)).cps.toList = rep y.cps.toList z.cps.toList 0 (x.cps.toList.drop a)
  | [], a, f, h, hn, ha => by
    have e : f = a := h
    subst e
    have := rep_to (x := x) (z := z.cps.toList) hy (c := x.length) (x.length - f) f (by omega) (Nat.le_refl _) fun k h1 _ => hn k h1
    rw [this]
    show (strSub x f x.length).cps.toList = _
    rw [strSub_toList]
    have e2 : x.cps.toList.drop x.length = [] := List.drop_eq_nil_of_le (by simp only [Array.length_toList]; exact Nat.le_refl _)
    rw [e2]
    simp [rep]
  | c :: r, a, f, h, hn, ha => by
    obtain ⟨h1, h2, h3, h4⟩ := h
    have hc : c + y.length ≤ x.length := h2.1
    have ih := rep_parts (z := z) hy r _ f h4 hn hc
    have := rep_to (x := x) (z := z.cps.toList) hy (c := c) (c - a) a (by omega) (by omega) h3
    rw [this, rep_hit (by exact hy) ((at_iff hy).mp h2)]
    have e3 : (y.cps.toList).length = y.length := Array.length_toList
    rw [List.drop_drop, e3]
    rw [← ih]
    obtain ⟨p, q, hp⟩ := partsFrom_ne x y.length (c + y.length) r
    show (Str.join z (strSub x a c :: partsFrom x y.length (c + y.length) r)).cps.toList = _
    rw [hp]
    show (strSub x a c ++ z ++ Str.join z (p :: q)).cps.toList = _
    rw [Str.cps_append, Str.cps_append, Array.toList_append, Array.toList_append, strSub_toList, List.append_assoc]
theorem replace_rep (x y z : Str) (hy : 1 ≤ y.length) : (Txt.replace x y z).cps.toList = rep y.cps.toList z.cps.toList 0 x.cps.toList := by
  obtain ⟨f, hc, hn⟩ := occ_tight x y hy
  have key := rep_parts (z := z) hy _ _ f hc hn (Nat.zero_le _)
  rw [List.drop_zero] at key
  unfold Txt.replace
  split
  · rename_i h
    rw [Bool.or_eq_true] at h
    rcases h with h | h
    · rw [List.isEmpty_iff.mp h] at key
      rw [← key]
      show _ = (strSub x 0 x.length).cps.toList
      rw [sub_whole]
    · rw [Bool.and_eq_true, beq_iff_eq] at h
      omega
  · rw [partsBetween_eq, glued_eq_join]
    exact key
end Mine

end
-- MBase
namespace Mine
noncomputable abbrev Cells := List (Addr × Obj)
noncomputable abbrev arT (dp un : Nat) (gd : Option (List Code)) (fr : List Env) : Around := { handled := none, depth := dp, frames := some fr, guards := gd, units := un }

/-- what stands in h: all of the base, and the owned cells, which are none of the base's -/
structure Sits (h₀ h : Heap) (own : Cells) : Prop where
  keep : ∀ b o, h₀.get? b = some o → h.get? b = some o
  own : ∀ p ∈ own, h.get? p.1 = some p.2 ∧ h₀.get? p.1 = none

/-- the text's own part stands -/
structure Gd (K : Frag) (h₀ : Heap) : Prop where
  X : K.In h₀
  T : ∃ p loose mean mg mb, Top p loose mean mg mb h₀
  C : CodeHd h₀ 214 210
theorem Gd.keeps {K : Frag} {h h' : Heap} (G : Gd K h) (k : ∀ b o, h.get? b = some o → h'.get? b = some o) : Gd K h' := by
  obtain ⟨X, ⟨p, l, e, mg, mb, T⟩, C⟩ := G
  exact ⟨X.keeps k, ⟨p, l, e, mg, mb, T.keeps k⟩, C.keeps k⟩
theorem Gd.nolimit {K : Frag} {h : Heap} (G : Gd K h) : h.NoLimit := by
  obtain ⟨X, ⟨p, l, e, mg, mb, T⟩, C⟩ := G
  exact T.nolimit

noncomputable def Does (K : Frag) (prog : Program) (w : World) (k : Nat) (f : Addr) (vs : List Value) (own : Cells) (res : Value → Cells → Prop) : Prop :=
  ∀ (dp un : Nat) (gd : Option (List Code)) (fr : List Env) (h₀ : Heap) (s : Shared) (R : Result → Shared → Prop),
    Gd K h₀ → Sits h₀ s.heap own → dp + k < recursionLimit → un + 20 * k < cLine →
    (∀ v h' tk own', res v own' → Sits h₀ h' own' → R (.ok (.ret v)) { s with heap := h', toks := tk }) →
    codeAny (model prog w) (arT dp un gd fr) (.call (.ref f) ⟨vs, []⟩) R s

/-- the end of a body -/
noncomputable def Fin (g : Heap) (L : Addr) (s : Shared) (res : Value → Cells → Prop) (v : Value) (s' : Shared) : Prop :=
  ∃ m' news' h' tk, s' = { s with heap := h', toks := tk } ∧ Fr g L h' m' ∧ News g L h' news' ∧ res v news'

theorem Fin.intro {g : Heap} {L : Addr} {s : Shared} {res : Value → Cells → Prop} {v : Value} {m' : Str → Option Value} {news' : Cells} {h' : Heap} {tk : Nat} (F : Fr g L h' m') (N : News g L h' news') (r : res v news') :
    Fin g L s res v { s with heap := h', toks := tk } := ⟨_, _, _, _, rfl, F, N, r⟩

section
variable {K : Frag} {prog : Program} {w : World} {k : Nat} {f : Addr} {vs : List Value} {own rest news : Cells} {res : Value → Cells → Prop}
  {oc : Value} {od an : Option Addr} {osl : Array (Option Value)} {name qual : Str} {params : Arguments} {body : List Stmt} {scope : Scope} {cl : List (Str × Addr)} {dV kV doc pm cdv ct : Value} {binds : List (Str × Value)}

theorem sits_hide {h₀ h : Heap} (S : Sits h₀ h own) : ∀ b o, h₀.get? b = some o → (hideAll h (own.map (·.1))).get? b = some o := fun b o e => by
  refine hideAll_get _ (S.keep b o e) fun q => ?_
  obtain ⟨p, hp, rfl⟩ := List.mem_map.mp q
  rw [(S.own p hp).2] at e; cases e

theorem enterT (ho : K.lookup f = some ⟨oc, od, .func (fnX name qual params body scope cl dV kV doc pm an cdv ct), osl⟩) (hcd : codeIn K cdv qual = true)
    (hbind : ∀ s : Shared, K.In s.heap → BindsTo s (fnX name qual params body scope cl dV kV doc pm an cdv ct) ⟨vs, []⟩ binds) (hloc : ∀ y ∈ binds, scope.names.lookup y.1 = some .local)
    (h : ∀ (dp un : Nat) (gd : Option (List Code)) (fr : List Env) (g : Heap) (L : Addr) (s : Shared) (P : Value → Shared → Prop), (∀ v s', Fin g L s res v s' → P v s') → Gd K g → Fr g L s.heap (fun y => binds.reverse.lookup y) → News g L s.heap own → (∀ p ∈ own, p.1 < L) →
      dp + k < recursionLimit → un + 20 * k < cLine → binds.length ≤ s.toks →
      wpAny (model prog w) (arT (dp + 1) (un + 3) gd (envX qual scope L f cdv cl :: fr)) (execs body (envX qual scope L f cdv cl)) (fun fl s' => P (match fl with | .ret v => v | _ => .none) s') (fun _ _ => False) s)
    (hcell : ∀ x ∈ scope.names, x.2 ≠ .cell := by decide) (hco : scope.isCoroutine = false := by rfl) (hgen : scope.isGenerator = false := by rfl) (hk : scope.kind = .function := by rfl) (hk0 : 0 < k := by decide) :
    Does K prog w k f vs own res := by
  intro dp un gd fr h₀ s R G S hd hu hR
  have X : K.In s.heap := G.X.keeps S.keep
  refine codeAny_call_def (fd := fnX name qual params body scope cl dV kV doc pm an cdv ct) (body := body) (binds := binds) (by show dp < recursionLimit; omega) (X _ _ ho) rfl (G.nolimit.keeps S.keep) (codeRec_of X hcd) rfl (hbind s X) hcell hloc (fun h₁ hns hk₁ => ?_) hco hgen hk
  have st := sits_hide S
  refine wpAny_mono (h dp un gd fr (hideAll s.heap (own.map (·.1))) s.heap.objs.size { s with heap := h₁, toks := s.toks + binds.length } _ (fun _ _ x => x) (G.keeps st) ⟨hns, fun b o e => hk₁ b o (of_hideAll _ e), Nat.le_of_eq (hideAll_size _ _)⟩
    (fun p hp => ⟨hk₁ _ _ (S.own p hp).1, Nat.ne_of_lt (Heap.lt_size (S.own p hp).1), hideAll_none _ (List.mem_map_of_mem hp)⟩) (fun p hp => Heap.lt_size (S.own p hp).1) hd hu (Nat.le_add_left _ _)) (fun fl s' hl => ?_) fun _ _ y => y.elim
  obtain ⟨m', news', h', tk, rfl, F', N', r⟩ := hl
  refine hR _ h' tk news' r ⟨fun b o e => F'.keep b o (st b o e), fun p hp => ⟨(N' p hp).1, ?_⟩⟩
  cases q : h₀.get? p.1 with
  | none => rfl
  | some o => have := (N' p hp).2.2; rw [st _ _ q] at this; cases this

theorem enter (ho : K.lookup f = some ⟨oc, od, .func (fnX name qual params body scope cl dV kV doc pm an cdv ct), osl⟩) (hcd : codeIn K cdv qual = true)
    (hbind : ∀ s : Shared, K.In s.heap → BindsTo s (fnX name qual params body scope cl dV kV doc pm an cdv ct) ⟨vs, []⟩ binds) (hloc : ∀ y ∈ binds, scope.names.lookup y.1 = some .local)
    (h : ∀ (dp un : Nat) (gd : Option (List Code)) (fr : List Env) (g : Heap) (L : Addr) (s : Shared) (P : Value → Shared → Prop), (∀ v s', Fin g L s res v s' → P v s') → Gd K g → Fr g L s.heap (fun y => binds.reverse.lookup y) → News g L s.heap own → (∀ p ∈ own, p.1 < L) →
      dp + k < recursionLimit → un + 20 * k < cLine →
      wpAny (model prog w) (arT (dp + 1) (un + 3) gd (envX qual scope L f cdv cl :: fr)) (execs body (envX qual scope L f cdv cl)) (fun fl s' => P (match fl with | .ret v => v | _ => .none) s') (fun _ _ => False) s)
    (hcell : ∀ x ∈ scope.names, x.2 ≠ .cell := by decide) (hco : scope.isCoroutine = false := by rfl) (hgen : scope.isGenerator = false := by rfl) (hk : scope.kind = .function := by rfl) (hk0 : 0 < k := by decide) :
    Does K prog w k f vs own res :=
  enterT ho hcd hbind hloc (fun dp un gd fr g L s P a b c d e f k _ => h dp un gd fr g L s P a b c d e f k) hcell hco hgen hk hk0

theorem enterC (ho : K.lookup f = some ⟨oc, od, .func (fnX name qual params body scope [] dV kV doc pm an cdv ct), osl⟩) (hcd : codeIn K cdv qual = true)
    (hbind : ∀ s : Shared, K.In s.heap → BindsTo s (fnX name qual params body scope [] dV kV doc pm an cdv ct) ⟨vs, []⟩ binds)
    (hkind : (binds.all fun y => scope.names.lookup y.1 == some .local || scope.names.lookup y.1 == some .cell) = true) (hnd : ((cellsFrom 0 scope.names []).map (·.1)).Nodup)
    (h : ∀ (dp un : Nat) (gd : Option (List Code)) (fr : List Env) (g : Heap) (L : Addr) (s : Shared) (cells : Cells) (P : Value → Shared → Prop), (∀ v s', Fin g L s res v s' → P v s') → Gd K g → Fr g L s.heap (bindL (envOfC qual scope L f cdv).kindOf binds fun _ => none) → News g L s.heap (cells ++ own) →
      CellsAre (bindC (envOfC qual scope L f cdv).kindOf binds fun _ => none) (cellsFrom (L + 1) scope.names []) cells → (∀ p ∈ own, p.1 < L) →
      dp + k < recursionLimit → un + 20 * k < cLine →
      wpAny (model prog w) (arT (dp + 1) (un + 3) gd (envOfC qual scope L f cdv :: fr)) (execs body (envOfC qual scope L f cdv)) (fun fl s' => P (match fl with | .ret v => v | _ => .none) s') (fun _ _ => False) s)
    (hco : scope.isCoroutine = false := by rfl) (hgen : scope.isGenerator = false := by rfl) (hk : scope.kind = .function := by rfl) (hk0 : 0 < k := by decide) :
    Does K prog w k f vs own res := by
  intro dp un gd fr h₀ s R G S hd hu hR
  have X : K.In s.heap := G.X.keeps S.keep
  have st := sits_hide S
  refine codeAny_call_function (fd := fnX name qual params body scope [] dV kV doc pm an cdv ct) (body := body) (by show dp < recursionLimit; omega) (X _ _ ho) rfl hco hgen rfl (codeRec_of X hcd) (hbind s X _ _ _ _ ?_)
  refine wpAny_newFunctionEnv_cells hk (kindsX hkind _) fun env' he s' x => ?_
  subst he
  refine ⟨(G.nolimit.keeps S.keep).keeps x.toInCall.keep, codeAny_func ?_⟩
  obtain ⟨h₁, tk, rfl, _⟩ := x.done
  have hk₁ := x.toInCall.keep
  obtain ⟨cells, NC, Y⟩ := Cl.news (h₀ := s.heap) (Nat.le_refl _) fun n c hm => ⟨x.cell n c (lookup_of_mem_nodup (cellsFrom_names scope.names 0 (s.heap.objs.size + 1) [] [] rfl ▸ hnd) hm), x.above n c hm⟩
  refine wpAny_mono (h dp un gd fr (hideAll s.heap (own.map (·.1))) s.heap.objs.size { s with heap := h₁, toks := tk } cells _ (fun _ _ x => x) (G.keeps st) ⟨x.toInCall.ns, fun b o e => hk₁ b o (of_hideAll _ e), Nat.le_of_eq (hideAll_size _ _)⟩ (fun p hp => ?_) Y (fun p hp => Heap.lt_size (S.own p hp).1) hd hu)
    (fun fl s' hl => ?_) fun _ _ y => y.elim
  · rcases List.mem_append.mp hp with hp | hp
    · refine ⟨(NC p hp).1, (NC p hp).2.1, ?_⟩
      cases q : (hideAll s.heap (own.map (·.1))).get? p.1 with
      | none => rfl
      | some o => have := of_hideAll _ q; rw [(NC p hp).2.2] at this; cases this
    · exact ⟨hk₁ _ _ (S.own p hp).1, Nat.ne_of_lt (Heap.lt_size (S.own p hp).1), hideAll_none _ (List.mem_map_of_mem hp)⟩
  obtain ⟨m', news', h', tk', rfl, F', N', r⟩ := hl
  refine hR _ h' tk' news' r ⟨fun b o e => F'.keep b o (st b o e), fun p hp => ⟨(N' p hp).1, ?_⟩⟩
  cases q : h₀.get? p.1 with
  | none => rfl
  | some o => have := (N' p hp).2.2; rw [st _ _ q] at this; cases this

/-- a lambda of the call's own -/
theorem enterL {pm ctv : Value} {c' : Addr} {lbody : Expr} {dd : Option Addr} {oc : Obj} {cvs : Array Value} {ct' : Tok} {sl : Array (Option Value)} (ho : (f, (⟨.type "function", dd, .func (kla_fn name qual params lbody scope cl pm (.ref c') ctv), sl⟩ : Obj)) ∈ own)
    (hc : (c', oc) ∈ own) (hcd1 : oc.data = .fields cvs) (hcd2 : cvs[1]? = some (.str qual ct'))
    (hbind : bindArgs (kla_fn name qual params lbody scope cl pm (.ref c') ctv) ⟨vs, []⟩ = pure binds) (hloc : ∀ y ∈ binds, scope.names.lookup y.1 = some .local)
    (h : ∀ (dp un : Nat) (gd : Option (List Code)) (fr : List Env) (g : Heap) (L : Addr) (s : Shared) (P : Value → Shared → Prop), (∀ v s', Fin g L s res v s' → P v s') → Gd K g → Fr g L s.heap (fun y => binds.reverse.lookup y) → News g L s.heap own → (∀ p ∈ own, p.1 < L) →
      dp + k < recursionLimit → un + 20 * k < cLine →
      wpAny (model prog w) (arT (dp + 1) (un + 3) gd (envX qual scope L f (.ref c') cl :: fr)) (eval lbody (envX qual scope L f (.ref c') cl)) (fun v s' => P v s') (fun _ _ => False) s)
    (hcell : ∀ x ∈ scope.names, x.2 ≠ .cell := by decide) (hco : scope.isCoroutine = false := by rfl) (hgen : scope.isGenerator = false := by rfl) (hk : scope.kind = .function := by rfl) (hk0 : 0 < k := by decide) :
    Does K prog w k f vs own res := by
  intro dp un gd fr h₀ s R G S hd hu hR
  refine kla_callFunE (by show dp < recursionLimit; omega) (S.own _ ho).1 rfl hco hgen rfl ⟨c', oc, cvs, ct', rfl, (S.own _ hc).1, hcd1, hcd2⟩ ?_
  rw [hbind]
  refine wpAny_pure (wpAny_newFunctionEnv hcell hloc (fun h₁ hns hsb => ⟨(G.nolimit.keeps S.keep).fresh _ hsb, ?_⟩) hk)
  show codeAny _ _ (.expr lbody (envX qual scope s.heap.objs.size f (.ref c') cl)) _ _
  have hk₁ : ∀ b o, s.heap.get? b = some o → h₁.get? b = some o := fun b o e => hsb.extBut b o (Nat.ne_of_lt (Heap.lt_size e)) (Heap.get?_push_of_some _ e)
  have st := sits_hide S
  refine kla_codeExpr (wpAny_mono (h dp un gd fr (hideAll s.heap (own.map (·.1))) s.heap.objs.size { s with heap := h₁, toks := s.toks + binds.length } _ (fun _ _ x => x) (G.keeps st) ⟨hns, fun b o e => hk₁ b o (of_hideAll _ e), Nat.le_of_eq (hideAll_size _ _)⟩
    (fun p hp => ⟨hk₁ _ _ (S.own p hp).1, Nat.ne_of_lt (Heap.lt_size (S.own p hp).1), hideAll_none _ (List.mem_map_of_mem hp)⟩) (fun p hp => Heap.lt_size (S.own p hp).1) hd hu) (fun v s' hl => ?_) fun _ _ y => y.elim)
  obtain ⟨m', news', h', tk', rfl, F', N', r⟩ := hl
  refine hR _ h' tk' news' r ⟨fun b o e => F'.keep b o (st b o e), fun p hp => ⟨(N' p hp).1, ?_⟩⟩
  cases q : h₀.get? p.1 with
  | none => rfl
  | some o => have := (N' p hp).2.2; rw [st _ _ q] at this; cases this

theorem useCode {h₀ : Heap} {L : Addr} {m : Str → Option Value} {s : Shared} {dp un : Nat} {gd : Option (List Code)} {fr : List Env} {R : Result → Shared → Prop}
    (C : Does K prog w k f vs own res) (F : Fr h₀ L s.heap m) (N : News h₀ L s.heap news) (G : Gd K h₀) (ho : ∀ p ∈ own, p ∈ news) (hr : ∀ p ∈ rest, p ∈ news) (hd : ∀ p ∈ own, ∀ q ∈ rest, p.1 ≠ q.1)
    (hdp : dp + k < recursionLimit) (hun : un + 20 * k < cLine)
    (h : ∀ v h' tk own', res v own' → Fr h₀ L h' m → News h₀ L h' (own' ++ rest) → (∀ p ∈ own', ∀ q ∈ rest, p.1 ≠ q.1) → R (.ok (.ret v)) { s with heap := h', toks := tk }) :
    codeAny (model prog w) (arT dp un gd fr) (.call (.ref f) ⟨vs, []⟩) R s := by
  obtain ⟨oL, es, ep, hL, hLd, hLk, hLf⟩ := F.ns
  have nL : L ∉ own.map (·.1) := fun q => by
    obtain ⟨p, hp, e⟩ := List.mem_map.mp q
    exact (N p (ho p hp)).2.1 e
  have hLg := hideAll_get (own.map (·.1)) hL nL
  have S0 : Sits h₀ s.heap own := ⟨F.keep, fun p hp => ⟨(N p (ho p hp)).1, (N p (ho p hp)).2.2⟩⟩
  have st := sits_hide S0
  have hrg : ∀ p ∈ rest, (hideAll s.heap (own.map (·.1))).get? p.1 = some p.2 := fun p hp => by
    refine hideAll_get _ (N p (hr p hp)).1 fun q => ?_
    obtain ⟨o, ho', e⟩ := List.mem_map.mp q
    exact hd o ho' p hp e
  refine C dp un gd fr (hideAll s.heap (own.map (·.1))) s R (G.keeps st) ⟨fun b o e => of_hideAll _ e, fun p hp => ⟨(N p (ho p hp)).1, hideAll_none _ (List.mem_map_of_mem hp)⟩⟩ hdp hun (fun v h' tk own' hv S' => ?_)
  refine h v h' tk own' hv ⟨⟨oL, es, ep, S'.keep L oL hLg, hLd, hLk, hLf⟩, fun b o e => S'.keep b o (st b o e), F.above⟩ (fun p hp => ?_) (fun p hp q hq e => ?_)
  · rcases List.mem_append.mp hp with hp | hp
    · refine ⟨(S'.own p hp).1, fun e => ?_, ?_⟩
      · have := (S'.own p hp).2; rw [e, hLg] at this; cases this
      · cases q : h₀.get? p.1 with
        | none => rfl
        | some o => have := (S'.own p hp).2; rw [st _ _ q] at this; cases this
    · exact ⟨S'.keep _ _ (hrg p hp), (N p (hr p hp)).2⟩
  · have := (S'.own p hp).2; rw [e, hrg q hq] at this; cases this

theorem use {h₀ : Heap} {L : Addr} {m : Str → Option Value} {s : Shared} {dp un : Nat} {gd : Option (List Code)} {fr : List Env} {Q E : Value → Shared → Prop}
    (C : Does K prog w k f vs own res) (F : Fr h₀ L s.heap m) (N : News h₀ L s.heap news) (G : Gd K h₀) (ho : ∀ p ∈ own, p ∈ news) (hr : ∀ p ∈ rest, p ∈ news) (hd : ∀ p ∈ own, ∀ q ∈ rest, p.1 ≠ q.1)
    (hdp : dp + k < recursionLimit) (hun : un + 20 * k < cLine)
    (h : ∀ v h' tk own', res v own' → Fr h₀ L h' m → News h₀ L h' (own' ++ rest) → (∀ p ∈ own', ∀ q ∈ rest, p.1 ≠ q.1) → Q v { s with heap := h', toks := tk }) :
    wpAny (model prog w) (arT dp un gd fr) (call (.ref f) vs) Q E s := wpAny_call (useCode C F N G ho hr hd hdp hun h)
end
end Mine

-- MHead
namespace Mine
/-- the text's statements, by place -/
noncomputable def stOf (i : Nat) : Stmt := (PySem.Challenge.pw_xj0021_02.main.body[i]?).getD (.Pass ⟨0, 0, 0, 0⟩)
noncomputable def subOf (i j : Nat) : Stmt := match stOf i with
  | .ClassDef _ _ _ b _ _ _ _ _ _ _ => (b[j]?).getD (.Pass ⟨0, 0, 0, 0⟩)
  | s => s
/-- the function object that a def's statement makes -/
noncomputable def fnO (st : Stmt) (q : Str) (gl : Addr) (cl : List (Str × Addr)) (dV kV doc pm : Value) (an : Option Addr) (cdv ct : Value) (b : Addr) : Obj := match st with
  | .FunctionDef n ps body _ _ _ sc _ _ _ => ⟨.type "function", none, .func ⟨n, q, ps, .stmts body, sc, gl, cl, dV, kV, doc, pm, an, cdv, ct, b⟩, #[]⟩
  | _ => ⟨.none, none, .plain, #[]⟩
/-- what stands behind the top -/
noncomputable def KH : Params → Frag := fun P =>
    (nat_lit 2, Obj.mk Value.none none (Data.dict #[]) #[]) ::
    (nat_lit 3, Obj.mk (Value.type "dict") none (Data.dict #[DictEntry.mk (PyData.keyHash P (Str.ofString "__name__")) (Value.str (Str.ofString "__name__") 165) (Value.str (Str.ofString "law_xj0021_02") 398), DictEntry.mk (PyData.keyHash P (Str.ofString "__doc__")) (Value.str (Str.ofString "__doc__") 166) Value.none, DictEntry.mk (PyData.keyHash P (Str.ofString "__package__")) (Value.str (Str.ofString "__package__") 167) Value.none, DictEntry.mk (PyData.keyHash P (Str.ofString "__loader__")) (Value.str (Str.ofString "__loader__") 168) (Value.builtin "__main__.__loader__#opaque"), DictEntry.mk (PyData.keyHash P (Str.ofString "__spec__")) (Value.str (Str.ofString "__spec__") 169) Value.none, DictEntry.mk (PyData.keyHash P (Str.ofString "__annotations__")) (Value.str (Str.ofString "__annotations__") 170) (Value.ref 6), DictEntry.mk (PyData.keyHash P (Str.ofString "__builtins__")) (Value.str (Str.ofString "__builtins__") 171) (Value.ref 4), DictEntry.mk (PyData.keyHash P (Str.ofString "__file__")) (Value.str (Str.ofString "__file__") 173) (Value.str (Str.ofString "/claim/cut.py") 172), DictEntry.mk (PyData.keyHash P (Str.ofString "__cached__")) (Value.str (Str.ofString "__cached__") 174) Value.none, DictEntry.mk (PyData.keyHash P (Str.ofString "_wall")) (Value.str (Str.ofString "_wall") 193) (Value.ref 21), DictEntry.mk (PyData.keyHash P (Str.ofString "EMPTYSTRING")) (Value.str (Str.ofString "EMPTYSTRING") 197) (Value.str (Str.ofString "") 196), DictEntry.mk (PyData.keyHash P (Str.ofString "_Accumulator")) (Value.str (Str.ofString "_Accumulator") 293) (Value.ref 101), DictEntry.mk (PyData.keyHash P (Str.ofString "_netrclex")) (Value.str (Str.ofString "_netrclex") 353) (Value.ref 143), DictEntry.mk (PyData.keyHash P (Str.ofString "_raise_serialization_error")) (Value.str (Str.ofString "_raise_serialization_error") 362) (Value.ref 154), DictEntry.mk (PyData.keyHash P (Str.ofString "_escape_cdata")) (Value.str (Str.ofString "_escape_cdata") 369) (Value.ref 161), DictEntry.mk (PyData.keyHash P (Str.ofString "_escape_attrib")) (Value.str (Str.ofString "_escape_attrib") 376) (Value.ref 168), DictEntry.mk (PyData.keyHash P (Str.ofString "_escape_attrib_html")) (Value.str (Str.ofString "_escape_attrib_html") 383) (Value.ref 175), DictEntry.mk (PyData.keyHash P (Str.ofString "_escape_cdata_c14n")) (Value.str (Str.ofString "_escape_cdata_c14n") 390) (Value.ref 182), DictEntry.mk (PyData.keyHash P (Str.ofString "_escape_attrib_c14n")) (Value.str (Str.ofString "_escape_attrib_c14n") 397) (Value.ref 189), DictEntry.mk (PyData.keyHash P (Str.ofString "_law_heaps")) (Value.str (Str.ofString "_law_heaps") 408) (Value.ref 196), DictEntry.mk (PyData.keyHash P (Str.ofString "_law_root")) (Value.str (Str.ofString "_law_root") 417) (Value.ref 203), DictEntry.mk (PyData.keyHash P (Str.ofString "_law_text")) (Value.str (Str.ofString "_law_text") 423) (Value.ref 208), DictEntry.mk (PyData.keyHash P (Str.ofString "_law_lexer")) (Value.str (Str.ofString "_law_lexer") 432) (Value.ref 215), DictEntry.mk (PyData.keyHash P (Str.ofString "_law_hands")) (Value.str (Str.ofString "_law_hands") 440) (Value.ref 222), DictEntry.mk (PyData.keyHash P (Str.ofString "_law_turned")) (Value.str (Str.ofString "_law_turned") 447) (Value.ref 229), DictEntry.mk (PyData.keyHash P (Str.ofString "_law_floors")) (Value.str (Str.ofString "_law_floors") 453) (Value.ref 234), DictEntry.mk (PyData.keyHash P (Str.ofString "_law_counts")) (Value.str (Str.ofString "_law_counts") 464) (Value.ref 241), DictEntry.mk (PyData.keyHash P (Str.ofString "law")) (Value.str (Str.ofString "law") 470) (Value.ref 246)] 28) #[]) ::
    (nat_lit 15, Obj.mk (Value.type "tuple") none (Data.seq #[]) #[]) ::
    (nat_lit 17, Obj.mk (Value.type "tuple") none (Data.seq #[Value.str (Str.ofString "k") 190]) #[]) ::
    (nat_lit 18, Obj.mk (Value.type "tuple") none (Data.seq #[]) #[]) ::
    (nat_lit 20, Obj.mk (Value.type "code") none (Data.fields #[Value.str (Str.ofString "_wall") 187, Value.str (Str.ofString "_wall") 188, Value.str (Str.ofString "/claim/cut.py") 189, Value.int 1 0, Value.int 1 0, Value.int 0 0, Value.int 0 0, Value.int 3 0, Value.ref 15, Value.bool true, Value.int 181 0, Value.ref 16, Value.none, Value.ref 17, Value.ref 18, Value.ref 19, Value.int 191 0, Value.int 1 0, Value.str (Str.ofString "/claim/cut.py") 192]) #[]) ::
    (nat_lit 21, fnO (stOf 0) (Str.ofString "_wall") 3 [] Value.none Value.none Value.none (Value.str (Str.ofString "__main__") 164) none (Value.ref 20) Value.none 0) ::
    (nat_lit 22, Obj.mk (Value.type "tuple") none (Data.seq #[Value.type "list"]) #[]) ::
    (nat_lit 25, Obj.mk (Value.type "cell") none (Data.cell (some (Value.ref 101))) #[]) ::
    (nat_lit 30, Obj.mk (Value.type "tuple") none (Data.seq #[Value.int 0 210]) #[]) ::
    (nat_lit 31, Obj.mk (Value.type "tuple") none (Data.seq #[Value.ref 25]) #[]) ::
    (nat_lit 32, Obj.mk (Value.type "tuple") none (Data.seq #[Value.str (Str.ofString "__class__") 214]) #[]) ::
    (nat_lit 34, Obj.mk (Value.type "tuple") none (Data.seq #[Value.str (Str.ofString "self") 215, Value.str (Str.ofString "initial_size") 216]) #[]) ::
    (nat_lit 35, Obj.mk (Value.type "tuple") none (Data.seq #[]) #[]) ::
    (nat_lit 37, Obj.mk (Value.type "code") none (Data.fields #[Value.str (Str.ofString "__init__") 211, Value.str (Str.ofString "_Accumulator.__init__") 212, Value.str (Str.ofString "/claim/cut.py") 213, Value.int 8 0, Value.int 2 0, Value.int 0 0, Value.int 0 0, Value.int 3 0, Value.ref 32, Value.bool true, Value.int 181 0, Value.ref 33, Value.none, Value.ref 34, Value.ref 35, Value.ref 36, Value.int 217 0, Value.int 8 0, Value.str (Str.ofString "/claim/cut.py") 218]) #[]) ::
    (nat_lit 38, fnO (subOf 3 0) (Str.ofString "_Accumulator.__init__") 3 [(Str.ofString "__class__", 25)] (Value.ref 30) Value.none Value.none (Value.str (Str.ofString "cpy313.email.header") 194) none (Value.ref 37) (Value.ref 31) 0) ::
    (nat_lit 39, Obj.mk (Value.type "tuple") none (Data.seq #[]) #[]) ::
    (nat_lit 41, Obj.mk (Value.type "tuple") none (Data.seq #[Value.str (Str.ofString "self") 223, Value.str (Str.ofString "fws") 224, Value.str (Str.ofString "string") 225]) #[]) ::
    (nat_lit 42, Obj.mk (Value.type "tuple") none (Data.seq #[]) #[]) ::
    (nat_lit 44, Obj.mk (Value.type "code") none (Data.fields #[Value.str (Str.ofString "push") 220, Value.str (Str.ofString "_Accumulator.push") 221, Value.str (Str.ofString "/claim/cut.py") 222, Value.int 12 0, Value.int 3 0, Value.int 0 0, Value.int 0 0, Value.int 3 0, Value.ref 39, Value.bool true, Value.int 181 0, Value.ref 40, Value.none, Value.ref 41, Value.ref 42, Value.ref 43, Value.int 226 0, Value.int 12 0, Value.str (Str.ofString "/claim/cut.py") 227]) #[]) ::
    (nat_lit 45, fnO (subOf 3 1) (Str.ofString "_Accumulator.push") 3 [] Value.none Value.none Value.none (Value.str (Str.ofString "cpy313.email.header") 194) none (Value.ref 44) Value.none 0) ::
    (nat_lit 46, Obj.mk (Value.type "tuple") none (Data.seq #[Value.int 0 229]) #[]) ::
    (nat_lit 47, Obj.mk (Value.type "tuple") none (Data.seq #[]) #[]) ::
    (nat_lit 49, Obj.mk (Value.type "tuple") none (Data.seq #[Value.str (Str.ofString "self") 233, Value.str (Str.ofString "i") 234, Value.str (Str.ofString "popped") 235]) #[]) ::
    (nat_lit 50, Obj.mk (Value.type "tuple") none (Data.seq #[]) #[]) ::
    (nat_lit 52, Obj.mk (Value.type "code") none (Data.fields #[Value.str (Str.ofString "pop_from") 230, Value.str (Str.ofString "_Accumulator.pop_from") 231, Value.str (Str.ofString "/claim/cut.py") 232, Value.int 15 0, Value.int 2 0, Value.int 0 0, Value.int 0 0, Value.int 3 0, Value.ref 47, Value.bool true, Value.int 181 0, Value.ref 48, Value.none, Value.ref 49, Value.ref 50, Value.ref 51, Value.int 236 0, Value.int 15 0, Value.str (Str.ofString "/claim/cut.py") 237]) #[]) ::
    (nat_lit 53, fnO (subOf 3 2) (Str.ofString "_Accumulator.pop_from") 3 [] (Value.ref 46) Value.none Value.none (Value.str (Str.ofString "cpy313.email.header") 194) none (Value.ref 52) Value.none 0) ::
    (nat_lit 54, Obj.mk (Value.type "tuple") none (Data.seq #[Value.ref 25]) #[]) ::
    (nat_lit 55, Obj.mk (Value.type "tuple") none (Data.seq #[Value.str (Str.ofString "__class__") 242]) #[]) ::
    (nat_lit 57, Obj.mk (Value.type "tuple") none (Data.seq #[Value.str (Str.ofString "self") 243]) #[]) ::
    (nat_lit 58, Obj.mk (Value.type "tuple") none (Data.seq #[]) #[]) ::
    (nat_lit 60, Obj.mk (Value.type "code") none (Data.fields #[Value.str (Str.ofString "pop") 239, Value.str (Str.ofString "_Accumulator.pop") 240, Value.str (Str.ofString "/claim/cut.py") 241, Value.int 20 0, Value.int 1 0, Value.int 0 0, Value.int 0 0, Value.int 3 0, Value.ref 55, Value.bool true, Value.int 181 0, Value.ref 56, Value.none, Value.ref 57, Value.ref 58, Value.ref 59, Value.int 244 0, Value.int 20 0, Value.str (Str.ofString "/claim/cut.py") 245]) #[]) ::
    (nat_lit 61, fnO (subOf 3 3) (Str.ofString "_Accumulator.pop") 3 [(Str.ofString "__class__", 25)] Value.none Value.none Value.none (Value.str (Str.ofString "cpy313.email.header") 194) none (Value.ref 60) (Value.ref 54) 0) ::
    (nat_lit 62, Obj.mk (Value.type "tuple") none (Data.seq #[]) #[]) ::
    (nat_lit 64, Obj.mk (Value.type "tuple") none (Data.seq #[Value.str (Str.ofString "self") 250]) #[]) ::
    (nat_lit 65, Obj.mk (Value.type "tuple") none (Data.seq #[]) #[]) ::
    (nat_lit 67, Obj.mk (Value.type "code") none (Data.fields #[Value.str (Str.ofString "__len__") 247, Value.str (Str.ofString "_Accumulator.__len__") 248, Value.str (Str.ofString "/claim/cut.py") 249, Value.int 25 0, Value.int 1 0, Value.int 0 0, Value.int 0 0, Value.int 3 0, Value.ref 62, Value.bool true, Value.int 181 0, Value.ref 63, Value.none, Value.ref 64, Value.ref 65, Value.ref 66, Value.int 251 0, Value.int 25 0, Value.str (Str.ofString "/claim/cut.py") 252]) #[]) ::
    (nat_lit 68, fnO (subOf 3 4) (Str.ofString "_Accumulator.__len__") 3 [] Value.none Value.none Value.none (Value.str (Str.ofString "cpy313.email.header") 194) none (Value.ref 67) Value.none 0) ::
    (nat_lit 69, Obj.mk (Value.type "tuple") none (Data.seq #[]) #[]) ::
    (nat_lit 71, Obj.mk (Value.type "tuple") none (Data.seq #[Value.str (Str.ofString "self") 257]) #[]) ::
    (nat_lit 72, Obj.mk (Value.type "tuple") none (Data.seq #[]) #[]) ::
    (nat_lit 74, Obj.mk (Value.type "code") none (Data.fields #[Value.str (Str.ofString "__str__") 254, Value.str (Str.ofString "_Accumulator.__str__") 255, Value.str (Str.ofString "/claim/cut.py") 256, Value.int 28 0, Value.int 1 0, Value.int 0 0, Value.int 0 0, Value.int 3 0, Value.ref 69, Value.bool true, Value.int 181 0, Value.ref 70, Value.none, Value.ref 71, Value.ref 72, Value.ref 73, Value.int 258 0, Value.int 28 0, Value.str (Str.ofString "/claim/cut.py") 259]) #[]) ::
    (nat_lit 75, fnO (subOf 3 5) (Str.ofString "_Accumulator.__str__") 3 [] Value.none Value.none Value.none (Value.str (Str.ofString "cpy313.email.header") 194) none (Value.ref 74) Value.none 0) ::
    (nat_lit 76, Obj.mk (Value.type "tuple") none (Data.seq #[Value.none]) #[]) ::
    (nat_lit 77, Obj.mk (Value.type "tuple") none (Data.seq #[]) #[]) ::
    (nat_lit 79, Obj.mk (Value.type "tuple") none (Data.seq #[Value.str (Str.ofString "self") 264, Value.str (Str.ofString "startval") 265]) #[]) ::
    (nat_lit 80, Obj.mk (Value.type "tuple") none (Data.seq #[]) #[]) ::
    (nat_lit 82, Obj.mk (Value.type "code") none (Data.fields #[Value.str (Str.ofString "reset") 261, Value.str (Str.ofString "_Accumulator.reset") 262, Value.str (Str.ofString "/claim/cut.py") 263, Value.int 31 0, Value.int 2 0, Value.int 0 0, Value.int 0 0, Value.int 3 0, Value.ref 77, Value.bool true, Value.int 181 0, Value.ref 78, Value.none, Value.ref 79, Value.ref 80, Value.ref 81, Value.int 266 0, Value.int 31 0, Value.str (Str.ofString "/claim/cut.py") 267]) #[]) ::
    (nat_lit 83, fnO (subOf 3 6) (Str.ofString "_Accumulator.reset") 3 [] (Value.ref 76) Value.none Value.none (Value.str (Str.ofString "cpy313.email.header") 194) none (Value.ref 82) Value.none 0) ::
    (nat_lit 84, Obj.mk (Value.type "tuple") none (Data.seq #[]) #[]) ::
    (nat_lit 86, Obj.mk (Value.type "tuple") none (Data.seq #[Value.str (Str.ofString "self") 272]) #[]) ::
    (nat_lit 87, Obj.mk (Value.type "tuple") none (Data.seq #[]) #[]) ::
    (nat_lit 89, Obj.mk (Value.type "code") none (Data.fields #[Value.str (Str.ofString "is_onlyws") 269, Value.str (Str.ofString "_Accumulator.is_onlyws") 270, Value.str (Str.ofString "/claim/cut.py") 271, Value.int 34 0, Value.int 1 0, Value.int 0 0, Value.int 0 0, Value.int 3 0, Value.ref 84, Value.bool true, Value.int 181 0, Value.ref 85, Value.none, Value.ref 86, Value.ref 87, Value.ref 88, Value.int 273 0, Value.int 34 0, Value.str (Str.ofString "/claim/cut.py") 274]) #[]) ::
    (nat_lit 90, fnO (subOf 3 7) (Str.ofString "_Accumulator.is_onlyws") 3 [] Value.none Value.none Value.none (Value.str (Str.ofString "cpy313.email.header") 194) none (Value.ref 89) Value.none 0) ::
    (nat_lit 91, Obj.mk (Value.type "tuple") none (Data.seq #[Value.ref 25]) #[]) ::
    (nat_lit 92, Obj.mk (Value.type "tuple") none (Data.seq #[Value.str (Str.ofString "__class__") 279]) #[]) ::
    (nat_lit 94, Obj.mk (Value.type "tuple") none (Data.seq #[Value.str (Str.ofString "self") 280]) #[]) ::
    (nat_lit 95, Obj.mk (Value.type "tuple") none (Data.seq #[]) #[]) ::
    (nat_lit 97, Obj.mk (Value.type "code") none (Data.fields #[Value.str (Str.ofString "part_count") 276, Value.str (Str.ofString "_Accumulator.part_count") 277, Value.str (Str.ofString "/claim/cut.py") 278, Value.int 37 0, Value.int 1 0, Value.int 0 0, Value.int 0 0, Value.int 3 0, Value.ref 92, Value.bool true, Value.int 181 0, Value.ref 93, Value.none, Value.ref 94, Value.ref 95, Value.ref 96, Value.int 281 0, Value.int 37 0, Value.str (Str.ofString "/claim/cut.py") 282]) #[]) ::
    (nat_lit 98, fnO (subOf 3 8) (Str.ofString "_Accumulator.part_count") 3 [(Str.ofString "__class__", 25)] Value.none Value.none Value.none (Value.str (Str.ofString "cpy313.email.header") 194) none (Value.ref 97) (Value.ref 91) 0) ::
    (nat_lit 99, Obj.mk (Value.type "tuple") none (Data.seq #[Value.str (Str.ofString "_initial_size") 284]) #[]) ::
    (nat_lit 100, Obj.mk (Value.type "dict") none (Data.dict #[DictEntry.mk (PyData.keyHash P (Str.ofString "__module__")) (Value.str (Str.ofString "__module__") 205) (Value.str (Str.ofString "cpy313.email.header") 194), DictEntry.mk (PyData.keyHash P (Str.ofString "__firstlineno__")) (Value.str (Str.ofString "__firstlineno__") 209) (Value.int 6 208), DictEntry.mk (PyData.keyHash P (Str.ofString "__init__")) (Value.str (Str.ofString "__init__") 219) (Value.ref 38), DictEntry.mk (PyData.keyHash P (Str.ofString "push")) (Value.str (Str.ofString "push") 228) (Value.ref 45), DictEntry.mk (PyData.keyHash P (Str.ofString "pop_from")) (Value.str (Str.ofString "pop_from") 238) (Value.ref 53), DictEntry.mk (PyData.keyHash P (Str.ofString "pop")) (Value.str (Str.ofString "pop") 246) (Value.ref 61), DictEntry.mk (PyData.keyHash P (Str.ofString "__len__")) (Value.str (Str.ofString "__len__") 253) (Value.ref 68), DictEntry.mk (PyData.keyHash P (Str.ofString "__str__")) (Value.str (Str.ofString "__str__") 260) (Value.ref 75), DictEntry.mk (PyData.keyHash P (Str.ofString "reset")) (Value.str (Str.ofString "reset") 268) (Value.ref 83), DictEntry.mk (PyData.keyHash P (Str.ofString "is_onlyws")) (Value.str (Str.ofString "is_onlyws") 275) (Value.ref 90), DictEntry.mk (PyData.keyHash P (Str.ofString "part_count")) (Value.str (Str.ofString "part_count") 283) (Value.ref 98), DictEntry.mk (PyData.keyHash P (Str.ofString "__static_attributes__")) (Value.str (Str.ofString "__static_attributes__") 285) (Value.ref 99), DictEntry.mk (PyData.keyHash P (Str.ofString "__dict__")) (Value.str (Str.ofString "__dict__") 288) (Value.ref 102), DictEntry.mk (PyData.keyHash P (Str.ofString "__weakref__")) (Value.str (Str.ofString "__weakref__") 290) (Value.ref 103), DictEntry.mk (PyData.keyHash P (Str.ofString "__doc__")) (Value.str (Str.ofString "__doc__") 291) Value.none] 5) #[]) ::
    (nat_lit 101, Obj.mk (Value.type "type") none (Data.cls (ClassData.mk (Str.ofString "_Accumulator") [Value.type "list"] [Value.ref 101, Value.type "list", Value.type "object"] 100 (Str.ofString "_Accumulator") true [] [] false none false)) #[some (Value.ref 22), none, some (Value.str (Str.ofString "_Accumulator") 198), some (Value.str (Str.ofString "_Accumulator") 206), some (Value.builtin "list.__new__"), some (Value.bool true)]) ::
    (nat_lit 102, Obj.mk (Value.type "getset_descriptor") none (Data.fields #[Value.str (Str.ofString "__dict__") 287, Value.ref 101, Value.builtin "function.__dict__", Value.builtin "function.__dict__#set"]) #[]) ::
    (nat_lit 103, Obj.mk (Value.type "getset_descriptor") none (Data.fields #[Value.str (Str.ofString "__weakref__") 289, Value.ref 101, Value.builtin "ExceptionGroup.__weakref__", Value.none]) #[]) ::
    (nat_lit 113, Obj.mk (Value.type "tuple") none (Data.seq #[]) #[]) ::
    (nat_lit 115, Obj.mk (Value.type "tuple") none (Data.seq #[Value.str (Str.ofString "self") 311, Value.str (Str.ofString "fp") 312]) #[]) ::
    (nat_lit 116, Obj.mk (Value.type "tuple") none (Data.seq #[]) #[]) ::
    (nat_lit 118, Obj.mk (Value.type "code") none (Data.fields #[Value.str (Str.ofString "__init__") 308, Value.str (Str.ofString "_netrclex.__init__") 309, Value.str (Str.ofString "/claim/cut.py") 310, Value.int 42 0, Value.int 2 0, Value.int 0 0, Value.int 0 0, Value.int 3 0, Value.ref 113, Value.bool true, Value.int 181 0, Value.ref 114, Value.none, Value.ref 115, Value.ref 116, Value.ref 117, Value.int 313 0, Value.int 42 0, Value.str (Str.ofString "/claim/cut.py") 314]) #[]) ::
    (nat_lit 119, fnO (subOf 5 0) (Str.ofString "_netrclex.__init__") 3 [] Value.none Value.none Value.none (Value.str (Str.ofString "cpy313.netrc") 294) none (Value.ref 118) Value.none 0) ::
    (nat_lit 120, Obj.mk (Value.type "tuple") none (Data.seq #[]) #[]) ::
    (nat_lit 122, Obj.mk (Value.type "tuple") none (Data.seq #[Value.str (Str.ofString "self") 319, Value.str (Str.ofString "ch") 320]) #[]) ::
    (nat_lit 123, Obj.mk (Value.type "tuple") none (Data.seq #[]) #[]) ::
    (nat_lit 125, Obj.mk (Value.type "code") none (Data.fields #[Value.str (Str.ofString "_read_char") 316, Value.str (Str.ofString "_netrclex._read_char") 317, Value.str (Str.ofString "/claim/cut.py") 318, Value.int 48 0, Value.int 1 0, Value.int 0 0, Value.int 0 0, Value.int 3 0, Value.ref 120, Value.bool true, Value.int 181 0, Value.ref 121, Value.none, Value.ref 122, Value.ref 123, Value.ref 124, Value.int 321 0, Value.int 48 0, Value.str (Str.ofString "/claim/cut.py") 322]) #[]) ::
    (nat_lit 126, fnO (subOf 5 1) (Str.ofString "_netrclex._read_char") 3 [] Value.none Value.none Value.none (Value.str (Str.ofString "cpy313.netrc") 294) none (Value.ref 125) Value.none 0) ::
    (nat_lit 127, Obj.mk (Value.type "tuple") none (Data.seq #[]) #[]) ::
    (nat_lit 129, Obj.mk (Value.type "tuple") none (Data.seq #[Value.str (Str.ofString "self") 327, Value.str (Str.ofString "token") 328, Value.str (Str.ofString "fiter") 329, Value.str (Str.ofString "ch") 330]) #[]) ::
    (nat_lit 130, Obj.mk (Value.type "tuple") none (Data.seq #[]) #[]) ::
    (nat_lit 132, Obj.mk (Value.type "code") none (Data.fields #[Value.str (Str.ofString "get_token") 324, Value.str (Str.ofString "_netrclex.get_token") 325, Value.str (Str.ofString "/claim/cut.py") 326, Value.int 54 0, Value.int 1 0, Value.int 0 0, Value.int 0 0, Value.int 3 0, Value.ref 127, Value.bool true, Value.int 181 0, Value.ref 128, Value.none, Value.ref 129, Value.ref 130, Value.ref 131, Value.int 331 0, Value.int 54 0, Value.str (Str.ofString "/claim/cut.py") 332]) #[]) ::
    (nat_lit 133, fnO (subOf 5 2) (Str.ofString "_netrclex.get_token") 3 [] Value.none Value.none Value.none (Value.str (Str.ofString "cpy313.netrc") 294) none (Value.ref 132) Value.none 0) ::
    (nat_lit 134, Obj.mk (Value.type "tuple") none (Data.seq #[]) #[]) ::
    (nat_lit 136, Obj.mk (Value.type "tuple") none (Data.seq #[Value.str (Str.ofString "self") 337, Value.str (Str.ofString "token") 338]) #[]) ::
    (nat_lit 137, Obj.mk (Value.type "tuple") none (Data.seq #[]) #[]) ::
    (nat_lit 139, Obj.mk (Value.type "code") none (Data.fields #[Value.str (Str.ofString "push_token") 334, Value.str (Str.ofString "_netrclex.push_token") 335, Value.str (Str.ofString "/claim/cut.py") 336, Value.int 81 0, Value.int 2 0, Value.int 0 0, Value.int 0 0, Value.int 3 0, Value.ref 134, Value.bool true, Value.int 181 0, Value.ref 135, Value.none, Value.ref 136, Value.ref 137, Value.ref 138, Value.int 339 0, Value.int 81 0, Value.str (Str.ofString "/claim/cut.py") 340]) #[]) ::
    (nat_lit 140, fnO (subOf 5 3) (Str.ofString "_netrclex.push_token") 3 [] Value.none Value.none Value.none (Value.str (Str.ofString "cpy313.netrc") 294) none (Value.ref 139) Value.none 0) ::
    (nat_lit 141, Obj.mk (Value.type "tuple") none (Data.seq #[Value.str (Str.ofString "instream") 342, Value.str (Str.ofString "lineno") 343, Value.str (Str.ofString "pushback") 344, Value.str (Str.ofString "whitespace") 345]) #[]) ::
    (nat_lit 142, Obj.mk (Value.type "dict") none (Data.dict #[DictEntry.mk (PyData.keyHash P (Str.ofString "__module__")) (Value.str (Str.ofString "__module__") 303) (Value.str (Str.ofString "cpy313.netrc") 294), DictEntry.mk (PyData.keyHash P (Str.ofString "__firstlineno__")) (Value.str (Str.ofString "__firstlineno__") 307) (Value.int 40 306), DictEntry.mk (PyData.keyHash P (Str.ofString "__init__")) (Value.str (Str.ofString "__init__") 315) (Value.ref 119), DictEntry.mk (PyData.keyHash P (Str.ofString "_read_char")) (Value.str (Str.ofString "_read_char") 323) (Value.ref 126), DictEntry.mk (PyData.keyHash P (Str.ofString "get_token")) (Value.str (Str.ofString "get_token") 333) (Value.ref 133), DictEntry.mk (PyData.keyHash P (Str.ofString "push_token")) (Value.str (Str.ofString "push_token") 341) (Value.ref 140), DictEntry.mk (PyData.keyHash P (Str.ofString "__static_attributes__")) (Value.str (Str.ofString "__static_attributes__") 346) (Value.ref 141), DictEntry.mk (PyData.keyHash P (Str.ofString "__dict__")) (Value.str (Str.ofString "__dict__") 348) (Value.ref 144), DictEntry.mk (PyData.keyHash P (Str.ofString "__weakref__")) (Value.str (Str.ofString "__weakref__") 350) (Value.ref 145), DictEntry.mk (PyData.keyHash P (Str.ofString "__doc__")) (Value.str (Str.ofString "__doc__") 351) Value.none] 4) #[]) ::
    (nat_lit 143, Obj.mk (Value.type "type") none (Data.cls (ClassData.mk (Str.ofString "_netrclex") [Value.type "object"] [Value.ref 143, Value.type "object"] 142 (Str.ofString "_netrclex") true [] [] false none false)) #[none, none, some (Value.str (Str.ofString "_netrclex") 296), some (Value.str (Str.ofString "_netrclex") 304), some (Value.builtin "object.__new__"), some (Value.bool true)]) ::
    (nat_lit 144, Obj.mk (Value.type "getset_descriptor") none (Data.fields #[Value.str (Str.ofString "__dict__") 347, Value.ref 143, Value.builtin "function.__dict__", Value.builtin "function.__dict__#set"]) #[]) ::
    (nat_lit 145, Obj.mk (Value.type "getset_descriptor") none (Data.fields #[Value.str (Str.ofString "__weakref__") 349, Value.ref 143, Value.builtin "ExceptionGroup.__weakref__", Value.none]) #[]) ::
    (nat_lit 148, Obj.mk (Value.type "tuple") none (Data.seq #[]) #[]) ::
    (nat_lit 150, Obj.mk (Value.type "tuple") none (Data.seq #[Value.str (Str.ofString "text") 359]) #[]) ::
    (nat_lit 151, Obj.mk (Value.type "tuple") none (Data.seq #[]) #[]) ::
    (nat_lit 153, Obj.mk (Value.type "code") none (Data.fields #[Value.str (Str.ofString "_raise_serialization_error") 356, Value.str (Str.ofString "_raise_serialization_error") 357, Value.str (Str.ofString "/claim/cut.py") 358, Value.int 84 0, Value.int 1 0, Value.int 0 0, Value.int 0 0, Value.int 3 0, Value.ref 148, Value.bool true, Value.int 181 0, Value.ref 149, Value.none, Value.ref 150, Value.ref 151, Value.ref 152, Value.int 360 0, Value.int 84 0, Value.str (Str.ofString "/claim/cut.py") 361]) #[]) ::
    (nat_lit 154, fnO (stOf 7) (Str.ofString "_raise_serialization_error") 3 [] Value.none Value.none Value.none (Value.str (Str.ofString "cpy313.xml.etree.ElementTree") 354) none (Value.ref 153) Value.none 0) ::
    (nat_lit 155, Obj.mk (Value.type "tuple") none (Data.seq #[]) #[]) ::
    (nat_lit 157, Obj.mk (Value.type "tuple") none (Data.seq #[Value.str (Str.ofString "text") 366]) #[]) ::
    (nat_lit 158, Obj.mk (Value.type "tuple") none (Data.seq #[]) #[]) ::
    (nat_lit 160, Obj.mk (Value.type "code") none (Data.fields #[Value.str (Str.ofString "_escape_cdata") 363, Value.str (Str.ofString "_escape_cdata") 364, Value.str (Str.ofString "/claim/cut.py") 365, Value.int 86 0, Value.int 1 0, Value.int 0 0, Value.int 0 0, Value.int 3 0, Value.ref 155, Value.bool true, Value.int 181 0, Value.ref 156, Value.none, Value.ref 157, Value.ref 158, Value.ref 159, Value.int 367 0, Value.int 86 0, Value.str (Str.ofString "/claim/cut.py") 368]) #[]) ::
    (nat_lit 161, fnO (stOf 8) (Str.ofString "_escape_cdata") 3 [] Value.none Value.none Value.none (Value.str (Str.ofString "cpy313.xml.etree.ElementTree") 354) none (Value.ref 160) Value.none 0) ::
    (nat_lit 162, Obj.mk (Value.type "tuple") none (Data.seq #[]) #[]) ::
    (nat_lit 164, Obj.mk (Value.type "tuple") none (Data.seq #[Value.str (Str.ofString "text") 373]) #[]) ::
    (nat_lit 165, Obj.mk (Value.type "tuple") none (Data.seq #[]) #[]) ::
    (nat_lit 167, Obj.mk (Value.type "code") none (Data.fields #[Value.str (Str.ofString "_escape_attrib") 370, Value.str (Str.ofString "_escape_attrib") 371, Value.str (Str.ofString "/claim/cut.py") 372, Value.int 97 0, Value.int 1 0, Value.int 0 0, Value.int 0 0, Value.int 3 0, Value.ref 162, Value.bool true, Value.int 181 0, Value.ref 163, Value.none, Value.ref 164, Value.ref 165, Value.ref 166, Value.int 374 0, Value.int 97 0, Value.str (Str.ofString "/claim/cut.py") 375]) #[]) ::
    (nat_lit 168, fnO (stOf 9) (Str.ofString "_escape_attrib") 3 [] Value.none Value.none Value.none (Value.str (Str.ofString "cpy313.xml.etree.ElementTree") 354) none (Value.ref 167) Value.none 0) ::
    (nat_lit 169, Obj.mk (Value.type "tuple") none (Data.seq #[]) #[]) ::
    (nat_lit 171, Obj.mk (Value.type "tuple") none (Data.seq #[Value.str (Str.ofString "text") 380]) #[]) ::
    (nat_lit 172, Obj.mk (Value.type "tuple") none (Data.seq #[]) #[]) ::
    (nat_lit 174, Obj.mk (Value.type "code") none (Data.fields #[Value.str (Str.ofString "_escape_attrib_html") 377, Value.str (Str.ofString "_escape_attrib_html") 378, Value.str (Str.ofString "/claim/cut.py") 379, Value.int 116 0, Value.int 1 0, Value.int 0 0, Value.int 0 0, Value.int 3 0, Value.ref 169, Value.bool true, Value.int 181 0, Value.ref 170, Value.none, Value.ref 171, Value.ref 172, Value.ref 173, Value.int 381 0, Value.int 116 0, Value.str (Str.ofString "/claim/cut.py") 382]) #[]) ::
    (nat_lit 175, fnO (stOf 10) (Str.ofString "_escape_attrib_html") 3 [] Value.none Value.none Value.none (Value.str (Str.ofString "cpy313.xml.etree.ElementTree") 354) none (Value.ref 174) Value.none 0) ::
    (nat_lit 176, Obj.mk (Value.type "tuple") none (Data.seq #[]) #[]) ::
    (nat_lit 178, Obj.mk (Value.type "tuple") none (Data.seq #[Value.str (Str.ofString "text") 387]) #[]) ::
    (nat_lit 179, Obj.mk (Value.type "tuple") none (Data.seq #[]) #[]) ::
    (nat_lit 181, Obj.mk (Value.type "code") none (Data.fields #[Value.str (Str.ofString "_escape_cdata_c14n") 384, Value.str (Str.ofString "_escape_cdata_c14n") 385, Value.str (Str.ofString "/claim/cut.py") 386, Value.int 127 0, Value.int 1 0, Value.int 0 0, Value.int 0 0, Value.int 3 0, Value.ref 176, Value.bool true, Value.int 181 0, Value.ref 177, Value.none, Value.ref 178, Value.ref 179, Value.ref 180, Value.int 388 0, Value.int 127 0, Value.str (Str.ofString "/claim/cut.py") 389]) #[]) ::
    (nat_lit 182, fnO (stOf 11) (Str.ofString "_escape_cdata_c14n") 3 [] Value.none Value.none Value.none (Value.str (Str.ofString "cpy313.xml.etree.ElementTree") 354) none (Value.ref 181) Value.none 0) ::
    (nat_lit 183, Obj.mk (Value.type "tuple") none (Data.seq #[]) #[]) ::
    (nat_lit 185, Obj.mk (Value.type "tuple") none (Data.seq #[Value.str (Str.ofString "text") 394]) #[]) ::
    (nat_lit 186, Obj.mk (Value.type "tuple") none (Data.seq #[]) #[]) ::
    (nat_lit 188, Obj.mk (Value.type "code") none (Data.fields #[Value.str (Str.ofString "_escape_attrib_c14n") 391, Value.str (Str.ofString "_escape_attrib_c14n") 392, Value.str (Str.ofString "/claim/cut.py") 393, Value.int 140 0, Value.int 1 0, Value.int 0 0, Value.int 0 0, Value.int 3 0, Value.ref 183, Value.bool true, Value.int 181 0, Value.ref 184, Value.none, Value.ref 185, Value.ref 186, Value.ref 187, Value.int 395 0, Value.int 140 0, Value.str (Str.ofString "/claim/cut.py") 396]) #[]) ::
    (nat_lit 189, fnO (stOf 12) (Str.ofString "_escape_attrib_c14n") 3 [] Value.none Value.none Value.none (Value.str (Str.ofString "cpy313.xml.etree.ElementTree") 354) none (Value.ref 188) Value.none 0) ::
    (nat_lit 190, Obj.mk (Value.type "tuple") none (Data.seq #[]) #[]) ::
    (nat_lit 192, Obj.mk (Value.type "tuple") none (Data.seq #[Value.str (Str.ofString "script") 403, Value.str (Str.ofString "heaps") 404, Value.str (Str.ofString "k") 405]) #[]) ::
    (nat_lit 193, Obj.mk (Value.type "tuple") none (Data.seq #[]) #[]) ::
    (nat_lit 195, Obj.mk (Value.type "code") none (Data.fields #[Value.str (Str.ofString "_law_heaps") 400, Value.str (Str.ofString "_law_heaps") 401, Value.str (Str.ofString "/claim/cut.py") 402, Value.int 158 0, Value.int 1 0, Value.int 0 0, Value.int 0 0, Value.int 3 0, Value.ref 190, Value.bool true, Value.int 181 0, Value.ref 191, Value.none, Value.ref 192, Value.ref 193, Value.ref 194, Value.int 406 0, Value.int 158 0, Value.str (Str.ofString "/claim/cut.py") 407]) #[]) ::
    (nat_lit 196, fnO (stOf 14) (Str.ofString "_law_heaps") 3 [] Value.none Value.none Value.none (Value.str (Str.ofString "law_xj0021_02") 398) none (Value.ref 195) Value.none 0) ::
    (nat_lit 197, Obj.mk (Value.type "tuple") none (Data.seq #[]) #[]) ::
    (nat_lit 199, Obj.mk (Value.type "tuple") none (Data.seq #[Value.str (Str.ofString "heaps") 412, Value.str (Str.ofString "letters") 413, Value.str (Str.ofString "heap") 414]) #[]) ::
    (nat_lit 200, Obj.mk (Value.type "tuple") none (Data.seq #[]) #[]) ::
    (nat_lit 202, Obj.mk (Value.type "code") none (Data.fields #[Value.str (Str.ofString "_law_root") 409, Value.str (Str.ofString "_law_root") 410, Value.str (Str.ofString "/claim/cut.py") 411, Value.int 163 0, Value.int 1 0, Value.int 0 0, Value.int 0 0, Value.int 3 0, Value.ref 197, Value.bool true, Value.int 181 0, Value.ref 198, Value.none, Value.ref 199, Value.ref 200, Value.ref 201, Value.int 415 0, Value.int 163 0, Value.str (Str.ofString "/claim/cut.py") 416]) #[]) ::
    (nat_lit 203, fnO (stOf 15) (Str.ofString "_law_root") 3 [] Value.none Value.none Value.none (Value.str (Str.ofString "law_xj0021_02") 398) none (Value.ref 202) Value.none 0) ::
    (nat_lit 204, Obj.mk (Value.type "tuple") none (Data.seq #[]) #[]) ::
    (nat_lit 207, Obj.mk (Value.type "code") none (Data.fields #[Value.str (Str.ofString "_law_text") 418, Value.str (Str.ofString "_law_text") 419, Value.str (Str.ofString "/claim/cut.py") 420, Value.int 168 0, Value.int 2 0, Value.int 0 0, Value.int 0 0, Value.int 3 0, Value.ref 204, Value.bool true, Value.int 181 0, Value.ref 205, Value.none, Value.none, Value.none, Value.ref 206, Value.int 421 0, Value.int 168 0, Value.str (Str.ofString "/claim/cut.py") 422]) #[]) ::
    (nat_lit 208, fnO (stOf 16) (Str.ofString "_law_text") 3 [] Value.none Value.none Value.none (Value.str (Str.ofString "law_xj0021_02") 398) none (Value.ref 207) Value.none 0) ::
    (nat_lit 209, Obj.mk (Value.type "tuple") none (Data.seq #[]) #[]) ::
    (nat_lit 211, Obj.mk (Value.type "tuple") none (Data.seq #[Value.str (Str.ofString "text") 427, Value.str (Str.ofString "stream") 428]) #[]) ::
    (nat_lit 212, Obj.mk (Value.type "tuple") none (Data.seq #[Value.str (Str.ofString "signs") 429]) #[]) ::
    (nat_lit 214, Obj.mk (Value.type "code") none (Data.fields #[Value.str (Str.ofString "_law_lexer") 424, Value.str (Str.ofString "_law_lexer") 425, Value.str (Str.ofString "/claim/cut.py") 426, Value.int 174 0, Value.int 1 0, Value.int 0 0, Value.int 0 0, Value.int 3 0, Value.ref 209, Value.bool true, Value.int 181 0, Value.ref 210, Value.none, Value.ref 211, Value.ref 212, Value.ref 213, Value.int 430 0, Value.int 174 0, Value.str (Str.ofString "/claim/cut.py") 431]) #[]) ::
    (nat_lit 215, fnO (stOf 17) (Str.ofString "_law_lexer") 3 [] Value.none Value.none Value.none (Value.str (Str.ofString "law_xj0021_02") 398) none (Value.ref 214) Value.none 0) ::
    (nat_lit 216, Obj.mk (Value.type "tuple") none (Data.seq #[]) #[]) ::
    (nat_lit 218, Obj.mk (Value.type "tuple") none (Data.seq #[Value.str (Str.ofString "start") 436, Value.str (Str.ofString "hands") 437]) #[]) ::
    (nat_lit 219, Obj.mk (Value.type "tuple") none (Data.seq #[]) #[]) ::
    (nat_lit 221, Obj.mk (Value.type "code") none (Data.fields #[Value.str (Str.ofString "_law_hands") 433, Value.str (Str.ofString "_law_hands") 434, Value.str (Str.ofString "/claim/cut.py") 435, Value.int 180 0, Value.int 1 0, Value.int 0 0, Value.int 0 0, Value.int 3 0, Value.ref 216, Value.bool true, Value.int 181 0, Value.ref 217, Value.none, Value.ref 218, Value.ref 219, Value.ref 220, Value.int 438 0, Value.int 180 0, Value.str (Str.ofString "/claim/cut.py") 439]) #[]) ::
    (nat_lit 222, fnO (stOf 18) (Str.ofString "_law_hands") 3 [] Value.none Value.none Value.none (Value.str (Str.ofString "law_xj0021_02") 398) none (Value.ref 221) Value.none 0) ::
    (nat_lit 223, Obj.mk (Value.type "tuple") none (Data.seq #[]) #[]) ::
    (nat_lit 225, Obj.mk (Value.type "tuple") none (Data.seq #[Value.str (Str.ofString "word") 444]) #[]) ::
    (nat_lit 226, Obj.mk (Value.type "tuple") none (Data.seq #[]) #[]) ::
    (nat_lit 228, Obj.mk (Value.type "code") none (Data.fields #[Value.str (Str.ofString "_law_turned") 441, Value.str (Str.ofString "_law_turned") 442, Value.str (Str.ofString "/claim/cut.py") 443, Value.int 183 0, Value.int 1 0, Value.int 0 0, Value.int 0 0, Value.int 3 0, Value.ref 223, Value.bool true, Value.int 181 0, Value.ref 224, Value.none, Value.ref 225, Value.ref 226, Value.ref 227, Value.int 445 0, Value.int 183 0, Value.str (Str.ofString "/claim/cut.py") 446]) #[]) ::
    (nat_lit 229, fnO (stOf 19) (Str.ofString "_law_turned") 3 [] Value.none Value.none Value.none (Value.str (Str.ofString "law_xj0021_02") 398) none (Value.ref 228) Value.none 0) ::
    (nat_lit 230, Obj.mk (Value.type "tuple") none (Data.seq #[]) #[]) ::
    (nat_lit 233, Obj.mk (Value.type "code") none (Data.fields #[Value.str (Str.ofString "_law_floors") 448, Value.str (Str.ofString "_law_floors") 449, Value.str (Str.ofString "/claim/cut.py") 450, Value.int 185 0, Value.int 3 0, Value.int 0 0, Value.int 0 0, Value.int 3 0, Value.ref 230, Value.bool true, Value.int 181 0, Value.ref 231, Value.none, Value.none, Value.none, Value.ref 232, Value.int 451 0, Value.int 185 0, Value.str (Str.ofString "/claim/cut.py") 452]) #[]) ::
    (nat_lit 234, fnO (stOf 20) (Str.ofString "_law_floors") 3 [] Value.none Value.none Value.none (Value.str (Str.ofString "law_xj0021_02") 398) none (Value.ref 233) Value.none 0) ::
    (nat_lit 235, Obj.mk (Value.type "tuple") none (Data.seq #[]) #[]) ::
    (nat_lit 237, Obj.mk (Value.type "tuple") none (Data.seq #[Value.str (Str.ofString "p") 457, Value.str (Str.ofString "q") 458, Value.str (Str.ofString "n") 459, Value.str (Str.ofString "counts") 460, Value.str (Str.ofString "turn") 461]) #[]) ::
    (nat_lit 238, Obj.mk (Value.type "tuple") none (Data.seq #[]) #[]) ::
    (nat_lit 240, Obj.mk (Value.type "code") none (Data.fields #[Value.str (Str.ofString "_law_counts") 454, Value.str (Str.ofString "_law_counts") 455, Value.str (Str.ofString "/claim/cut.py") 456, Value.int 210 0, Value.int 3 0, Value.int 0 0, Value.int 0 0, Value.int 3 0, Value.ref 235, Value.bool true, Value.int 181 0, Value.ref 236, Value.none, Value.ref 237, Value.ref 238, Value.ref 239, Value.int 462 0, Value.int 210 0, Value.str (Str.ofString "/claim/cut.py") 463]) #[]) ::
    (nat_lit 241, fnO (stOf 21) (Str.ofString "_law_counts") 3 [] Value.none Value.none Value.none (Value.str (Str.ofString "law_xj0021_02") 398) none (Value.ref 240) Value.none 0) ::
    (nat_lit 242, Obj.mk (Value.type "tuple") none (Data.seq #[]) #[]) ::
    (nat_lit 245, Obj.mk (Value.type "code") none (Data.fields #[Value.str (Str.ofString "law") 465, Value.str (Str.ofString "law") 466, Value.str (Str.ofString "/claim/cut.py") 467, Value.int 216 0, Value.int 1 0, Value.int 0 0, Value.int 0 0, Value.int 3 0, Value.ref 242, Value.bool true, Value.int 181 0, Value.ref 243, Value.none, Value.none, Value.none, Value.ref 244, Value.int 468 0, Value.int 216 0, Value.str (Str.ofString "/claim/cut.py") 469]) #[]) ::
    (nat_lit 246, fnO (stOf 22) (Str.ofString "law") 3 [] Value.none Value.none Value.none (Value.str (Str.ofString "law_xj0021_02") 398) none (Value.ref 245) Value.none 0) :: []
noncomputable abbrev KAs : List Addr := [2, 3, 15, 17, 18, 20, 21, 22, 25, 30, 31, 32, 34, 35, 37, 38, 39, 41, 42, 44, 45, 46, 47, 49, 50, 52, 53, 54, 55, 57, 58, 60, 61, 62, 64, 65, 67, 68, 69, 71, 72, 74, 75, 76, 77, 79, 80, 82, 83, 84, 86, 87, 89, 90, 91, 92, 94, 95, 97, 98, 99, 100, 101, 102, 103, 113, 115, 116, 118, 119, 120, 122, 123, 125, 126, 127, 129, 130, 132, 133, 134, 136, 137, 139, 140, 141, 142, 143, 144, 145, 148, 150, 151, 153, 154, 155, 157, 158, 160, 161, 162, 164, 165, 167, 168, 169, 171, 172, 174, 175, 176, 178, 179, 181, 182, 183, 185, 186, 188, 189, 190, 192, 193, 195, 196, 197, 199, 200, 202, 203, 204, 207, 208, 209, 211, 212, 214, 215, 216, 218, 219, 221, 222, 223, 225, 226, 228, 229, 230, 233, 234, 235, 237, 238, 240, 241, 242, 245, 246]
noncomputable abbrev kHk : Hook := kmHook KH KAs (fun _ => by kernel_rfl) [210]
noncomputable def view : Program := { PySem.Challenge.pw_xj0021_02 with main := { PySem.Challenge.pw_xj0021_02.main with body := [0, 2, 3, 5, 7, 8, 9, 10, 11, 12, 14, 15, 16, 17, 18, 19, 20, 21, 22].map stOf } }
noncomputable abbrev rwW := OpenRow.toRowW (OpenLaw.row PySem.Challenge.rw_xj0021_02)
theorem said : OpenLaw.wellSaid PySem.Challenge.rw_xj0021_02 = true := by kernel_rfl
theorem left : LeftO (RowW.prog rwW) view ["_Accumulator"] (fun s => xlAt view [] s && recOk (RowW.records rwW) s) (Hook.obs kHk) (Hook.val kHk) 2802 := fun w => by kernel_rfl
theorem fill : (PySem.Challenge.rw_xj0021_02, KH) = (PySem.Challenge.rw_xj0021_02, KH) := by k_fill; rfl
end Mine

-- MLines
section
open PySem PySem.W PyProof.Rows PySem.Spec PySem.Calls Builtin Builtin.ObjectAttr
namespace Mine
/-- one-sign texts -/
inductive Chrs : List Value → List Nat → Prop
  | nil : Chrs [] []
  | cons {c : Nat} {t : Tok} {vs : List Value} {cs : List Nat} : Chrs vs cs → Chrs (Value.str ⟨#[c]⟩ t :: vs) (c :: cs)
theorem Chrs.length {vs : List Value} {cs : List Nat} (h : Chrs vs cs) : vs.length = cs.length := by
  induction h with
  | nil => rfl
  | cons _ ih => simp [ih]
theorem Chrs.append {vs ws : List Value} {cs ds : List Nat} (h : Chrs vs cs) (k : Chrs ws ds) : Chrs (vs ++ ws) (cs ++ ds) := by
  induction h with
  | nil => exact k
  | cons _ ih => exact .cons ih
theorem Chrs.reverse {vs : List Value} {cs : List Nat} (h : Chrs vs cs) : Chrs vs.reverse cs.reverse := by
  induction h with
  | nil => exact .nil
  | cons h ih => simp only [List.reverse_cons]; exact ih.append (.cons .nil)
theorem Chrs.snoc {vs : List Value} {cs : List Nat} {c : Nat} (h : Chrs vs (cs ++ [c])) : ∃ ws t, vs = ws ++ [Value.str ⟨#[c]⟩ t] ∧ Chrs ws cs := by
  have := h.reverse
  simp only [List.reverse_append, List.reverse_cons, List.reverse_nil, List.nil_append, List.singleton_append] at this
  generalize hv : vs.reverse = us at this
  cases this with
  | cons r =>
    rename_i t us
    refine ⟨us.reverse, t, ?_, by simpa using r.reverse⟩
    have : vs = (vs.reverse).reverse := by simp
    rw [this, hv]; simp
theorem chrs_of_items {xs : Array Value} : ∀ (cs : List Nat) (vs : List Value), vs.length = cs.length → (∀ (j : Nat) (v : Value), vs[j]? = some v → ∃ c u, cs[j]? = some c ∧ v = Value.str ⟨#[c]⟩ u) → Chrs vs cs
  | [], [], _, _ => .nil
  | [], _ :: _, h, _ => by simp at h
  | _ :: _, [], h, _ => by simp at h
  | c :: cs, v :: vs, hl, h => by
    obtain ⟨c', u, e, rfl⟩ := h 0 v rfl
    simp only [List.getElem?_cons_zero, Option.some.injEq] at e
    subst e
    exact .cons (chrs_of_items (xs := xs) cs vs (by simpa using hl) fun j v e => by simpa using h (j + 1) v (by simpa using e))

section
variable {prog : Program} {w : World} {A : Around} {E : Value → Shared → Prop} {s : Shared} {h₀ : Heap} {L : Addr} {m : Str → Option Value} {news news' : Cells} {Q : Value → Shared → Prop}
theorem list_strK {x : Str} {t : Tok} (hh : A.handled = none) (F : Fr h₀ L s.heap m) (N : News h₀ L s.heap news) (hn : x.cps.size ≤ sizeLine)
    (h : ∀ l h' tk ys c, Chrs ys x.cps.toList → Fr h₀ L h' m → News h₀ L h' ((l, W.listOf ys.toArray c) :: news) → (∀ p ∈ news, p.1 < l) → Q (.ref l) { s with heap := h', toks := tk }) :
    wpAny (model prog w) A (call (.type "list") [.str x t]) Q E s := by
  refine call_list_str hh x t (hn := hn) fun h' tk acc' c' hk hS' hacc => ?_
  obtain ⟨F', N', l'⟩ := ks_newsPush (s := s) (q := s.heap.objs.size) F N rfl hS' hk
  refine h _ h' tk acc'.toList c' (chrs_of_items (xs := acc') _ _ (by simpa using hacc.1) fun j v e => ?_) F' (by simpa using N') l'
  obtain ⟨c, u, hc, rfl⟩ := hacc.2 j v (by simpa using e)
  exact ⟨c, u, by simpa using hc, rfl⟩
theorem reverseK {D : Addr} {ys : List Value} {n : Nat} (F : Fr h₀ L s.heap m) (N : News h₀ L s.heap news) (U : Upd D (W.listOf ys.toArray n) (W.listOf ys.reverse.toArray n) news news') (hz : ys.length ≤ sizeLine)
    (h : ∀ h', Fr h₀ L h' m → News h₀ L h' news' → Q .none { s with heap := h' }) : wpAny (model prog w) A (call (.builtin "list.reverse") [.ref D]) Q E s :=
  kl_reverse F N rfl U hz h
end
theorem fn_slot_sa : Slot "function" "__setattr__" "object.__setattr__" := .of (owner := "object") (n := "__setattr__") (by rw [typeLookup_type, builtinLookup_eq_fast]; kernel_rfl) (by decide +kernel) (by decide +kernel) (by decide +kernel)
    (by first | exact .inl (by decide +kernel) | exact .inr (by decide +kernel)) (by rw [isSubtype_type]; kernel_rfl)
theorem fn_mro : mroOf (.type "function") = pure [.type "function", .type "object"] := by kernel_rfl
theorem fn_refuse (self : Value) : refuseLoop self "__setattr__" [.type "function", .type "object"] = pure () := by kernel_rfl
theorem fn_read : typeLookup (.type "function") "read" = pure none := by rw [typeLookup_type, builtinLookup_eq_fast]; kernel_rfl
theorem fn_hasDict : typeHasDict (.type "function") = true := by kernel_rfl
theorem fn_notAlone : finalisedInACycleAlone "function" = false := by kernel_rfl
noncomputable abbrev fnObj (d : Option Addr) (fd : FuncData) : Obj := ⟨.type "function", d, .func fd, #[]⟩
section
variable {prog : Program} {w : World} {A : Around} {E : Value → Shared → Prop} {s : Shared} {h₀ : Heap} {L f : Addr} {m : Str → Option Value} {news : Cells} {g : Obj → Cells} {fd : FuncData} {name : Str} {v : Value}
theorem setFn {Q : Unit → Shared → Prop} (hn : typeLookup (.type "function") name = pure none) (F : Fr h₀ L s.heap m) (N : News h₀ L s.heap news) (U : UpdF f (fnObj none fd) news g)
    (h : ∀ d h' tk t, Fr h₀ L h' m → News h₀ L h' ((d, dictOf [⟨PyData.keyHash w.params name, .str name t, v⟩] 1) :: g (fnObj (some d) fd)) → (∀ p ∈ news, p.1 < d) → Q () { s with heap := h', toks := tk }) :
    wpAny (model prog w) A (setAttr (.ref f) name v) Q E s := by
  obtain ⟨pre, post, rfl, hg, u1, u2⟩ := U.split
  have hf := (N (f, fnObj none fd) (List.mem_append_right _ (.head _))).1
  have ty : ∀ {hh : Heap}, hh.get? f = some (fnObj none fd) → Looks (model prog w) hh (typeOf (.ref f)) (.type "function") := fun e => (Looks.ld (part := some headPart) e).andThen .now
  have T0 := ty hf
  obtain ⟨hh, gg, dd, tt, os⟩ := s
  have sub : Looks (model prog w) hh (isInstance (.ref f) (.type "object")) true := T0.andThen (Looks.of_pure (by rw [isSubtype_type]; kernel_rfl))
  have SF := PySem.F.store_object
  have key : codeAny (model prog w) A (.call (.builtin "object.__setattr__") ⟨[.ref f, .str name tt, v], []⟩) (fun r s' => match r with | .ok (.ret _) => Q () s' | .ok _ => False | .error e => E e s') ⟨hh, gg, dd, tt + 1, os⟩ := by
    refine codeAny_call_builtin SF.slot.plain SF.entry (@check_slot (model prog w) _ _ _ "object.__setattr__" "object" "__setattr__" (.ref f) [.str name tt, v] [] _ SF.kind SF.split sub (SF.args (.ref f) (.str name tt) v) ?_)
    rw [osa_eq, refuse_eq]
    refine wpAny_bind (wpAny_bind (T0.at (wpAny_bind ((Looks.of_pure fn_mro).at ?_))))
    rw [fn_refuse]
    refine wpAny_pure (wpAny_bind (T0.at (wpAny_bind ((Looks.of_pure hn).at (wpAny_bind (wpAny_pure ?_))))))
    show wpAny _ _ (storeInOwnDict (.ref f) (.type "function") (.str name tt) name v false) _ _ _
    have D0 : (hh.push { cls := .type "dict", data := .dict #[] }).get? f = some (fnObj none fd) := Heap.get?_push_of_some _ hf
    have fne : f ≠ hh.objs.size := Nat.ne_of_lt (Heap.lt_size hf)
    refine wpAny_bind (wpAny_pure (wpAny_bind ?_))
    show wpAny _ _ (instanceDict f true) _ _ _
    unfold instanceDict
    refine wpAny_bind (wpAny_loadPart hf ?_)
    dsimp only
    rw [fn_hasDict]
    refine wpAny_bind (wpAny_alloc ?_)
    refine wpAny_bind (wpAny_update D0 ?_)
    have H2 : ((hh.push { cls := .type "dict", data := .dict #[] }).update f fun o => { cls := o.cls, dict := some hh.objs.size, data := o.data, slots := o.slots }).get? hh.objs.size = some (dictOf [] 0) :=
      (Heap.get?_update_ne _ _ _ _ fne.symm).trans (Heap.get?_push_at rfl rfl)
    have H3 : ((hh.push { cls := .type "dict", data := .dict #[] }).update f fun o => { cls := o.cls, dict := some hh.objs.size, data := o.data, slots := o.slots }).get? f = some (fnObj (some hh.objs.size) fd) :=
      Heap.get?_update_self _ D0 rfl
    have F1 : Fr h₀ L (hh.push { cls := .type "dict", data := .dict #[] }) m := F.push _
    have N1 : News h₀ L (hh.push { cls := .type "dict", data := .dict #[] }) ((hh.objs.size, dictOf [] 0) :: (pre ++ (f, fnObj none fd) :: post)) := N.push F _
    have lo : ∀ p ∈ pre ++ (f, fnObj none fd) :: post, p.1 < hh.objs.size := fun p hp => Heap.lt_size (N p hp).1
    obtain ⟨F2, N2⟩ := news_upd (pre := (hh.objs.size, dictOf [] 0) :: pre) (f := fun o => { cls := o.cls, dict := some hh.objs.size, data := o.data, slots := o.slots }) (o' := fnObj (some hh.objs.size) fd) F1 N1 (fun p hp => by
      rcases List.mem_cons.mp hp with rfl | hp
      · exact fne.symm
      · exact u1 p hp) u2 rfl rfl
    generalize (hh.push { cls := .type "dict", data := .dict #[] }).update f (fun o => { cls := o.cls, dict := some hh.objs.size, data := o.data, slots := o.slots }) = h3 at *
    unfold dictMade
    dsimp only
    rw [fn_notAlone]
    refine wpAny_bind (wpAny_pure (wpAny_pure ?_))
    show wpAny _ _ (storeInDict hh.objs.size (.str name tt) name v) _ _ _
    refine wpAny_bind (wpAny_pure (wpAny_bind ?_))
    unfold nsSet
    refine wpAny_bind (wpAny_bind (wpAny_askSetting (wpAny_pure (wpAny_bind (wpAny_mkText (wpAny_bind (wpAny_loadPart H2 ?_)))))))
    have PN : Obj.putName name (PyData.keyHash w.params name) (.str name (tt + 1)) v (dictOf [] 0) = dictOf [⟨PyData.keyHash w.params name, .str name (tt + 1), v⟩] 1 := putName_dict ..
    obtain ⟨F3, N3⟩ := news_upd (pre := []) (f := Obj.putName name (PyData.keyHash w.params name) (.str name (tt + 1)) v) F2 N2 (fun p hp => nomatch hp) (fun p hp => by
      rcases List.mem_append.mp hp with hp | hp
      · exact Nat.ne_of_lt (lo p (List.mem_append_left _ hp))
      · rcases List.mem_cons.mp hp with rfl | hp
        · exact fne
        · exact Nat.ne_of_lt (lo p (List.mem_append_right _ (.tail _ hp)))) PN rfl
    have H4 := (N3 (hh.objs.size, _) (.head _)).1
    dsimp only
    rw [show aRefKeyMayBeTheName name ([] : List DictEntry).toArray = false from by rw [aRefKeyMayBeTheName_at]; simp]
    refine wpAny_updatePart H2 ?_
    refine wpAny_bind (wpAny_lookBehind H4 (pastItsLine_dict (by rw [sizeLine_eq]; show 1 ≤ _; omega)) ?_)
    refine wpAny_pure ?_
    refine h hh.objs.size _ _ (tt + 1) F3 ?_ lo
    rw [hg]
    exact N3
  refine wpAny_bind (wpAny_mkText ?_)
  refine wpAny_bind (wpAny_bind (wpAny_bind (T0.at ((Looks.of_pure fn_slot_sa.lookup).at (wpAny_holding ?_)))))
  rw [fn_slot_sa.bind]
  refine wpAny_bind (wpAny_pure (wpAny_bind (wpAny_call (codeAny_mono key fun r s' z => ?_))))
  rcases r with e | (v | _ | _ | _) <;> first | exact z | exact wpAny_pure (wpAny_pure z)
end
theorem fn_slot_ga : Slot "function" "__getattribute__" "object.__getattribute__" := .of (owner := "object") (n := "__getattribute__") (by rw [typeLookup_type, builtinLookup_eq_fast]; kernel_rfl) (by decide +kernel) (by decide +kernel) (by decide +kernel)
    (by first | exact .inl (by decide +kernel) | exact .inr (by decide +kernel)) (by rw [isSubtype_type]; kernel_rfl)
theorem fn_getattr : typeLookup (.type "function") "__getattr__" = pure none := by rw [typeLookup_type, builtinLookup_eq_fast]; kernel_rfl
theorem entry_oga : entryFor table "object.__getattribute__" = some Builtin.«object.__getattribute__» := entryFor_of_tree (by kernel_rfl)
theorem args_oga (a b : Value) : argsOk "object.__getattribute__" ⟨[a, b], []⟩ := by unfold argsOk; kernel_rfl
section
variable {prog : Program} {w : World} {A : Around} {E : Value → Shared → Prop} {s : Shared} {h₀ : Heap} {L f d : Addr} {m : Str → Option Value} {news : Cells} {fd : FuncData} {name : Str} {v : Value} {es : List DictEntry} {n : Nat}
theorem getFn {Q : Value → Shared → Prop} {expr : Bool} (hn : typeLookup (.type "function") name = pure none) (N : News h₀ L s.heap news) (hm : (f, fnObj (some d) fd) ∈ news) (hd : (d, dictOf es n) ∈ news) (hl : getL name es = some (some v)) (hv : handedIn v = true)
    (h : Q v { s with toks := s.toks + 1 }) : wpAny (model prog w) A (getAttr (.ref f) name expr) Q E s := by
  obtain ⟨hh, gg, dd, tt, os⟩ := s
  have hf := (N _ hm).1
  have hdd := (N _ hd).1
  have T0 : Looks (model prog w) hh (typeOf (.ref f)) (.type "function") := (Looks.ld (part := some headPart) hf).andThen .now
  have L2 : Looks (model prog w) hh (nsGet d name) (some v) := (Looks.ld hdd).andThen (Looks.of_pure (nsLook_of (by rw [lookIn_dict]; exact hl)))
  have L3 : Looks (model prog w) hh (inOwnDict name (.ref f)) (some v) := by
    refine Looks.andThen (a := some d) ?_ L2
    refine (Looks.ld (part := some headPart) hf).andThen ?_
    exact (Looks.ld (part := some headPart) hf).andThen .now
  have L1 : Looks (model prog w) hh (find (.ref f) (.type "function") name) (.value v) := by
    refine (Looks.of_pure hn).andThen (Looks.now.andThen (Looks.now.andThen ?_))
    exact L3.andThen (Looks.tag .now)
  unfold getAttr getAttrBy
  refine wpAny_bind (wpAny_mkText (wpAny_holding (wpAny_bind (T0.at (wpAny_bind ((Looks.of_pure fn_slot_ga.lookup).at ?_))))))
  show wpAny _ _ (getAttrByItsOwn (.ref f) (.str name tt) (.type "function") (.builtin "object.__getattribute__") true expr) _ _ _
  unfold getAttrByItsOwn
  refine wpAny_bind (wpAny_pure (wpAny_bind (wpAny_attempt (wpAny_holding ?_))))
  have key : codeAny (model prog w) A (.call (.builtin "object.__getattribute__") ⟨[.ref f, .str name tt], []⟩) (fun r s' => match r with | .ok (.ret v) => wpAny (model prog w) A (handedOut v) Q E s' | .ok _ => False | .error e => False) ⟨hh, gg, dd, tt + 1, os⟩ := by
    refine codeAny_call_builtin fn_slot_ga.plain entry_oga (fn_slot_ga.check _ _ _ _ _ _ _ _ ⟨_, hf, rfl⟩ (args_oga _ _) ?_)
    refine wpAny_bind (wpAny_pure (wpAny_bind (wpAny_pure (wpAny_bind (T0.at (wpAny_bind (L1.at (wpAny_pure ?_))))))))
    show wpAny (model prog w) A (handedOut v) Q E _
    rw [handedOut_of hv]
    exact wpAny_pure h
  have ce : callGetattribute (.ref f) (.str name tt) (.builtin "object.__getattribute__") expr = boundAndCalled (.builtin "object.__getattribute__") (.ref f) (.str name tt) := by
    unfold callGetattribute; cases expr <;> rfl
  rw [ce]
  unfold boundAndCalled
  rw [fn_slot_ga.bind]
  refine wpAny_bind (wpAny_pure (wpAny_call (codeAny_mono key fun r s' z => ?_)))
  rcases r with e | (v | _ | _ | _) <;> first | exact z | exact z.elim
theorem methFn {Q : Value × List Value → Shared → Prop} {pl : Sem Bool} (hn : typeLookup (.type "function") name = pure none) (N : News h₀ L s.heap news) (hm : (f, fnObj (some d) fd) ∈ news) (hd : (d, dictOf es n) ∈ news) (hl : getL name es = some (some v)) (hv : handedIn v = true)
    (h : Q (v, []) { s with toks := s.toks + 1 }) : wpAny (model prog w) A (getMethod (.ref f) name pl) Q E s := by
  have hf := (N _ hm).1
  have T0 : Looks (model prog w) s.heap (typeOf (.ref f)) (.type "function") := (Looks.ld (part := some headPart) hf).andThen .now
  refine wpAny_bind (wpAny_bind (T0.here ((Looks.of_pure fn_slot_ga.lookup).here ?_)))
  show wpAny _ _ (if (Manifest.canonical "object.__getattribute__" != "object.__getattribute__") = true then _ else _) _ _ _
  rw [show (Manifest.canonical "object.__getattribute__" != "object.__getattribute__") = false from by decide +kernel]
  refine wpAny_bind (wpAny_bind (T0.here ((Looks.of_pure fn_getattr).here ?_)))
  refine wpAny_bind (wpAny_bind (T0.here ((Looks.of_pure hn).here ?_)))
  exact wpAny_bind (getFn hn N hm hd hl hv (wpAny_pure h))
end
theorem offNe {own rest : Cells} {a b : Addr} {oa ob : Obj} (h : ∀ p ∈ own, ∀ q ∈ rest, p.1 ≠ q.1) (ha : (a, oa) ∈ own) (hb : (b, ob) ∈ rest) : a ≠ b := h _ ha _ hb
/-- addresses apart -/
noncomputable def AllNe (a : Addr) : List Addr → Prop
  | [] => True
  | b :: l => a ≠ b ∧ AllNe a l
noncomputable def Apart : List Addr → Prop
  | [] => True
  | a :: l => AllNe a l ∧ Apart l
theorem AllNe.of {a : Addr} : ∀ {l : List Addr}, AllNe a l → ∀ b ∈ l, a ≠ b
  | _ :: _, h, _, .head _ => h.1
  | _ :: _, h, _, .tail _ hm => h.2.of _ hm
theorem AllNe.to {a : Addr} : ∀ {l : List Addr}, (∀ b ∈ l, a ≠ b) → AllNe a l
  | [], _ => trivial
  | _ :: _, h => ⟨h _ (.head _), AllNe.to fun b hb => h b (.tail _ hb)⟩
theorem under_make (dp un : Nat) (gd : Option (List Code)) (fr : List Env) (C : Addr) (pos : List Value) : (arT dp un gd fr).under (.builtin "type.__call__" ⟨.ref C :: pos, []⟩) = arT (dp + 1) (un + 1) gd fr := rfl
section
variable {prog : Program} {w : World} {K : Frag} {k : Nat} {E : Value → Shared → Prop} {s : Shared} {h₀ : Heap} {L : Addr} {m : Str → Option Value} {news own rest : Cells} {Q : Value → Shared → Prop} {dp un : Nat} {gd : Option (List Code)} {fr : List Env} {C fI : Addr} {pos : List Value}
/-- an object of a class of the text's, by its __init__'s contract -/
theorem useMake {res : Addr → Addr → Value → Cells → Prop} (D : ∀ x dx : Addr, x ≠ dx → (∀ p ∈ own, p.1 ≠ x ∧ p.1 ≠ dx) → Does K prog w k fI (.ref x :: pos) ((x, instObj C dx) :: (dx, dictOf [] 0) :: own) (res x dx)) (hnone : ∀ x dx v own', res x dx v own' → v = .none)
    (F : Fr h₀ L s.heap m) (N : News h₀ L s.heap news) (G : Gd K h₀) (ho : ∀ p ∈ own, p ∈ news) (hr : ∀ p ∈ rest, p ∈ news) (hd : ∀ p ∈ own, ∀ q ∈ rest, p.1 ≠ q.1)
    (hm : makesIn K C = true) (hi : findIn K (.ref C) "__init__" = some (some (.ref fI))) (hf : isFn K (.ref fI) = true) (hdp : dp + (k + 1) < recursionLimit) (hun : un + 20 * k + 1 < cLine)
    (h : ∀ x dx h' tk own', res x dx .none own' → Fr h₀ L h' m → News h₀ L h' (own' ++ rest) → (∀ p ∈ own', ∀ q ∈ rest, p.1 ≠ q.1) → Q (.ref x) { s with heap := h', toks := tk }) :
    wpAny (model prog w) (arT dp un gd fr) (call (.ref C) pos) Q E s := by
  refine call_cls F G.X N hm hi hf fun x dx h' F' N' lo hlt => ?_
  rw [under_make]
  have nx : ∀ p ∈ news, p.1 ≠ x ∧ p.1 ≠ dx := fun p hp => ⟨Nat.ne_of_lt (Nat.lt_trans (lo p hp) hlt), Nat.ne_of_lt (lo p hp)⟩
  refine useCode (own := (x, instObj C dx) :: (dx, dictOf [] 0) :: own) (rest := rest) (D x dx (Nat.ne_of_gt hlt) fun p hp => nx p (ho p hp)) F' N' G (fun p hp => ?_) (fun p hp => .tail _ (.tail _ (hr p hp))) (fun p hp q hq => ?_) (by omega) (by omega) (fun v h'' tk own' hv F'' N'' hd'' => ?_)
  · rcases List.mem_cons.mp hp with rfl | hp
    · exact .head _
    · rcases List.mem_cons.mp hp with rfl | hp
      · exact .tail _ (.head _)
      · exact .tail _ (.tail _ (ho p hp))
  · rcases List.mem_cons.mp hp with rfl | hp
    · exact fun e => (nx q (hr q hq)).1 e.symm
    · rcases List.mem_cons.mp hp with rfl | hp
      · exact fun e => (nx q (hr q hq)).2 e.symm
      · exact hd p hp q hq
  · obtain rfl := hnone _ _ _ _ hv
    exact ⟨rfl, h x dx h'' tk own' hv F'' N'' hd''⟩
end
section
variable {prog : Program} {w : World} {A : Around} {E : Value → Shared → Prop} {s : Shared} {h₀ : Heap} {L D : Addr} {m : Str → Option Value} {news news' : Cells} {n : Nat} {vs : List Value} {v : Value}
theorem popLastK {Q : Value → Shared → Prop} (F : Fr h₀ L s.heap m) (N : News h₀ L s.heap news) (U : Upd D (W.listOf (vs ++ [v]).toArray n) (W.listOf vs.toArray (n + 1)) news news') (hz : vs.length < 16000000)
    (h : ∀ h', Fr h₀ L h' m → News h₀ L h' news' → Q v { s with heap := h' }) : wpAny (model prog w) A (call (.builtin "list.pop") [.ref D]) Q E s := by
  refine kl_pop (p := vs) (y := v) F N ?_ U (by rw [sizeLine_eq]; simp; omega) h
  show kl_last (vs ++ [v]) = some (vs, v)
  clear U hz h
  induction vs with
  | nil => rfl
  | cons x r ih =>
    show kl_last (x :: (r ++ [v])) = _
    unfold kl_last
    rw [ih]
theorem popFirstK {u : Tok} {Q : Value → Shared → Prop} (F : Fr h₀ L s.heap m) (N : News h₀ L s.heap news) (U : Upd D (W.listOf (v :: vs).toArray n) (W.listOf vs.toArray (n + 1)) news news') (hz : vs.length < 16000000)
    (h : ∀ h', Fr h₀ L h' m → News h₀ L h' news' → Q v { s with heap := h' }) : wpAny (model prog w) A (call (.builtin "list.pop") [.ref D, .int 0 u]) Q E s :=
  kl_popAt (k := 0) (p := []) (q := vs) (y := v) F N rfl (by unfold seqIndex?; simp) rfl U (by rw [sizeLine_eq]; simp; omega) h
theorem truthyK {b : Bool} {its : Array Value} {Q : Bool → Shared → Prop} (N : News h₀ L s.heap news) (hm : (D, W.listOf its n) ∈ news) (hb : (!its.isEmpty) = b) (hz : its.size < 16000000)
    (h : Q b { s with toks := s.toks + 1 + 1 }) : wpAny (model prog w) A (truthy (.ref D)) Q E s := by
  subst hb
  exact wpAny_truthy_list ⟨_, (N _ hm).1, rfl, n, rfl⟩ (by omega) h
end
section
variable {prog : Program} {w : World} {A : Around} {E : Value → Shared → Prop} {s : Shared} {x y : Str} {t u : Tok} {b : Bool} {Q : Value → Shared → Prop}
theorem eqStrK (e : (x == y) = b) (h : Q (.bool b) s) : wpAny (model prog w) A (compareOp .Eq (.str x t) (.str y u)) Q E s := PyProof.Rows.eq_str (by rw [e]; exact h)
theorem inStrK (e : (!(Builtin.Str.occurrences x y 0 x.length 1).isEmpty) = b) (h : Q (.bool b) s) : wpAny (model prog w) A (compareOp .In (.str y u) (.str x t)) Q E s := PyProof.Rows.in_str (by rw [e]; exact h)
end
end Mine
end
open Mine
local macro_rules | `(tactic| walk_at "call type:list") => `(tactic| (k_here; (with_reducible show wpAny _ _ (call (Value.type "list") [Value.str _ _]) _ _ _); (refine Mine.list_strK rfl (by k_asm) (by k_asm) (by assumption) ?_); intro l' h' tk' ys' c' hc' F' N' l1; (try k_lt l1); (try k_sweep)))
local macro_rules | `(tactic| walk_at "call builtin:list.reverse") => `(tactic| (k_here; (with_reducible show wpAny _ _ (call (Value.builtin _) [Value.ref _]) _ _ _); k_dflt (refine' Mine.reverseK ?F ?N ?U ?z ?_; (case F => k_asm); (case N => k_asm); (case U => k_upd); (case z => first | assumption | (simp only [Mine.Chrs.length (by assumption), Array.length_toList]; assumption))); (intro h' F' N'; (try k_sweep))))
local macro_rules | `(tactic| walk_at "storeName") => `(tactic| (k_here; k_dflt ((refine' storeX_C ?F ?N ?c ?U ?d ?_ ?a ?b; (case a => rfl); (case b => rfl); (case F => k_asm); (case N => k_asm); (case c => rfl); (case U => k_updF); (case d => k_asm); k_whole; intro h' o' F' N' d'; (try simp only [List.append_eq, List.cons_append, List.nil_append] at N'); (try k_sweep)))))
local macro_rules | `(tactic| walk_at "setAttr ref") => `(tactic| (k_here; (with_reducible show wpAny _ _ (setAttr (Value.ref _) (Str.ofString "read") _) _ _ _); k_dflt (refine' Mine.setFn Mine.fn_read ?F ?N ?U ?_; (case F => k_asm); (case N => k_asm); (case U => k_updF); k_whole); intro d' h' tk' t' F' N' l1; (try simp only [List.append_eq, List.cons_append, List.nil_append] at N'); (try k_lt l1); (try k_sweep)))
local macro_rules | `(tactic| walk_at "getMethod ref") => `(tactic| (k_here; (with_reducible show wpAny _ _ (getMethod (Value.ref _) (Str.ofString "read") _) _ _ _); k_dflt (refine' Mine.methFn Mine.fn_read ?N ?m ?d ?l ?v ?_; (case N => k_asm); (case m => k_mem); (case d => k_mem); (case l => k_get); (case v => k_handed); k_whole)))
local macro_rules | `(tactic| walk_at "truthy ref") => `(tactic| (k_here; (with_reducible show wpAny _ _ (truthy (Value.ref _)) _ _ _); k_dflt (first
  | (refine' Mine.truthyK (b := true) ?N ?m ?b ?z ?_; (case N => k_asm); (case m => k_mem); (case b => simp; done); (case z => (simp; omega)); k_whole)
  | (refine' Mine.truthyK (b := false) ?N ?m ?b ?z ?_; (case N => k_asm); (case m => k_mem); (case b => first | rfl | (simp; done)); (case z => first | decide | (simp; omega)); k_whole))))
local macro_rules | `(tactic| walk_at "call builtin:list.pop") => `(tactic| (k_here; k_dflt (first
  | ((with_reducible show wpAny _ _ (call (Value.builtin _) [Value.ref _]) _ _ _); refine' Mine.popLastK ?F ?N ?U ?z ?_; (case F => k_asm); (case N => k_asm); (case U => k_upd); (case z => first | assumption | omega))
  | ((with_reducible show wpAny _ _ (call (Value.builtin _) [Value.ref _, Value.int _ _]) _ _ _); refine' Mine.popFirstK ?F ?N ?U ?z ?_; (case F => k_asm); (case N => k_asm); (case U => k_upd); (case z => first | assumption | omega))); (intro h' F' N'; (try k_sweep))))
local macro_rules | `(tactic| walk_at "compareOp Eq str str") => `(tactic| (k_here; (with_reducible refine Mine.eqStrK (by assumption) ?_)))
local macro_rules | `(tactic| walk_at "compareOp In str str") => `(tactic| (k_here; (with_reducible refine Mine.inStrK (by assumption) ?_)))
local macro_rules | `(tactic| k_ne) => `(tactic| first | assumption | exact Ne.symm (by assumption) | (refine neN ?_; (try dsimp only); omega))

-- T9
namespace Mine
noncomputable abbrev lexD (w : World) (t1 t2 t3 t4 : Tok) (r1 r2 r3 r4 : Value) (n : Nat) : Obj :=
  dictOf [⟨PyData.keyHash w.params "lineno", .str "lineno" t1, r1⟩, ⟨PyData.keyHash w.params "instream", .str "instream" t2, r2⟩, ⟨PyData.keyHash w.params "whitespace", .str "whitespace" t3, r3⟩, ⟨PyData.keyHash w.params "pushback", .str "pushback" t4, r4⟩] n
theorem lexInit {prog : Program} {w : World} (x d : Addr) (io : Value) (n1 : x ≠ d) :
   Does (KH w.params) prog w 2 119 [.ref x, io] [(x, instObj 143 d), (d, dictOf [] 0)] (fun r own => r = .none ∧ ∃ P t1 t2 t3 t4 tl tw, Apart [P, x, d] ∧ own = [(P, W.listOf #[] 0), (x, instObj 143 d), (d, lexD w t1 t2 t3 t4 (.int 1 tl) io (.str "\n\t\r " tw) (.ref P) 4)]) := by
  refine enter (binds := [("self", .ref x), ("fp", io)]) (by k_is) (by k_is) (fun s X => BindsTo.of_eq rfl) (locs rfl) ?_
  intro dp un gd fr g L s PP hP G F N l0 hdp hun
  obtain ⟨X, ⟨p, loose, mean, mg, mb, T⟩, codeHd⟩ := G
  k_lt l0
  try k_fold
  k_steps
  exact hP _ _ (Fin.intro (by assumption) (by assumption) ⟨rfl, _, _, _, _, _, _, _, by (simp only [Apart, AllNe, and_true]; refine ⟨⟨by k_ne, by k_ne⟩, by k_ne⟩), rfl⟩)
end Mine

-- T10
namespace Mine
noncomputable def Reader (prog : Program) (w : World) (rf : Addr) (rfO : Obj) (c2 : Addr) (oc2 : Obj) (cell : Addr) (oCell : Obj) (S : Addr) : Prop :=
  Apart [rf, c2, cell, S] →
  (∀ (vs : List Value) (v : Value) (k : Nat) (arg : Value), vs.length < 10000 → Does (KH w.params) prog w 2 rf [arg] [(rf, rfO), (c2, oc2), (cell, oCell), (S, W.listOf (vs ++ [v]).toArray k)] (fun r own => r = v ∧ ∃ k', own = [(rf, rfO), (c2, oc2), (cell, oCell), (S, W.listOf vs.toArray k')])) ∧
  (∀ (k : Nat) (arg : Value), Does (KH w.params) prog w 2 rf [arg] [(rf, rfO), (c2, oc2), (cell, oCell), (S, W.listOf #[] k)] (fun r own => (∃ t, r = .str "" t) ∧ own = [(rf, rfO), (c2, oc2), (cell, oCell), (S, W.listOf #[] k)]))
structure LX where
  (x d P io dio rf c2 cell S : Addr)
  (fdS fdR : FuncData) (oc2 oCell : Obj)
  (t1 t2 t3 t4 tw t5 : Tok)
noncomputable abbrev LX.cells (w : World) (l : LX) (ln : Int) (tl : Tok) (pb : List Value) (kp : Nat) (sg : List Value) (ks : Nat) : Cells :=
  [(l.x, instObj 143 l.d), (l.d, lexD w l.t1 l.t2 l.t3 l.t4 (.int ln tl) (.ref l.io) (.str "\n\t\r " l.tw) (.ref l.P) 4), (l.P, W.listOf pb.toArray kp), (l.io, fnObj (some l.dio) l.fdS),
   (l.dio, dictOf [⟨PyData.keyHash w.params "read", .str "read" l.t5, .ref l.rf⟩] 1), (l.rf, fnObj none l.fdR), (l.c2, l.oc2), (l.cell, l.oCell), (l.S, W.listOf sg.toArray ks)]
structure LX.Ok (prog : Program) (w : World) (l : LX) : Prop where
  ap : Apart [l.x, l.d, l.P, l.io, l.dio, l.rf, l.c2, l.cell, l.S]
  rd : Reader prog w l.rf (fnObj none l.fdR) l.c2 l.oc2 l.cell l.oCell l.S
noncomputable def CodeOf (o : Obj) (q : Str) : Prop := ∃ vs t, o.data = .fields vs ∧ vs[1]? = some (.str q t)
theorem lawLexer {prog : Program} {w : World} (tx : Str) (tt : Tok) (hsz : tx.cps.size ≤ sizeLine) :
   Does (KH w.params) prog w 4 215 [.str tx tt] [(210, tabObj #[])] (fun r own => ∃ (l : LX) (c1 : Addr) (oc1 : Obj) (tl : Tok) (ys : List Value) (ks : Nat), LX.Ok prog w l ∧ r = .ref l.x ∧ Chrs ys tx.cps.toList.reverse ∧ CodeOf l.oc2 "_law_lexer.<locals>.<lambda>" ∧ AllNe 210 [l.x, l.d, l.P, l.io, l.dio, l.rf, l.c2, l.cell, l.S] ∧ AllNe c1 [l.x, l.d, l.P, l.io, l.dio, l.rf, l.c2, l.cell, l.S] ∧ 210 ≠ c1 ∧
     own = l.cells w 1 tl [] 0 ys ks ++ [(c1, oc1), (210, tabObj #[rawInt 177, rawInt 13, .ref c1, rawInt 178, rawInt 18, .ref l.c2])]) := by
  refine enterC (binds := [("text", .str tx tt)]) (by k_is) (by k_is) (fun s X => BindsTo.of_eq rfl) (by rfl) (by decide +kernel) ?_
  intro dp un gd fr g L s cells PP hP G F N Y l0 hdp hun
  obtain ⟨X, ⟨p, loose, mean, mg, mb, T⟩, codeHd⟩ := id G
  obtain ⟨o1, rfl, d1⟩ := CellsAre.one Y
  simp only [List.cons_append, List.nil_append] at N
  k_lt l0
  clear Y
  have d1 : o1.data = .cell none := d1
  try k_fold
  k_steps
  rename_i S h6 tk3 ys kc hc l3 h5 oCell dC h4 io c1 oc1 vs1 t2 ct1 h3 tk2 e1 e2 l2 l21 h2 rf c2 oc2 vs2 tt1 ct2 h1 tk1 f1 f2 l11 l12 dio h0 tk0 t0 F0 N0 l0'
  refine useMake (own := []) (fun x dx n _ => lexInit x dx _ n) (fun x dx v own' h => h.1) F0 N0 G (fun p hp => nomatch hp) (fun p hp => hp) (fun p hp => nomatch hp) (by k_is) (by k_is) (by k_is) (by omega) (by omega) ?_
  rintro x dx h' tk own' ⟨_, P, t1, t2, t3, t4, tl, tw, hap, rfl⟩ F' N' hd'
  simp only [Apart, AllNe, and_true] at hap
  obtain ⟨⟨ap1, ap2⟩, ap3⟩ := hap
  refine hP _ _ ?_
  refine' Fin.intro (news' := LX.cells w ⟨x, dx, P, io, dio, rf, c2, L + 1, S, _, _, oc2, oCell, t1, t2, t3, t4, tw, t0⟩ 1 tl [] 0 ys.reverse kc ++ [(c1, oc1), (210, tabObj #[rawInt 177, rawInt 13, .ref c1, rawInt 178, rawInt 18, .ref c2])]) F' (cb_drop N' ?sub) ?res
  case sub =>
    dsimp only [LX.cells]
    simp only [List.cons_append, List.nil_append]
    exact List.forall_mem_cons.mpr ⟨.tail _ (.head _), List.forall_mem_cons.mpr ⟨.tail _ (.tail _ (.head _)), List.forall_mem_cons.mpr ⟨.head _, by
      repeat' (first | exact List.forall_mem_nil _ | refine List.forall_mem_cons.mpr ⟨by k_mem, ?_⟩)⟩⟩⟩
  refine ⟨_, c1, oc1, tl, _, kc, ⟨?_, ?_⟩, rfl, hc.reverse, ⟨_, _, f1, f2⟩, ?_, ?_, ?_, rfl⟩
  · simp only [Apart, AllNe, and_true]
    refine ⟨⟨?_, ?_, ?_, ?_, ?_, ?_, ?_, ?_⟩, ⟨?_, ?_, ?_, ?_, ?_, ?_, ?_⟩, ⟨?_, ?_, ?_, ?_, ?_, ?_⟩, ⟨?_, ?_, ?_, ?_, ?_⟩, ⟨?_, ?_, ?_, ?_⟩, ⟨?_, ?_, ?_⟩, ⟨?_, ?_⟩, ?_⟩ <;> (first | assumption | exact Ne.symm (by assumption) | k_ne | exact offNe hd' (by k_mem) (by k_mem) | exact (offNe hd' (by k_mem) (by k_mem)).symm)
  · clear N' F' N0 F0 hd'
    show Reader prog w rf _ c2 oc2 (L + 1) oCell S
    intro hap
    simp only [Apart, AllNe, and_true] at hap
    obtain ⟨⟨a1, a2, a3⟩, ⟨a4, a5⟩, a6⟩ := hap
    constructor
    · intro vs v k arg hl
      refine enterL (binds := [("size", arg)]) (.head _) (.tail _ (.head _)) f1 f2 rfl (locs rfl) ?_
      intro dp un gd fr g L' s PP hP G F N l0 hdp hun
      obtain ⟨X, ⟨p, loose, mean, mg, mb, T⟩, codeHd⟩ := id G
      k_lt l0
      try k_fold
      k_steps
      exact hP _ _ (Fin.intro (by k_asm) (by k_asm) ⟨rfl, _, rfl⟩)
    · intro k arg
      refine enterL (binds := [("size", arg)]) (.head _) (.tail _ (.head _)) f1 f2 rfl (locs rfl) ?_
      intro dp un gd fr g L' s PP hP G F N l0 hdp hun
      obtain ⟨X, ⟨p, loose, mean, mg, mb, T⟩, codeHd⟩ := id G
      k_lt l0
      try k_fold
      k_steps
      exact hP _ _ (Fin.intro (by k_asm) (by k_asm) ⟨⟨_, rfl⟩, rfl⟩)
  · simp only [AllNe, and_true]
    refine ⟨?_, ?_, ?_, ?_, ?_, ?_, ?_, ?_, ?_⟩ <;> (first | assumption | exact Ne.symm (by assumption) | k_ne | exact offNe hd' (by k_mem) (by k_mem) | exact (offNe hd' (by k_mem) (by k_mem)).symm)
  · simp only [AllNe, and_true]
    refine ⟨?_, ?_, ?_, ?_, ?_, ?_, ?_, ?_, ?_⟩ <;> (first | assumption | exact Ne.symm (by assumption) | k_ne | exact offNe hd' (by k_mem) (by k_mem) | exact (offNe hd' (by k_mem) (by k_mem)).symm)
  · k_ne
end Mine

-- T11
namespace Mine
theorem readChar {prog : Program} {w : World} (l : LX) (hl : l.Ok prog w) (ln : Int) (tl : Tok) (pb : List Value) (kp : Nat) (vs : List Value) (c : Nat) (t : Tok) (ks : Nat) (hz : vs.length < 10000) (b : Bool) (hb : ((⟨#[c]⟩ : Str) == Str.ofString "\n") = b) :
   Does (KH w.params) prog w 4 126 [.ref l.x] (l.cells w ln tl pb kp (vs ++ [Value.str ⟨#[c]⟩ t]) ks) (fun r own => r = Value.str ⟨#[c]⟩ t ∧ ∃ tl' ks', own = l.cells w (cond b (ln + 1) ln) tl' pb kp vs ks') := by
  revert hb
  cases b
  all_goals (
  intro hb
  obtain ⟨hap, hrd⟩ := hl
  obtain ⟨x, d, P, io, dio, rf, c2, cell, S, fdS, fdR, oc2, oCell, t1, t2, t3, t4, tw, t5⟩ := l
  dsimp only at hap hrd ⊢
  dsimp only [LX.cells]
  simp only [Apart, AllNe, and_true] at hap
  obtain ⟨⟨_, _, _, _, _, _, _, _⟩, ⟨_, _, _, _, _, _, _⟩, ⟨_, _, _, _, _, _⟩, ⟨_, _, _, _, _⟩, ⟨_, _, _, _⟩, ⟨_, _, _⟩, ⟨_, _⟩, _⟩ := hap
  have hrd := hrd ⟨⟨by assumption, by assumption, by assumption, trivial⟩, ⟨by assumption, by assumption, trivial⟩, ⟨by assumption, trivial⟩, trivial, trivial⟩
  refine enter (binds := [("self", .ref x)]) (by k_is) (by k_is) (fun s X => BindsTo.of_eq rfl) (locs rfl) ?_
  intro dp un gd fr g L s PP hP G F N l0 hdp hun
  obtain ⟨X, ⟨p, loose, mean, mg, mb, T⟩, codeHd⟩ := id G
  k_lt l0
  try k_fold
  k_steps
  refine use (own := [(rf, fnObj none fdR), (c2, oc2), (cell, oCell), (S, W.listOf (vs ++ [Value.str ⟨#[c]⟩ t]).toArray ks)])
    (rest := [(x, instObj 143 d), (d, lexD w t1 t2 t3 t4 (.int ln tl) (.ref io) (.str "\n\t\r " tw) (.ref P) 4), (P, W.listOf pb.toArray kp), (io, fnObj (some dio) fdS), (dio, dictOf [⟨PyData.keyHash w.params "read", .str "read" t5, .ref rf⟩] 1)])
    (hrd.1 vs _ ks _ hz) (by k_asm) (by k_asm) G ?_ ?_ ?_ (by omega) (by omega) ?_
  · repeat' (first | exact List.forall_mem_nil _ | refine List.forall_mem_cons.mpr ⟨by k_mem, ?_⟩)
  · repeat' (first | exact List.forall_mem_nil _ | refine List.forall_mem_cons.mpr ⟨by k_mem, ?_⟩)
  · repeat' (first | exact List.forall_mem_nil _ | refine List.forall_mem_cons.mpr ⟨?_, ?_⟩ | assumption | exact Ne.symm (by assumption))
  rintro r h' tk own' ⟨rfl, k', rfl⟩ F' N' hd'
  simp only [List.cons_append, List.nil_append] at N'
  clear hd'
  k_sweep
  k_steps
  all_goals (show PP _ _; refine hP _ _ ?_; (refine' Fin.intro (by k_asm) (cb_drop (by k_asm) ?_) ⟨rfl, _, _, rfl⟩); rotate_left 2; (repeat' (first | exact List.forall_mem_nil _ | refine List.forall_mem_cons.mpr ⟨by k_mem, ?_⟩))))
theorem readCharE {prog : Program} {w : World} (l : LX) (hl : l.Ok prog w) (ln : Int) (tl : Tok) (pb : List Value) (kp : Nat) (ks : Nat) :
   Does (KH w.params) prog w 4 126 [.ref l.x] (l.cells w ln tl pb kp [] ks) (fun r own => (∃ t, r = Value.str "" t) ∧ own = l.cells w ln tl pb kp [] ks) := by
  obtain ⟨hap, hrd⟩ := hl
  obtain ⟨x, d, P, io, dio, rf, c2, cell, S, fdS, fdR, oc2, oCell, t1, t2, t3, t4, tw, t5⟩ := l
  dsimp only at hap hrd ⊢
  dsimp only [LX.cells]
  simp only [Apart, AllNe, and_true] at hap
  obtain ⟨⟨_, _, _, _, _, _, _, _⟩, ⟨_, _, _, _, _, _, _⟩, ⟨_, _, _, _, _, _⟩, ⟨_, _, _, _, _⟩, ⟨_, _, _, _⟩, ⟨_, _, _⟩, ⟨_, _⟩, _⟩ := hap
  have hrd := hrd ⟨⟨by assumption, by assumption, by assumption, trivial⟩, ⟨by assumption, by assumption, trivial⟩, ⟨by assumption, trivial⟩, trivial, trivial⟩
  refine enter (binds := [("self", .ref x)]) (by k_is) (by k_is) (fun s X => BindsTo.of_eq rfl) (locs rfl) ?_
  intro dp un gd fr g L s PP hP G F N l0 hdp hun
  obtain ⟨X, ⟨p, loose, mean, mg, mb, T⟩, codeHd⟩ := id G
  k_lt l0
  try k_fold
  k_steps
  refine use (own := [(rf, fnObj none fdR), (c2, oc2), (cell, oCell), (S, W.listOf #[] ks)])
    (rest := [(x, instObj 143 d), (d, lexD w t1 t2 t3 t4 (.int ln tl) (.ref io) (.str "\n\t\r " tw) (.ref P) 4), (P, W.listOf pb.toArray kp), (io, fnObj (some dio) fdS), (dio, dictOf [⟨PyData.keyHash w.params "read", .str "read" t5, .ref rf⟩] 1)])
    (hrd.2 ks _) (by k_asm) (by k_asm) G ?_ ?_ ?_ (by omega) (by omega) ?_
  · repeat' (first | exact List.forall_mem_nil _ | refine List.forall_mem_cons.mpr ⟨by k_mem, ?_⟩)
  · repeat' (first | exact List.forall_mem_nil _ | refine List.forall_mem_cons.mpr ⟨by k_mem, ?_⟩)
  · repeat' (first | exact List.forall_mem_nil _ | refine List.forall_mem_cons.mpr ⟨?_, ?_⟩ | assumption | exact Ne.symm (by assumption))
  rintro r h' tk own' ⟨⟨t, rfl⟩, rfl⟩ F' N' hd'
  simp only [List.cons_append, List.nil_append] at N'
  clear hd'
  k_sweep
  have hb : ((Str.ofString "") == Str.ofString "\n") = false := by decide +kernel
  k_steps
  show PP _ _
  refine hP _ _ ?_
  refine' Fin.intro (by k_asm) (cb_drop (by k_asm) ?_) ⟨⟨_, rfl⟩, rfl⟩
  repeat' (first | exact List.forall_mem_nil _ | refine List.forall_mem_cons.mpr ⟨by k_mem, ?_⟩)
end Mine

-- T12
section
open PySem PySem.W PyProof.Rows PySem.Spec PySem.Calls Builtin
namespace Mine
theorem callBorrowed_eq (f : Value) (pos : List Value) : callBorrowed f pos = (call f pos []).keep [borrowed] := by
  unfold callBorrowed call runValue run
  show Sem.call _ _ _ _ _ = Sem.call _ _ _ _ _
  congr 1
  funext r
  rcases r with e | (_ | _ | _ | v) <;> rfl
theorem slot_ci_next : Slot "callable_iterator" "__next__" "callable_iterator.__next__" := .of (owner := "callable_iterator") (n := "__next__") (by rw [typeLookup_type, builtinLookup_eq_fast]; kernel_rfl) (by decide +kernel) (by decide +kernel) (by decide +kernel)
    (by first | exact .inl (by decide +kernel) | exact .inr (by decide +kernel)) (by rw [isSubtype_type]; kernel_rfl)
theorem slot_ci_iter : Slot "callable_iterator" "__iter__" "callable_iterator.__iter__" := .of (owner := "callable_iterator") (n := "__iter__") (by rw [typeLookup_type, builtinLookup_eq_fast]; kernel_rfl) (by decide +kernel) (by decide +kernel) (by decide +kernel)
    (by first | exact .inl (by decide +kernel) | exact .inr (by decide +kernel)) (by rw [isSubtype_type]; kernel_rfl)
theorem entry_ci_next : entryFor table "callable_iterator.__next__" = some Builtin.«callable_iterator.__next__» := entryFor_of_tree (by kernel_rfl)
theorem args_ci_next (a : Value) : argsOk "callable_iterator.__next__" ⟨[a], []⟩ := by unfold argsOk; kernel_rfl
theorem entry_iter : entryFor table "iter" = some Builtin.«iter» := entryFor_of_tree (by kernel_rfl)
theorem args_iter (a b : Value) : argsOk "iter" ⟨[a, b], []⟩ := by unfold argsOk; kernel_rfl
theorem entry_ci_iter : entryFor table "callable_iterator.__iter__" = some Builtin.«dict_keyiterator.__iter__» :=
  entryFor_alias (id' := "dict_keyiterator.__iter__") (by kernel_rfl) (by first | rfl | decide +kernel | (unfold String.splitOn; simp +decide [String.splitOnAux])) (by decide +kernel) (by kernel_rfl)
theorem args_ci_iter (a : Value) : argsOk "callable_iterator.__iter__" ⟨[a], []⟩ := by unfold argsOk; kernel_rfl
noncomputable abbrev itObj (a b : Value) (e : Bool) : Obj := { cls := .type "callable_iterator", data := .fields #[a, b, .bool e] }
section
variable {prog : Program} {w : World} {A : Around} {E : Value → Shared → Prop} {s : Shared} {fi mo f : Addr} {self : Value} {tk : Tok}
theorem pyIter_ci {a b : Value} {e : Bool} {Q : Value → Shared → Prop} (h1 : s.heap.get? fi = some (itObj a b e)) (h : Q (.ref fi) s) : wpAny (model prog w) A (pyIter (.ref fi)) Q E s := by
  have T : s.TypeIs (.ref fi) "callable_iterator" := ⟨_, h1, rfl⟩
  refine wpAny_pyIter_slot T slot_ci_iter (wpAny_call_entry slot_ci_iter T entry_ci_iter ?_ (args_ci_iter _))
  exact wpAny_bind (wpAny_pure (wpAny_pure ⟨_, rfl, "callable_iterator", _, T, slot_ci_next.lookup, h⟩))
/-- one more turn: the call gives a text that is not the empty one -/
theorem pyNext_ci {Q : Option Value → Shared → Prop} (h1 : s.heap.get? fi = some (itObj (.ref mo) (.str "" tk) false)) (h2 : s.heap.get? mo = some (methodObj (.ref f) self)) {fo : Obj} {fd : FuncData} (h3 : s.heap.get? f = some fo) (h3' : fo.data = .func fd)
    (h : codeAny (model prog w) A.in1 (.call (.ref f) ⟨[self], []⟩) (fun r s' => match r with
      | .ok (.ret (.str x t)) => s'.heap.get? fi = some (itObj (.ref mo) (.str "" tk) false) ∧ ((Str.empty : Str) == x) = false ∧ Q (some (.str x t)) s'
      | _ => False) s) : wpAny (model prog w) A (pyNext (.ref fi)) Q E s := by
  have T : s.TypeIs (.ref fi) "callable_iterator" := ⟨_, h1, rfl⟩
  unfold pyNext
  refine wpAny_bind (wpAny_attempt (wpAny_callSpecial?_slot (name := Str.ofString "__next__") T slot_ci_next (wpAny_call_entry slot_ci_next T entry_ci_next ?_ (args_ci_next _))))
  unfold Builtin.«callable_iterator.__next__»
  refine wpAny_bind (wpAny_pure ?_)
  refine wpAny_bind (wpAny_field h1 rfl (x := .bool false) rfl ?_)
  refine wpAny_bind (wpAny_field h1 rfl (x := .ref mo) rfl ?_)
  refine wpAny_bind (wpAny_attempt ?_)
  unfold callOutOfASlot
  have B : Looks (model prog w) s.heap (borrowsExactly (.ref mo)) true := by
    unfold borrowsExactly
    refine (Looks.ld (part := none) h2).andThen ?_
    refine (Looks.ld (part := none) h3).andThen ?_
    rw [h3']
    exact .now
  refine wpAny_bind (B.here ?_)
  show wpAny _ _ (callBorrowed (.ref mo) []) _ _ _
  rw [callBorrowed_eq]
  refine Calls.wpAny_keep (wpAny_call (method_call h2 (codeAny_mono h fun r s' z => ?_)))
  rcases r with e | (_ | _ | _ | v)
  · exact z.elim
  · exact z.elim
  · exact z.elim
  · exact z.elim
  · cases v <;> try exact z.elim
    rename_i x t
    obtain ⟨k1, k2, k3⟩ := z
    refine wpAny_bind (wpAny_field k1 rfl (x := .bool false) rfl ?_)
    refine wpAny_bind (wpAny_field k1 rfl (x := .str "" tk) rfl ?_)
    refine wpAny_bind (wpAny_holding (wpAny_eqBool_str ?_))
    rw [show decide ((Str.ofString "") = x) = false from by
      have : ((Str.ofString "") == x) = false := k2
      rw [decide_eq_false_iff_not]; exact fun e => by simp [e] at this]
    exact wpAny_pure ⟨_, rfl, wpAny_pure k3⟩
/-- StopIteration is raised and pyNext takes it -/
theorem stop_ci {α : Type} {A' : Around} {Q : Option Value → Shared → Prop} {X : α → Shared → Prop} (hh : A'.handled = none) (h : ∀ h', (∀ b o, s.heap.get? b = some o → h'.get? b = some o) → Q none { s with heap := h' }) :
    wpAny (model prog w) A' (SmallTypes.stopIteration : Sem α) X (fun e s' => wpAny (model prog w) A (do if ← isInstance e (.type "StopIteration") then pure none else throw e) Q E s') s := by
  unfold SmallTypes.stopIteration
  refine wpAny_bind ?_
  simp only [newExc, newTuple]
  refine wpAny_bind (wpAny_newObj_type ?_ (by size_fits))
  refine wpAny_bind (m := firstArgMember _ _) (wpAny_of_eq (a := Value.none) (by first | rfl | (simp only [firstArgMember]; rfl)) ?_)
  refine wpAny_newObj_type ?_ (by size_fits)
  simp only [raiseNew]
  refine wpAny_bind (wpAny_handled ?_)
  rw [hh]
  refine wpAny_bind (wpAny_pure (wpAny_throw ?_))
  refine wpAny_bind (wpAny_isInstance (T := "StopIteration") (b := true) ⟨_, Heap.get?_push_size _ rfl, rfl⟩ isSubtype_stop ?_)
  exact wpAny_pure (h _ fun b o e => Heap.get?_push_of_some _ (Heap.get?_push_of_some _ e))
theorem pyNext_ci_ended {a b : Value} {Q : Option Value → Shared → Prop} (hh : A.handled = none) (h1 : s.heap.get? fi = some (itObj a b true)) (h : ∀ h', (∀ b o, s.heap.get? b = some o → h'.get? b = some o) → Q none { s with heap := h' }) :
    wpAny (model prog w) A (pyNext (.ref fi)) Q E s := by
  have T : s.TypeIs (.ref fi) "callable_iterator" := ⟨_, h1, rfl⟩
  unfold pyNext
  refine wpAny_bind (wpAny_attempt (wpAny_callSpecial?_slot (name := Str.ofString "__next__") T slot_ci_next (wpAny_call_entry slot_ci_next T entry_ci_next ?_ (args_ci_next _))))
  unfold Builtin.«callable_iterator.__next__»
  refine wpAny_bind (wpAny_pure ?_)
  refine wpAny_bind (wpAny_field h1 rfl (x := .bool true) rfl ?_)
  refine wpAny_bind (wpAny_rule (wpAny_bind ?_))
  exact stop_ci (A' := A.in1) hh h
theorem pyNext_ci_end {Q : Option Value → Shared → Prop} (hh : A.handled = none) (h1 : s.heap.get? fi = some (itObj (.ref mo) (.str "" tk) false)) (h2 : s.heap.get? mo = some (methodObj (.ref f) self)) {fo : Obj} {fd : FuncData} (h3 : s.heap.get? f = some fo) (h3' : fo.data = .func fd)
    (h : codeAny (model prog w) A.in1 (.call (.ref f) ⟨[self], []⟩) (fun r s' => match r with
      | .ok (.ret (.str x t)) => x = "" ∧ s'.heap.get? fi = some (itObj (.ref mo) (.str "" tk) false) ∧ s'.heap.get? mo = some (methodObj (.ref f) self) ∧ s'.heap.get? f = some fo ∧ (∀ h', (∀ b o, (s'.heap.update fi fun _ => itObj .none .none true).get? b = some o → h'.get? b = some o) → Q none { s' with heap := h' })
      | _ => False) s) : wpAny (model prog w) A (pyNext (.ref fi)) Q E s := by
  have T : s.TypeIs (.ref fi) "callable_iterator" := ⟨_, h1, rfl⟩
  unfold pyNext
  refine wpAny_bind (wpAny_attempt (wpAny_callSpecial?_slot (name := Str.ofString "__next__") T slot_ci_next (wpAny_call_entry slot_ci_next T entry_ci_next ?_ (args_ci_next _))))
  unfold Builtin.«callable_iterator.__next__»
  refine wpAny_bind (wpAny_pure ?_)
  refine wpAny_bind (wpAny_field h1 rfl (x := .bool false) rfl ?_)
  refine wpAny_bind (wpAny_field h1 rfl (x := .ref mo) rfl ?_)
  refine wpAny_bind (wpAny_attempt ?_)
  unfold callOutOfASlot
  have B : ∀ hp : Heap, hp.get? mo = some (methodObj (.ref f) self) → hp.get? f = some fo → Looks (model prog w) hp (borrowsExactly (.ref mo)) true := by
    intro hp h2 h3
    unfold borrowsExactly
    refine (Looks.ld (part := none) h2).andThen ?_
    refine (Looks.ld (part := none) h3).andThen ?_
    rw [h3']
    exact .now
  refine wpAny_bind ((B _ h2 h3).here ?_)
  show wpAny _ _ (callBorrowed (.ref mo) []) _ _ _
  rw [callBorrowed_eq]
  refine Calls.wpAny_keep (wpAny_call (method_call h2 (codeAny_mono h fun r s' z => ?_)))
  rcases r with e | (_ | _ | _ | v)
  · exact z.elim
  · exact z.elim
  · exact z.elim
  · exact z.elim
  · cases v <;> try exact z.elim
    rename_i x t
    obtain ⟨rfl, k1, k2, k3, k4⟩ := z
    refine wpAny_bind (wpAny_field k1 rfl (x := .bool false) rfl ?_)
    refine wpAny_bind (wpAny_field k1 rfl (x := .str "" tk) rfl ?_)
    refine wpAny_bind (wpAny_holding (wpAny_eqBool_str ?_))
    rw [show decide ((Str.ofString "") = (Str.ofString "")) = true from by simp]
    refine wpAny_bind (wpAny_rule (wpAny_bind ?_))
    show wpAny _ _ (do
      slotLetsGo "callable_iterator.__next__" (← field (.ref fi) 0) (fun | .builtin "callable_iterator.__next__" x => x.pos.head? == some (.ref fi) | _ => false)
      setField (.ref fi) 0 .none; setField (.ref fi) 1 .none; setField (.ref fi) 2 (.bool true)) _ _ _
    refine wpAny_bind (wpAny_field k1 rfl (x := .ref mo) rfl ?_)
    refine wpAny_bind ?_
    unfold slotLetsGo
    refine wpAny_bind ((B _ k2 k3).here ?_)
    refine wpAny_pure ?_
    refine wpAny_bind (wpAny_setField_rec k1 (by simp) fun g1 e1 s1 => ?_)
    refine wpAny_bind (wpAny_setField_rec e1 (by simp) fun g2 e2 s2 => ?_)
    refine wpAny_setField_rec e2 (by simp) fun g3 e3 s3 => ?_
    refine stop_ci (A' := A.in1) hh fun h' hk => k4 h' fun b o e => hk b o ?_
    by_cases hb : b = fi
    · subst hb
      have : (s'.heap.update b fun _ => itObj .none .none true).get? b = some (itObj .none .none true) := Heap.get?_update_self _ k1 rfl
      rw [this] at e
      cases e
      exact e3
    · rw [s3.2 b hb, s2.2 b hb, s1.2 b hb]
      exact (Heap.get?_update_ne _ _ _ _ hb).symm.trans e
end
section
variable {prog : Program} {w : World} {A : Around} {E : Value → Shared → Prop} {s : Shared} {h₀ : Heap} {L mo : Addr} {m : Str → Option Value} {news : Cells} {f self sv : Value}
theorem kind_iter : builtinKind "iter" = none := by decide +kernel
theorem plain_iter : plainId "iter" = true := by decide +kernel
theorem method_callable : typeLookup (.type "method") "__call__" = pure (some (.builtin "method.__call__")) := by rw [typeLookup_type, builtinLookup_eq_fast]; kernel_rfl
theorem iterK {Q : Value → Shared → Prop} (F : Fr h₀ L s.heap m) (N : News h₀ L s.heap news) (hm : (mo, methodObj f self) ∈ news)
    (h : ∀ fi h', Fr h₀ L h' m → News h₀ L h' ((fi, itObj (.ref mo) sv false) :: news) → (∀ p ∈ news, p.1 < fi) → Q (.ref fi) { s with heap := h' }) :
    wpAny (model prog w) A (call (.builtin "iter") [.ref mo, sv]) Q E s := by
  have hmo := (N _ hm).1
  have T0 : Looks (model prog w) s.heap (typeOf (.ref mo)) (.type "method") := (Looks.ld (part := some headPart) hmo).andThen .now
  refine Calls.call_function_entry kind_iter plain_iter entry_iter (args_iter _ _) ?_
  unfold Builtin.«iter»
  refine wpAny_bind (wpAny_pure ?_)
  refine wpAny_bind (wpAny_bind (T0.here ((Looks.of_pure method_callable).here ?_)))
  refine wpAny_bind (wpAny_rule ?_)
  refine wpAny_bind (wpAny_newObj_type (wpAny_pure ⟨_, rfl, ?_⟩) (by size_fits))
  exact h _ _ (F.push _) (N.push F _) fun p hp => Heap.lt_size (N p hp).1
end
noncomputable def ForMark : Prop := True
noncomputable def Turn (n : Nat) (I : Nat → Shared → Prop) (s : Shared) : Prop := ∃ m, m < n ∧ I m s
noncomputable def ForAt (prog : Program) (w : World) (A : Around) (env : Env) (target : PySem.Expr) (body : List Stmt) (Q : Flow → Shared → Prop) (E : Value → Shared → Prop) (it : Value) (s : Shared) : Prop :=
  codeAny (model prog w) A (.forLoop target it body [] env) (fun r s' => match r with | .ok f => Q f s' | .error e => cameBackBy (model prog w) A env E e s') s
section
variable {prog : Program} {w : World} {A : Around} {E : Value → Shared → Prop} {s : Shared} {env : Env} {Q : Flow → Shared → Prop} {body : List Stmt}
theorem forOpen {target iter : PySem.Expr} {pos : Pos} (_ : ForMark) (h : wpAny (model prog w) A (eval iter env) (fun x s₁ => wpAny (model prog w) A (pyIter x) (fun it s₂ => ForAt prog w A env target body Q E it s₂) E s₁) E s)
    (hs : ∀ x, foldedSetIterable iter env x = pure x := by intro _; rfl) : wpAny (model prog w) A (exec (.For target iter body [] pos) env) Q E s := wpAny_For h hs
theorem forTurns {x : Str} {px : Pos} {it : Value} (I : Nat → Shared → Prop)
    (turn : ∀ n s, I n s → ∀ (Pn Pe : Shared → Prop) (Pr : Value → Shared → Prop), (∀ s', Turn n I s' → Pn s') → (∀ s', Q .next s' → Pe s') → (∀ v s', Q (.ret v) s' → Pr v s') → wpAny (model prog w) A (pyNext it) (fun r s₁ => match r with
      | none => Pe s₁
      | some v => wpAny (model prog w) A (storeName env x v) (fun _ s₂ => wpAny (model prog w) A (execs body env) (fun f s₃ => match f with
          | .next => Pn s₃
          | .cont => Pn s₃
          | .brk => Pe s₃
          | .ret v => Pr v s₃) (fun _ _ => False) s₂) (fun _ _ => False) s₁) (fun _ _ => False) s)
    (n : Nat) (h : I n s) : ForAt prog w A env (.Name x px) body Q E it s := by
  refine codeAny_forLoop I (fun n s hI => wpAny_mono (turn n s hI _ _ _ (fun _ x => x) (fun _ x => x) (fun _ _ x => x)) (fun r s₁ h₁ => ?_) fun _ _ z => z.elim) n h
  cases r with
  | none => exact wpAny_execs_nil h₁
  | some v =>
    refine wpAny_assign_Name (wpAny_mono h₁ (fun _ s₂ h₂ => wpAny_mono h₂ (fun f s₃ h₃ => ?_) fun _ _ z => z.elim) fun _ _ z => z.elim)
    cases f <;> exact h₃
end
section
variable {prog : Program} {w : World} {A : Around} {E : Value → Shared → Prop} {s : Shared} {h₀ : Heap} {L fi : Addr} {m : Str → Option Value} {news : Cells} {a b : Value} {e : Bool}
theorem pyIterK {Q : Value → Shared → Prop} (N : News h₀ L s.heap news) (hm : (fi, itObj a b e) ∈ news) (h : Q (.ref fi) s) : wpAny (model prog w) A (pyIter (.ref fi)) Q E s := pyIter_ci (N _ hm).1 h
end
end Mine
end
local macro_rules | `(tactic| walk_at "call builtin:iter") => `(tactic| (k_here; (with_reducible show wpAny _ _ (call (Value.builtin "iter") [Value.ref _, _]) _ _ _); k_dflt (refine' Mine.iterK ?F ?N ?m ?_; (case F => k_asm); (case N => k_asm); (case m => k_mem); k_whole); intro fi' h' F' N' l1; (try k_lt l1); (try k_sweep)))
local macro_rules | `(tactic| walk_at "exec For") => `(tactic| (k_here; k_dflt (refine Mine.forOpen (by assumption) ?_)))
local macro_rules | `(tactic| walk_at "exec For Name Name cons nil") => `(tactic| (k_here; k_dflt (refine Mine.forOpen (by assumption) ?_)))
local macro_rules | `(tactic| walk_at "pyIter ref") => `(tactic| (k_here; (with_reducible show wpAny _ _ (pyIter (Value.ref _)) _ _ _); k_dflt (refine' Mine.pyIterK ?N ?m ?_; (case N => k_asm); (case m => k_mem); k_whole)))

-- MTok
namespace Mine
noncomputable def isWs (c : Nat) : Bool := c == 10 || c == 9 || c == 13 || c == 32
inductive Unq : List Nat → List Nat → List Nat → List Nat → Prop
  | eof {acc : List Nat} : Unq acc [] acc []
  | ws {acc r : List Nat} {c : Nat} : isWs c = true → Unq acc (c :: r) acc r
  | esc {acc r t R : List Nat} {d : Nat} : Unq (acc ++ [d]) r t R → Unq acc (92 :: d :: r) t R
  | ch {acc r t R : List Nat} {c : Nat} : isWs c = false → c ≠ 92 → Unq (acc ++ [c]) r t R → Unq acc (c :: r) t R
inductive Quo : List Nat → List Nat → List Nat → List Nat → Prop
  | done {acc r : List Nat} : Quo acc (34 :: r) acc r
  | esc {acc r t R : List Nat} {d : Nat} : Quo (acc ++ [d]) r t R → Quo acc (92 :: d :: r) t R
  | ch {acc r t R : List Nat} {c : Nat} : c ≠ 34 → c ≠ 92 → Quo (acc ++ [c]) r t R → Quo acc (c :: r) t R
inductive TokR : List Nat → List Nat → List Nat → Prop
  | eof : TokR [] [] []
  | ws {r t R : List Nat} {c : Nat} : isWs c = true → TokR r t R → TokR (c :: r) t R
  | quo {r t R : List Nat} : Quo [] r t R → TokR (34 :: r) t R
  | esc {r t R : List Nat} {d : Nat} : Unq [d] r t R → TokR (92 :: d :: r) t R
  | unq {r t R : List Nat} {c : Nat} : isWs c = false → c ≠ 34 → c ≠ 92 → Unq [c] r t R → TokR (c :: r) t R
/-- the line feeds -/
noncomputable def nl : List Nat → Int
  | [] => 0
  | c :: r => cond (c == 10) (nl r + 1) (nl r)
noncomputable abbrev chS (c : Nat) : Str := ⟨#[c]⟩
theorem chS_ws (c : Nat) : (!(Builtin.Str.occurrences (Str.ofString "\n\t\r ") ⟨#[c]⟩ 0 (Str.ofString "\n\t\r ").length 1).isEmpty) = isWs c := by
  rw [PySem.StrLaws.found_one]
  have e : (Str.ofString "\n\t\r ").cps.toList = [10, 9, 13, 32] := by decide +kernel
  rw [e, Bool.eq_iff_iff]
  simp [isWs, or_assoc]
theorem chS_eq (c d : Nat) : ((⟨#[c]⟩ : Str) == (⟨#[d]⟩ : Str)) = (c == d) := by
  rw [Bool.eq_iff_iff]; simp
theorem lit_nl : Str.ofString "\n" = ⟨#[10]⟩ := by decide +kernel
theorem lit_q : Str.ofString "\"" = ⟨#[34]⟩ := by decide +kernel
theorem lit_b : Str.ofString "\\" = ⟨#[92]⟩ := by decide +kernel
theorem chS_nl (c : Nat) : ((⟨#[c]⟩ : Str) == Str.ofString "\n") = (c == 10) := by rw [lit_nl, chS_eq]
theorem chS_q (c : Nat) : ((⟨#[c]⟩ : Str) == Str.ofString "\"") = (c == 34) := by rw [lit_q, chS_eq]
theorem chS_b (c : Nat) : ((⟨#[c]⟩ : Str) == Str.ofString "\\") = (c == 92) := by rw [lit_b, chS_eq]
theorem chS_ne (c : Nat) : ((Str.empty : Str) == (⟨#[c]⟩ : Str)) = false := by
  rw [beq_eq_false_iff_ne]
  intro e
  have := congrArg (fun s : Str => s.cps.size) e
  simp [Str.empty] at this

theorem Chrs.last {vs : List Value} {c : Nat} {r : List Nat} (h : Chrs vs (c :: r).reverse) : ∃ ws t, vs = ws ++ [Value.str ⟨#[c]⟩ t] ∧ Chrs ws r.reverse := by
  rw [List.reverse_cons] at h
  exact h.snoc

noncomputable abbrev LX.adr (l : LX) : List Addr := [l.x, l.d, l.P, l.io, l.dio, l.rf, l.c2, l.cell, l.S]
theorem LX.cells_adr {w : World} {l : LX} {ln : Int} {tl : Tok} {pb : List Value} {kp : Nat} {sg : List Value} {ks : Nat} : ∀ p ∈ l.cells w ln tl pb kp sg ks, p.1 ∈ l.adr := by
  intro p hp
  have : p.1 ∈ (l.cells w ln tl pb kp sg ks).map (·.1) := List.mem_map_of_mem hp
  exact this
noncomputable abbrev itF (mo : Addr) (ts : Tok) (ended : Bool) : Obj := cond ended (itObj .none .none true) (itObj (.ref mo) (.str "" ts) false)
section
variable {prog : Program} {w : World} {l : LX} {g h' : Heap} {L fi mo : Addr} {m : Str → Option Value} {ln : Int} {tl tk ts : Tok} {kp ks dp un : Nat} {sg : List Value} {gd : Option (List Code)} {fr : List Env} {s' : Shared} {c : Nat} {r : List Nat}
theorem off_lex {pb : List Value} (a1 : AllNe fi l.adr) (a2 : AllNe mo l.adr) (o1 o2 : Obj) : ∀ p ∈ l.cells w ln tl pb kp sg ks, ∀ q ∈ [(fi, o1), (mo, o2)], p.1 ≠ q.1 := by
  intro p hp q hq
  rcases List.mem_cons.mp hq with rfl | hq
  · exact fun e => a1.of _ (LX.cells_adr p hp) e.symm
  · rw [List.mem_singleton.mp hq]
    exact fun e => a2.of _ (LX.cells_adr p hp) e.symm
/-- a read of one sign, as it stands in the lexer's loops -/
theorem codeRead (hl : l.Ok prog w) (G : Gd (KH w.params) g) (a1 : AllNe fi l.adr) (a2 : AllNe mo l.adr) (o1 o2 : Obj) {R : Result → Shared → Prop} (hsg : Chrs sg (c :: r).reverse) (hz : r.length < 10000)
    (F : Fr g L s'.heap m) (N : News g L s'.heap ((fi, o1) :: (mo, o2) :: l.cells w ln tl [] kp sg ks)) (hdp : dp + 4 < recursionLimit) (hun : un + 80 < cLine)
    (h : ∀ t h'' tk' tl' sg' ks', Chrs sg' r.reverse → Fr g L h'' m → News g L h'' ((fi, o1) :: (mo, o2) :: l.cells w (cond (c == 10) (ln + 1) ln) tl' [] kp sg' ks') → R (.ok (.ret (.str ⟨#[c]⟩ t))) { s' with heap := h'', toks := tk' }) :
    codeAny (model prog w) (arT dp un gd fr) (.call (.ref 126) ⟨[.ref l.x], []⟩) R s' := by
  obtain ⟨ws, t, rfl, hws⟩ := hsg.last
  have hlen : ws.length < 10000 := by rw [hws.length, List.length_reverse]; exact hz
  refine useCode (own := l.cells w ln tl [] kp (ws ++ [Value.str ⟨#[c]⟩ t]) ks) (rest := [(fi, o1), (mo, o2)]) (readChar l hl ln tl [] kp ws c t ks hlen _ (chS_nl c)) F N G (fun p hp => .tail _ (.tail _ hp)) (fun p hp => ?_) (off_lex a1 a2 o1 o2) hdp hun ?_
  · rcases List.mem_cons.mp hp with rfl | hp
    · exact .head _
    · rw [List.mem_singleton.mp hp]; exact .tail _ (.head _)
  · rintro v h'' tk' own' ⟨rfl, tl', ks', rfl⟩ F' N' _
    refine h t h'' tk' tl' ws ks' hws F' (cb_drop N' fun p hp => ?_)
    rcases List.mem_cons.mp hp with rfl | hp
    · exact List.mem_append_right _ (.head _)
    · rcases List.mem_cons.mp hp with rfl | hp
      · exact List.mem_append_right _ (.tail _ (.head _))
      · exact List.mem_append_left _ hp
theorem fn126 {w : World} {h : Heap} (X : (KH w.params).In h) : ∃ fo fd, h.get? 126 = some fo ∧ fo.data = .func fd := by
  have e : fnIn (KH w.params) 126 = true := by rfl
  unfold fnIn at e
  split at e
  · rename_i q; exact ⟨_, _, X _ _ q, rfl⟩
  · cases e
theorem nextCh (hl : l.Ok prog w) (G : Gd (KH w.params) g) (a1 : AllNe fi l.adr) (a2 : AllNe mo l.adr) {Q : Option Value → Shared → Prop} {E : Value → Shared → Prop} (hsg : Chrs sg (c :: r).reverse) (hz : r.length < 10000)
    (F : Fr g L s'.heap m) (N : News g L s'.heap ((fi, itF mo ts false) :: (mo, methodObj (.ref 126) (.ref l.x)) :: l.cells w ln tl [] kp sg ks)) (hdp : dp + 4 < recursionLimit) (hun : un + 81 < cLine)
    (h : ∀ t h'' tk' tl' sg' ks', Chrs sg' r.reverse → Fr g L h'' m → News g L h'' ((fi, itF mo ts false) :: (mo, methodObj (.ref 126) (.ref l.x)) :: l.cells w (cond (c == 10) (ln + 1) ln) tl' [] kp sg' ks') → Q (some (.str ⟨#[c]⟩ t)) { s' with heap := h'', toks := tk' }) :
    wpAny (model prog w) (arT dp un gd fr) (pyNext (.ref fi)) Q E s' := by
  obtain ⟨fo, fd, f1, f2⟩ := fn126 (G.X.keeps F.keep)
  refine pyNext_ci (mo := mo) (f := 126) (self := .ref l.x) (tk := ts) (N _ (.head _)).1 (N _ (.tail _ (.head _))).1 f1 f2 ?_
  refine codeRead (un := un + 1) hl G a1 a2 _ _ hsg hz F N hdp (by omega) fun t h'' tk' tl' sg' ks' c1 F' N' => ?_
  exact ⟨(N' _ (.head _)).1, chS_ne c, h t h'' tk' tl' sg' ks' c1 F' N'⟩
theorem nextEnd (hl : l.Ok prog w) (G : Gd (KH w.params) g) (a1 : AllNe fi l.adr) (a2 : AllNe mo l.adr) (a3 : fi ≠ mo) {Q : Option Value → Shared → Prop} {E : Value → Shared → Prop}
    (F : Fr g L s'.heap m) (N : News g L s'.heap ((fi, itF mo ts false) :: (mo, methodObj (.ref 126) (.ref l.x)) :: l.cells w ln tl [] kp [] ks)) (hdp : dp + 4 < recursionLimit) (hun : un + 81 < cLine)
    (h : ∀ h'' tk', Fr g L h'' m → News g L h'' ((fi, itF mo ts true) :: (mo, methodObj (.ref 126) (.ref l.x)) :: l.cells w ln tl [] kp [] ks) → Q none { s' with heap := h'', toks := tk' }) :
    wpAny (model prog w) (arT dp un gd fr) (pyNext (.ref fi)) Q E s' := by
  obtain ⟨fo, fd, f1, f2⟩ := fn126 (G.X.keeps F.keep)
  obtain ⟨fo0, fd0, f10, f20⟩ := fn126 G.X
  have e0 : fo = fo0 := Option.some.inj (f1.symm.trans (F.keep _ _ f10))
  subst e0
  refine pyNext_ci_end (mo := mo) (f := 126) (self := .ref l.x) (tk := ts) rfl (N _ (.head _)).1 (N _ (.tail _ (.head _))).1 f1 f2 ?_
  refine useCode (un := un + 1) (own := l.cells w ln tl [] kp [] ks) (rest := [(fi, itF mo ts false), (mo, methodObj (.ref 126) (.ref l.x))]) (readCharE l hl ln tl [] kp ks) F N G (fun p hp => .tail _ (.tail _ hp)) (fun p hp => ?_) (off_lex a1 a2 _ _) hdp (by omega) ?_
  · rcases List.mem_cons.mp hp with rfl | hp
    · exact .head _
    · rw [List.mem_singleton.mp hp]; exact .tail _ (.head _)
  · rintro v h'' tk' own' ⟨⟨t, rfl⟩, rfl⟩ F' N' _
    have n1 := N' (fi, itF mo ts false) (List.mem_append_right _ (.head _))
    have n2 := N' (mo, methodObj (.ref 126) (.ref l.x)) (List.mem_append_right _ (.tail _ (.head _)))
    refine ⟨rfl, n1.1, n2.1, F'.keep _ _ f10, fun h3 k3 => ?_⟩
    have hne : ∀ b, b ≠ fi → (h''.update fi fun _ => itObj .none .none true).get? b = h''.get? b := fun b hb => Heap.get?_update_ne _ _ _ _ hb
    have hfi : (h''.update fi fun _ => itObj .none .none true).get? fi = some (itObj .none .none true) := Heap.get?_update_self _ n1.1 rfl
    have old : ∀ b o, b ≠ fi → h''.get? b = some o → h3.get? b = some o := fun b o hb e => k3 b o ((hne b hb).trans e)
    obtain ⟨oL, es, ep, hL, hLr⟩ := F'.ns
    refine h h3 tk' ⟨⟨oL, es, ep, old _ _ (Ne.symm n1.2.1) hL, hLr⟩, fun b o e => old b o (fun q => by rw [q, n1.2.2] at e; cases e) (F'.keep b o e), F'.above⟩ fun p hp => ?_
    rcases List.mem_cons.mp hp with rfl | hp
    · exact ⟨k3 _ _ hfi, n1.2⟩
    · rcases List.mem_cons.mp hp with rfl | hp
      · exact ⟨old _ _ (Ne.symm a3) n2.1, n2.2⟩
      · have n3 := N' p (List.mem_append_left _ hp)
        exact ⟨old _ _ (fun q => a1.of _ (LX.cells_adr p hp) q.symm) n3.1, n3.2⟩
theorem nextEnded {news : Cells} {Q : Option Value → Shared → Prop} {E : Value → Shared → Prop}
    (F : Fr g L s'.heap m) (N : News g L s'.heap ((fi, itF mo ts true) :: news))
    (h : ∀ h'', Fr g L h'' m → News g L h'' ((fi, itF mo ts true) :: news) → Q none { s' with heap := h'' }) :
    wpAny (model prog w) (arT dp un gd fr) (pyNext (.ref fi)) Q E s' :=
  pyNext_ci_ended rfl (N _ (.head _)).1 fun h'' k => h h'' (F.keeps k) (N.grown k)
theorem iaddCh {prog : Program} {w : World} {A : Around} {E : Value → Shared → Prop} {s : Shared} {a : List Nat} {c : Nat} {t u : Tok} {Q : Value → Shared → Prop} (hz : a.length < 10000000) (h : ∀ t' tk, Q (.str ⟨(a ++ [c]).toArray⟩ t') { s with toks := tk }) :
    wpAny (model prog w) A (inplaceOp .Add (.str ⟨a.toArray⟩ t) (.str ⟨#[c]⟩ u)) Q E s := by
  refine PyProof.Rows.iadd_str (fun t' tk => ?_) (by show a.toArray.size + 1 ≤ _; rw [sizeLine_eq, List.size_toArray]; omega)
  have e : (⟨a.toArray⟩ : Str) ++ (⟨#[c]⟩ : Str) = ⟨(a ++ [c]).toArray⟩ := by
    apply PySem.Str.ext'
    rw [PySem.Str.cps_append]
    simp
  rw [e]; exact h t' tk
end
noncomputable def tokM (x fi : Addr) (acc : List Nat) (t : Tok) (vch : Option Value) : Str → Option Value := fun y =>
  if y = Str.ofString "ch" then vch else if y = Str.ofString "token" then some (.str ⟨acc.toArray⟩ t) else if y = Str.ofString "fiter" then some (.ref fi) else if y = Str.ofString "self" then some (.ref x) else none
theorem frOf {g h : Heap} {L : Addr} {m m' : Str → Option Value} (F : Fr g L h m) (e : ∀ y, m y = m' y) : Fr g L h m' := by
  have : m = m' := funext e
  subst this; exact F
theorem nm_ct : (Str.ofString "ch" = Str.ofString "token") = False := by simp; decide
theorem nm_cf : (Str.ofString "ch" = Str.ofString "fiter") = False := by simp; decide
theorem nm_cs : (Str.ofString "ch" = Str.ofString "self") = False := by simp; decide
theorem nm_tc : (Str.ofString "token" = Str.ofString "ch") = False := by simp; decide
theorem nm_tf : (Str.ofString "token" = Str.ofString "fiter") = False := by simp; decide
theorem nm_ts : (Str.ofString "token" = Str.ofString "self") = False := by simp; decide
theorem nm_ft : (Str.ofString "fiter" = Str.ofString "token") = False := by simp; decide
theorem nm_fs : (Str.ofString "fiter" = Str.ofString "self") = False := by simp; decide
theorem nm_st : (Str.ofString "self" = Str.ofString "token") = False := by simp; decide
theorem nm_sf : (Str.ofString "self" = Str.ofString "fiter") = False := by simp; decide
theorem tokM_start {x fi : Addr} {t : Tok} (y : Str) : (if y = Str.ofString "fiter" then some (Value.ref fi) else if y = Str.ofString "token" then some (Value.str (Str.ofString "") t) else List.lookup y [(Str.ofString "self", Value.ref x)].reverse) = tokM x fi [] t none y := by
  have e0 : (Str.ofString "") = (⟨([] : List Nat).toArray⟩ : Str) := by decide +kernel
  unfold tokM
  by_cases h1 : y = Str.ofString "ch"
  · subst h1; simp only [nm_ct, nm_cf, if_false, if_true]; rfl
  · simp only [h1, if_false]
    by_cases h2 : y = Str.ofString "token"
    · subst h2; simp only [nm_tf, if_false, if_true, e0]
    · simp only [h2, if_false]
      by_cases h3 : y = Str.ofString "fiter"
      · simp only [h3, if_true]
      · simp only [h3, if_false]
        by_cases h4 : y = Str.ofString "self"
        · subst h4; simp
        · simp [h4, List.lookup, beq_eq_false_iff_ne.mpr h4]
theorem tokM_ch {x fi : Addr} {acc : List Nat} {t : Tok} {v : Value} {vch : Option Value} (y : Str) : (if y = Str.ofString "ch" then some v else tokM x fi acc t vch y) = tokM x fi acc t (some v) y := by
  unfold tokM
  by_cases h1 : y = Str.ofString "ch" <;> simp [h1]
theorem tokM_tok {x fi : Addr} {acc acc' : List Nat} {t t' : Tok} {vch : Option Value} (y : Str) : (if y = Str.ofString "token" then some (Value.str ⟨acc'.toArray⟩ t') else tokM x fi acc t vch y) = tokM x fi acc' t' vch y := by
  unfold tokM
  by_cases h1 : y = Str.ofString "token"
  · subst h1; simp only [nm_tc, if_true, if_false]
  · simp only [h1, if_false]
noncomputable def TokSt (w : World) (l : LX) (g : Heap) (L fi mo : Addr) (s : Shared) (ts : Tok) (tot : Int) (kp : Nat) (acc : List Nat) (ended : Bool) (cs : List Nat) (s' : Shared) : Prop :=
  ∃ h' tk t tl ln sg ks vch, s' = { s with heap := h', toks := tk } ∧ ln + nl cs = tot ∧ Chrs sg cs.reverse ∧ Fr g L h' (tokM l.x fi acc t vch) ∧
    News g L h' ((fi, itF mo ts ended) :: (mo, methodObj (.ref 126) (.ref l.x)) :: l.cells w ln tl [] kp sg ks)
theorem nl_cons (ln : Int) (c : Nat) (r : List Nat) : (cond (c == 10) (ln + 1) ln) + nl r = ln + nl (c :: r) := by
  show _ = ln + cond (c == 10) (nl r + 1) (nl r)
  cases c == 10 <;> simp <;> omega
theorem fin_tok {w : World} {l : LX} {g h' : Heap} {L fi mo : Addr} {m : Str → Option Value} {s : Shared} {tot ln' : Int} {tl' tt tk : Tok} {kp ks' : Nat} {sg' : List Value} {t R : List Nat} {o1 o2 : Obj} (F : Fr g L h' m) (N : News g L h' ((fi, o1) :: (mo, o2) :: l.cells w ln' tl' [] kp sg' ks')) (e : ln' + nl R = tot) (hsg : Chrs sg' R.reverse) :
    Fin g L s (fun r own => ∃ t' tl' sg' ks', r = .str ⟨t.toArray⟩ t' ∧ Chrs sg' R.reverse ∧ own = l.cells w (tot - nl R) tl' [] kp sg' ks') (.str ⟨t.toArray⟩ tt) { s with heap := h', toks := tk } := by
  have : ln' = tot - nl R := by omega
  subst this
  exact Fin.intro F (cb_drop N fun p hp => .tail _ (.tail _ hp)) ⟨tt, tl', sg', ks', rfl, hsg, rfl⟩
end Mine

-- T13
local macro_rules | `(tactic| walk_at "inplaceOp Add str str") => `(tactic| (k_here; k_dflt (refine Mine.iaddCh (by omega) ?_); intro _ _))
namespace Mine
theorem getTok0 {prog : Program} {w : World} (l : LX) (hl : l.Ok prog w) (ln : Int) (tl : Tok) (kp : Nat) (sg : List Value) (ks : Nat) (cs t R : List Nat) (hsg : Chrs sg cs.reverse) (hz : cs.length < 10000) (htok : TokR cs t R) :
   Does (KH w.params) prog w 8 133 [.ref l.x] (l.cells w ln tl [] kp sg ks) (fun r own => ∃ t' tl' sg' ks', r = .str ⟨t.toArray⟩ t' ∧ Chrs sg' R.reverse ∧ own = l.cells w (ln + nl cs - nl R) tl' [] kp sg' ks') := by
  obtain ⟨x, d, P, io, dio, rf, c2, cell, S, fdS, fdR, oc2, oCell, t1, t2, t3, t4, tw, t5⟩ := l
  refine enter (binds := [("self", .ref x)]) (by k_is) (by k_is) (fun s X => BindsTo.of_eq rfl) (locs rfl) ?_
  intro dp un gd fr g L s PP hP G F N l0 hdp hun
  obtain ⟨X, ⟨p, loose, mean, mg, mb, T⟩, codeHd⟩ := id G
  dsimp only [LX.cells] at N l0
  k_lt l0
  have hMark : ForMark := trivial
  try k_fold
  k_steps
  rename_i tk0 h1 mo h2 l1 fi h3 l2 h4 F4 N4
  have a1 : AllNe fi [x, d, P, io, dio, rf, c2, cell, S] := by simp only [AllNe, and_true]; refine ⟨?_, ?_, ?_, ?_, ?_, ?_, ?_, ?_, ?_⟩ <;> k_ne
  have a2 : AllNe mo [x, d, P, io, dio, rf, c2, cell, S] := by simp only [AllNe, and_true]; refine ⟨?_, ?_, ?_, ?_, ?_, ?_, ?_, ?_, ?_⟩ <;> k_ne
  have a3 : fi ≠ mo := by k_ne
  have F5 := frOf F4 tokM_start
  clear l0 l1 l2 F4
  generalize hts : tk0 + 1 + 1 + 1 = ts at N4
  clear hts
  refine forTurns (fun n s' => (∃ cs', TokSt w ⟨x, d, P, io, dio, rf, c2, cell, S, fdS, fdR, oc2, oCell, t1, t2, t3, t4, tw, t5⟩ g L fi mo s ts (ln + nl cs) kp [] false cs' s' ∧ TokR cs' t R ∧ cs'.length < 10000 ∧ n = cs'.length + 1) ∨ (TokSt w ⟨x, d, P, io, dio, rf, c2, cell, S, fdS, fdR, oc2, oCell, t1, t2, t3, t4, tw, t5⟩ g L fi mo s ts (ln + nl cs) kp t true R s' ∧ R = [] ∧ n = 0)) ?_ (cs.length + 1)
    (.inl ⟨cs, ⟨_, _, _, tl, ln, sg, ks, none, rfl, rfl, hsg, F5, N4⟩, htok, hz, rfl⟩)
  clear F5 N4 htok hz hsg
  intro n s' hI Pn Pe Pr hn he hr
  rcases hI with (⟨cs', ⟨h', tk, tt, tl', ln', sg', ks', vch, rfl, htot, hsg, F, N⟩, htok, hz, rfl⟩ | ⟨⟨h', tk, tt, tl', ln', sg', ks', vch, rfl, htot, hsg, F, N⟩, hR, rfl⟩)
  · cases htok with
    | eof =>
      have e0 : sg' = [] := by cases hsg; rfl
      subst e0
      refine nextEnd hl G a1 a2 a3 F N (by omega) (by omega) fun h'' tk' F' N' => ?_
      clear F N
      dsimp only [LX.cells, itF, cond_false] at N'
      refine he _ ?_
      k_steps
      exact hP _ _ (fin_tok (l := ⟨x, d, P, io, dio, rf, c2, cell, S, fdS, fdR, oc2, oCell, t1, t2, t3, t4, tw, t5⟩) (by assumption) (by assumption) htot .nil)
    | ws hw htok =>
      refine nextCh hl G a1 a2 hsg (by simp only [List.length_cons] at hz ⊢; omega) F N (by omega) (by omega) fun t0 h'' tk' tl'' sg'' ks'' hsg' F' N' => ?_
      clear F N hsg
      rename_i r c
      have hws := (chS_ws c).trans (hw)
      dsimp only [LX.cells, itF, cond_false] at N'
      k_steps
      exact hn _ ⟨r.length + 1, by simp, .inl ⟨r, ⟨_, _, _, _, _, _, _, _, rfl, (nl_cons _ _ _).trans htot, hsg', frOf (by assumption) tokM_ch, by assumption⟩, htok, by simp only [List.length_cons] at hz ⊢; omega, rfl⟩⟩
    | quo hq0 =>
      refine nextCh hl G a1 a2 hsg (by simp only [List.length_cons] at hz ⊢; omega) F N (by omega) (by omega) fun t0 h'' tk' tl'' sg'' ks'' hsg' F' N' => ?_
      clear F N hsg
      rename_i r
      have hws := (chS_ws 34).trans (rfl)
      have hq := (chS_q 34).trans (rfl)
      dsimp only [LX.cells, itF, cond_false] at N'
      k_steps
      clear hws hq
      refine forTurns (fun n s' => ∃ acc cs', TokSt w ⟨x, d, P, io, dio, rf, c2, cell, S, fdS, fdR, oc2, oCell, t1, t2, t3, t4, tw, t5⟩ g L fi mo s ts (ln + nl cs) kp acc false cs' s' ∧ Quo acc cs' t R ∧ acc.length + cs'.length < 10000 ∧ n = cs'.length) ?_ _ ⟨[], _, ⟨_, _, _, _, _, _, _, _, rfl, (nl_cons _ _ _).trans htot, hsg', frOf (by assumption) (fun y => by first | exact tokM_ch y | exact tokM_tok y | (simp only [tokM_ch, tokM_tok]; done) | (simp only [tokM_ch, tokM_tok]; rfl)), by assumption⟩, hq0, by simp only [List.length_cons, List.length_append, List.length_nil] at hz ⊢; omega, rfl⟩
      intro n s' hI Pn' Pe' Pr' hn' he' hr'
      rcases hI with ⟨acc, cs', ⟨h', tk, tt, tl', ln', sg', ks', vch, rfl, htot, hsg, F, N⟩, hu, hz, rfl⟩
      cases hu with
      | done =>
        refine nextCh hl G a1 a2 hsg (by simp only [List.length_cons] at hz ⊢; omega) F N (by omega) (by omega) fun t0 h'' tk' tl'' sg'' ks'' hsg' F' N' => ?_
        clear F N hsg
        have hq := (chS_q 34).trans (rfl)
        dsimp only [LX.cells, itF, cond_false] at N'
        k_steps
        exact hr' _ _ (hr _ _ (hP _ _ (fin_tok (l := ⟨x, d, P, io, dio, rf, c2, cell, S, fdS, fdR, oc2, oCell, t1, t2, t3, t4, tw, t5⟩) (by assumption) (by assumption) ((nl_cons _ _ _).trans htot) hsg')))
      | esc hu =>
        refine nextCh hl G a1 a2 hsg (by simp only [List.length_cons] at hz ⊢; omega) F N (by omega) (by omega) fun t0 h'' tk' tl'' sg'' ks'' hsg' F' N' => ?_
        clear F N hsg
        rename_i r dd
        have hws := (chS_ws 92).trans (rfl)
        have hq := (chS_q 92).trans (rfl)
        have hb := (chS_b 92).trans (rfl)
        dsimp only [LX.cells, itF, cond_false] at N'
        k_steps
        refine wpAny_call (codeRead (l := ⟨x, d, P, io, dio, rf, c2, cell, S, fdS, fdR, oc2, oCell, t1, t2, t3, t4, tw, t5⟩) (fi := fi) (mo := mo) hl G a1 a2 _ _ hsg' (by simp only [List.length_cons] at hz ⊢; omega) (by assumption) (by assumption) (by omega) (by omega) fun t1' h3' tk3 tl3 sg3 ks3 hsg3 F3 N3 => ?_)
        clear hws hq hb
        dsimp only [LX.cells, itF, cond_false] at N3
        k_sweep
        have hlen : acc.length < 10000000 := by omega
        k_steps
        exact hn' _ ⟨r.length, by simp only [List.length_cons]; omega, ⟨acc ++ [dd], r, ⟨_, _, _, _, _, _, _, _, rfl, (nl_cons _ _ _).trans ((nl_cons _ _ _).trans htot), hsg3, frOf (by assumption) (fun y => by first | exact tokM_ch y | exact tokM_tok y | (simp only [tokM_ch, tokM_tok]; done) | (simp only [tokM_ch, tokM_tok]; rfl)), by assumption⟩, hu, by simp only [List.length_cons, List.length_append, List.length_nil] at hz ⊢; omega, rfl⟩⟩
      | ch hq1 hb0 hu =>
        refine nextCh hl G a1 a2 hsg (by simp only [List.length_cons] at hz ⊢; omega) F N (by omega) (by omega) fun t0 h'' tk' tl'' sg'' ks'' hsg' F' N' => ?_
        clear F N hsg
        rename_i r c
        have hq := (chS_q c).trans (beq_eq_false_iff_ne.mpr hq1)
        have hb := (chS_b c).trans (beq_eq_false_iff_ne.mpr hb0)
        dsimp only [LX.cells, itF, cond_false] at N'
        have hlen : acc.length < 10000000 := by omega
        k_steps
        exact hn' _ ⟨r.length, by simp only [List.length_cons]; omega, ⟨acc ++ [c], r, ⟨_, _, _, _, _, _, _, _, rfl, (nl_cons _ _ _).trans htot, hsg', frOf (by assumption) (fun y => by first | exact tokM_ch y | exact tokM_tok y | (simp only [tokM_ch, tokM_tok]; done) | (simp only [tokM_ch, tokM_tok]; rfl)), by assumption⟩, hu, by simp only [List.length_cons, List.length_append, List.length_nil] at hz ⊢; omega, rfl⟩⟩
    | esc hu =>
      refine nextCh hl G a1 a2 hsg (by simp only [List.length_cons] at hz ⊢; omega) F N (by omega) (by omega) fun t0 h'' tk' tl'' sg'' ks'' hsg' F' N' => ?_
      clear F N hsg
      rename_i r dd
      have hws := (chS_ws 92).trans (rfl)
      have hq := (chS_q 92).trans (rfl)
      have hb := (chS_b 92).trans (rfl)
      dsimp only [LX.cells, itF, cond_false] at N'
      k_steps
      refine wpAny_call (codeRead (l := ⟨x, d, P, io, dio, rf, c2, cell, S, fdS, fdR, oc2, oCell, t1, t2, t3, t4, tw, t5⟩) (fi := fi) (mo := mo) hl G a1 a2 _ _ hsg' (by simp only [List.length_cons] at hz ⊢; omega) (by assumption) (by assumption) (by omega) (by omega) fun t1' h3' tk3 tl3 sg3 ks3 hsg3 F3 N3 => ?_)
      clear hws hq hb
      dsimp only [LX.cells, itF, cond_false] at N3
      k_sweep
      have hlen : ([] : List Nat).length < 10000000 := by decide
      k_steps
      refine forTurns (fun n s' => ∃ acc cs', TokSt w ⟨x, d, P, io, dio, rf, c2, cell, S, fdS, fdR, oc2, oCell, t1, t2, t3, t4, tw, t5⟩ g L fi mo s ts (ln + nl cs) kp acc false cs' s' ∧ Unq acc cs' t R ∧ acc.length + cs'.length < 10000 ∧ n = cs'.length) ?_ _ ⟨[dd], r, ⟨_, _, _, _, _, _, _, _, rfl, (nl_cons _ _ _).trans ((nl_cons _ _ _).trans htot), hsg3, frOf (by assumption) (fun y => by first | exact tokM_ch y | exact tokM_tok y | (simp only [tokM_ch, tokM_tok]; done) | (simp only [tokM_ch, tokM_tok]; rfl)), by assumption⟩, hu, by simp only [List.length_cons, List.length_append, List.length_nil] at hz ⊢; omega, rfl⟩
      intro n s' hI Pn' Pe' Pr' hn' he' hr'
      rcases hI with ⟨acc, cs', ⟨h', tk, tt, tl', ln', sg', ks', vch, rfl, htot, hsg, F, N⟩, hu, hz, rfl⟩
      cases hu with
      | eof =>
        have e0 : sg' = [] := by cases hsg; rfl
        subst e0
        refine nextEnd hl G a1 a2 a3 F N (by omega) (by omega) fun h'' tk' F' N' => ?_
        clear F N
        refine he' _ ?_
        k_steps
        exact hn _ ⟨0, by simp, .inr ⟨⟨_, _, _, _, _, _, _, _, rfl, htot, .nil, F', N'⟩, rfl, rfl⟩⟩
      | ws hw =>
        refine nextCh hl G a1 a2 hsg (by simp only [List.length_cons] at hz ⊢; omega) F N (by omega) (by omega) fun t0 h'' tk' tl'' sg'' ks'' hsg' F' N' => ?_
        clear F N hsg
        rename_i c
        have hws := (chS_ws c).trans (hw)
        dsimp only [LX.cells, itF, cond_false] at N'
        k_steps
        exact hr' _ _ (hr _ _ (hP _ _ (fin_tok (l := ⟨x, d, P, io, dio, rf, c2, cell, S, fdS, fdR, oc2, oCell, t1, t2, t3, t4, tw, t5⟩) (by assumption) (by assumption) ((nl_cons _ _ _).trans htot) hsg')))
      | esc hu =>
        refine nextCh hl G a1 a2 hsg (by simp only [List.length_cons] at hz ⊢; omega) F N (by omega) (by omega) fun t0 h'' tk' tl'' sg'' ks'' hsg' F' N' => ?_
        clear F N hsg
        rename_i r dd
        have hws := (chS_ws 92).trans (rfl)
        have hq := (chS_q 92).trans (rfl)
        have hb := (chS_b 92).trans (rfl)
        dsimp only [LX.cells, itF, cond_false] at N'
        k_steps
        refine wpAny_call (codeRead (l := ⟨x, d, P, io, dio, rf, c2, cell, S, fdS, fdR, oc2, oCell, t1, t2, t3, t4, tw, t5⟩) (fi := fi) (mo := mo) hl G a1 a2 _ _ hsg' (by simp only [List.length_cons] at hz ⊢; omega) (by assumption) (by assumption) (by omega) (by omega) fun t1' h3' tk3 tl3 sg3 ks3 hsg3 F3 N3 => ?_)
        clear hws hq hb
        dsimp only [LX.cells, itF, cond_false] at N3
        k_sweep
        have hlen : acc.length < 10000000 := by omega
        k_steps
        exact hn' _ ⟨r.length, by simp only [List.length_cons]; omega, ⟨acc ++ [dd], r, ⟨_, _, _, _, _, _, _, _, rfl, (nl_cons _ _ _).trans ((nl_cons _ _ _).trans htot), hsg3, frOf (by assumption) (fun y => by first | exact tokM_ch y | exact tokM_tok y | (simp only [tokM_ch, tokM_tok]; done) | (simp only [tokM_ch, tokM_tok]; rfl)), by assumption⟩, hu, by simp only [List.length_cons, List.length_append, List.length_nil] at hz ⊢; omega, rfl⟩⟩
      | ch hw hb0 hu =>
        refine nextCh hl G a1 a2 hsg (by simp only [List.length_cons] at hz ⊢; omega) F N (by omega) (by omega) fun t0 h'' tk' tl'' sg'' ks'' hsg' F' N' => ?_
        clear F N hsg
        rename_i r c
        have hws := (chS_ws c).trans (hw)
        have hb := (chS_b c).trans (beq_eq_false_iff_ne.mpr hb0)
        dsimp only [LX.cells, itF, cond_false] at N'
        have hlen : acc.length < 10000000 := by omega
        k_steps
        exact hn' _ ⟨r.length, by simp only [List.length_cons]; omega, ⟨acc ++ [c], r, ⟨_, _, _, _, _, _, _, _, rfl, (nl_cons _ _ _).trans htot, hsg', frOf (by assumption) (fun y => by first | exact tokM_ch y | exact tokM_tok y | (simp only [tokM_ch, tokM_tok]; done) | (simp only [tokM_ch, tokM_tok]; rfl)), by assumption⟩, hu, by simp only [List.length_cons, List.length_append, List.length_nil] at hz ⊢; omega, rfl⟩⟩
    | unq hw hq1 hb0 hu =>
      refine nextCh hl G a1 a2 hsg (by simp only [List.length_cons] at hz ⊢; omega) F N (by omega) (by omega) fun t0 h'' tk' tl'' sg'' ks'' hsg' F' N' => ?_
      clear F N hsg
      rename_i r c
      have hws := (chS_ws c).trans (hw)
      have hq := (chS_q c).trans (beq_eq_false_iff_ne.mpr hq1)
      have hb := (chS_b c).trans (beq_eq_false_iff_ne.mpr hb0)
      dsimp only [LX.cells, itF, cond_false] at N'
      have hlen : ([] : List Nat).length < 10000000 := by decide
      k_steps
      clear hws hq hb
      refine forTurns (fun n s' => ∃ acc cs', TokSt w ⟨x, d, P, io, dio, rf, c2, cell, S, fdS, fdR, oc2, oCell, t1, t2, t3, t4, tw, t5⟩ g L fi mo s ts (ln + nl cs) kp acc false cs' s' ∧ Unq acc cs' t R ∧ acc.length + cs'.length < 10000 ∧ n = cs'.length) ?_ _ ⟨[c], r, ⟨_, _, _, _, _, _, _, _, rfl, (nl_cons _ _ _).trans htot, hsg', frOf (by assumption) (fun y => by first | exact tokM_ch y | exact tokM_tok y | (simp only [tokM_ch, tokM_tok]; done) | (simp only [tokM_ch, tokM_tok]; rfl)), by assumption⟩, hu, by simp only [List.length_cons, List.length_append, List.length_nil] at hz ⊢; omega, rfl⟩
      intro n s' hI Pn' Pe' Pr' hn' he' hr'
      rcases hI with ⟨acc, cs', ⟨h', tk, tt, tl', ln', sg', ks', vch, rfl, htot, hsg, F, N⟩, hu, hz, rfl⟩
      cases hu with
      | eof =>
        have e0 : sg' = [] := by cases hsg; rfl
        subst e0
        refine nextEnd hl G a1 a2 a3 F N (by omega) (by omega) fun h'' tk' F' N' => ?_
        clear F N
        refine he' _ ?_
        k_steps
        exact hn _ ⟨0, by simp, .inr ⟨⟨_, _, _, _, _, _, _, _, rfl, htot, .nil, F', N'⟩, rfl, rfl⟩⟩
      | ws hw =>
        refine nextCh hl G a1 a2 hsg (by simp only [List.length_cons] at hz ⊢; omega) F N (by omega) (by omega) fun t0 h'' tk' tl'' sg'' ks'' hsg' F' N' => ?_
        clear F N hsg
        rename_i c
        have hws := (chS_ws c).trans (hw)
        dsimp only [LX.cells, itF, cond_false] at N'
        k_steps
        exact hr' _ _ (hr _ _ (hP _ _ (fin_tok (l := ⟨x, d, P, io, dio, rf, c2, cell, S, fdS, fdR, oc2, oCell, t1, t2, t3, t4, tw, t5⟩) (by assumption) (by assumption) ((nl_cons _ _ _).trans htot) hsg')))
      | esc hu =>
        refine nextCh hl G a1 a2 hsg (by simp only [List.length_cons] at hz ⊢; omega) F N (by omega) (by omega) fun t0 h'' tk' tl'' sg'' ks'' hsg' F' N' => ?_
        clear F N hsg
        rename_i r dd
        have hws := (chS_ws 92).trans (rfl)
        have hq := (chS_q 92).trans (rfl)
        have hb := (chS_b 92).trans (rfl)
        dsimp only [LX.cells, itF, cond_false] at N'
        k_steps
        refine wpAny_call (codeRead (l := ⟨x, d, P, io, dio, rf, c2, cell, S, fdS, fdR, oc2, oCell, t1, t2, t3, t4, tw, t5⟩) (fi := fi) (mo := mo) hl G a1 a2 _ _ hsg' (by simp only [List.length_cons] at hz ⊢; omega) (by assumption) (by assumption) (by omega) (by omega) fun t1' h3' tk3 tl3 sg3 ks3 hsg3 F3 N3 => ?_)
        clear hws hq hb
        dsimp only [LX.cells, itF, cond_false] at N3
        k_sweep
        have hlen : acc.length < 10000000 := by omega
        k_steps
        exact hn' _ ⟨r.length, by simp only [List.length_cons]; omega, ⟨acc ++ [dd], r, ⟨_, _, _, _, _, _, _, _, rfl, (nl_cons _ _ _).trans ((nl_cons _ _ _).trans htot), hsg3, frOf (by assumption) (fun y => by first | exact tokM_ch y | exact tokM_tok y | (simp only [tokM_ch, tokM_tok]; done) | (simp only [tokM_ch, tokM_tok]; rfl)), by assumption⟩, hu, by simp only [List.length_cons, List.length_append, List.length_nil] at hz ⊢; omega, rfl⟩⟩
      | ch hw hb0 hu =>
        refine nextCh hl G a1 a2 hsg (by simp only [List.length_cons] at hz ⊢; omega) F N (by omega) (by omega) fun t0 h'' tk' tl'' sg'' ks'' hsg' F' N' => ?_
        clear F N hsg
        rename_i r c
        have hws := (chS_ws c).trans (hw)
        have hb := (chS_b c).trans (beq_eq_false_iff_ne.mpr hb0)
        dsimp only [LX.cells, itF, cond_false] at N'
        have hlen : acc.length < 10000000 := by omega
        k_steps
        exact hn' _ ⟨r.length, by simp only [List.length_cons]; omega, ⟨acc ++ [c], r, ⟨_, _, _, _, _, _, _, _, rfl, (nl_cons _ _ _).trans htot, hsg', frOf (by assumption) (fun y => by first | exact tokM_ch y | exact tokM_tok y | (simp only [tokM_ch, tokM_tok]; done) | (simp only [tokM_ch, tokM_tok]; rfl)), by assumption⟩, hu, by simp only [List.length_cons, List.length_append, List.length_nil] at hz ⊢; omega, rfl⟩⟩
  · subst hR
    refine nextEnded F N fun h'' F' N' => ?_
    clear F N
    dsimp only [LX.cells, itF, cond_false] at N'
    refine he _ ?_
    k_steps
    exact hP _ _ (fin_tok (l := ⟨x, d, P, io, dio, rf, c2, cell, S, fdS, fdR, oc2, oCell, t1, t2, t3, t4, tw, t5⟩) (by assumption) (by assumption) htot hsg)
end Mine

-- T14
namespace Mine
noncomputable def escd (x : Str) : Str := Txt.replace x "&" "&amp;"
theorem notin {x : Str} {l : List Nat} (h : ∀ c ∈ x.cps.toList, c ∉ l) (y : Str) (c : Nat) (e : y = ⟨#[c]⟩) (hc : c ∈ l) : (!(Builtin.Str.occurrences x y 0 x.length 1).isEmpty) = false := by
  rw [e, StrLaws.found_one]
  exact decide_eq_false fun m => h c m hc
structure Plain (x : Str) : Prop where
  sz : x.cps.size < 10000
  no : ∀ c ∈ (escd x).cps.toList, c ∉ [60, 62, 34, 13, 10, 9]
  self : (!(Builtin.Str.occurrences x (Str.ofString "&") 0 x.length 1).isEmpty) = false → escd x = x
noncomputable def Writes (prog : Program) (w : World) (f : Addr) : Prop := ∀ (x : Str) (t : Tok), Plain x → Does (KH w.params) prog w 2 f [.str x t] [] (fun r own => ∃ t', r = .str (escd x) t' ∧ own = [])
end Mine
theorem Mine.genToks {prog : Program} {w : World} {A : Around} {E : Value → Shared → Prop} {α : Type} {t : Sem α} {Q : α → Shared → Prop} {s : Shared} {hh : Heap} {a : Nat} (k : ∀ tk : Nat, 1 ≤ tk → wpAny (model prog w) A t Q E { s with heap := hh, toks := tk }) : wpAny (model prog w) A t Q E { s with heap := hh, toks := a + 1 } := k _ (Nat.le_add_left _ _)
local macro_rules | `(tactic| walk_at "execs cons") => `(tactic| (k_here; (with_reducible refine Mine.genToks ?_); intro tk hk))
local macro_rules | `(tactic| walk_at "call builtin:str.replace") => `(tactic| (k_here; k_dflt (refine Mine.replaceT (by omega) (Nat.lt_succ_self _) (by decide) (by assumption) (by decide) ?_); intro _ _ hk'; (try dsimp only at hk')))
namespace Mine
section
variable {prog : Program} {w : World} {A : Around} {E : Value → Shared → Prop} {s : Shared} {env : Env}
theorem tryRet {body : List Stmt} {h₀ : ExceptHandler} {hs : List ExceptHandler} {pos : Pos} {Q : Flow → Shared → Prop}
    (h : ∀ Q' : Flow → Shared → Prop, (∀ v s', Q (.ret v) s' → Q' (.ret v) s') → wpAny (model prog w) A (execs body env) Q' (fun _ _ => False) s) :
    wpAny (model prog w) A (exec (.Try body (h₀ :: hs) [] [] pos) env) Q E s :=
  wpAny_Try_except (wpAny_mono (h (fun f s₁ => match f with | .next => wpAny (model prog w) A (execs [] env) Q E s₁ | f => Q f s₁) fun _ _ x => x) (fun _ _ x => x) fun _ _ x => x.elim)
end
theorem look1 {a y : Str} {v v' : Value} (e : v = v') : List.lookup y [(a, v)] = if y = a then some v' else none := by
  subst e
  rw [List.lookup_cons]
  by_cases h : y = a
  · subst h; simp
  · rw [if_neg h, show (y == a) = false from beq_eq_false_iff_ne.mpr h]; rfl
theorem lookU {a y : Str} {v v' u : Value} (e : v = v') : (if y = a then some v else List.lookup y [(a, u)]) = if y = a then some v' else none := by
  subst e
  by_cases h : y = a
  · simp [h]
  · simp [h]
theorem esc161 {prog : Program} {w : World} : Writes prog w 161 := by
  intro x t hx
  refine enterT (binds := [("text", .str x t)]) (by k_is) (by k_is) (fun s X => BindsTo.of_eq rfl) (locs rfl) ?_
  intro dp un gd fr g L s PP hP G F N l0 hdp hun hT
  obtain ⟨X, ⟨p, loose, mean, mg, mb, T⟩, codeHd⟩ := id G
  obtain ⟨hsz, hno, hself⟩ := hx
  have n1 := notin hno "<" 60 rfl (by decide)
  have n2 := notin hno ">" 62 rfl (by decide)
  have n3 := notin hno "\"" 34 rfl (by decide)
  have n4 := notin hno "\r" 13 rfl (by decide)
  have n5 := notin hno "\n" 10 rfl (by decide)
  have n6 := notin hno "\t" 9 rfl (by decide)
  simp only [List.length_cons, List.length_nil] at hT
  have hln : x.length ≤ 1048576 := by show x.cps.size ≤ _; omega
  try k_fold
  k_steps
  refine tryRet fun Q hQ => wpAny_execs_cons ?_
  refine cutNext (fun s' => ∃ t' h' k, s' = { s with heap := h', toks := k } ∧ Fr g L h' (fun y => if y = "text" then some (.str (escd x) t') else none) ∧ News g L h' []) ?_ ?_
  · intro Q' hQ
    cases hb : (!(Builtin.Str.occurrences x (Str.ofString "&") 0 x.length 1).isEmpty) with
    | true =>
      k_steps
      exact hQ _ ⟨_, _, _, rfl, frOf (by assumption) (fun y => lookU rfl), by assumption⟩
    | false =>
      k_steps
      exact hQ _ ⟨_, _, _, rfl, frOf (by assumption) (fun y => look1 (by rw [hself hb])), by assumption⟩
  · rintro _ ⟨t', h', k, rfl, F', N'⟩
    clear F N
    k_steps
    exact hQ _ _ (hP _ _ (Fin.intro (by assumption) (by assumption) ⟨_, rfl, rfl⟩))
theorem esc168 {prog : Program} {w : World} : Writes prog w 168 := by
  intro x t hx
  refine enterT (binds := [("text", .str x t)]) (by k_is) (by k_is) (fun s X => BindsTo.of_eq rfl) (locs rfl) ?_
  intro dp un gd fr g L s PP hP G F N l0 hdp hun hT
  obtain ⟨X, ⟨p, loose, mean, mg, mb, T⟩, codeHd⟩ := id G
  obtain ⟨hsz, hno, hself⟩ := hx
  have n1 := notin hno "<" 60 rfl (by decide)
  have n2 := notin hno ">" 62 rfl (by decide)
  have n3 := notin hno "\"" 34 rfl (by decide)
  have n4 := notin hno "\r" 13 rfl (by decide)
  have n5 := notin hno "\n" 10 rfl (by decide)
  have n6 := notin hno "\t" 9 rfl (by decide)
  simp only [List.length_cons, List.length_nil] at hT
  have hln : x.length ≤ 1048576 := by show x.cps.size ≤ _; omega
  try k_fold
  k_steps
  refine tryRet fun Q hQ => wpAny_execs_cons ?_
  refine cutNext (fun s' => ∃ t' h' k, s' = { s with heap := h', toks := k } ∧ Fr g L h' (fun y => if y = "text" then some (.str (escd x) t') else none) ∧ News g L h' []) ?_ ?_
  · intro Q' hQ
    cases hb : (!(Builtin.Str.occurrences x (Str.ofString "&") 0 x.length 1).isEmpty) with
    | true =>
      k_steps
      exact hQ _ ⟨_, _, _, rfl, frOf (by assumption) (fun y => lookU rfl), by assumption⟩
    | false =>
      k_steps
      exact hQ _ ⟨_, _, _, rfl, frOf (by assumption) (fun y => look1 (by rw [hself hb])), by assumption⟩
  · rintro _ ⟨t', h', k, rfl, F', N'⟩
    clear F N
    k_steps
    exact hQ _ _ (hP _ _ (Fin.intro (by assumption) (by assumption) ⟨_, rfl, rfl⟩))
theorem esc175 {prog : Program} {w : World} : Writes prog w 175 := by
  intro x t hx
  refine enterT (binds := [("text", .str x t)]) (by k_is) (by k_is) (fun s X => BindsTo.of_eq rfl) (locs rfl) ?_
  intro dp un gd fr g L s PP hP G F N l0 hdp hun hT
  obtain ⟨X, ⟨p, loose, mean, mg, mb, T⟩, codeHd⟩ := id G
  obtain ⟨hsz, hno, hself⟩ := hx
  have n1 := notin hno "<" 60 rfl (by decide)
  have n2 := notin hno ">" 62 rfl (by decide)
  have n3 := notin hno "\"" 34 rfl (by decide)
  have n4 := notin hno "\r" 13 rfl (by decide)
  have n5 := notin hno "\n" 10 rfl (by decide)
  have n6 := notin hno "\t" 9 rfl (by decide)
  simp only [List.length_cons, List.length_nil] at hT
  have hln : x.length ≤ 1048576 := by show x.cps.size ≤ _; omega
  try k_fold
  k_steps
  refine tryRet fun Q hQ => wpAny_execs_cons ?_
  refine cutNext (fun s' => ∃ t' h' k, s' = { s with heap := h', toks := k } ∧ Fr g L h' (fun y => if y = "text" then some (.str (escd x) t') else none) ∧ News g L h' []) ?_ ?_
  · intro Q' hQ
    cases hb : (!(Builtin.Str.occurrences x (Str.ofString "&") 0 x.length 1).isEmpty) with
    | true =>
      k_steps
      exact hQ _ ⟨_, _, _, rfl, frOf (by assumption) (fun y => lookU rfl), by assumption⟩
    | false =>
      k_steps
      exact hQ _ ⟨_, _, _, rfl, frOf (by assumption) (fun y => look1 (by rw [hself hb])), by assumption⟩
  · rintro _ ⟨t', h', k, rfl, F', N'⟩
    clear F N
    k_steps
    exact hQ _ _ (hP _ _ (Fin.intro (by assumption) (by assumption) ⟨_, rfl, rfl⟩))
theorem esc182 {prog : Program} {w : World} : Writes prog w 182 := by
  intro x t hx
  refine enterT (binds := [("text", .str x t)]) (by k_is) (by k_is) (fun s X => BindsTo.of_eq rfl) (locs rfl) ?_
  intro dp un gd fr g L s PP hP G F N l0 hdp hun hT
  obtain ⟨X, ⟨p, loose, mean, mg, mb, T⟩, codeHd⟩ := id G
  obtain ⟨hsz, hno, hself⟩ := hx
  have n1 := notin hno "<" 60 rfl (by decide)
  have n2 := notin hno ">" 62 rfl (by decide)
  have n3 := notin hno "\"" 34 rfl (by decide)
  have n4 := notin hno "\r" 13 rfl (by decide)
  have n5 := notin hno "\n" 10 rfl (by decide)
  have n6 := notin hno "\t" 9 rfl (by decide)
  simp only [List.length_cons, List.length_nil] at hT
  have hln : x.length ≤ 1048576 := by show x.cps.size ≤ _; omega
  try k_fold
  k_steps
  refine tryRet fun Q hQ => wpAny_execs_cons ?_
  refine cutNext (fun s' => ∃ t' h' k, s' = { s with heap := h', toks := k } ∧ Fr g L h' (fun y => if y = "text" then some (.str (escd x) t') else none) ∧ News g L h' []) ?_ ?_
  · intro Q' hQ
    cases hb : (!(Builtin.Str.occurrences x (Str.ofString "&") 0 x.length 1).isEmpty) with
    | true =>
      k_steps
      exact hQ _ ⟨_, _, _, rfl, frOf (by assumption) (fun y => lookU rfl), by assumption⟩
    | false =>
      k_steps
      exact hQ _ ⟨_, _, _, rfl, frOf (by assumption) (fun y => look1 (by rw [hself hb])), by assumption⟩
  · rintro _ ⟨t', h', k, rfl, F', N'⟩
    clear F N
    k_steps
    exact hQ _ _ (hP _ _ (Fin.intro (by assumption) (by assumption) ⟨_, rfl, rfl⟩))
theorem esc189 {prog : Program} {w : World} : Writes prog w 189 := by
  intro x t hx
  refine enterT (binds := [("text", .str x t)]) (by k_is) (by k_is) (fun s X => BindsTo.of_eq rfl) (locs rfl) ?_
  intro dp un gd fr g L s PP hP G F N l0 hdp hun hT
  obtain ⟨X, ⟨p, loose, mean, mg, mb, T⟩, codeHd⟩ := id G
  obtain ⟨hsz, hno, hself⟩ := hx
  have n1 := notin hno "<" 60 rfl (by decide)
  have n2 := notin hno ">" 62 rfl (by decide)
  have n3 := notin hno "\"" 34 rfl (by decide)
  have n4 := notin hno "\r" 13 rfl (by decide)
  have n5 := notin hno "\n" 10 rfl (by decide)
  have n6 := notin hno "\t" 9 rfl (by decide)
  simp only [List.length_cons, List.length_nil] at hT
  have hln : x.length ≤ 1048576 := by show x.cps.size ≤ _; omega
  try k_fold
  k_steps
  refine tryRet fun Q hQ => wpAny_execs_cons ?_
  refine cutNext (fun s' => ∃ t' h' k, s' = { s with heap := h', toks := k } ∧ Fr g L h' (fun y => if y = "text" then some (.str (escd x) t') else none) ∧ News g L h' []) ?_ ?_
  · intro Q' hQ
    cases hb : (!(Builtin.Str.occurrences x (Str.ofString "&") 0 x.length 1).isEmpty) with
    | true =>
      k_steps
      exact hQ _ ⟨_, _, _, rfl, frOf (by assumption) (fun y => lookU rfl), by assumption⟩
    | false =>
      k_steps
      exact hQ _ ⟨_, _, _, rfl, frOf (by assumption) (fun y => look1 (by rw [hself hb])), by assumption⟩
  · rintro _ ⟨t', h', k, rfl, F', N'⟩
    clear F N
    k_steps
    exact hQ _ _ (hP _ _ (Fin.intro (by assumption) (by assumption) ⟨_, rfl, rfl⟩))
end Mine

-- T15a
namespace Mine
noncomputable def turnd (x : Str) : Str := Txt.replace (Txt.replace (Txt.replace x "amp;" "*") "&" "amp;") "*" "&"
theorem turned {prog : Program} {w : World} (x : Str) (t : Tok) (h1 : x.length ≤ 1048576) (h2 : (Txt.replace x (Str.ofString "amp;") (Str.ofString "*")).length ≤ 1048576)
    (h3 : (Txt.replace (Txt.replace x (Str.ofString "amp;") (Str.ofString "*")) (Str.ofString "&") (Str.ofString "amp;")).length ≤ 1048576) :
   Does (KH w.params) prog w 2 229 [.str x t] [] (fun r own => ∃ t', r = .str (turnd x) t' ∧ own = []) := by
  refine enterT (binds := [("word", .str x t)]) (by k_is) (by k_is) (fun s X => BindsTo.of_eq rfl) (locs rfl) ?_
  intro dp un gd fr g L s PP hP G F N l0 hdp hun hT
  obtain ⟨X, ⟨p, loose, mean, mg, mb, T⟩, codeHd⟩ := id G
  simp only [List.length_cons, List.length_nil] at hT
  try k_fold
  k_steps
  exact hP _ _ (Fin.intro (by assumption) (by assumption) ⟨_, rfl, rfl⟩)
theorem hands_cut (i : Nat) (hi : i < 5) : ((slicePick #[Value.ref 161, Value.ref 168, Value.ref 175, Value.ref 182, Value.ref 189] (some (i : Int)) none none).toList ++ (slicePick #[Value.ref 161, Value.ref 168, Value.ref 175, Value.ref 182, Value.ref 189] none (some (i : Int)) none).toList).length = 5 ∧
   ∀ v ∈ ((slicePick #[Value.ref 161, Value.ref 168, Value.ref 175, Value.ref 182, Value.ref 189] (some (i : Int)) none none).toList ++ (slicePick #[Value.ref 161, Value.ref 168, Value.ref 175, Value.ref 182, Value.ref 189] none (some (i : Int)) none).toList), v ∈ [Value.ref 161, Value.ref 168, Value.ref 175, Value.ref 182, Value.ref 189] := by
  match i, hi with
  | 0, _ => decide +kernel
  | 1, _ => decide +kernel
  | 2, _ => decide +kernel
  | 3, _ => decide +kernel
  | 4, _ => decide +kernel
theorem hands {prog : Program} {w : World} (k : Int) (t : Tok) (hk : 0 ≤ k) (hk5 : k < 5) :
   Does (KH w.params) prog w 2 222 [.int k t] [] (fun r own => ∃ (l : Addr) (vs : List Value), r = .ref l ∧ own = [(l, W.listOf vs.toArray 0)] ∧ vs.length = 5 ∧ ∀ v ∈ vs, v ∈ [Value.ref 161, Value.ref 168, Value.ref 175, Value.ref 182, Value.ref 189]) := by
  refine enterT (binds := [("start", .int k t)]) (by k_is) (by k_is) (fun s X => BindsTo.of_eq rfl) (locs rfl) ?_
  intro dp un gd fr g L s PP hP G F N l0 hdp hun hT
  obtain ⟨X, ⟨p, loose, mean, mg, mb, T⟩, codeHd⟩ := id G
  try k_fold
  k_steps
  obtain ⟨i, rfl⟩ := Int.eq_ofNat_of_zero_le hk
  obtain ⟨e1, e2⟩ := hands_cut i (by omega)
  rename_i N1
  have a1 := N1.isList (.head _)
  have a2 := N1.isList (.tail _ (.head _))
  refine kmk_add_lit (by k_asm) N1 a2 a1 rfl ?_ ?_
  · intro D h' F' N' l1
    k_steps
    exact hP _ _ (Fin.intro F' (cb_drop N' (fun p hp => by cases hp with | head => exact .head _ | tail _ h => cases h)) ⟨_, _, rfl, rfl, e1, e2⟩)
  · rw [List.length_append] at e1
    rw [sizeLine_eq]; omega
end Mine

-- MIter
namespace Mine
section
variable {prog : Program} {w : World} {A : Around} {E : Value → Shared → Prop} {s : Shared} {env : Env} {h₀ : Heap} {x : Str} {body : List Stmt} {Q : Flow → Shared → Prop}
/-- a loop over a list of the ledger, by an invariant -/
theorem listInv {I : Addr} {lp : Addr × Obj} (Inv : List Value → (Str → Option Value) → Cells → Prop)
    (step : ∀ v r m news, Inv (v :: r) m news → ∀ (it : Obj) h tk, Fr h₀ env.locals h (fun y => if y = x then some v else m y) → News h₀ env.locals h ((I, it) :: news) → ∀ Q' : Flow → Shared → Prop,
      (∀ h' tk' m' news', Inv r m' news' → Fr h₀ env.locals h' m' → News h₀ env.locals h' ((I, it) :: news') → (∀ p ∈ news', p.1 ≠ I) → lp ∈ news' → Q' .next { s with heap := h', toks := tk' }) → (∀ v s', Q (.ret v) s' → Q' (.ret v) s') →
      wpAny (model prog w) A (execs body env) Q' E { s with heap := h, toks := tk })
    (fin : ∀ m news h tk, Inv [] m news → Fr h₀ env.locals h m → News h₀ env.locals h news → Q .next { s with heap := h, toks := tk }) :
    ∀ l m news, Inv l m news → ListRest prog w A E h₀ env x body Q s I lp l m news
  | [], m, news, hI => ListRest.zero fun h tk F N => fin m news h tk hI F N
  | v :: r, m, news, hI => ListRest.succ fun it h tk _ F N => step v r m news hI it h tk F N _
      (fun h' tk' m' news' hI' F' N' off hm => ⟨h', tk', m', news', rfl, F', N', off, hm, listInv Inv step fin r m' news' hI'⟩) (fun _ _ z => z)
/-- a loop over a range, by an invariant -/
theorem rangeInv {I : Addr} {a : Int} {n : Nat} (Inv : Nat → (Str → Option Value) → Cells → Prop)
    (step : ∀ i t m news, i < n → Inv i m news → ∀ (it : Obj) h tk, Fr h₀ env.locals h (fun y => if y = x then some (.int (a + (i : Int)) t) else m y) → News h₀ env.locals h ((I, it) :: news) → ∀ Q' : Flow → Shared → Prop,
      (∀ h' tk' m' news', Inv (i + 1) m' news' → Fr h₀ env.locals h' m' → News h₀ env.locals h' ((I, it) :: news') → (∀ p ∈ news', p.1 ≠ I) → Q' .next { s with heap := h', toks := tk' }) → (∀ v s', Q (.ret v) s' → Q' (.ret v) s') →
      wpAny (model prog w) A (execs body env) Q' E { s with heap := h, toks := tk })
    (fin : ∀ m news h tk, Inv n m news → Fr h₀ env.locals h m → News h₀ env.locals h news → Q .next { s with heap := h, toks := tk }) :
    ∀ k i m news, i + k = n → Inv i m news → RangeRest prog w A E h₀ env x body Q s I a n k i m news
  | 0, i, m, news, e, hI => RangeRest.zero fun h tk F N => fin m news h tk (by rw [← e]; exact hI) F N
  | k + 1, i, m, news, e, hI => RangeRest.succ fun t h tk F N => step i t m news (by omega) hI _ h tk F N _
      (fun h' tk' m' news' hI' F' N' off => ⟨h', tk', m', news', rfl, F', N', off, rangeInv Inv step fin k (i + 1) m' news' (by omega) hI'⟩) (fun _ _ z => z)
end
section
variable {prog : Program} {w : World} {A : Around} {E : Value → Shared → Prop} {s : Shared} {h₀ : Heap} {L D : Addr} {m : Str → Option Value} {news : Cells} {n : Nat} {vs : List Value} {v : Value}
theorem itemK {k : Int} {t : Tok} {Q : Value → Shared → Prop} (N : News h₀ L s.heap news) (hm : (D, W.listOf vs.toArray n) ∈ news) (h0 : 0 ≤ k) (hf : k < 2 ^ 63) (hx : vs[k.toNat]? = some v) (h : Q v s) :
    wpAny (model prog w) A (getItem (.ref D) (.int k t)) Q E s := wpAny_getItem_list (N.isList hm) h0 hf (by simpa using hx) h
end
noncomputable def VMark : Prop := True
/-- a loop, its source made: the walk stops here -/
noncomputable def IterV (prog : Program) (w : World) (A : Around) (h₀ : Heap) (env : Env) (x : Str) (body : List Stmt) (Q : Flow → Shared → Prop) (E : Value → Shared → Prop) (xv : Value) (s : Shared) : Prop :=
  wpAny (model prog w) A (pyIter xv) (fun it s₂ => LoopAtV prog w A h₀ env x body Q E it s₂) E s
section
variable {prog : Program} {w : World} {A : Around} {s : Shared} {env : Env} {h₀ : Heap} {x : Str} {body : List Stmt} {Q : Flow → Shared → Prop} {m : Str → Option Value}
theorem execsForV {px pos : Pos} {iter : PySem.Expr} {rest : List Stmt} (_ : VMark) (F : Fr h₀ env.locals s.heap m) (hx : env.kindOf x = some .local) (hp : (env.scope.kind == .class || (env.scope.kind == .module && env.locals != env.globals)) = false)
    (h : ∀ Q' : Flow → Shared → Prop, (∀ s', wpAny (model prog w) A (execs rest env) Q (fun _ _ => False) s' → Q' .next s') → (∀ v s', Q (.ret v) s' → Q' (.ret v) s') → wpAny (model prog w) A (eval iter env) (fun xv s₁ => IterV prog w A h₀ env x body Q' (fun _ _ => False) xv s₁) (fun _ _ => False) s)
    (hs : ∀ x, foldedSetIterable iter env x = pure x := by intro _; rfl) :
    wpAny (model prog w) A (execs (.For (.Name x px) iter body [] pos :: rest) env) Q (fun _ _ => False) s :=
  wpAny_execs_cons (For_invVF F hx hp (h (fun f s' => match f with | .next => wpAny (model prog w) A (execs rest env) Q (fun _ _ => False) s' | f => Q f s') (fun _ z => z) (fun _ _ z => z)) hs (by passes_own))
end
section
variable {prog : Program} {w : World} {A : Around} {s : Shared} {E : Value → Shared → Prop} {env : Env} {h₀ : Heap} {x : Str} {body : List Stmt} {Q : Flow → Shared → Prop} {m₀ : Str → Option Value} {h : Heap} {tk : Nat} {news : Cells}
/-- a loop over a list of the ledger -/
theorem listFor {ax : Addr} {vs : List Value} {n : Nat} (hh : A.handled = none) (F : Fr h₀ env.locals h m₀) (N : News h₀ env.locals h news) (hm : (ax, W.listOf vs.toArray n) ∈ news) (Inv : List Value → (Str → Option Value) → Cells → Prop) (hI : Inv vs m₀ news)
    (step : ∀ I : Addr, (∀ p ∈ news, p.1 < I) → ∀ v r m news, Inv (v :: r) m news → ∀ (it : Obj) h tk, Fr h₀ env.locals h (fun y => if y = x then some v else m y) → News h₀ env.locals h ((I, it) :: news) → ∀ Q' : Flow → Shared → Prop,
      (∀ h' tk' m' news', Inv r m' news' → Fr h₀ env.locals h' m' → News h₀ env.locals h' ((I, it) :: news') → (∀ p ∈ news', p.1 ≠ I) → (ax, W.listOf vs.toArray n) ∈ news' → Q' .next { s with heap := h', toks := tk' }) → (∀ v s', Q (.ret v) s' → Q' (.ret v) s') →
      wpAny (model prog w) A (execs body env) Q' E { s with heap := h, toks := tk })
    (fin : ∀ m news h tk, Inv [] m news → Fr h₀ env.locals h m → News h₀ env.locals h news → Q .next { s with heap := h, toks := tk }) :
    IterV prog w A h₀ env x body Q E (.ref ax) { s with heap := h, toks := tk } :=
  iter_listUnr (s := { s with heap := h, toks := tk }) hh F N hm rfl rfl fun I hlt => listInv (s := { s with heap := h, toks := tk }) Inv (fun v r m news i it h tk F N Q' q r' => step I hlt v r m news i it h tk F N Q' q r') (fun m news h tk i F N => fin m news h tk i F N) vs m₀ news hI
/-- a loop over a range of the ledger -/
theorem rangeFor {ra : Addr} {a b : Int} {t u v : Tok} {n : Nat} (hh : A.handled = none) (F : Fr h₀ env.locals h m₀) (N : News h₀ env.locals h news) (hr : IsRange h ra a b 1 t u v) (hs : Builtin.Range.small a b 1 = true) (hn : Builtin.Range.rangeSize a b 1 = (n : Int)) (Inv : Nat → (Str → Option Value) → Cells → Prop) (hI : Inv 0 m₀ news)
    (step : ∀ I : Addr, (∀ p ∈ news, p.1 < I) → ∀ i t m news, i < n → Inv i m news → ∀ (it : Obj) h tk, Fr h₀ env.locals h (fun y => if y = x then some (.int (a + (i : Int)) t) else m y) → News h₀ env.locals h ((I, it) :: news) → ∀ Q' : Flow → Shared → Prop,
      (∀ h' tk' m' news', Inv (i + 1) m' news' → Fr h₀ env.locals h' m' → News h₀ env.locals h' ((I, it) :: news') → (∀ p ∈ news', p.1 ≠ I) → Q' .next { s with heap := h', toks := tk' }) → (∀ v s', Q (.ret v) s' → Q' (.ret v) s') →
      wpAny (model prog w) A (execs body env) Q' E { s with heap := h, toks := tk })
    (fin : ∀ m news h tk, Inv n m news → Fr h₀ env.locals h m → News h₀ env.locals h news → Q .next { s with heap := h, toks := tk }) :
    IterV prog w A h₀ env x body Q E (.ref ra) { s with heap := h, toks := tk } :=
  iter_rangeUnr (s := { s with heap := h, toks := tk }) hh hr hs hn F N fun I hlt => rangeInv (s := { s with heap := h, toks := tk }) Inv (fun i t m news hi j it h tk F N Q' q r' => step I hlt i t m news hi j it h tk F N Q' q r') (fun m news h tk i F N => fin m news h tk i F N) n 0 m₀ news (Nat.zero_add n) hI
theorem ints_cons {vs : List Value} {is : List Int} {n : Nat} (h : IntsAre vs is) (e : is.length = n + 1) : ∃ i u vs' is', vs = Value.int i u :: vs' ∧ is = i :: is' ∧ IntsAre vs' is' ∧ is'.length = n := by
  cases h with
  | nil => cases e
  | cons i u r => exact ⟨i, u, _, _, rfl, rfl, r, Nat.succ.inj e⟩
theorem ints_nil {vs : List Value} {is : List Int} (h : IntsAre vs is) (e : is.length = 0) : vs = [] ∧ is = [] := by
  cases h with
  | nil => exact ⟨rfl, rfl⟩
  | cons i u r => cases e
end
end Mine
local macro_rules | `(tactic| walk_at "execs cons") => `(tactic| (k_here; (with_reducible show wpAny _ _ (execs (Stmt.For _ _ _ _ _ :: _) _) _ _ _); k_dflt (refine Mine.execsForV (by with_reducible assumption) (by k_asm) (by rfl) (by rfl) ?_); intro Q' hn' hr'))

-- MLaw
namespace Mine
/-- letters: true is the sign, false its escape's tail -/
noncomputable def cd : Bool → List Nat
  | true => [38]
  | false => [97, 109, 112, 59]
noncomputable def encL (l : List Bool) : List Nat := l.flatMap cd
noncomputable def piece : Option Bool → List Nat
  | none => []
  | some b => cd b
inductive Pcs : List Value → List (Option Bool) → Prop
  | nil : Pcs [] []
  | cons (o : Option Bool) (t : Tok) {vs : List Value} {ps : List (Option Bool)} : Pcs vs ps → Pcs (Value.str ⟨(piece o).toArray⟩ t :: vs) (o :: ps)
theorem Pcs.append {vs us : List Value} {ps qs : List (Option Bool)} (h : Pcs vs ps) (k : Pcs us qs) : Pcs (vs ++ us) (ps ++ qs) := by
  induction h with
  | nil => exact k
  | cons o t _ ih => exact .cons o t ih
theorem Pcs.take {vs : List Value} {ps : List (Option Bool)} (h : Pcs vs ps) : ∀ k, Pcs (vs.take k) (ps.take k) := by
  induction h with
  | nil => intro k; simp only [List.take_nil]; exact .nil
  | cons o t _ ih => intro k; cases k with
    | zero => exact .nil
    | succ k => exact .cons o t (ih k)
theorem Pcs.drop {vs : List Value} {ps : List (Option Bool)} (h : Pcs vs ps) : ∀ k, Pcs (vs.drop k) (ps.drop k) := by
  induction h with
  | nil => intro k; simp only [List.drop_nil]; exact .nil
  | cons o t r ih => intro k; cases k with
    | zero => exact .cons o t r
    | succ k => exact ih k
theorem Pcs.length {vs : List Value} {ps : List (Option Bool)} (h : Pcs vs ps) : vs.length = ps.length := by
  induction h with
  | nil => rfl
  | cons o t _ ih => simp [ih]
inductive Rch : Nat → List (Option Bool) → Prop
  | zero : Rch 0 [some true, some false]
  | succ {n : Nat} {ps : List (Option Bool)} (k : Nat) (o : Option Bool) : Rch n ps → Rch (n + 1) (ps.take k ++ o :: ps.drop k)
theorem Rch.length {n : Nat} {ps : List (Option Bool)} (h : Rch n ps) : ps.length = n + 2 := by
  induction h with
  | zero => rfl
  | succ k o _ ih => simp only [List.length_append, List.length_cons, List.length_take, List.length_drop, ih]; omega
theorem insPcs {vs : List Value} {ps : List (Option Bool)} (h : Pcs vs ps) (x : Int) (o : Option Bool) (t : Tok) : ∃ k, Pcs (kl_ins vs x (.str ⟨(piece o).toArray⟩ t)) (ps.take k ++ o :: ps.drop k) :=
  ⟨_, (h.take _).append (.cons o t (h.drop _))⟩
noncomputable def toStr (o : Option Bool) : Str := ⟨(piece o).toArray⟩
theorem Pcs.strs {vs : List Value} {ps : List (Option Bool)} (h : Pcs vs ps) : StrsAre vs (ps.map toStr) := by
  induction h with
  | nil => exact .nil
  | cons o t _ ih => exact .cons _ t ih
theorem piece_le (o : Option Bool) : (toStr o).length ≤ 4 := by
  rcases o with _ | _ | _ <;> decide
theorem sum_le : ∀ ps : List (Option Bool), ((ps.map toStr).map (·.length)).sum ≤ 4 * ps.length
  | [] => Nat.le_refl _
  | o :: ps => by
    have := sum_le ps
    have h := piece_le o
    simp only [List.map_cons, List.sum_cons, List.length_cons]
    omega
theorem join_all : ∀ ps : List (Option Bool), (Str.join Str.empty (ps.map toStr)).cps.toList = encL (ps.filterMap id)
  | [] => rfl
  | [o] => by
    rcases o with _ | _ | _ <;> rfl
  | o :: o' :: ps => by
    have ih := join_all (o' :: ps)
    have e : Str.join Str.empty ((o :: o' :: ps).map toStr) = toStr o ++ Str.empty ++ Str.join Str.empty ((o' :: ps).map toStr) := rfl
    rw [e, Str.cps_append, Str.cps_append, Array.toList_append, Array.toList_append, ih]
    rcases o with _ | _ | _ <;> rfl
theorem glue_all (ps : List (Option Bool)) : (Txt.join Str.empty (ps.map toStr)).cps.toList = encL (ps.filterMap id) := by
  show (Builtin.Str.glued Str.empty (ps.map toStr)).cps.toList = _
  rw [StrLaws.glued_eq_join]; exact join_all ps
theorem join_len (ps : List (Option Bool)) : (Txt.join Str.empty (ps.map toStr)).length ≤ 4 * ps.length := by
  have h := StrLaws.join_length_le Str.empty (ps.map toStr)
  have e : Txt.join Str.empty (ps.map toStr) = Str.join Str.empty (ps.map toStr) := StrLaws.glued_eq_join ..
  rw [e]
  have := sum_le ps
  have e0 : Str.empty.length = 0 := rfl
  rw [e0] at h
  omega
noncomputable def nmC : List Nat := [92, 32, 35, 39]
theorem nmItem (x : Int) : ∃ c, Txt.item (Str.ofString "\\ #'") (x.fmod 4) = ⟨#[c]⟩ ∧ c ∈ nmC := by
  have b1 := Int.fmod_nonneg_of_pos x (b := 4) (by omega)
  have b2 := Int.fmod_lt_of_pos x (b := 4) (by omega)
  generalize x.fmod 4 = y at b1 b2
  have : y = 0 ∨ y = 1 ∨ y = 2 ∨ y = 3 := by omega
  rcases this with rfl | rfl | rfl | rfl
  · exact ⟨92, by decide +kernel, by decide⟩
  · exact ⟨32, by decide +kernel, by decide⟩
  · exact ⟨35, by decide +kernel, by decide⟩
  · exact ⟨39, by decide +kernel, by decide⟩
theorem wsItem (x : Int) : ∃ c, Txt.item (Str.ofString " \t\r\n") (x.fmod 4) = ⟨#[c]⟩ ∧ c ∈ [32, 9, 13, 10] := by
  have b1 := Int.fmod_nonneg_of_pos x (b := 4) (by omega)
  have b2 := Int.fmod_lt_of_pos x (b := 4) (by omega)
  generalize x.fmod 4 = y at b1 b2
  have : y = 0 ∨ y = 1 ∨ y = 2 ∨ y = 3 := by omega
  rcases this with rfl | rfl | rfl | rfl
  · exact ⟨32, by decide +kernel, by decide⟩
  · exact ⟨9, by decide +kernel, by decide⟩
  · exact ⟨13, by decide +kernel, by decide⟩
  · exact ⟨10, by decide +kernel, by decide⟩
theorem rep_len (y z : List Nat) (hz : z.length ≤ 5) : ∀ (k : Nat) (l : List Nat), (rep y z k l).length ≤ 5 * l.length
  | _, [] => by simp [rep]
  | k + 1, _ :: l => by
    have := rep_len y z hz k l
    show (rep y z k l).length ≤ _
    simp only [List.length_cons]; omega
  | 0, c :: l => by
    show (if (c :: l).take y.length = y then z ++ rep y z (y.length - 1) l else c :: rep y z 0 l).length ≤ _
    split
    · have := rep_len y z hz (y.length - 1) l
      simp only [List.length_append, List.length_cons]; omega
    · have := rep_len y z hz 0 l
      simp only [List.length_cons]; omega
theorem esc_len : ∀ l : List Nat, (l.flatMap fun c => [92, c]).length = 2 * l.length
  | [] => rfl
  | c :: l => by
    have := esc_len l
    simp only [List.flatMap_cons, List.length_append, List.length_cons, List.length_nil, this]; omega
theorem esc_join : ∀ l : List Str, (∀ a ∈ l, a.length = 1) → (Str.join Str.empty (l.map fun a => (⟨#[92]⟩ : Str) ++ a)).cps.toList = (l.flatMap fun a => a.cps.toList).flatMap fun c => [92, c]
  | [], _ => rfl
  | [a], h => by
    obtain ⟨c, hc⟩ : ∃ c, a.cps.toList = [c] := List.length_eq_one_iff.mp (by rw [Array.length_toList]; exact h a (.head _))
    show ((⟨#[92]⟩ : Str) ++ a).cps.toList = _
    rw [Str.cps_append, Array.toList_append, hc]
    simp [hc]
  | a :: b :: l, h => by
    have ih := esc_join (b :: l) (fun x hx => h x (.tail _ hx))
    obtain ⟨c, hc⟩ : ∃ c, a.cps.toList = [c] := List.length_eq_one_iff.mp (by rw [Array.length_toList]; exact h a (.head _))
    have e : Str.join Str.empty ((a :: b :: l).map fun a => (⟨#[92]⟩ : Str) ++ a) = ((⟨#[92]⟩ : Str) ++ a) ++ Str.empty ++ Str.join Str.empty ((b :: l).map fun a => (⟨#[92]⟩ : Str) ++ a) := rfl
    rw [e, Str.cps_append, Str.cps_append, Str.cps_append, Array.toList_append, Array.toList_append, Array.toList_append, ih, hc, List.flatMap_cons (xs := b :: l), hc]
    rfl
theorem flat_signs : ∀ l : List Nat, ((l.map fun n => (⟨#[n]⟩ : Str)).flatMap fun a => a.cps.toList) = l
  | [] => rfl
  | c :: l => by
    rw [List.map_cons, List.flatMap_cons, flat_signs l]; rfl
theorem esc_signs (x : Str) : (Txt.join Str.empty ((signs x).map fun a => (⟨#[92]⟩ : Str) ++ a)).cps.toList = x.cps.toList.flatMap fun c => [92, c] := by
  have e : Txt.join Str.empty ((signs x).map fun a => (⟨#[92]⟩ : Str) ++ a) = Str.join Str.empty ((signs x).map fun a => (⟨#[92]⟩ : Str) ++ a) := StrLaws.glued_eq_join ..
  rw [e, esc_join _ fun a ha => ?_]
  · unfold signs
    rw [flat_signs]
  · unfold signs at ha
    obtain ⟨n, _, rfl⟩ := List.mem_map.mp ha
    rfl
theorem esc_sum (x : Str) : ∀ l : List Str, (∀ a ∈ l, a.length = 1) → ((l.map fun a => (⟨#[92]⟩ : Str) ++ a).map (·.length)).sum = 2 * l.length
  | [], _ => rfl
  | a :: l, h => by
    have ih := esc_sum x l fun b hb => h b (.tail _ hb)
    have ha := h a (.head _)
    simp only [List.map_cons, List.sum_cons, List.length_cons, ih, Str.length_append, ha]
    show 1 + 1 + _ = _
    omega
end Mine

-- T16
namespace Mine
theorem root {prog : Program} {w : World} (l : Addr) (vs : List Value) (n : Nat) (is : List Int) (hi : IntsAre vs is) (hl : is.length = 6) :
   Does (KH w.params) prog w 2 203 [.ref l] [(l, W.listOf vs.toArray n)] (fun r own => ∃ (x : Str) (t : Tok) (c1 c2 : Nat) (ps : List (Option Bool)), r = .str x t ∧ x.cps.toList = c1 :: c2 :: encL (ps.filterMap id) ∧ c1 ∈ nmC ∧ c2 ∈ nmC ∧ Rch 3 ps ∧ own = [(l, W.listOf vs.toArray n)]) := by
  refine enterT (binds := [("heaps", .ref l)]) (by k_is) (by k_is) (fun s X => BindsTo.of_eq rfl) (locs rfl) ?_
  intro dp un gd fr g L s PP hP' G F N l0 hdp hun hT
  obtain ⟨X, ⟨p, loose, mean, mg, mb, T⟩, codeHd⟩ := id G
  obtain ⟨i0, u0, vs, is, rfl, rfl, hi, hl⟩ := ints_cons hi hl
  obtain ⟨i1, u1, vs, is, rfl, rfl, hi, hl⟩ := ints_cons hi hl
  obtain ⟨i2, u2, vs, is, rfl, rfl, hi, hl⟩ := ints_cons hi hl
  obtain ⟨i3, u3, vs, is, rfl, rfl, hi, hl⟩ := ints_cons hi hl
  obtain ⟨i4, u4, vs, is, rfl, rfl, hi, hl⟩ := ints_cons hi hl
  obtain ⟨i5, u5, vs, is, rfl, rfl, hi, hl⟩ := ints_cons hi hl
  obtain ⟨rfl, rfl⟩ := ints_nil hi hl
  clear hi hl
  have hV : VMark := trivial
  k_steps
  rename_i l' h1 l1 h2 Q' hn hr D' h3 F3 N3 l1'
  dsimp only
  refine listFor rfl F3 N3 (.head _) (fun r m news => ∃ (j : Nat) (is' : List Int) (vs' : List Value) (ps : List (Option Bool)) (n' : Nat) (o : Option Value), j + r.length = 3 ∧ IntsAre r is' ∧ Pcs vs' ps ∧ Rch j ps ∧
      m = (fun y : Str => if y = "heap" then o else if y = "letters" then some (.ref l') else if y = "heaps" then some (.ref l) else none) ∧
      news = [(D', W.listOf #[Value.int i2 u2, Value.int i3 u3, Value.int i4 u4] 0), (l', W.listOf vs'.toArray n'), (l, W.listOf #[Value.int i0 u0, Value.int i1 u1, Value.int i2 u2, Value.int i3 u3, Value.int i4 u4, Value.int i5 u5] n)]) ?_ ?_ ?_
  · refine ⟨0, [i2, i3, i4], _, _, 0, none, rfl, .cons _ _ (.cons _ _ (.cons _ _ .nil)), .cons (some true) s.toks (.cons (some false) (s.toks + 1) .nil), .zero, ?_, rfl⟩
    funext y
    have d1 : (Str.ofString "letters" = Str.ofString "heap") = False := by simp; decide
    have d2 : (Str.ofString "heap" = Str.ofString "letters") = False := by simp; decide
    by_cases h1 : y = Str.ofString "letters"
    · subst h1; simp [d1]
    · by_cases h2 : y = Str.ofString "heap"
      · subst h2; simp only [d2, if_false, if_true]; rfl
      · rw [if_neg h1, if_neg h2, if_neg h1]; exact look1 rfl
  · clear F3 N3 hn hr
    intro I hI
    have n1 : @LT.lt Nat _ D' I := hI _ (.head _)
    have n2 : @LT.lt Nat _ l' I := hI _ (.tail _ (.head _))
    have n3 : @LT.lt Nat _ l I := hI _ (.tail _ (.tail _ (.head _)))
    clear hI
    rintro v r m news ⟨j, is', vs', ps, n', o, hj, his, hP, hR, rfl, rfl⟩ it h tk F N Q2 hn2 hr2
    cases his with
    | cons e u his =>
    k_steps
    have hl1 := hP.length
    have hl2 := hR.length
    refine len_list (N.isList (.tail _ (.tail _ (.head _)))) (by simp; omega) ?_
    k_steps
    all_goals
      have b1 := Int.fmod_nonneg_of_pos (e.fdiv 3) (b := (↑vs'.toArray.size + 1)) (by omega)
      have b2 := Int.fmod_lt_of_pos (e.fdiv 3) (b := (↑vs'.toArray.size + 1)) (by omega)
      generalize (e.fdiv 3).fmod (↑vs'.toArray.size + 1) = x at b1 b2
      have b3 : vs'.toArray.size = vs'.length := by simp
      have hf : Builtin.List.listFitsIndex x = true := by unfold Builtin.List.listFitsIndex; simp only [Bool.and_eq_true, decide_eq_true_eq]; omega
      rename_i F4 N4 l4 e4 e5
      clear e4 e5
    · obtain ⟨k, hk⟩ := insPcs hP x none (tk + 1 + 1 + 1 + 1 + 1 + 1 + 1)
      refine kl_insert F4 N4 hf rfl (by k_upd) (by rw [sizeLine_eq]; simp only [Array.length_toList, List.size_toArray]; omega) fun h' F' N' => ?_
      k_steps
      refine hn2 _ _ _ _ ⟨j + 1, _, _, _, n' + 1, some (.int e u), by simp only [List.length_cons] at hj; omega, his, hk, hR.succ k none, rfl, rfl⟩ (frOf F' fun y => by by_cases h : y = Str.ofString "heap" <;> simp [h]) (cb_drop N' ?_) (fun p hp => Nat.ne_of_lt ?_) (.head _)
      · repeat' (first | exact List.forall_mem_nil _ | refine List.forall_mem_cons.mpr ⟨by k_mem, ?_⟩)
      · rcases List.mem_cons.mp hp with rfl | hp
        · exact n1
        · rcases List.mem_cons.mp hp with rfl | hp
          · exact n2
          · rcases List.mem_cons.mp hp with rfl | hp
            · exact n3
            · cases hp
    · obtain ⟨k, hk⟩ := insPcs hP x (some true) (tk + 1 + 1 + 1 + 1 + 1 + 1 + 1 + 1)
      refine kl_insert F4 N4 hf rfl (by k_upd) (by rw [sizeLine_eq]; simp only [Array.length_toList, List.size_toArray]; omega) fun h' F' N' => ?_
      k_steps
      refine hn2 _ _ _ _ ⟨j + 1, _, _, _, n' + 1, some (.int e u), by simp only [List.length_cons] at hj; omega, his, hk, hR.succ k (some true), rfl, rfl⟩ (frOf F' fun y => by by_cases h : y = Str.ofString "heap" <;> simp [h]) (cb_drop N' ?_) (fun p hp => Nat.ne_of_lt ?_) (.head _)
      · repeat' (first | exact List.forall_mem_nil _ | refine List.forall_mem_cons.mpr ⟨by k_mem, ?_⟩)
      · rcases List.mem_cons.mp hp with rfl | hp
        · exact n1
        · rcases List.mem_cons.mp hp with rfl | hp
          · exact n2
          · rcases List.mem_cons.mp hp with rfl | hp
            · exact n3
            · cases hp
    · obtain ⟨k, hk⟩ := insPcs hP x (some false) (tk + 1 + 1 + 1 + 1 + 1 + 1 + 1 + 1 + 1)
      refine kl_insert F4 N4 hf rfl (by k_upd) (by rw [sizeLine_eq]; simp only [Array.length_toList, List.size_toArray]; omega) fun h' F' N' => ?_
      k_steps
      refine hn2 _ _ _ _ ⟨j + 1, _, _, _, n' + 1, some (.int e u), by simp only [List.length_cons] at hj; omega, his, hk, hR.succ k (some false), rfl, rfl⟩ (frOf F' fun y => by by_cases h : y = Str.ofString "heap" <;> simp [h]) (cb_drop N' ?_) (fun p hp => Nat.ne_of_lt ?_) (.head _)
      · repeat' (first | exact List.forall_mem_nil _ | refine List.forall_mem_cons.mpr ⟨by k_mem, ?_⟩)
      · rcases List.mem_cons.mp hp with rfl | hp
        · exact n1
        · rcases List.mem_cons.mp hp with rfl | hp
          · exact n2
          · rcases List.mem_cons.mp hp with rfl | hp
            · exact n3
            · cases hp
  · clear F3 N3 hr
    rintro m news h tk ⟨j, is', vs', ps, n', o, hj, his, hP, hR, rfl, rfl⟩ F N
    refine hn _ ?_
    k_steps
    have hl1 := hP.length
    have hl2 := hR.length
    have hs := sum_le ps
    refine join_listW (N.isList (.tail _ (.head _))) (by simpa using hP.strs) (by decide) (by simp only [List.length_map, Nat.reduceLeDiff] at *; omega) fun t' k => ?_
    dsimp only
    have hjl := join_len ps
    obtain ⟨c1, e1, m1⟩ := nmItem ([i0, i1, i2, i3, i4, i5].getD (Int.toNat 0) 0)
    obtain ⟨c2, e2, m2⟩ := nmItem ([i0, i1, i2, i3, i4, i5].getD (Int.toNat 1) 0)
    have hj2 := glue_all ps
    rw [e1, e2]
    change (Txt.join (Str.ofString "") (ps.map toStr)).length ≤ 4 * ps.length at hjl
    change (Txt.join (Str.ofString "") (ps.map toStr)).cps.toList = encL (ps.filterMap id) at hj2
    generalize Txt.join (Str.ofString "") (ps.map toStr) = J at hjl hj2 ⊢
    refine SBL.add (fun t' k => ?_) (by rw [sizeLine_eq]; have := hR.length; show 2 + _ ≤ _; simp only [List.length_nil] at hj; omega)
    k_steps
    refine hP' _ _ (Fin.intro F (cb_drop N ?_) ⟨_, _, c1, c2, ps, rfl, ?_, m1, m2, ?_, rfl⟩)
    · repeat' (first | exact List.forall_mem_nil _ | refine List.forall_mem_cons.mpr ⟨by k_mem, ?_⟩)
    · rw [Str.cps_append, Array.toList_append, hj2]; rfl
    · have e : j = 3 := by simpa using hj
      rw [← e]; exact hR
end Mine

-- T17
namespace Mine
/-- a written word's body in the text -/
inductive Inn (x : List Nat) : List Nat → Prop
  | quo : Inn x (34 :: (rep [92] [92, 92] 0 x ++ [34]))
  | esc : Inn x (x.flatMap fun c => [92, c])
section
variable {prog : Program} {w : World} {A : Around} {E : Value → Shared → Prop} {s₁ : Shared} {h₀ : Heap} {L : Addr} {m : Str → Option Value} {news : Cells} {env : Env} {elt : PySem.Expr} {z : Str} {scope : Scope} {Q : Value → Shared → Prop} {y : Str} {t : Tok} {d : Str → PyData}
/-- a list made of a text's signs: the item is known to be one sign -/
theorem compSigns (hh : A.handled = none) (F : Fr h₀ L s₁.heap m) (N : News h₀ L s₁.heap news)
    (g : ∀ C (c : Nat) u s₂ m₂ E', s₂.heap.Ns (compEnv scope C env).locals m₂ → m₂ z = some (.str ⟨#[c]⟩ u) → wpAny (model prog w) A (eval elt (compEnv scope C env)) (fun r s₃ => Carried r (d ⟨#[c]⟩) ∧ Keeps s₂ s₃) E' s₂)
    (e : ∀ D (ys : List Value) h' tk, Fr h₀ L h' m → News h₀ L h' news → h'.IsList D ys.toArray → CarriedAll ys ((signs y).map d) → Q (.ref D) { s₁ with heap := h', toks := tk }) (hsz : y.length ≤ sizeLine) :
    wpAny (model prog w) A (pyIter (.str y t)) (CompPost prog w A env scope z [] elt Q) E s₁ := by
  unfold CompPost
  refine wpAny_pyIter_str fun o St W hst => ?_
  have up : ∀ (h' : Heap), (∀ b o', b ∉ [s₁.heap.objs.size] → (s₁.heap.push o).get? b = some o' → h'.get? b = some o') → ∀ b o', s₁.heap.get? b = some o' → h'.get? b = some o' :=
    fun h' hk b o' e => hk b o' (old_not_new e) (Heap.get?_push_of_some _ e)
  refine ⟨ItemKind.str.lift fun _ => true, fun v r => ∃ a, ItemKind.str.is a v ∧ Carried r (d a), s₁.heap.objs.size, [s₁.heap.objs.size], [s₁.heap.objs.size], y.cps.size, SignAt y, St, rfl, W A hh, hsz, hst, fun b hb => ?_, ⟨?_, ?_⟩, ?_⟩
  · show b < (s₁.heap.push o).objs.size
    rw [Heap.size_push, List.mem_singleton.mp hb]
    exact Nat.lt_succ_self _
  · rintro C i v s₃ m₃ E' ⟨c, u, _, rfl⟩ hn hm _ htk
    have ha : ItemKind.str.is ⟨#[c]⟩ (.str ⟨#[c]⟩ u) := ⟨u, rfl⟩
    rw [ItemKind.lift_is ha]
    exact wpAny_pure ⟨rfl, _, _, rfl, fun _ _ e => e⟩
  · rintro C i v s₃ m₃ E' ⟨c, u, _, rfl⟩ _ hn hm _ htk
    exact wpAny_mono (g C c u s₃ m₃ E' hn hm) (fun r s₄ h₄ => ⟨⟨_, ⟨u, rfl⟩, h₄.1⟩, h₄.2⟩) fun _ _ e => e
  · intro D h' tk ys vs hnew hlD hplD hlen hP hF hk
    have hc := (areOf_signs hlen hP).paired (fun _ => true) d _ hF
    rw [List.filter_eq_self.mpr fun _ _ => rfl] at hc
    exact e D ys.toList h' tk (F.keeps (up h' hk)) (N.grown (up h' hk)) (by rw [Array.toArray_toList]; exact hlD) hc
end
noncomputable def Small (x : Str) : Prop := x.cps.size < 10000
theorem textw {prog : Program} {w : World} (x : Str) (t : Tok) (k : Int) (u : Tok) (hx : Small x) :
   Does (KH w.params) prog w 2 208 [.str x t, .int k u] [] (fun r own => ∃ (y : Str) (t : Tok) (b1 b2 : Nat) (i : List Nat), r = .str y t ∧ y.cps.toList = b1 :: (i ++ [b2]) ∧ Inn x.cps.toList i ∧ b1 ∈ [32, 9, 13, 10] ∧ b2 ∈ [32, 9, 13, 10] ∧ own = []) := by
  refine enterT (binds := [("word", .str x t), ("heap", .int k u)]) (by k_is) (by k_is) (fun s X => BindsTo.of_eq rfl) (locs rfl) ?_
  intro dp un gd fr g L s PP hP G F N l0 hdp hun hT
  obtain ⟨X, ⟨p, loose, mean, mg, mb, T⟩, codeHd⟩ := id G
  simp only [List.length_cons, List.length_nil] at hT
  try k_fold
  refine wpAny_execs_cons ?_
  refine cutNext (fun s' => ∃ z t' h' k', s' = { s with heap := h', toks := k' } ∧ Inn x.cps.toList z.cps.toList ∧ z.length ≤ 60000 ∧ Fr g L h' (fun y => if y = "inner" then some (.str z t') else List.lookup y [("heap", .int k u), ("word", .str x t)]) ∧ News g L h' []) ?_ ?_
  · intro Q' hQ
    k_steps
    · have hx' : x.cps.size < 10000 := hx
      have hln : x.length ≤ 1048576 := by show x.cps.size ≤ _; omega
      have hr := replace_rep x (Str.ofString "\\") (Str.ofString "\\\\") (by decide)
      have hrl : (Txt.replace x (Str.ofString "\\") (Str.ofString "\\\\")).length ≤ 50000 := by
        have h5 := rep_len (Str.ofString "\\").cps.toList (Str.ofString "\\\\").cps.toList (by decide) 0 x.cps.toList
        rw [← hr, Array.length_toList, Array.length_toList] at h5
        show (Txt.replace x (Str.ofString "\\") (Str.ofString "\\\\")).cps.size ≤ _
        omega
      k_steps
      dsimp only
      refine hQ _ ⟨_, _, _, _, rfl, ?_, ?_, frOf (by assumption) (fun y => rfl), by assumption⟩
      · rw [Str.cps_append, Str.cps_append, Array.toList_append, Array.toList_append, hr]
        exact .quo
      · rw [Str.length_append, Str.length_append]
        show 1 + _ + 1 ≤ _
        omega
    · have hx' : x.cps.size < 10000 := hx
      refine compSigns (d := fun a => PyData.str ((⟨#[92]⟩ : Str) ++ a)) (by rfl) (by k_asm) (by k_asm) ?_ ?_ (by rw [sizeLine_eq]; show x.cps.size ≤ _; omega)
      · intro C c u1 s₂ m₂ E' hn hm
        k_steps
        · exact Carried.str _ _
        · exact ⟨_, _, rfl, fun _ _ e => e⟩
      · intro D ys h' tk F' N' hl hc
        have hs := CarriedAll.strsOf (f := fun a => (⟨#[92]⟩ : Str) ++ a) hc
        have h1 : ∀ a ∈ signs x, a.length = 1 := fun a ha => by
          unfold signs at ha
          obtain ⟨n, _, rfl⟩ := List.mem_map.mp ha
          rfl
        have h2 := esc_sum x _ h1
        have h3 := signs_length x
        have h4 := esc_signs x
        have h5 : x.length < 10000 := hx
        clear hc
        k_steps
        refine join_listW (ys := (signs x).map fun a => (⟨#[92]⟩ : Str) ++ a) (by exact hl) (by simpa using hs) (by decide) (by rw [h2, List.length_map, h3]; omega) fun t' k => ?_
        change (Txt.join (Str.ofString "") ((signs x).map fun a => (⟨#[92]⟩ : Str) ++ a)).cps.toList = _ at h4
        generalize Txt.join (Str.ofString "") ((signs x).map fun a => (⟨#[92]⟩ : Str) ++ a) = J at h4 ⊢
        k_steps
        dsimp only
        refine hQ _ ⟨J, _, _, _, rfl, ?_, ?_, frOf (by assumption) (fun y => rfl), by assumption⟩
        · rw [h4]; exact .esc
        · show J.cps.size ≤ _
          rw [← Array.length_toList, h4, esc_len, Array.length_toList]
          omega
  · rintro _ ⟨z, t', h', k', rfl, hI, hz, F', N'⟩
    clear F N
    k_steps
    dsimp only
    obtain ⟨b1, e1, m1⟩ := wsItem (k.fdiv 2)
    obtain ⟨b2, e2, m2⟩ := wsItem (k.fdiv 8)
    refine hP _ _ (Fin.intro F' N' ⟨_, _, b1, b2, z.cps.toList, rfl, ?_, hI, m1, m2, rfl⟩)
    rw [e1, e2, Str.cps_append, Str.cps_append, Array.toList_append, Array.toList_append]
    simp
end Mine

-- MAcc
section
open PySem PySem.W PyProof.Rows PySem.Spec PySem.Calls Builtin Builtin.ObjectAttr
namespace Mine
structure MakesL (M : Model) (h : Heap) (C : Addr) : Prop where
  obj : ∃ oc od cd sl, h.get? C = some ⟨oc, od, .cls cd, sl⟩ ∧ cd.abstract = false ∧ cd.hasDel = false ∧ cd.mro.isEmpty = false
  made : Looks M h (Bind.madeBy (.ref C)) (some "list.__new__")
  base : Looks M h (Bind.staticBase (.ref C)) (.ref C)
  self : Looks M h (isSubtype (.ref C) (.ref C)) true
  top : Looks M h (isSubtype (.ref C) (.type "list")) true
  call : Looks M h (specialOf (.ref C) "__call__") (some (.builtin "type.__call__"))
  typ : Looks M h (isInstance (.ref C) (.type "type")) true
theorem makesL_of {K : Frag} {M : Model} {h : Heap} (X : K.In h) {C : Addr} {oc : Value} {od : Option Addr} {cd : ClassData} {sl : Array (Option Value)} (ho : K.lookup C = some ⟨oc, od, .cls cd, sl⟩) (e1 : cd.abstract = false) (e2 : cd.hasDel = false)
    (e3 : (sl.toList[4]?).join = some (.builtin "list.__new__")) (e4 : cd.mro.isEmpty = false) (e5 : cd.mro.contains (.ref C) = true) (e6 : cd.mro.contains (.type "list") = true) (e7 : specialIn K (.ref C) "__call__" = some (some (.builtin "type.__call__")))
    (e8 : instIn K (.ref C) (.type "type") = some true) : MakesL M h C := by
  have hc : clsIn K C = some cd := by unfold clsIn; rw [ho]
  have hm : Looks M h (mroOf (.ref C)) cd.mro := (looks_clsIn X hc).andThen .now
  obtain ⟨c, l, hl⟩ : ∃ c l, cd.mro = c :: l := by cases q : cd.mro with | nil => rw [q] at e4; cases e4 | cons c l => exact ⟨c, l, rfl⟩
  have made : Looks M h (Bind.madeBy (.ref C)) (some "list.__new__") := by
    intro A Q E s k q
    unfold Bind.madeBy
    refine wpAny_bind (hm A _ E s k ?_)
    rw [hl, List.forIn_cons]
    refine wpAny_bind (wpAny_bind (wpAny_bind (wpAny_bind (wpAny_loadPart (k _ _ (X _ _ ho)) (wpAny_pure ?_)))))
    dsimp only
    rw [← Array.getElem?_toList, e3]
    exact wpAny_pure (wpAny_pure (wpAny_pure q))
  refine ⟨⟨oc, od, cd, sl, X _ _ ho, e1, e2, e4⟩, made, ?_, looks_mroIn X ?_, looks_mroIn X ?_, looks_specialIn X e7, looks_instIn X e8⟩
  · intro A Q E s k q
    unfold Bind.staticBase
    refine wpAny_bind (hm A _ E s k ?_)
    rw [hl, List.forIn_cons]
    exact wpAny_bind (wpAny_bind (wpAny_bind (made A _ E s k (wpAny_pure (wpAny_pure (wpAny_pure q))))))
  · unfold mroIn; rw [hc, Option.bind_some, if_neg (by rw [e4]; decide), e5]
  · unfold mroIn; rw [hc, Option.bind_some, if_neg (by rw [e4]; decide), e6]
noncomputable abbrev accObj (C dx : Addr) (its : List Value) (n : Nat) : Obj := { cls := .ref C, dict := some dx, data := .seq its.toArray n }
section
variable {prog : Program} {w : World} {A : Around} {K : Frag} {C : Addr} {R : Result → Shared → Prop} {h : Heap} {g : Array GenState} {d : Drawn} {t : Nat} {os : OsState}
theorem newL (Y : MakesL (model prog w) h C)
    (hq : R (.ok (.ret (.ref (h.objs.size + 1)))) ⟨(h.push emptyDict).push (accObj C h.objs.size [] 0), g, d, t, os⟩) :
    codeAny (model prog w) A (.call (.builtin "list.__new__") ⟨[.ref C], []⟩) R ⟨h, g, d, t, os⟩ := by
  obtain ⟨⟨oc, od, cd, sl, hC, e1, e2, e4⟩, made, base, self, top, call, typ⟩ := Y
  refine codeAny_call_builtin_code (Code.quiet_builtin _ (by decide +kernel)) ?_
  have here : Looks (model prog w) h (Bind.madeHere "list.__new__" (.ref C)) () := base.andThen (made.andThen (Looks.of_pure (by simp only [Option.map_some, bne_self_eq_false, Bool.false_eq_true, if_false])))
  have kind : builtinKind "list.__new__" = some .builtinFn := by decide +kernel
  have split : splitId "list.__new__" = some ("list", "__new__") := by decide +kernel
  simp only [checkBuiltinCall, kind, split]
  have args : argsOk "list.__new__" ⟨[.ref C], []⟩ := by unfold argsOk; kernel_rfl
  unfold argsOk at args
  repeat (first | simp only [bne_self_eq_false, Bool.false_eq_true, if_false, beq_self_eq_true, if_true, Bool.not_true] | lk)
  refine codeAny_builtin_stack PySem.F.entry_list_new rfl fun p st => ?_
  have hown := owner_list_new
  simp only [hown]
  have hC' := Heap.get?_push_of_some (accObj C h.objs.size [] 0) (Heap.get?_push_of_some emptyDict hC)
  repeat (first | simp only [bne_self_eq_false, Bool.false_eq_true, if_false, beq_self_eq_true, if_true, Bool.not_true] | lk)
  rw [e2]
  simp only [Bool.false_eq_true, if_false]
  refine wpAny_pure (wpAny_pure ?_)
  show R _ _
  rw [Heap.size_push]
  exact hq
theorem makeL {init : Value} (Y : MakesL (model prog w) h C) (hi : Looks (model prog w) h (typeLookup (.ref C) "__init__") (some init))
    (hb : ∀ self, Looks (model prog w) h (bindSpecial init self) (init, [self]))
    (hq : codeAny (model prog w) (A.under (.builtin "type.__call__" ⟨[.ref C], []⟩)) (.call init ⟨[.ref (h.objs.size + 1)], []⟩) (InitBack (h.objs.size + 1) R) ⟨(h.push emptyDict).push (accObj C h.objs.size [] 0), g, d, t, os⟩) :
    codeAny (model prog w) A (.call (.ref C) ⟨[], []⟩) R ⟨h, g, d, t, os⟩ := by
  have Y' := Y
  obtain ⟨⟨oc, od, cd, sl, hC, e1, e2, e4⟩, made, base, self, top, call, typ⟩ := Y
  refine codeAny_of_tree ?_
  show wpAny _ _ (callAny (.ref C) _) _ _ _
  refine nd_load hC ?_
  show wpAny _ _ (callAny.viaDunder (.ref C) _) _ _ _
  unfold callAny.viaDunder
  refine wpAny_bind (call.at ?_)
  dsimp only
  rw [tc_bind]
  refine wpAny_bind (wpAny_pure (wpAny_bind (wpAny_pure ?_)))
  refine wpAny_pure (a := Fin.again (.call (.builtin "type.__call__") ⟨[.ref C], []⟩)) (And.intro rfl ?_)
  refine codeAny_call_builtin_at (Code.quiet_builtin _ (by decide +kernel)) entry_typeCall (check_slot tc_kind tc_split typ (tc_args _ _ _) ?_)
  unfold Builtin.«type.__call__»
  have hm : Looks (model prog w) h (mroOf (.ref C)) cd.mro := ((Looks.ld (part := none) hC).andThen .now).andThen .now
  repeat (first | simp only [e4, Bool.false_eq_true, if_false] | with_reducible refine wpAny_call ?_ | lk)
  refine newL Y' ?_
  have k : ∀ b o, h.get? b = some o → ((h.push emptyDict).push (accObj C h.objs.size [] 0)).get? b = some o := fun b o e => Heap.get?_push_of_some _ (Heap.get?_push_of_some _ e)
  have hx : ((h.push emptyDict).push (accObj C h.objs.size [] 0)).get? (h.objs.size + 1) = some (accObj C h.objs.size [] 0) := by heap_get
  have t1 : Looks (model prog w) ((h.push emptyDict).push (accObj C h.objs.size [] 0)) (typeOf (.ref (h.objs.size + 1))) (.ref C) := (Looks.ld hx).andThen .now
  have s1 := self.keeps k
  have i1 := hi.keeps k
  have b1 := (hb (.ref (h.objs.size + 1))).keeps k
  unfold isInstance callSpecial? specialOf
  repeat (first | with_reducible refine wpAny_call ?_ | lk)
  refine codeAny_mono hq fun r s' z => ?_
  rcases r with e | (v | _ | _ | _) <;> first | exact z | exact z.elim | skip
  obtain ⟨rfl, z⟩ := z
  exact wpAny_pure (wpAny_pure z)
end
end Mine
namespace Mine
section
variable {prog : Program} {w : World} {A : Around} {E : Value → Shared → Prop} {s : Shared} {h₀ : Heap} {L : Addr} {m : Str → Option Value} {news : Cells} {K : Frag} {Q : Value → Shared → Prop} {C : Addr}
/-- an object of a list subclass of the text's, no arguments -/
theorem call_clsL {fI : Addr} (F : Fr h₀ L s.heap m) (X : K.In h₀) (N : News h₀ L s.heap news) (Y : ∀ h, K.In h → MakesL (model prog w) h C) (hi : findIn K (.ref C) "__init__" = some (some (.ref fI))) (hf : isFn K (.ref fI) = true)
    (h : ∀ x dx h', Fr h₀ L h' m → News h₀ L h' ((x, accObj C dx [] 0) :: (dx, dictOf [] 0) :: news) → (∀ p ∈ news, p.1 < dx) → dx < x →
      codeAny (model prog w) (A.under (.builtin "type.__call__" ⟨[.ref C], []⟩)) (.call (.ref fI) ⟨[.ref x], []⟩) (InitBack x fun r s' => match r with | .ok (.ret v) => Q v s' | .ok _ => False | .error e => E e s') { s with heap := h' }) :
    wpAny (model prog w) A (call (.ref C) []) Q E s := by
  obtain ⟨hh, g, d, t, os⟩ := s
  have X' : K.In hh := X.keeps F.keep
  refine wpAny_call (makeL (Y hh X') (looks_findIn X' hi) (fun self => bind_fn X' self (beq_iff_eq.mp hf)) (h _ hh.objs.size _ ((F.push _).push _) ?_ (fun p hp => Heap.lt_size (N p hp).1) (Nat.lt_succ_self _)))
  have := (N.push F emptyDict).push (F.push _) (accObj C hh.objs.size [] 0)
  rwa [Heap.size_push] at this
end
end Mine

end
-- T19
namespace Mine
section
variable {prog : Program} {w : World} {A : Around} {E : Value → Shared → Prop} {s : Shared} {h₀ : Heap} {L x dx C : Addr} {m : Str → Option Value} {news : Cells} {K : Frag} {name : Str} {f : String} {es : List DictEntry} {e : Nat} {its : List Value} {n : Nat}
theorem methL {Q : Value × List Value → Shared → Prop} {pl : Sem Bool} (F : Fr h₀ L s.heap m) (X : K.In h₀) (N : News h₀ L s.heap news) (hx : (x, accObj C dx its n) ∈ news) (hd : (dx, dictOf es e) ∈ news)
    (h1 : findIn K (.ref C) "__getattribute__" = some (some (.builtin "list.__getattribute__"))) (h2 : findIn K (.ref C) "__getattr__" = some none) (h3 : findIn K (.ref C) name = some (some (.builtin f))) (ht : typeOf (.builtin f) = pure (.type "method_descriptor")) (hl : getL name es = some none)
    (h : Q (.builtin f, [.ref x]) s) : wpAny (model prog w) A (getMethod (.ref x) name pl) Q E s := by
  have X' := X.keeps F.keep
  have ex := (N _ hx).1
  have ed := (N _ hd).1
  have T0 : Looks (model prog w) s.heap (typeOf (.ref x)) (.ref C) := (Looks.ld (part := some headPart) ex).andThen .now
  refine wpAny_bind (wpAny_bind (T0.here ((looks_findIn X' h1).here ?_)))
  show wpAny _ _ (if (Manifest.canonical "list.__getattribute__" != "object.__getattribute__") = true then _ else _) _ _ s
  rw [show (Manifest.canonical "list.__getattribute__" != "object.__getattribute__") = false from by decide +kernel]
  refine wpAny_bind (wpAny_bind (T0.here ((looks_findIn X' h2).here ?_)))
  refine wpAny_bind (wpAny_bind (T0.here ((looks_findIn X' h3).here ?_)))
  dsimp only
  rw [ht]
  refine wpAny_bind (wpAny_pure ?_)
  refine wpAny_bind (wpAny_loadPart ex ?_)
  dsimp only
  refine wpAny_bind ((show Looks (model prog w) s.heap (nsGet dx name) none from (Looks.ld ed).andThen (Looks.of_pure (nsLook_of (by rw [lookIn_dict]; exact hl)))).here ?_)
  exact wpAny_bind (wpAny_rule (wpAny_pure h))
end
end Mine

-- T20
namespace Mine
section
variable {prog : Program} {w : World} {A : Around} {E : Value → Shared → Prop} {s : Shared} {h₀ : Heap} {L x dx C : Addr} {m : Str → Option Value} {news news' : Cells} {K : Frag} {its : List Value} {n : Nat} {v : Value}
theorem check_meth {M : Model} {i owner nm : String} {self : Value} {rest : List Value} {Q : Unit → Shared → Prop}
    (hk : builtinKind i = some .method) (hs : splitId i = some (owner, nm)) (hi : Looks M s.heap (isInstance self (.type owner)) true) (ha : argsOk i ⟨self :: rest, []⟩) (q : Q () s) :
    wpAny M A (checkBuiltinCall i ⟨self :: rest, []⟩) Q E s := by
  simp only [checkBuiltinCall, hk, hs]
  refine wpAny_bind (hi.here ?_)
  simp only [Bool.not_true, Bool.false_eq_true, if_false]
  cases hsig : Manifest.signature? i with
  | none => exact wpAny_pure q
  | some sig =>
    simp only [argsOk, hsig] at ha
    have h2 : Bind.checkArgs i sig ⟨self :: rest, []⟩ = pure () := ha
    show wpAny M A (Bind.checkArgs i sig ⟨self :: rest, []⟩) Q E s
    rw [h2]; exact wpAny_pure q
theorem appendL {Q : Value → Shared → Prop} (F : Fr h₀ L s.heap m) (X : K.In h₀) (N : News h₀ L s.heap news) (hi : subIn K (.ref C) (.type "list") = some true) (U : UpdF x (accObj C dx its n) news g) (hz : its.length < 16000000)
    (h : ∀ h', Fr h₀ L h' m → News h₀ L h' (g (accObj C dx (its ++ [v]) (n + 1))) → Q .none { s with heap := h' }) : wpAny (model prog w) A (call (.builtin "list.append") [.ref x, v]) Q E s := by
  obtain ⟨pre, post, rfl, hg, u1, u2⟩ := U.split
  have ex := (N (x, accObj C dx its n) (List.mem_append_right _ (.head _))).1
  have T0 : Looks (model prog w) s.heap (typeOf (.ref x)) (.ref C) := (Looks.ld (part := some headPart) ex).andThen .now
  have I0 : Looks (model prog w) s.heap (isInstance (.ref x) (.type "list")) true := T0.andThen (looks_subIn (X.keeps F.keep) hi)
  have hd : (accObj C dx its n).data = .seq its.toArray n := rfl
  refine wpAny_call (codeAny_call_builtin (by decide +kernel) entry_list_append (check_meth (owner := "list") (nm := "append") (by decide +kernel) (by decide +kernel) I0 (args_list_append _ _) ?_))
  show wpAny _ _ (updateSeq x (·.push v) >>= fun _ => ret .none) _ _ s
  refine wpAny_bind (wpAny_updateSeq ex hd (wpAny_pure ?_) (by simp; rw [sizeLine_eq]; omega))
  have E1 : Obj.mapSeq (·.push v) (accObj C dx its n) = accObj C dx (its ++ [v]) (n + 1) := by
    simp [Obj.mapSeq]
  obtain ⟨F1, N1⟩ := news_upd (pre := pre) (f := Obj.mapSeq (·.push v)) F N u1 u2 E1 rfl
  refine h _ F1 ?_
  rw [hg]
  exact N1
end
end Mine

-- T21
namespace Mine
theorem push {prog : Program} {w : World} (x dx : Addr) (its : List Value) (n e : Nat) (es : List DictEntry) (a b : Str) (ta tb : Tok) (hne : x ≠ dx) (hl : getL "append" es = some none) (hz : its.length < 16000000) :
   Does (KH w.params) prog w 4 45 [.ref x, .str a ta, .str b tb] [(x, accObj 101 dx its n), (dx, dictOf es e)] (fun r own => r = .none ∧ ∃ tp, tp ≠ x ∧ own = [(x, accObj 101 dx (its ++ [.ref tp]) (n+1)), (dx, dictOf es e), (tp, ({ cls := .type "tuple", data := .seq #[.str a ta, .str b tb] } : Obj))]) := by
  refine enter (binds := [("self", .ref x), ("fws", .str a ta), ("string", .str b tb)]) (by k_is) (by k_is) (fun s X => BindsTo.of_eq rfl) (locs rfl) ?_
  intro dp un gd fr g L s PP hP G F N l0 hdp hun
  obtain ⟨X, ⟨p, loose, mean, mg, mb, T⟩, codeHd⟩ := id G
  k_lt l0
  try k_fold
  iterate 4 walk1
  refine methL F X N (.head _) (.tail _ (.head _)) (by k_is) (by k_is) (by k_is) rfl hl ?_
  iterate 10 walk1
  refine appendL (C := 101) (dx := dx) (its := its) (n := n) (by assumption) X (by assumption) (by k_is) (by k_updF) hz ?_
  intro h' F' N'
  iterate 2 walk1
  exact hP _ _ (Fin.intro F' (cb_drop N' (by repeat' (first | exact List.forall_mem_nil _ | refine List.forall_mem_cons.mpr ⟨by k_mem, ?_⟩))) ⟨rfl, _, by k_ne, rfl⟩)
end Mine

-- T22
namespace Mine
theorem wd_slot : Slot "wrapper_descriptor" "__get__" "wrapper_descriptor.__get__" := .of (owner := "wrapper_descriptor") (n := "__get__") (by rw [typeLookup_type, builtinLookup_eq_fast]; kernel_rfl) (by decide +kernel) (by decide +kernel) (by decide +kernel)
  (by first | exact .inl (by decide +kernel) | exact .inr (by decide +kernel)) (by rw [isSubtype_type]; kernel_rfl)
theorem wd_entry : entryFor table "wrapper_descriptor.__get__" = some Builtin.«wrapper_descriptor.__get__» := entryFor_of_tree (by kernel_rfl)
theorem wd_args (a b c : Value) : argsOk "wrapper_descriptor.__get__" ⟨[a, b, c], []⟩ := by unfold argsOk; kernel_rfl
theorem wd_type : typeOf (.builtin "list.__init__") = pure (.type "wrapper_descriptor") := by kernel_rfl
theorem wd_inst : isInstance (.builtin "list.__init__") (.type "wrapper_descriptor") = pure true := by unfold isInstance; rw [wd_type]; show isSubtype _ _ = _; rw [isSubtype_type]; kernel_rfl
section
variable {prog : Program} {w : World} {A : Around} {E : Value → Shared → Prop} {s : Shared} {h₀ : Heap} {L x dx C D so : Addr} {m : Str → Option Value} {news : Cells} {K : Frag} {its : List Value} {n : Nat}
theorem wd_kind : builtinKind "wrapper_descriptor.__get__" = some .slot := by decide +kernel
theorem wd_split : splitId "wrapper_descriptor.__get__" = some ("wrapper_descriptor", "__get__") := by decide +kernel
theorem wd_check {M : Model} {a b : Value} {Q : Unit → Shared → Prop} (h : Q () s) : wpAny M A (checkBuiltinCall "wrapper_descriptor.__get__" ⟨[.builtin "list.__init__", a, b], []⟩) Q E s := by
  have hi : Looks M s.heap (isInstance (.builtin "list.__init__") (.type "wrapper_descriptor")) true := Looks.of_pure wd_inst
  have ha := wd_args (.builtin "list.__init__") a b
  exact @check_slot M A E s "wrapper_descriptor.__get__" "wrapper_descriptor" "__get__" (.builtin "list.__init__") [a, b] [] Q wd_kind wd_split hi ha h
noncomputable abbrev mwObj (x : Addr) : Obj := { cls := .type "method-wrapper", data := .fields #[.builtin "list.__init__", .ref x] }
theorem wd_get {M : Model} {Q : PySem.Fin → Shared → Prop} (hi : Looks M s.heap (isInstance (.ref x) (.type "list")) true) (h : Q (.done (.ret (.ref s.heap.objs.size))) { s with heap := s.heap.push (mwObj x) }) :
    wpAny M A (Builtin.«wrapper_descriptor.__get__» ⟨[.builtin "list.__init__", .ref x, .ref C], []⟩) Q E s := by
  obtain ⟨hh, g, d, t, os⟩ := s
  unfold Builtin.«wrapper_descriptor.__get__»
  have e0 : ".".intercalate ("list.__init__".cutAt '.').dropLast = "list" := by decide +kernel
  repeat (first | (rw [e0]; with_reducible refine Looks.at hi ?_) | wp_step | dsimp only)
  all_goals exact h
theorem superGet {pl : Sem Bool} {Q : Value × List Value → Shared → Prop} (FF : Fr h₀ L s.heap m) (X₀ : K.In h₀) (N : News h₀ L s.heap news) (hso : (so, ks_superObj D x C) ∈ news) (hx : (x, accObj C dx its n) ∈ news) (ho : nsIn K cStatics "thirdparty.any" = some none)
    (hm : ks_superIn K C D "__init__" = some (some (.builtin "list.__init__"))) (hs : subIn K (.ref C) (.type "list") = some true) (hxC : x ≠ C)
    (h : ∀ q h', Fr h₀ L h' m → News h₀ L h' ((q, mwObj x) :: news) → (∀ p ∈ news, p.1 < q) → Q (.ref q, []) { s with heap := h', toks := s.toks + 1 }) : wpAny (model prog w) A (getMethod (.ref so) "__init__" pl) Q E s := by
  have X : K.In s.heap := X₀.keeps FF.keep
  obtain ⟨hh, g, d, t, os⟩ := s
  have hsoG := (N _ hso).1
  have hxG := (N _ hx).1
  have hT : ∀ t', (⟨hh, g, d, t', os⟩ : Shared).TypeIs (.ref so) "super" := fun _ => ⟨_, hsoG, rfl⟩
  have T0 : Looks (model prog w) hh (typeOf (.ref x)) (.ref C) := (Looks.ld (part := some headPart) hxG).andThen .now
  have I0 : Looks (model prog w) hh (isInstance (.ref x) (.type "list")) true := T0.andThen (looks_subIn X hs)
  cases hc : clsIn K C with
  | none => unfold ks_superIn at hm; rw [hc] at hm; cases hm
  | some cd =>
    unfold ks_superIn at hm
    rw [hc, Option.bind_some] at hm
    have hC : Looks (model prog w) hh (mroOf (.ref C)) cd.mro := fun A Q E s k q => wpAny_bind ((looks_clsIn X hc) A _ E s k (wpAny_pure q))
    have hno := looks_opaque (M := model prog w) (C := C) X ho
    unfold getMethod
    refine wpAny_bind (wpAny_specialOf (hT _) PySem.F.ks_slot_super_ga.lookup ?_)
    show wpAny _ _ (if (Manifest.canonical "super.__getattribute__" != "object.__getattribute__") = true then _ else _) _ _ _
    rw [if_pos PySem.F.ks_canon_super_ga]
    unfold getAttr getAttrBy
    refine wpAny_bind (wpAny_bind (wpAny_mkText (wpAny_holding (wpAny_bind (wpAny_typeOf (hT _) (wpAny_bind (wpAny_of_eq PySem.F.ks_slot_super_ga.lookup ?_)))))))
    show wpAny _ _ (getAttrByItsOwn (.ref so) (.str _ t) (.type "super") (.builtin "super.__getattribute__") true false) _ _ _
    unfold getAttrByItsOwn hookBefore callGetattribute boundAndCalled
    refine wpAny_bind (wpAny_of_eq (show (if onTheHeap (.type "super") then typeLookup (.type "super") "__getattr__" else pure none) = pure none from rfl) ?_)
    refine wpAny_bind (wpAny_attempt (wpAny_holding ?_))
    show wpAny _ _ (bindSpecial (.builtin "super.__getattribute__") (.ref so) >>= _) _ _ _
    refine wpAny_bind (wpAny_of_eq (PySem.F.ks_slot_super_ga.bind _) ?_)
    refine wpAny_mono (Q := fun v s' => v = .ref hh.objs.size ∧ s' = ⟨hh.push (mwObj x), g, d, t + 1, os⟩) (E := fun _ _ => False)
      (wpAny_call_entry PySem.F.ks_slot_super_ga (hT _) PySem.F.ks_entry_super_ga ?_ (PySem.F.ks_gaArgs_super _ _)) (fun v s' hv => ?_) fun _ _ z => z.elim
    · have hne : (Value.ref x == Value.ref C) = false := by simp [hxC]
      have hdt : (ks_superObj D x C).data = .fields #[.ref D, .ref x, .ref C] := rfl
      clear h FF N hso hx X₀ hs hT T0
      unfold Builtin.«super.__getattribute__»
      repeat (first
        | (with_reducible refine wpAny_field hsoG hdt (show (#[.ref D, .ref x, .ref C] : Array Value)[0]? = some (.ref D) from rfl) ?_) | (with_reducible refine wpAny_field hsoG hdt (show (#[.ref D, .ref x, .ref C] : Array Value)[1]? = some (.ref x) from rfl) ?_) | (with_reducible refine wpAny_field hsoG hdt (show (#[.ref D, .ref x, .ref C] : Array Value)[2]? = some (.ref C) from rfl) ?_)
        | (with_reducible refine ks_wpAny_notOpaque hno ?_)
        | (with_reducible refine Looks.at hC ?_)
        | (refine ks_forIn_along X (fun _ _ => rfl) rfl ?_ hm)
        | (with_reducible refine wpAny_of_eq wd_type ?_)
        | (with_reducible refine wpAny_of_eq wd_slot.lookup ?_)
        | (simp only [hne, Bool.false_eq_true, if_false])
        | wp_step
        | dsimp only)
      refine codeAny_call_builtin wd_slot.plain wd_entry (wd_check ?_)
      exact wd_get (s := ⟨hh, g, d, t + 1, os⟩) I0 (wpAny_pure (wpAny_pure ⟨_, rfl, rfl, rfl⟩))
    · obtain ⟨rfl, rfl⟩ := hv
      obtain ⟨F', N', l'⟩ := ks_newsPush (s := ⟨hh, g, d, t, os⟩) (o := mwObj x) FF N rfl (Heap.get?_push_at rfl rfl) (fun b o e => Heap.get?_push_of_some _ e)
      exact wpAny_pure (wpAny_pure (h _ _ F' N' l'))
end
end Mine

-- T23
section
open PySem PySem.W PyProof.Rows PySem.Spec PySem.Calls Builtin Builtin.ObjectAttr
namespace Mine
section
variable {K : Frag} {prog : Program} {w : World} {k : Nat} {f : Addr} {vs : List Value} {own rest news : Cells} {res : Value → Cells → Prop}
  {oc : Value} {od an : Option Addr} {osl : Array (Option Value)} {name qual : Str} {params : Arguments} {body : List Stmt} {scope : Scope} {cl : List (Str × Addr)} {dV kV doc pm cdv ct : Value} {binds : List (Str × Value)}
theorem enterA (ho : K.lookup f = some ⟨oc, od, .func (fnX name qual params body scope cl dV kV doc pm an cdv ct), osl⟩) (hcd : codeIn K cdv qual = true)
    (hbind : ∀ s : Shared, K.In s.heap → BindsTo s (fnX name qual params body scope cl dV kV doc pm an cdv ct) ⟨vs, []⟩ binds) (hloc : ∀ y ∈ binds, scope.names.lookup y.1 = some .local)
    (h : ∀ (dp un : Nat) (gd : Option (List Code)) (fr : List Env) (g : Heap) (L : Addr) (s : Shared) (P : Value → Shared → Prop), (∀ v s', Fin g L s res v s' → P v s') → Gd K g → Fr g L s.heap (fun y => binds.reverse.lookup y) → News g L s.heap own → (∀ p ∈ own, p.1 < L) →
      dp + k < recursionLimit → un + 20 * k < cLine → binds.length ≤ s.toks →
      _root_.PySem.wpAt (model prog w) (arT (dp + 1) (un + 3) gd (envX qual scope L f cdv cl :: fr)) (.func body (envX qual scope L f cdv cl)) (execs body (envX qual scope L f cdv cl)) (fun fl s' => P (match fl with | .ret v => v | _ => .none) s') (fun _ _ => False) s)
    (hcell : ∀ x ∈ scope.names, x.2 ≠ .cell := by decide) (hco : scope.isCoroutine = false := by rfl) (hgen : scope.isGenerator = false := by rfl) (hk : scope.kind = .function := by rfl) (hk0 : 0 < k := by decide) :
    Does K prog w k f vs own res := by
  intro dp un gd fr h₀ s R G S hd hu hR
  have X : K.In s.heap := G.X.keeps S.keep
  refine ks_codeAny_call_defAt (fd := fnX name qual params body scope cl dV kV doc pm an cdv ct) (body := body) (binds := binds) (by show dp < recursionLimit; omega) (X _ _ ho) rfl (G.nolimit.keeps S.keep) (codeRec_of X hcd) rfl (hbind s X) hcell hloc (fun h₁ hns hk₁ => ?_) hco hgen hk
  have st := sits_hide S
  refine ks_wpAt_mono (h dp un gd fr (hideAll s.heap (own.map (·.1))) s.heap.objs.size { s with heap := h₁, toks := s.toks + binds.length } _ (fun _ _ x => x) (G.keeps st) ⟨hns, fun b o e => hk₁ b o (of_hideAll _ e), Nat.le_of_eq (hideAll_size _ _)⟩
    (fun p hp => ⟨hk₁ _ _ (S.own p hp).1, Nat.ne_of_lt (Heap.lt_size (S.own p hp).1), hideAll_none _ (List.mem_map_of_mem hp)⟩) (fun p hp => Heap.lt_size (S.own p hp).1) hd hu (Nat.le_add_left _ _)) (fun fl s' hl => ?_) fun _ _ y => y.elim
  obtain ⟨m', news', h', tk, rfl, F', N', r⟩ := hl
  refine hR _ h' tk news' r ⟨fun b o e => F'.keep b o (st b o e), fun p hp => ⟨(N' p hp).1, ?_⟩⟩
  cases q : h₀.get? p.1 with
  | none => rfl
  | some o => have := (N' p hp).2.2; rw [st _ _ q] at this; cases this

end

section
variable {prog : Program} {w : World} {A : Around} {E : Value → Shared → Prop} {h₀ : Heap} {L x dx C : Addr} {m : Str → Option Value} {news : Cells} {K : Frag} {its : List Value} {n : Nat}
theorem osaL {s : Shared} {name : Str} {v : Value} {cd : ClassData} {tk : Tok} {R : Result → Shared → Prop} (FF : Fr h₀ L s.heap m) (X₀ : K.In h₀) (N : News h₀ L s.heap news) (hx : (x, accObj C dx its n) ∈ news) (hdx : (dx, dictOf [] 0) ∈ news)
    (hc : clsIn K C = some cd) (hmro : cd.mro = [.ref C, .type "list", .type "object"]) (hdic : cd.hasDict = true) (ha : findIn K (.ref C) name = some none)
    (U : UpdF dx (dictOf [] 0) news g) (h : ∀ h', Fr h₀ L h' m → News h₀ L h' (g (dictOf [⟨PyData.keyHash w.params name, .str name s.toks, v⟩] 1)) → R (.ok (.ret .none)) { s with heap := h', toks := s.toks + 1 }) :
    codeAny (model prog w) A (.call (.builtin "object.__setattr__") ⟨[.ref x, .str name tk, v], []⟩) R s := by
  have X := X₀.keeps FF.keep
  obtain ⟨pre, post, rfl, hg, u1, u2⟩ := U.split
  have ex := (N _ hx).1
  have I : InstAt s.heap x (accObj C dx its n) C (some (dictOf [] 0)) := ⟨ex, rfl, rfl, (N _ hdx).1⟩
  have SF := PySem.F.store_object
  have hm : Looks (model prog w) s.heap (mroOf (.ref C)) cd.mro := (looks_clsIn X hc).andThen .now
  have sub : Looks (model prog w) s.heap (isInstance (.ref x) (.type "object")) true := I.type.andThen (looks_mroIn X (by unfold mroIn; rw [hc, Option.bind_some, if_neg (by rw [hmro]; simp), hmro]; simp))
  refine codeAny_call_builtin SF.slot.plain SF.entry (@check_slot (model prog w) _ _ s "object.__setattr__" "object" "__setattr__" (.ref x) [.str name tk, v] [] _ SF.kind SF.split sub (SF.args (.ref x) (.str name tk) v) ?_)
  rw [osa_eq, refuse_eq]
  refine wpAny_bind (wpAny_bind (I.type.here (wpAny_bind (hm.here ?_))))
  rw [hmro, refuseLoop_ref, show refuseLoop (.ref x) "__setattr__" [.type "list", .type "object"] = pure () by kernel_rfl]
  refine wpAny_pure (wpAny_bind (I.type.here (wpAny_bind ((looks_findIn X ha).here (wpAny_bind ((show Looks (model prog w) s.heap (storeTaker? none) none from .now).here ?_))))))
  obtain ⟨U1, U2⟩ := news_upd (pre := pre) (f := Obj.putName name (PyData.keyHash w.params name) (.str name s.toks) v) (o' := dictOf [⟨PyData.keyHash w.params name, .str name s.toks, v⟩] 1) FF N u1 u2 (putName_dict ..) rfl
  have D := (N (dx, dictOf [] 0) (by simp)).1
  have D2 := (U2 _ (List.mem_append_right _ (.head _))).1
  refine wpAny_bind (wpAny_pure (wpAny_bind (wpAny_bind (wpAny_loadPart ex (wpAny_bind ((looks_clsIn X hc).here ?_))))))
  rw [hdic]
  refine wpAny_pure (a := some dx) (wpAny_bind (wpAny_pure (wpAny_bind ?_)))
  unfold nsSet
  refine wpAny_bind (wpAny_bind (wpAny_askSetting (wpAny_pure (wpAny_bind (wpAny_mkText (wpAny_bind (wpAny_loadPart D ?_)))))))
  dsimp only
  rw [show aRefKeyMayBeTheName name ([] : List DictEntry).toArray = false from by rw [aRefKeyMayBeTheName_at]; simp]
  refine wpAny_updatePart D ?_
  refine wpAny_bind (wpAny_lookBehind D2 (pastItsLine_dict (by rw [sizeLine_eq]; show 1 ≤ _; omega)) ?_)
  refine wpAny_pure (h _ U1 ?_)
  rw [hg]; exact U2
theorem setL {s : Shared} {name : Str} {v : Value} {cd : ClassData} {Q : Unit → Shared → Prop} (FF : Fr h₀ L s.heap m) (X₀ : K.In h₀) (N : News h₀ L s.heap news) (hx : (x, accObj C dx its n) ∈ news) (hdx : (dx, dictOf [] 0) ∈ news)
    (hc : clsIn K C = some cd) (hmro : cd.mro = [.ref C, .type "list", .type "object"]) (hdic : cd.hasDict = true) (hs : findIn K (.ref C) "__setattr__" = some (some (.builtin "object.__setattr__"))) (ha : findIn K (.ref C) name = some none)
    (U : UpdF dx (dictOf [] 0) news g) (h : ∀ h' t, Fr h₀ L h' m → News h₀ L h' (g (dictOf [⟨PyData.keyHash w.params name, .str name t, v⟩] 1)) → Q () { s with heap := h', toks := s.toks + 2 }) :
    wpAny (model prog w) A (setAttr (.ref x) name v) Q E s :=
  set_plain (X₀.keeps FF.keep) (show InstAt s.heap x (accObj C dx its n) C (some (dictOf [] 0)) from ⟨(N _ hx).1, rfl, rfl, (N _ hdx).1⟩) hs (osaL (s := { s with toks := s.toks + 1 }) FF X₀ N hx hdx hc hmro hdic ha U fun h' F' N' => h h' _ F' N')
end
end Mine

end
-- T24
section
open PySem PySem.W PyProof.Rows PySem.Spec PySem.Calls Builtin
namespace Mine
theorem li_entry : entryFor table "list.__init__" = some Builtin.«list.__init__» := entryFor_of_tree (by kernel_rfl)
theorem li_check (a : Value) : checkBoundCall "list.__init__" ⟨[a], []⟩ = pure () := by kernel_rfl
theorem li_quiet (a : Args) : (Code.builtin "list.__init__" a).quiet = true := Code.quiet_builtin _ (by decide +kernel)
section
variable {prog : Program} {w : World} {A : Around} {E : Value → Shared → Prop} {h₀ : Heap} {L x dx C q : Addr} {m : Str → Option Value} {news : Cells} {K : Frag} {its : List Value} {n : Nat}
theorem initCall {s : Shared} {Q : Value → Shared → Prop} (FF : Fr h₀ L s.heap m) (N : News h₀ L s.heap news) (hq : (q, mwObj x) ∈ news) (U : UpdF x (accObj C dx [] 0) news g)
    (h : ∀ h', Fr h₀ L h' m → News h₀ L h' (g (accObj C dx [] 0)) → Q .none { s with heap := h' }) : wpAny (model prog w) A (call (.ref q) []) Q E s := by
  obtain ⟨pre, post, rfl, hg, u1, u2⟩ := U.split
  have eq := (N _ hq).1
  have ex := (N _ (List.mem_append_right pre (.head post))).1
  obtain ⟨F1, N1⟩ := news_upd (pre := pre) (o := accObj C dx [] 0) (o' := accObj C dx [] 0) (f := Obj.mapSeq fun _ => #[]) FF N u1 u2 rfl rfl
  have h := h _ F1 (by rw [hg]; exact N1)
  clear N1 F1 hg u1 u2 hq N FF
  obtain ⟨hh, gg, d, t, os⟩ := s
  refine wpAny_call (codeAny_of_tree ?_)
  show wpAny _ A.in1 (callAny (.ref q) _) _ _ _
  unfold callAny
  refine wpAny_bind (wpAny_load eq ?_)
  show wpAny _ _ (checkBoundCall "list.__init__" ⟨[.ref x], []⟩ >>= fun _ => again (.builtin "list.__init__" ⟨[.ref x], []⟩)) _ _ _
  rw [li_check]
  refine wpAny_bind (wpAny_pure (wpAny_pure ⟨li_quiet _, codeAny_builtin li_entry ?_⟩))
  unfold Builtin.«list.__init__»
  have hd : (accObj C dx [] 0).data = .seq #[] 0 := rfl
  refine wpAny_bind (wpAny_bind (wpAny_seqItems ex hd (wpAny_pure ?_)))
  refine wpAny_bind (wpAny_updateSeq ex hd (wpAny_bind (wpAny_pure (wpAny_pure ?_))))
  exact h
end
theorem accInit {prog : Program} {w : World} (hpf : ((prog.main.file : Str) == ("/claim/cut.py" : Str)) = true) (hps : (prog.main.scope.names.lookup ("super" : Str)).isSome = false) (x dx : Addr) (hne : x ≠ dx) (hxC : x ≠ 101) :
   Does (KH w.params) prog w 4 38 [.ref x] [(x, accObj 101 dx [] 0), (dx, dictOf [] 0)] (fun r own => r = .none ∧ ∃ t u, own = [(x, accObj 101 dx [] 0), (dx, dictOf [⟨PyData.keyHash w.params "_initial_size", .str "_initial_size" t, .int 0 u⟩] 1)]) := by
  refine enterA (binds := [("self", .ref x), ("initial_size", .int 0 _)]) (by k_is) (by k_is) (fun s X => by refine' binds_K X ?hd ?ho ?hs ?h1 ?h2; (case hd => exact rfl); (case ho => k_is); (case hs => exact rfl); (case h1 => exact rfl); (case h2 => exact rfl)) (locs rfl) ?_
  intro dp un gd fr g L s PP hP G F N l0 hdp hun hT
  obtain ⟨X, ⟨p, loose, mean, mg, mb, T⟩, codeHd⟩ := id G
  k_lt l0
  try k_fold
  iterate 5 walk1
  refine setL F X N (.head _) (.tail _ (.head _)) (by rfl) (by rfl) (by rfl) (by k_is) (by k_is) (by k_updF) ?_
  intro h' t F' N'
  dsimp only
  refine ks_wpAt_execs_cons (ks_wpAt_Expr_any (ks_wpAt_MethodCall ?_))
  have I : W.InstAt h' x (accObj 101 dx [] 0) 101 (some (dictOf [⟨PyData.keyHash w.params "_initial_size", .str "_initial_size" t, .int 0 210⟩] 1)) := ⟨(N' _ (.head _)).1, rfl, rfl, (N' _ (.tail _ (.head _))).1⟩
  refine ks_node F' X N' T (by k_is) (by rfl) (by rfl) I (by k_is) (by rfl) hpf (by k_is) (by k_is) (by k_is) (by k_is) (by decide) (by rfl) (by rfl) (by rfl) (by rfl) hps (by first | boot_by_name | rfl | kernel_rfl) ?_
  intro so h2 F2 N2 l2
  k_lt l2
  refine superGet F2 X N2 (.head _) (.tail _ (.head _)) (by k_is) (by ks_is) (by k_is) hxC ?_
  intro q h3 F3 N3 l3
  k_lt l3
  refine callWith_of (P := fun h => h.get? q = some (mwObj x)) rfl (fun h e => ⟨.machine, .inr (.inl rfl), (Looks.ld (part := none) e).andThen .now⟩) (evalArgs_nil3 ⟨(N3 _ (.head _)).1, ?_⟩)
  refine initCall F3 N3 (.head _) (by k_updF) fun h4 F4 N4 => ?_
  iterate 3 walk1
  trace_state
  exact hP _ _ (Fin.intro F4 (cb_drop N4 (by repeat' (first | exact List.forall_mem_nil _ | refine List.forall_mem_cons.mpr ⟨by k_mem, ?_⟩))) ⟨rfl, _, _, rfl⟩)
end Mine

end
-- T25
section
open PySem PySem.W PyProof.Rows PySem.Spec PySem.Calls Builtin
namespace Mine
section
variable {prog : Program} {w : World} {A : Around} {E : Value → Shared → Prop} {s : Shared} {h₀ : Heap} {L x dx C sl : Addr} {m : Str → Option Value} {news : Cells} {K : Frag} {its : List Value} {n : Nat} {vl vu vs : Value} {lo hi st : Option Int}
theorem specL {M : Model} {name : Str} {i : String} {args : List Value} {Q : Option Value → Shared → Prop} (F : Fr h₀ L s.heap m) (X₀ : K.In h₀) (N : News h₀ L s.heap news) (hx : (x, accObj C dx its n) ∈ news)
    (hs : findIn K (.ref C) name = some (some (.builtin i))) (hb : ∀ self, bindSpecial (.builtin i) self = pure (.builtin i, [self])) (h : wpAny M A (call (.builtin i) (.ref x :: args)) (fun v => Q (some v)) E s) : wpAny M A (callSpecial? (.ref x) name args) Q E s := by
  have ex := (N _ hx).1
  have T0 : Looks M s.heap (typeOf (.ref x)) (.ref C) := (Looks.ld (part := some headPart) ex).andThen .now
  refine wpAny_bind (wpAny_bind (T0.here ((looks_findIn (X₀.keeps F.keep) hs).here (wpAny_holding (wpAny_bind ?_)))))
  rw [hb]
  exact wpAny_pure (wpAny_bind (wpAny_mono h (fun _ _ z => wpAny_pure z) fun _ _ z => z))
theorem keyL {M : Model} {v : Value} {name : Str} {Q : Value → Shared → Prop} (F : Fr h₀ L s.heap m) (X₀ : K.In h₀) (N : News h₀ L s.heap news) (hx : (x, accObj C dx its n) ∈ news) (hq : noSeq K C = true)
    (h : Q v s) : wpAny M A (sequenceKey (.ref x) v name) Q E s := by
  have ex := (N _ hx).1
  have T0 : Looks M s.heap (typeOf (.ref x)) (.ref C) := (Looks.ld (part := some headPart) ex).andThen .now
  unfold sequenceKey
  refine wpAny_bind (T0.here (wpAny_bind ((anyM_none (X₀.keeps F.keep) hq).here ?_)))
  rw [if_pos (show (!false) = true from rfl)]
  exact wpAny_pure h
theorem gi_kind : builtinKind "list.__getitem__" = some .method := by decide +kernel
theorem gi_split : splitId "list.__getitem__" = some ("list", "__getitem__") := by decide +kernel
theorem si_kind : builtinKind "list.__setitem__" = some .slot := by decide +kernel
theorem si_split : splitId "list.__setitem__" = some ("list", "__setitem__") := by decide +kernel
theorem getSliceL {Q : Value → Shared → Prop} (F : Fr h₀ L s.heap m) (X₀ : K.In h₀) (N : News h₀ L s.heap news) (hx : (x, accObj C dx its n) ∈ news) (hq : noSeq K C = true) (hsub : subIn K (.ref C) (.type "list") = some true)
    (hg : findIn K (.ref C) "__getitem__" = some (some (.builtin "list.__getitem__"))) (hs : s.heap.IsSliceOf sl vl vu vs) (pl : IsPart vl lo) (pu : IsPart vu hi) (ps : IsPart vs st) (h0 : st ≠ some 0) (hz : its.length ≤ sizeLine)
    (h : Q (.ref s.heap.objs.size) { s with heap := s.heap.push { cls := .type "list", data := .seq (slicePick its.toArray lo hi st) } }) : wpAny (model prog w) A (getItem (.ref x) (.ref sl)) Q E s := by
  obtain ⟨os, hos, hcs, hds⟩ := id hs
  have hTs : s.TypeIs (.ref sl) "slice" := ⟨os, hos, hcs⟩
  have ex := (N _ hx).1
  have hd : (accObj C dx its n).data = .seq its.toArray n := rfl
  have T0 : Looks (model prog w) s.heap (typeOf (.ref x)) (.ref C) := (Looks.ld (part := some headPart) ex).andThen .now
  have I0 : Looks (model prog w) s.heap (isInstance (.ref x) (.type "list")) true := T0.andThen (looks_subIn (X₀.keeps F.keep) hsub)
  unfold getItem
  refine wpAny_holding (wpAny_bind (keyL F X₀ N hx hq ?_))
  refine wpAny_bind (specL F X₀ N hx hg slot_list_getitem.bind ?_)
  refine wpAny_call (codeAny_call_builtin slot_list_getitem.plain entry_list_getitem (check_meth (i := "list.__getitem__") (owner := "list") (nm := "__getitem__") (self := .ref x) (rest := [.ref sl]) gi_kind gi_split I0 (args_list_getitem (.ref x) (.ref sl)) ?_))
  show wpAny _ _ (Builtin.List.listSubscript? (.ref sl) >>= _) _ _ s
  refine wpAny_bind ?_
  unfold Builtin.List.listSubscript?
  refine wpAny_bind (wpAny_specialOf hTs slice_no_index ?_)
  simp only [Option.isNone_none, if_true]
  refine wpAny_pure ?_
  show wpAny _ _ (typeOf (.ref sl) >>= _) _ _ s
  refine wpAny_bind (wpAny_typeOf hTs ?_)
  rw [if_neg (by decide)]
  rw [listSliceParts_eq]
  have hstep : ¬ ((rawPart st == rawInt 0) = true) := by
    cases st with
    | none => exact Bool.false_ne_true
    | some c =>
      intro hh
      have : c = 0 := by simpa [rawPart, rawInt] using hh
      exact h0 (by rw [this])
  refine wpAny_bind (wpAny_bind (wpAny_field hos hds (x := vs) rfl (wpAny_bind (wpAny_listPart ps ?_))))
  rw [if_neg hstep]
  refine wpAny_bind (wpAny_field hos hds (x := vl) rfl (wpAny_bind (wpAny_listPart pl ?_)))
  refine wpAny_bind (wpAny_field hos hds (x := vu) rfl (wpAny_bind (wpAny_listPart pu (wpAny_pure ?_))))
  refine wpAny_bind (m := Builtin.List.listItems (.ref x)) ?_
  unfold Builtin.List.listItems
  refine wpAny_bind (wpAny_seqItems ex hd (wpAny_pure ?_))
  refine wpAny_bind (wpAny_of_eq (sliceIndices_raw lo hi st its.toArray.size h0) ?_)
  refine wpAny_bind (wpAny_newObj_type (wpAny_pure (wpAny_pure h)) (Nat.le_trans (slicePick_size_le its.toArray lo hi st) (by rw [List.size_toArray]; exact hz)))
/-- x[lo:] = [] on a list subclass -/
theorem setSliceL {Q : Unit → Shared → Prop} {e : Addr} {ne : Nat} {k : Nat} (F : Fr h₀ L s.heap m) (X₀ : K.In h₀) (N : News h₀ L s.heap news) (hx : (x, accObj C dx its n) ∈ news) (he : (e, W.listOf #[] ne) ∈ news) (hex : e ≠ x) (hq : noSeq K C = true) (hsub : subIn K (.ref C) (.type "list") = some true)
    (hg : findIn K (.ref C) "__setitem__" = some (some (.builtin "list.__setitem__"))) (hs : s.heap.IsSliceOf sl vl vu vs) (pl : IsPart vl (some (k : Int))) (pu : IsPart vu none) (ps : IsPart vs none) (hk : k ≤ its.length) (hz : its.length < 1000)
    (U : UpdF x (accObj C dx its n) news g) (h : ∀ h' n', Fr h₀ L h' m → News h₀ L h' (g (accObj C dx (its.take k) n')) → Q () { s with heap := h' }) : wpAny (model prog w) A (setItem (.ref x) (.ref sl) (.ref e)) Q E s := by
  obtain ⟨pre, post, rfl, hgg, u1, u2⟩ := U.split
  obtain ⟨os, hos, hcs, hds⟩ := id hs
  have hTs : s.TypeIs (.ref sl) "slice" := ⟨os, hos, hcs⟩
  have ex := (N _ hx).1
  have ee := (N _ he).1
  have hd : (accObj C dx its n).data = .seq its.toArray n := rfl
  have T0 : Looks (model prog w) s.heap (typeOf (.ref x)) (.ref C) := (Looks.ld (part := some headPart) ex).andThen .now
  have I0 : Looks (model prog w) s.heap (isInstance (.ref x) (.type "list")) true := T0.andThen (looks_subIn (X₀.keeps F.keep) hsub)
  unfold setItem
  refine wpAny_holding (wpAny_bind (keyL F X₀ N hx hq ?_))
  refine wpAny_bind (specL F X₀ N hx hg slot_list_setitem.bind ?_)
  refine wpAny_call (codeAny_call_builtin slot_list_setitem.plain entry_list_setitem (check_slot (i := "list.__setitem__") (owner := "list") (n := "__setitem__") (kw := []) (self := .ref x) (rest := [.ref sl, .ref e]) si_kind si_split I0 (args_list_setitem (.ref x) (.ref sl) (.ref e)) ?_))
  show wpAny _ _ (Builtin.List.listSubscript? (.ref sl) >>= _) _ _ s
  refine wpAny_bind ?_
  unfold Builtin.List.listSubscript?
  refine wpAny_bind (wpAny_specialOf hTs slice_no_index ?_)
  simp only [Option.isNone_none, if_true]
  refine wpAny_pure ?_
  show wpAny _ _ (typeOf (.ref sl) >>= _) _ _ s
  refine wpAny_bind (wpAny_typeOf hTs ?_)
  rw [if_neg (by decide)]
  rw [listSliceParts_eq]
  refine wpAny_bind (wpAny_bind (wpAny_field hos hds (x := vs) rfl (wpAny_bind (wpAny_listPart ps ?_))))
  rw [if_neg (show ¬ ((rawPart none == rawInt 0) = true) from Bool.false_ne_true)]
  refine wpAny_bind (wpAny_field hos hds (x := vl) rfl (wpAny_bind (wpAny_listPart pl ?_)))
  refine wpAny_bind (wpAny_field hos hds (x := vu) rfl (wpAny_bind (wpAny_listPart pu (wpAny_pure ?_))))
  rw [if_neg (show ¬ (Builtin.List.listSameRef (.ref x) (.ref e) = true) from by show ¬ ((x == e) = true); simp only [beq_iff_eq]; exact fun q => hex q.symm)]
  have dE : (W.listOf #[] ne).data = .seq #[] ne := rfl
  have TE : Looks (model prog w) s.heap (typeOf (.ref e)) (.type "list") := (Looks.ld (part := some headPart) ee).andThen .now
  refine wpAny_bind (m := Builtin.List.listAllItems (.ref e) "must assign iterable to extended slice") ?_
  unfold Builtin.List.listAllItems
  refine wpAny_bind (TE.here ?_)
  rw [if_pos (show ((Value.type "list" == Value.type "list") || (Value.type "list" == Value.type "tuple")) = true by decide +kernel)]
  unfold Builtin.List.listItems
  refine wpAny_bind (wpAny_seqItems ee dE (wpAny_pure ?_))
  refine wpAny_bind (wpAny_bind (wpAny_seqItems ex hd (wpAny_pure ?_)))
  have hb : sliceBounds (some (k : Int)) none none its.toArray.size = ((k : Int), (its.length : Int), 1) := by
    simp only [sliceBounds, Option.getD_none, List.size_toArray]
    have h1 : ¬ ((k : Int) < 0) := by omega
    simp only [h1, if_false, show (1 : Int) > 0 by decide, if_true]
    congr 1
    omega
  refine wpAny_bind (wpAny_of_eq ((sliceIndices_raw (some (k : Int)) none none its.toArray.size (by simp)).trans (by rw [hb])) ?_)
  dsimp only
  rw [if_pos (show ((1 : Int) == 1) = true by decide)]
  refine wpAny_bind (wpAny_rule ?_)
  rw [if_neg (show ¬ (Builtin.List.listTooLong (its.toArray.size + (#[] : Array Value).size) = true) from by unfold Builtin.List.listTooLong; rw [sizeLine_eq]; simp; omega)]
  have gen : ∀ (f : Array Value → Array Value) (ys : Array Value), f its.toArray = ys → Obj.mapSeq f (accObj C dx its n) = { cls := .ref C, dict := some dx, data := .seq ys (if (ys.size == its.toArray.size) = true then n else n + 1) } := by
    intro f ys q; subst q; rfl
  have E1 : Obj.mapSeq (fun xs => xs.extract 0 ((k : Int).toNat) ++ #[] ++ xs.extract ((max (k : Int) (its.length : Int)).toNat)) (accObj C dx its n) = accObj C dx (its.take k) (if ((its.take k).toArray.size == its.toArray.size) = true then n else n + 1) := by
    refine gen _ _ ?_
    apply Array.toList_inj.mp
    have e3 : (max (k : Int) (its.length : Int)).toNat = its.length := by omega
    rw [e3]
    simp
  obtain ⟨F1, N1⟩ := news_upd (pre := pre) (o := accObj C dx its n) (o' := accObj C dx (its.take k) (if ((its.take k).toArray.size == its.toArray.size) = true then n else n + 1)) (f := Obj.mapSeq fun xs => xs.extract 0 ((k : Int).toNat) ++ #[] ++ xs.extract ((max (k : Int) (its.length : Int)).toNat)) F N u1 u2 E1 rfl
  refine wpAny_bind (wpAny_updateSeq ex hd (wpAny_bind (wpAny_letGo (wpAny_pure (wpAny_pure ?_)))) ?_ ?_)
  · exact h _ _ F1 (by rw [hgg]; exact N1)
  · rw [sizeLine_eq, List.size_toArray]; omega
  · have e3 : (max (k : Int) (its.length : Int)).toNat = its.length := by omega
    rw [e3, sizeLine_eq]; simp; omega
end
theorem pick_drop (its : List Value) (k : Nat) (hk : k ≤ its.length) : slicePick its.toArray (some (k : Int)) none none = (its.drop k).toArray := by
  have e := slicePick_run its.toArray k its.length (by simp) hk
  have q : slicePick its.toArray (some (k : Int)) none none = slicePick its.toArray (some (k : Int)) (some (its.length : Int)) none := by
    unfold slicePick
    have : sliceBounds (some (k : Int)) none none its.toArray.size = sliceBounds (some (k : Int)) (some (its.length : Int)) none its.toArray.size := by
      simp only [sliceBounds, Option.getD_none, List.size_toArray]
      have h1 : ¬ ((k : Int) < 0) := by omega
      have h2 : ¬ ((its.length : Int) < 0) := by omega
      simp only [h1, h2, if_false, show (1 : Int) > 0 by decide, if_true]
      congr 2
      omega
    rw [this]
  rw [q, e]
  congr 1
  show List.take (its.length - k) (its.drop k) = _
  exact List.take_of_length_le (by rw [List.length_drop]; omega)
section
variable {prog : Program} {w : World} {A : Around} {E : Value → Shared → Prop} {s : Shared} {h₀ : Heap} {L x dx C sl : Addr} {m : Str → Option Value} {news : Cells} {K : Frag} {its : List Value} {n : Nat}
theorem sliceGetL {value slice : Expr} {k : Nat} {u : Tok} {Q : Value → Shared → Prop} (F : Fr h₀ L s.heap m) (X₀ : K.In h₀) (N : News h₀ L s.heap news) (hx : (x, accObj C dx its n) ∈ news) (hq : noSeq K C = true) (hsub : subIn K (.ref C) (.type "list") = some true)
    (hg : findIn K (.ref C) "__getitem__" = some (some (.builtin "list.__getitem__"))) (hk : k ≤ its.length) (hz : its.length ≤ sizeLine)
    (h : ∀ h' y, Fr h₀ L h' m → News h₀ L h' ((y, W.listOf (its.drop k).toArray 0) :: news) → (∀ p ∈ news, p.1 < y) → Q (.ref y) { s with heap := h' })
    (hs : subscripted slice false (.ref x) (.ref s.heap.objs.size) = operate [.ref s.heap.objs.size, .ref x] (getItem (.ref x) (.ref s.heap.objs.size)) := by with_unfolding_all rfl)
    (ht : ∀ r, letTemporaryGo value (.ref x) r = pure () := by intro _; with_unfolding_all rfl) :
    wpAny (model prog w) A (subscriptTail value slice (.ref x) (.ref s.heap.objs.size)) Q E { s with heap := s.heap.push { cls := .type "slice", data := .fields #[.int k u, .none, .none] } } := by
  obtain ⟨hh, g, d, t, os⟩ := s
  have F1 := F.push { cls := .type "slice", data := .fields #[.int k u, .none, .none] }
  have N1 : News h₀ L (hh.push { cls := .type "slice", data := .fields #[.int k u, .none, .none] }) news := N.grown fun _ _ e => Heap.get?_push_of_some _ e
  have T0 : Looks (model prog w) (hh.push { cls := .type "slice", data := .fields #[.int k u, .none, .none] }) (typeOf (.ref x)) (.ref C) := (Looks.ld (part := some headPart) (N1 _ hx).1).andThen .now
  unfold subscriptTail getitemInPython
  refine wpAny_bind (wpAny_bind (wpAny_bind (T0.at ((looks_findIn (X₀.keeps F1.keep) hg).at ?_))))
  refine wpAny_pure (wpAny_bind ?_)
  rw [hs]
  refine wpAny_operating ?_
  refine getSliceL (s := ⟨hh.push { cls := .type "slice", data := .fields #[.int k u, .none, .none] }, g, d, t, os⟩) F1 X₀ N1 hx hq hsub hg (Heap.IsSliceOf.new ..) (.int _ _) .none .none (by simp) hz ?_
  refine wpAny_bind (wpAny_of_eq (ht _) (wpAny_pure ?_))
  rw [pick_drop its k hk]
  exact h _ _ (F1.push _) (News.push F1 N1 _) fun p hp => Heap.lt_size (N1 p hp).1
end
theorem popFrom {prog : Program} {w : World} (x dx : Addr) (hne : x ≠ dx) (hxC : x ≠ 101) (its : List Value) (n e : Nat) (es : List DictEntry) (k : Nat) (u : Tok) (hk : k ≤ its.length) (hz : its.length < 1000) (args : List Value) (ha : args = [.ref x, .int k u] ∨ (args = [.ref x] ∧ k = 0 ∧ u = 229)) :
   Does (KH w.params) prog w 4 53 args [(x, accObj 101 dx its n), (dx, dictOf es e)] (fun r own => ∃ y n' , r = .ref y ∧ y ≠ x ∧ y ≠ dx ∧ own = [(y, W.listOf (its.drop k).toArray 0), (x, accObj 101 dx (its.take k) n'), (dx, dictOf es e)]) := by
  refine enterT (binds := [("self", .ref x), ("i", .int k u)]) (by k_is) (by k_is) (fun s X => by rcases ha with rfl | ⟨rfl, rfl, rfl⟩ <;> (refine' binds_K X ?hd ?ho ?hs ?h1 ?h2; (case hd => exact rfl); (case ho => k_is); (case hs => exact rfl); (case h1 => exact rfl); (case h2 => exact rfl))) (locs rfl) ?_
  intro dp un gd fr g L s PP hP G F N l0 hdp hun hT
  obtain ⟨X, ⟨p, loose, mean, mg, mb, T⟩, codeHd⟩ := id G
  k_lt l0
  try k_fold
  iterate 9 walk1
  refine sliceGetL F X N (.head _) (by k_is) (by k_is) (by k_is) hk (by rw [sizeLine_eq]; omega) ?_
  intro h1 y F1 N1 l1
  k_lt l1
  iterate 13 walk1
  rename_i h2 tk1 htk lE h3 F3 N3 l3
  have F4 := F3.push { cls := .type "slice", data := .fields #[.int k u, .none, .none] }
  have N4 := N3.grown (h' := h3.push { cls := .type "slice", data := .fields #[.int k u, .none, .none] }) fun _ _ e => Heap.get?_push_of_some _ e
  dsimp only
  refine setSliceL (s := ⟨h3.push { cls := .type "slice", data := .fields #[.int k u, .none, .none] }, s.gens, s.drawn, tk1, s.os⟩) (e := lE) (dx := dx) (its := its) (n := n) (vl := .int k u) (vu := .none) (vs := .none) F4 X N4 (by k_mem) (.head _) (by k_ne) (by k_is) (by k_is) (by k_is) (Heap.IsSliceOf.new ..) (.int _ _) .none .none hk hz (by k_updF) ?_
  intro h5 n' F5 N5
  iterate 4 walk1
  exact hP _ _ (Fin.intro F5 (cb_drop N5 (by repeat' (first | exact List.forall_mem_nil _ | refine List.forall_mem_cons.mpr ⟨by k_mem, ?_⟩))) ⟨_, _, rfl, by k_ne, by k_ne, rfl⟩)
end Mine

end
-- MWord
namespace Mine
noncomputable def mkW (c1 c2 : Nat) (l : List Bool) : Str := ⟨(c1 :: c2 :: encL l).toArray⟩
noncomputable def eL (l : List Bool) : List Bool := l.flatMap fun b => cond b [true, false] [false]
noncomputable def nL (l : List Bool) : List Bool := l.map (!·)
noncomputable def oL (l : List Bool) : List Bool := nL (eL (nL l))
theorem str_ext {x y : Str} (h : x.cps.toList = y.cps.toList) : x = y := by
  cases x; cases y; exact congrArg Str.mk (Array.toList_inj.mp h)
theorem mkW_cps (c1 c2 : Nat) (l : List Bool) : (mkW c1 c2 l).cps.toList = c1 :: c2 :: encL l := rfl
theorem rep1 (c : Nat) (z : List Nat) : ∀ xs : List Nat, rep [c] z 0 xs = xs.flatMap fun a => if a = c then z else [a]
  | [] => rfl
  | a :: xs => by
    have ih := rep1 c z xs
    by_cases h : a = c
    · subst h
      rw [rep_hit (y := [a]) (Nat.le_refl 1) (by simp), List.flatMap_cons, if_pos rfl]
      exact congrArg _ ih
    · rw [rep_miss (by simpa using h), ih, List.flatMap_cons, if_neg h]; rfl
theorem nmC_ne {c : Nat} (h : c ∈ nmC) : c ≠ 38 ∧ c ≠ 42 ∧ c ≠ 97 ∧ c ≠ 109 ∧ c ≠ 112 ∧ c ≠ 59 ∧ c ∉ [60, 62, 34, 13, 10, 9] := by
  simp only [nmC, List.mem_cons, List.not_mem_nil, or_false] at h
  rcases h with rfl | rfl | rfl | rfl <;> decide
theorem lit_amp : (Str.ofString "amp;").cps.toList = [97, 109, 112, 59] := by decide +kernel
theorem lit_and : (Str.ofString "&").cps.toList = [38] := by decide +kernel
theorem lit_star : (Str.ofString "*").cps.toList = [42] := by decide +kernel
theorem lit_esc : (Str.ofString "&amp;").cps.toList = [38, 97, 109, 112, 59] := by decide +kernel
theorem lit_tail : (Str.ofString "amp;&").cps.toList = [97, 109, 112, 59, 38] := by decide +kernel
theorem enc_cons (b : Bool) (l : List Bool) : encL (b :: l) = cd b ++ encL l := rfl
theorem flat_enc (z : List Nat) : ∀ l : List Bool, ((encL l).flatMap fun a => if a = 38 then z else [a]) = l.flatMap fun b => cond b z [97, 109, 112, 59]
  | [] => rfl
  | b :: l => by
    rw [enc_cons, List.flatMap_append, flat_enc z l, List.flatMap_cons]
    cases b <;> simp [cd]
section
variable {c1 c2 : Nat} (h1 : c1 ∈ nmC) (h2 : c2 ∈ nmC)
include h1 h2
theorem head2 (z : List Nat) (c : Nat) (hc : c = 38 ∨ c = 42) (xs : List Nat) : ((c1 :: c2 :: xs).flatMap fun a => if a = c then z else [a]) = c1 :: c2 :: xs.flatMap fun a => if a = c then z else [a] := by
  have n1 := nmC_ne h1
  have n2 := nmC_ne h2
  have e1 : c1 ≠ c := by rcases hc with rfl | rfl <;> simp [n1]
  have e2 : c2 ≠ c := by rcases hc with rfl | rfl <;> simp [n2]
  rw [List.flatMap_cons, List.flatMap_cons, if_neg e1, if_neg e2]; rfl
theorem escd_mkW (l : List Bool) : escd (mkW c1 c2 l) = mkW c1 c2 (eL l) := by
  refine str_ext ?_
  unfold escd
  rw [replace_rep _ _ _ (by decide), lit_and, lit_esc, rep1, mkW_cps, mkW_cps, head2 h1 h2 _ _ (.inl rfl), flat_enc]
  congr 2
  induction l with
  | nil => rfl
  | cons b l ih =>
    show _ = encL (cond b [true, false] [false] ++ eL l)
    rw [List.flatMap_cons, ih]
    cases b <;> rfl
theorem miss2 (y z : List Nat) (a : Nat) (y' : List Nat) (hy : y = a :: y') (ha : a = 97 ∨ a = 38) (xs : List Nat) : rep y z 0 (c1 :: c2 :: xs) = c1 :: c2 :: rep y z 0 xs := by
  have n1 := nmC_ne h1
  have n2 := nmC_ne h2
  subst hy
  rw [rep_miss (by intro h; have := (List.cons.inj h).1; rcases ha with rfl | rfl <;> simp_all), rep_miss (by intro h; have := (List.cons.inj h).1; rcases ha with rfl | rfl <;> simp_all)]
omit h1 h2 in
theorem rep_amp (z : List Nat) : ∀ l : List Bool, rep [97, 109, 112, 59] z 0 (encL l) = l.flatMap fun b => cond b [38] z
  | [] => rfl
  | true :: l => by
    rw [enc_cons, List.flatMap_cons]
    show rep _ z 0 (38 :: encL l) = _
    rw [rep_miss (by simp), rep_amp z l]; rfl
  | false :: l => by
    rw [enc_cons, List.flatMap_cons, rep_hit (by decide) (by simp [cd])]
    show z ++ rep _ z 0 (encL l) = _
    rw [rep_amp z l]; rfl
theorem turnd_mkW (l : List Bool) : turnd (mkW c1 c2 l) = mkW c1 c2 (nL l) := by
  refine str_ext ?_
  unfold turnd
  rw [replace_rep _ _ _ (by decide), replace_rep _ _ _ (by decide), replace_rep _ _ _ (by decide), lit_and, lit_amp, lit_star, mkW_cps, mkW_cps, miss2 h1 h2 _ _ 97 _ rfl (.inl rfl), rep_amp, rep1, rep1, head2 h1 h2 _ _ (.inl rfl), head2 h1 h2 _ _ (.inr rfl)]
  congr 2
  induction l with
  | nil => rfl
  | cons b l ih =>
    rw [List.flatMap_cons, List.flatMap_append, List.flatMap_append, ih]
    cases b <;> simp [nL, encL, cd]
end
end Mine
namespace Mine
theorem oL_flat : ∀ l : List Bool, oL l = l.flatMap fun b => cond b [true] [false, true]
  | [] => rfl
  | b :: l => by
    have ih := oL_flat l
    show nL (eL (nL (b :: l))) = _
    rw [List.flatMap_cons, ← ih]
    cases b <;> rfl
theorem eL_cons (b : Bool) (l : List Bool) : eL (b :: l) = cond b [true, false] [false] ++ eL l := rfl
theorem oL_cons (b : Bool) (l : List Bool) : oL (b :: l) = cond b [true] [false, true] ++ oL l := by rw [oL_flat, oL_flat]; rfl
theorem enc_app (a b : List Bool) : encL (a ++ b) = encL a ++ encL b := List.flatMap_append
theorem back_e : ∀ l : List Bool, rep [38, 97, 109, 112, 59] [38] 0 (encL (eL l)) = encL l
  | [] => rfl
  | true :: l => by
    rw [eL_cons, enc_app]
    show rep _ _ 0 ([38, 97, 109, 112, 59] ++ encL (eL l)) = 38 :: encL l
    rw [rep_hit (by decide) (by simp)]
    show 38 :: rep _ _ 0 (encL (eL l)) = _
    rw [back_e l]
  | false :: l => by
    rw [eL_cons, enc_app]
    show rep _ _ 0 (97 :: 109 :: 112 :: 59 :: encL (eL l)) = 97 :: 109 :: 112 :: 59 :: encL l
    rw [rep_miss (by simp), rep_miss (by simp), rep_miss (by simp), rep_miss (by simp), back_e l]
theorem back_o : ∀ l : List Bool, rep [97, 109, 112, 59, 38] [97, 109, 112, 59] 0 (encL (oL l)) = encL l
  | [] => rfl
  | true :: l => by
    rw [oL_cons, enc_app]
    show rep _ _ 0 (38 :: encL (oL l)) = 38 :: encL l
    rw [rep_miss (by simp), back_o l]
  | false :: l => by
    rw [oL_cons, enc_app]
    show rep _ _ 0 ([97, 109, 112, 59, 38] ++ encL (oL l)) = 97 :: 109 :: 112 :: 59 :: encL l
    rw [rep_hit (by decide) (by simp)]
    show 97 :: 109 :: 112 :: 59 :: rep _ _ 0 (encL (oL l)) = _
    rw [back_o l]
section
variable {c1 c2 : Nat} (h1 : c1 ∈ nmC) (h2 : c2 ∈ nmC)
include h1 h2
theorem mk_back_e (l : List Bool) : Txt.replace (mkW c1 c2 (eL l)) (Str.ofString "&amp;") (Str.ofString "&") = mkW c1 c2 l := by
  refine str_ext ?_
  rw [replace_rep _ _ _ (by decide), lit_esc, lit_and, mkW_cps, mkW_cps, miss2 h1 h2 _ _ 38 _ rfl (.inr rfl), back_e]
theorem mk_back_o (l : List Bool) : Txt.replace (mkW c1 c2 (oL l)) (Str.ofString "amp;&") (Str.ofString "amp;") = mkW c1 c2 l := by
  refine str_ext ?_
  rw [replace_rep _ _ _ (by decide), lit_tail, lit_amp, mkW_cps, mkW_cps, miss2 h1 h2 _ _ 97 _ rfl (.inl rfl), back_o]
theorem mk_o (l : List Bool) : turnd (escd (turnd (mkW c1 c2 l))) = mkW c1 c2 (oL l) := by
  rw [turnd_mkW h1 h2, escd_mkW h1 h2, turnd_mkW h1 h2]; rfl
end
theorem encL_mem : ∀ {l : List Bool} {c : Nat}, c ∈ encL l → c ∈ [38, 97, 109, 112, 59]
  | b :: l, c, h => by
    rw [enc_cons, List.mem_append] at h
    rcases h with h | h
    · cases b <;> simp [cd] at h ⊢ <;> omega
    · exact encL_mem h
theorem encL_len : ∀ l : List Bool, (encL l).length ≤ 4 * l.length
  | [] => Nat.le_refl _
  | b :: l => by
    have := encL_len l
    rw [enc_cons, List.length_append, List.length_cons]
    cases b <;> simp [cd] <;> omega
theorem eL_len : ∀ l : List Bool, (eL l).length ≤ 2 * l.length
  | [] => Nat.le_refl _
  | b :: l => by
    have := eL_len l
    rw [eL_cons, List.length_append, List.length_cons]
    cases b <;> simp <;> omega
theorem nL_len (l : List Bool) : (nL l).length = l.length := by simp [nL]
theorem oL_len (l : List Bool) : (oL l).length ≤ 2 * l.length := by
  unfold oL
  rw [nL_len]
  have := eL_len (nL l)
  rwa [nL_len] at this
theorem mkW_size (c1 c2 : Nat) (l : List Bool) : (mkW c1 c2 l).cps.size ≤ 2 + 4 * l.length := by
  have := encL_len l
  show (c1 :: c2 :: encL l).toArray.size ≤ _
  simp only [List.size_toArray, List.length_cons]; omega
theorem eL_self : ∀ {l : List Bool}, true ∉ l → eL l = l
  | [], _ => rfl
  | true :: l, h => absurd (.head _) h
  | false :: l, h => by rw [eL_cons, eL_self fun m => h (.tail _ m)]; rfl
theorem plain_mkW {c1 c2 : Nat} (h1 : c1 ∈ nmC) (h2 : c2 ∈ nmC) {l : List Bool} (hl : l.length ≤ 1000) : Plain (mkW c1 c2 l) := by
  have n1 := nmC_ne h1
  have n2 := nmC_ne h2
  refine ⟨?_, fun c hc => ?_, fun h => ?_⟩
  · have := mkW_size c1 c2 l; omega
  · rw [escd_mkW h1 h2, mkW_cps] at hc
    rcases List.mem_cons.mp hc with rfl | hc
    · exact n1.2.2.2.2.2.2
    · rcases List.mem_cons.mp hc with rfl | hc
      · exact n2.2.2.2.2.2.2
      · have := encL_mem hc
        simp only [List.mem_cons, List.not_mem_nil, or_false] at this
        rcases this with rfl | rfl | rfl | rfl | rfl <;> decide
  · rw [escd_mkW h1 h2, eL_self]
    intro hm
    rw [show Str.ofString "&" = ⟨#[38]⟩ by decide +kernel, StrLaws.found_one] at h
    refine of_decide_eq_false h ?_
    show 38 ∈ c1 :: c2 :: encL l
    refine .tail _ (.tail _ (List.mem_flatMap.mpr ⟨true, hm, .head _⟩))
end Mine

-- MFloor
namespace Mine
noncomputable def insAll (l : List Bool) : List (List Bool) := (List.range (l.length + 1)).flatMap fun k => [l.take k ++ true :: l.drop k, l.take k ++ false :: l.drop k]
noncomputable def stepW (ws : List (List Bool)) : List (List Bool) := (ws ++ ws.flatMap insAll).eraseDups
noncomputable def words : Nat → List (List Bool)
  | 0 => [[true, false]]
  | n + 1 => stepW (words n)
theorem fm_ins (ps : List (Option Bool)) (k : Nat) (o : Option Bool) : ∃ j ≤ (ps.filterMap id).length, (ps.take k ++ o :: ps.drop k).filterMap id = (ps.filterMap id).take j ++ (o.toList ++ (ps.filterMap id).drop j) := by
  refine ⟨((ps.take k).filterMap id).length, ?_, ?_⟩
  · have e : ps.filterMap id = (ps.take k).filterMap id ++ (ps.drop k).filterMap id := by rw [← List.filterMap_append, List.take_append_drop]
    rw [e, List.length_append]; omega
  · have e : ps.filterMap id = (ps.take k).filterMap id ++ (ps.drop k).filterMap id := by rw [← List.filterMap_append, List.take_append_drop]
    rw [List.filterMap_append, e, List.take_left, List.drop_left]
    cases o <;> simp
theorem rch_words {n : Nat} {ps : List (Option Bool)} (h : Rch n ps) : ps.filterMap id ∈ words n := by
  induction h with
  | zero => exact .head _
  | @succ n ps k o _ ih =>
    obtain ⟨j, hj, e⟩ := fm_ins ps k o
    rw [e]
    show _ ∈ stepW (words n)
    unfold stepW
    rw [List.mem_eraseDups, List.mem_append]
    cases o with
    | none => left; simpa using ih
    | some b =>
      right
      refine List.mem_flatMap.mpr ⟨_, ih, List.mem_flatMap.mpr ⟨j, List.mem_range.mpr (by omega), ?_⟩⟩
      cases b <;> simp
noncomputable def kids (ws : List (List Bool)) : List (List Bool) := ws.flatMap fun x => [eL x, oL x]
noncomputable def kids2 (ws : List (List Bool)) : List (List Bool) := ws.map eL ++ ws.map oL
noncomputable def lev : Bool → Nat → List Bool → List (List Bool)
  | _, 0, l => [l]
  | a, n + 1, l => cond a kids2 kids (lev a n l)
noncomputable def nxt (x : Int × Int) : Int × Int := (x.2, (x.1.fdiv x.2 + 1) * x.2 - x.1.fmod x.2)
noncomputable def cseq : Nat → Int × Int → List (Int × Int)
  | 0, _ => []
  | n + 1, x => x :: cseq n (nxt x)
noncomputable def cnt (l : List Bool) : Int × Int := ((l.count true : Nat), (l.count false : Nat))
/-- the order of the letters' texts: the sign first -/
noncomputable def ltB : List Bool → List Bool → Bool
  | _, [] => false
  | [], _ :: _ => true
  | a :: l, b :: r => if a = b then ltB l r else a
noncomputable def Good (l : List Bool) : Bool := (List.range 4).all fun n =>
  ((lev false n l).map cnt == cseq (2 ^ n) ((cnt l).1, (cnt l).2 + n * (cnt l).1)) && decide ((lev true n l).Perm (lev false n l)) && decide ((lev true n l).Pairwise fun a b => ltB a b = false) && (lev false n l).all (fun w => w.length ≤ 100) && (lev true n l).all (fun w => w.length ≤ 100)
theorem words_len : (words 3).length = 42 := by decide +kernel
theorem words_good : (words 3).all Good = true := by decide +kernel
end Mine

-- T26
namespace Mine
noncomputable abbrev tab2 (c1 c2 : Addr) : Obj := tabObj #[rawInt 177, rawInt 13, .ref c1, rawInt 178, rawInt 18, .ref c2]
theorem lawLexer2 {prog : Program} {w : World} (tx : Str) (tt : Tok) (hsz : tx.cps.size ≤ sizeLine) (c1 c2 : Addr) (oc1 oc2 : Obj) (hcode : CodeOf oc2 "_law_lexer.<locals>.<lambda>") (n1 : c1 ≠ c2) (n2 : c1 ≠ 210) (n3 : c2 ≠ 210) :
   Does (KH w.params) prog w 4 215 [.str tx tt] [(210, tab2 c1 c2), (c1, oc1), (c2, oc2)] (fun r own => ∃ (l : LX) (tl : Tok) (ys : List Value) (ks : Nat), LX.Ok prog w l ∧ r = .ref l.x ∧ Chrs ys tx.cps.toList.reverse ∧ l.c2 = c2 ∧ l.oc2 = oc2 ∧ AllNe 210 l.adr ∧ AllNe c1 l.adr ∧
     own = l.cells w 1 tl [] 0 ys ks ++ [(c1, oc1), (210, tab2 c1 c2)]) := by
  obtain ⟨vs2, tt1, f1, f2⟩ := hcode
  refine enterC (binds := [("text", .str tx tt)]) (by k_is) (by k_is) (fun s X => BindsTo.of_eq rfl) (by rfl) (by decide +kernel) ?_
  intro dp un gd fr g L s cells PP hP G F N Y l0 hdp hun
  obtain ⟨X, ⟨p, loose, mean, mg, mb, T⟩, codeHd⟩ := id G
  obtain ⟨o1, rfl, d1⟩ := CellsAre.one Y
  simp only [List.cons_append, List.nil_append] at N
  k_lt l0
  clear Y
  have d1 : o1.data = .cell none := d1
  try k_fold
  iterate 37 walk1
  rename_i S h6 tk3 ys kc hc l3 h5 oCell dC h4 io ct1 h3 tk2 l2 h2 tkx hkx rf ct2 h1 tk1 l11 dio h0 tk0 t0 F0 N0 l0'
  refine useMake (own := []) (fun x dx n _ => lexInit x dx _ n) (fun x dx v own' h => h.1) F0 N0 G (fun p hp => nomatch hp) (fun p hp => hp) (fun p hp => nomatch hp) (by k_is) (by k_is) (by k_is) (by omega) (by omega) ?_
  rintro x dx h' tk own' ⟨_, P, t1, t2, t3, t4, tl, tw, hap, rfl⟩ F' N' hd'
  simp only [Apart, AllNe, and_true] at hap
  obtain ⟨⟨ap1, ap2⟩, ap3⟩ := hap
  refine hP _ _ ?_
  refine' Fin.intro (news' := LX.cells w ⟨x, dx, P, io, dio, rf, c2, L + 1, S, _, _, oc2, oCell, t1, t2, t3, t4, tw, t0⟩ 1 tl [] 0 ys.reverse kc ++ [(c1, oc1), (210, tab2 c1 c2)]) F' (cb_drop N' ?sub) ?res
  case sub =>
    dsimp only [LX.cells]
    simp only [List.cons_append, List.nil_append]
    exact List.forall_mem_cons.mpr ⟨.tail _ (.head _), List.forall_mem_cons.mpr ⟨.tail _ (.tail _ (.head _)), List.forall_mem_cons.mpr ⟨.head _, by
      repeat' (first | exact List.forall_mem_nil _ | refine List.forall_mem_cons.mpr ⟨by k_mem, ?_⟩)⟩⟩⟩
  refine ⟨_, tl, _, kc, ⟨?_, ?_⟩, rfl, hc.reverse, rfl, rfl, ?_, ?_, rfl⟩
  · simp only [Apart, AllNe, and_true]
    refine ⟨⟨?_, ?_, ?_, ?_, ?_, ?_, ?_, ?_⟩, ⟨?_, ?_, ?_, ?_, ?_, ?_, ?_⟩, ⟨?_, ?_, ?_, ?_, ?_, ?_⟩, ⟨?_, ?_, ?_, ?_, ?_⟩, ⟨?_, ?_, ?_, ?_⟩, ⟨?_, ?_, ?_⟩, ⟨?_, ?_⟩, ?_⟩ <;> (first | assumption | exact Ne.symm (by assumption) | k_ne | exact offNe hd' (by k_mem) (by k_mem) | exact (offNe hd' (by k_mem) (by k_mem)).symm)
  · clear N' F' N0 F0 hd'
    show Reader prog w rf _ c2 oc2 (L + 1) oCell S
    intro hap
    simp only [Apart, AllNe, and_true] at hap
    obtain ⟨⟨a1, a2, a3⟩, ⟨a4, a5⟩, a6⟩ := hap
    constructor
    · intro vs v k arg hl
      refine enterL (binds := [("size", arg)]) (.head _) (.tail _ (.head _)) f1 f2 rfl (locs rfl) ?_
      intro dp un gd fr g L' s PP hP G F N l0 hdp hun
      obtain ⟨X, ⟨p, loose, mean, mg, mb, T⟩, codeHd⟩ := id G
      k_lt l0
      try k_fold
      iterate 10 walk1
      exact hP _ _ (Fin.intro (by k_asm) (by k_asm) ⟨rfl, _, rfl⟩)
    · intro k arg
      refine enterL (binds := [("size", arg)]) (.head _) (.tail _ (.head _)) f1 f2 rfl (locs rfl) ?_
      intro dp un gd fr g L' s PP hP G F N l0 hdp hun
      obtain ⟨X, ⟨p, loose, mean, mg, mb, T⟩, codeHd⟩ := id G
      k_lt l0
      try k_fold
      iterate 6 walk1
      exact hP _ _ (Fin.intro (by k_asm) (by k_asm) ⟨⟨_, rfl⟩, rfl⟩)
  · simp only [AllNe, and_true]
    refine ⟨?_, ?_, ?_, ?_, ?_, ?_, ?_, ?_, ?_⟩ <;> (first | assumption | exact Ne.symm (by assumption) | k_ne | exact offNe hd' (by k_mem) (by k_mem) | exact (offNe hd' (by k_mem) (by k_mem)).symm)
  · simp only [AllNe, and_true]
    refine ⟨?_, ?_, ?_, ?_, ?_, ?_, ?_, ?_, ?_⟩ <;> (first | assumption | exact Ne.symm (by assumption) | k_ne | exact offNe hd' (by k_mem) (by k_mem) | exact (offNe hd' (by k_mem) (by k_mem)).symm)
end Mine

-- T27
namespace Mine
theorem pushT {prog : Program} {w : World} (l : LX) (hl : l.Ok prog w) (ln : Int) (tl : Tok) (pb : List Value) (kp : Nat) (sg : List Value) (ks : Nat) (v : Value) (hz : pb.length < 1000) :
   Does (KH w.params) prog w 2 140 [.ref l.x, v] (l.cells w ln tl pb kp sg ks) (fun r own => r = .none ∧ ∃ kp', own = l.cells w ln tl (pb ++ [v]) kp' sg ks) := by
  obtain ⟨ap, -⟩ := hl
  obtain ⟨x, d, P, io, dio, rf, c2, cell, S, fdS, fdR, oc2, oCell, t1, t2, t3, t4, tw, t5⟩ := l
  refine enter (binds := [("self", .ref x), ("token", v)]) (by k_is) (by k_is) (fun s X => BindsTo.of_eq rfl) (locs rfl) ?_
  intro dp un gd fr g L s PP hP G F N l0 hdp hun
  obtain ⟨X, ⟨p, loose, mean, mg, mb, T⟩, codeHd⟩ := id G
  dsimp only [LX.cells] at N l0
  simp only [Apart, AllNe, and_true] at ap
  obtain ⟨⟨a1, a2, a3, a4, a5, a6, a7, a8⟩, ⟨b1, b2, b3, b4, b5, b6, b7⟩, ⟨d1, d2, d3, d4, d5, d6⟩, -⟩ := ap
  k_lt l0
  try k_fold
  iterate 14 walk1
  rename_i F1 N1
  rw [show pb.toArray.push v = (pb ++ [v]).toArray by simp] at N1
  exact hP _ _ (Fin.intro F1 N1 ⟨rfl, _, rfl⟩)
theorem getP {prog : Program} {w : World} (l : LX) (hl : l.Ok prog w) (ln : Int) (tl : Tok) (pb : List Value) (kp : Nat) (sg : List Value) (ks : Nat) (v : Value) (hz : pb.length < 1000) :
   Does (KH w.params) prog w 8 133 [.ref l.x] (l.cells w ln tl (v :: pb) kp sg ks) (fun r own => r = v ∧ ∃ kp', own = l.cells w ln tl pb kp' sg ks) := by
  obtain ⟨ap, -⟩ := hl
  obtain ⟨x, d, P, io, dio, rf, c2, cell, S, fdS, fdR, oc2, oCell, t1, t2, t3, t4, tw, t5⟩ := l
  refine enter (binds := [("self", .ref x)]) (by k_is) (by k_is) (fun s X => BindsTo.of_eq rfl) (locs rfl) ?_
  intro dp un gd fr g L s PP hP G F N l0 hdp hun
  obtain ⟨X, ⟨p, loose, mean, mg, mb, T⟩, codeHd⟩ := id G
  dsimp only [LX.cells] at N l0
  simp only [Apart, AllNe, and_true] at ap
  obtain ⟨⟨a1, a2, a3, a4, a5, a6, a7, a8⟩, ⟨b1, b2, b3, b4, b5, b6, b7⟩, ⟨d1, d2, d3, d4, d5, d6⟩, -⟩ := ap
  k_lt l0
  try k_fold
  iterate 21 walk1
  rename_i F1 N1
  exact hP _ _ (Fin.intro F1 N1 ⟨rfl, _, rfl⟩)
/-- a lexer: what was pushed back, what is still to be read -/
noncomputable def LexS (prog : Program) (w : World) (x c2 : Addr) (oc2 : Obj) (tot : Int) (own : Cells) (pb : List Str) (cs : List Nat) : Prop :=
  ∃ (l : LX) (vs : List Value) (kp : Nat) (sg : List Value) (ks : Nat) (tl : Tok), l.Ok prog w ∧ l.x = x ∧ l.c2 = c2 ∧ l.oc2 = oc2 ∧ StrsAre vs pb ∧ Chrs sg cs.reverse ∧ own = l.cells w (tot - nl cs) tl vs kp sg ks
theorem Does.post {K : Frag} {prog : Program} {w : World} {k : Nat} {f : Addr} {vs : List Value} {own : Cells} {r1 r2 : Value → Cells → Prop} (h : Does K prog w k f vs own r1) (i : ∀ v o, r1 v o → r2 v o) : Does K prog w k f vs own r2 :=
  fun dp un gd fr h₀ s R G S a b c => h dp un gd fr h₀ s R G S a b fun v h' tk own' q => c v h' tk own' (i _ _ q)
section
variable {prog : Program} {w : World} {x c2 : Addr} {oc2 : Obj} {tot : Int} {own : Cells} {pb : List Str} {cs : List Nat}
theorem pushS (h : LexS prog w x c2 oc2 tot own pb cs) (hz : pb.length < 1000) (p : Str) (t : Tok) : Does (KH w.params) prog w 2 140 [.ref x, .str p t] own (fun r own' => r = .none ∧ LexS prog w x c2 oc2 tot own' (pb ++ [p]) cs) := by
  obtain ⟨l, vs, kp, sg, ks, tl, hl, rfl, rfl, rfl, hv, hs, rfl⟩ := h
  refine (pushT l hl _ tl vs kp sg ks (.str p t) (by rw [hv.length]; exact hz)).post ?_
  rintro v o ⟨rfl, kp', rfl⟩
  exact ⟨rfl, l, _, kp', sg, ks, tl, hl, rfl, rfl, rfl, hv.append' (.cons p t .nil), hs, rfl⟩
theorem getS {p : Str} (h : LexS prog w x c2 oc2 tot own (p :: pb) cs) (hz : pb.length < 1000) : Does (KH w.params) prog w 8 133 [.ref x] own (fun r own' => ∃ t, r = .str p t ∧ LexS prog w x c2 oc2 tot own' pb cs) := by
  obtain ⟨l, vs, kp, sg, ks, tl, hl, rfl, rfl, rfl, hv, hs, rfl⟩ := h
  cases hv with
  | cons _ t hv =>
    refine (getP l hl _ tl _ kp sg ks (.str p t) (by rw [hv.length]; exact hz)).post ?_
    rintro v o ⟨rfl, kp', rfl⟩
    exact ⟨t, rfl, l, _, kp', sg, ks, tl, hl, rfl, rfl, rfl, hv, hs, rfl⟩
theorem getR {t R : List Nat} (h : LexS prog w x c2 oc2 tot own [] cs) (hz : cs.length < 10000) (ht : TokR cs t R) : Does (KH w.params) prog w 8 133 [.ref x] own (fun r own' => ∃ t', r = .str ⟨t.toArray⟩ t' ∧ LexS prog w x c2 oc2 tot own' [] R) := by
  obtain ⟨l, vs, kp, sg, ks, tl, hl, rfl, rfl, rfl, hv, hs, rfl⟩ := h
  cases hv
  refine (getTok0 l hl _ tl kp sg ks cs t R hs hz ht).post ?_
  rintro v o ⟨t', tl', sg', ks', rfl, hs', rfl⟩
  refine ⟨t', rfl, l, [], kp, sg', ks', tl', hl, rfl, rfl, rfl, .nil, hs', ?_⟩
  rw [show tot - nl cs + nl cs - nl R = tot - nl R by omega]
/-- the words to come: those pushed back, or the word of the text alone; R stays behind -/
noncomputable def LexA (prog : Program) (w : World) (x c2 : Addr) (oc2 : Obj) (tot : Int) (R : List Nat) (own : Cells) (q : List Str) : Prop :=
  LexS prog w x c2 oc2 tot own q R ∨ ∃ p cs, q = [p] ∧ cs.length < 10000 ∧ TokR cs p.cps.toList R ∧ LexS prog w x c2 oc2 tot own [] cs
theorem getA {R : List Nat} {p : Str} (h : LexA prog w x c2 oc2 tot R own (p :: pb)) (hz : pb.length < 1000) : Does (KH w.params) prog w 8 133 [.ref x] own (fun r own' => ∃ t, r = .str p t ∧ LexS prog w x c2 oc2 tot own' pb R) := by
  rcases h with h | ⟨q, cs, e, hc, ht, h⟩
  · exact getS h hz
  · cases e
    exact getR h hc ht
end
end Mine

-- MTokW
namespace Mine
theorem quoR (R : List Nat) : ∀ (xs acc : List Nat), (34 : Nat) ∉ xs → Quo acc (rep [92] [92, 92] 0 xs ++ (34 :: R)) (acc ++ xs) R
  | [], acc, _ => by rw [List.append_nil]; exact .done
  | c :: xs, acc, h => by
    have ih := quoR R xs (acc ++ [c]) fun m => h (.tail _ m)
    rw [List.append_assoc] at ih
    by_cases hc : c = 92
    · subst hc
      rw [rep1, List.flatMap_cons, if_pos rfl, ← rep1]
      exact .esc ih
    · rw [rep1, List.flatMap_cons, if_neg hc, ← rep1]
      exact .ch (fun e => h (e ▸ .head _)) hc ih
theorem escR (R : List Nat) : ∀ (xs acc : List Nat) (b : Nat), isWs b = true → Unq acc ((xs.flatMap fun c => [92, c]) ++ (b :: R)) (acc ++ xs) R
  | [], acc, b, h => by rw [List.append_nil]; exact .ws h
  | c :: xs, acc, b, h => by
    have ih := escR R xs (acc ++ [c]) b h
    rw [List.append_assoc] at ih
    rw [List.flatMap_cons]
    exact .esc ih
theorem ws_of {b : Nat} (h : b ∈ [32, 9, 13, 10]) : isWs b = true := by
  simp only [List.mem_cons, List.not_mem_nil, or_false] at h
  rcases h with rfl | rfl | rfl | rfl <;> rfl
theorem tokZ : TokR [122] [122] [] := .unq rfl (by decide) (by decide) .eof
/-- the text's word, and what stays -/
theorem tokText {x i : List Nat} {b1 b2 : Nat} (hi : Inn x i) (h1 : b1 ∈ [32, 9, 13, 10]) (h2 : b2 ∈ [32, 9, 13, 10]) (hx : x ≠ []) (hq : (34 : Nat) ∉ x) : ∃ R, TokR (b1 :: (i ++ [b2] ++ [122])) x R ∧ TokR R [122] [] := by
  cases hi with
  | quo =>
    refine ⟨[b2, 122], .ws (ws_of h1) ?_, .ws (ws_of h2) tokZ⟩
    rw [List.cons_append, List.cons_append, List.append_assoc, List.append_assoc, List.cons_append, List.nil_append]
    exact .quo (quoR _ x [] hq)
  | esc =>
    refine ⟨[122], .ws (ws_of h1) ?_, tokZ⟩
    cases x with
    | nil => exact absurd rfl hx
    | cons c x =>
      rw [List.flatMap_cons, List.append_assoc, List.append_assoc, List.cons_append, List.cons_append, List.nil_append]
      exact .esc (escR [122] x [c] b2 (ws_of h2))
end Mine

-- T28
namespace Mine
noncomputable def TabOwn (own : Cells) : Prop := own = [(210, tabObj #[])] ∨ ∃ (c1 c2 : Addr) (oc1 oc2 : Obj), CodeOf oc2 "_law_lexer.<locals>.<lambda>" ∧ c1 ≠ c2 ∧ c1 ≠ 210 ∧ c2 ≠ 210 ∧ own = [(210, tab2 c1 c2), (c1, oc1), (c2, oc2)]
theorem lexNew {prog : Program} {w : World} {own : Cells} (h : TabOwn own) (tx : Str) (tt : Tok) (hsz : tx.cps.size ≤ sizeLine) :
    Does (KH w.params) prog w 4 215 [.str tx tt] own (fun r own' => ∃ (x c1 c2 : Addr) (oc1 oc2 : Obj) (o1 : Cells), r = .ref x ∧ LexS prog w x c2 oc2 (1 + nl tx.cps.toList) o1 [] tx.cps.toList ∧ CodeOf oc2 "_law_lexer.<locals>.<lambda>" ∧ c1 ≠ 210 ∧ (∀ p ∈ o1, p.1 ≠ c1 ∧ p.1 ≠ 210) ∧ own' = o1 ++ [(c1, oc1), (210, tab2 c1 c2)]) := by
  rcases h with rfl | ⟨c1, c2, oc1, oc2, hc, n1, n2, n3, rfl⟩
  · refine (lawLexer tx tt hsz).post ?_
    rintro v o ⟨l, c1, oc1, tl, ys, ks, hl, rfl, hy, hcd, a1, a2, n1, rfl⟩
    refine ⟨l.x, c1, l.c2, oc1, l.oc2, l.cells w 1 tl [] 0 ys ks, rfl, ⟨l, [], 0, ys, ks, tl, hl, rfl, rfl, rfl, .nil, hy, ?_⟩, hcd, n1.symm, fun p hp => ?_, rfl⟩
    · rw [show 1 + nl tx.cps.toList - nl tx.cps.toList = 1 by omega]
    · have hm : p.1 ∈ l.adr := LX.cells_adr p hp
      exact ⟨fun e => AllNe.of a2 _ hm e.symm, fun e => AllNe.of a1 _ hm e.symm⟩
  · refine (lawLexer2 tx tt hsz c1 c2 oc1 oc2 hc n1 n2 n3).post ?_
    rintro v o ⟨l, tl, ys, ks, hl, rfl, hy, rfl, rfl, a1, a2, rfl⟩
    refine ⟨l.x, c1, l.c2, oc1, l.oc2, l.cells w 1 tl [] 0 ys ks, rfl, ⟨l, [], 0, ys, ks, tl, hl, rfl, rfl, rfl, .nil, hy, ?_⟩, hc, n2, fun p hp => ?_, rfl⟩
    · rw [show 1 + nl tx.cps.toList - nl tx.cps.toList = 1 by omega]
    · have hm : p.1 ∈ l.adr := LX.cells_adr p hp
      exact ⟨fun e => AllNe.of a2 _ hm e.symm, fun e => AllNe.of a1 _ hm e.symm⟩
theorem LexS.code {prog : Program} {w : World} {x c2 : Addr} {oc2 : Obj} {tot : Int} {own : Cells} {pb : List Str} {cs : List Nat} (h : LexS prog w x c2 oc2 tot own pb cs) : (c2, oc2) ∈ own := by
  obtain ⟨l, vs, kp, sg, ks, tl, hl, rfl, rfl, rfl, hv, hs, rfl⟩ := h
  dsimp only [LX.cells]
  k_mem
/-- the making of an accumulator -/
theorem accNew {prog : Program} {w : World} (hpf : ((prog.main.file : Str) == ("/claim/cut.py" : Str)) = true) (hps : (prog.main.scope.names.lookup ("super" : Str)).isSome = false) {E : Value → Shared → Prop} {s : Shared} {h₀ : Heap} {L : Addr} {m : Str → Option Value} {news : Cells} {Q : Value → Shared → Prop} {dp un : Nat} {gd : Option (List Code)} {fr : List Env}
    (F : Fr h₀ L s.heap m) (N : News h₀ L s.heap news) (G : Gd (KH w.params) h₀) (hdp : dp + 5 < recursionLimit) (hun : un + 81 < cLine)
    (h : ∀ x dx h' tk t u, Fr h₀ L h' m → News h₀ L h' ((x, accObj 101 dx [] 0) :: (dx, dictOf [⟨PyData.keyHash w.params "_initial_size", .str "_initial_size" t, .int 0 u⟩] 1) :: news) → x ≠ 101 → (∀ p ∈ news, p.1 < dx) → dx < x → Q (.ref x) { s with heap := h', toks := tk }) :
    wpAny (model prog w) (arT dp un gd fr) (call (.ref 101) []) Q E s := by
  refine call_clsL F G.X N (fun h X => makesL_of X (by k_is) (by rfl) (by rfl) (by rfl) (by rfl) (by rfl) (by rfl) (by k_is) (by k_is)) (fI := 38) (by k_is) (by k_is) fun x dx h' F' N' lo hlt => ?_
  have nx : ∀ p ∈ news, p.1 ≠ x ∧ p.1 ≠ dx := fun p hp => ⟨Nat.ne_of_lt (Nat.lt_trans (lo p hp) hlt), Nat.ne_of_lt (lo p hp)⟩
  have hxC : x ≠ 101 := fun e => by
    have := (N' _ (.head _)).2.2
    have k := G.X 101 _ (show (KH w.params).lookup 101 = some _ by k_is)
    rw [e, k] at this; cases this
  show codeAny _ (arT (dp + 1) (un + 1) gd fr) _ _ _
  refine useCode (rest := news) (accInit hpf hps x dx (Nat.ne_of_gt hlt) hxC) F' N' G (fun p hp => ?_) (fun p hp => .tail _ (.tail _ hp)) (fun p hp q hq => ?_) (by omega) (by omega) (fun v h'' tk own' hv F'' N'' hd'' => ?_)
  · rcases List.mem_cons.mp hp with rfl | hp
    · exact .head _
    · rcases List.mem_cons.mp hp with rfl | hp
      · exact .tail _ (.head _)
      · cases hp
  · rcases List.mem_cons.mp hp with rfl | hp
    · exact fun e => (nx q hq).1 e.symm
    · rcases List.mem_cons.mp hp with rfl | hp
      · exact fun e => (nx q hq).2 e.symm
      · cases hp
  · obtain ⟨rfl, t, u, rfl⟩ := hv
    exact ⟨rfl, h x dx h'' tk t u F'' N'' hxC lo hlt⟩
section
variable {prog : Program} {w : World} {A : Around} {E : Value → Shared → Prop} {s : Shared} {h₀ : Heap} {L x dx C : Addr} {m : Str → Option Value} {news : Cells} {K : Frag} {name : Str} {f : Addr} {es : List DictEntry} {e : Nat} {its : List Value} {n : Nat}
/-- a method of the text's on a list subclass -/
theorem methO {Q : Value × List Value → Shared → Prop} {pl : Sem Bool} (F : Fr h₀ L s.heap m) (X : K.In h₀) (N : News h₀ L s.heap news) (hx : (x, accObj C dx its n) ∈ news) (hd : (dx, dictOf es e) ∈ news)
    (h1 : findIn K (.ref C) "__getattribute__" = some (some (.builtin "list.__getattribute__"))) (h2 : findIn K (.ref C) "__getattr__" = some none) (h3 : findIn K (.ref C) name = some (some (.ref f))) (ht : isFn K (.ref f) = true) (hl : getL name es = some none)
    (h : Q (.ref f, [.ref x]) s) : wpAny (model prog w) A (getMethod (.ref x) name pl) Q E s := by
  have X' := X.keeps F.keep
  have ex := (N _ hx).1
  have ed := (N _ hd).1
  have T0 : Looks (model prog w) s.heap (typeOf (.ref x)) (.ref C) := (Looks.ld (part := some headPart) ex).andThen .now
  have T1 : Looks (model prog w) s.heap (typeOf (.ref f)) (.type "function") := looks_typeIn X' (beq_iff_eq.mp ht)
  refine wpAny_bind (wpAny_bind (T0.here ((looks_findIn X' h1).here ?_)))
  show wpAny _ _ (if (Manifest.canonical "list.__getattribute__" != "object.__getattribute__") = true then _ else _) _ _ s
  rw [show (Manifest.canonical "list.__getattribute__" != "object.__getattribute__") = false from by decide +kernel]
  refine wpAny_bind (wpAny_bind (T0.here ((looks_findIn X' h2).here ?_)))
  refine wpAny_bind (wpAny_bind (T0.here ((looks_findIn X' h3).here ?_)))
  dsimp only
  refine wpAny_bind (T1.here ?_)
  refine wpAny_bind (wpAny_loadPart ex ?_)
  dsimp only
  refine wpAny_bind ((show Looks (model prog w) s.heap (nsGet dx name) none from (Looks.ld ed).andThen (Looks.of_pure (nsLook_of (by rw [lookIn_dict]; exact hl)))).here ?_)
  exact wpAny_bind (wpAny_rule (wpAny_pure h))
theorem off1 {a : Addr} {oa : Obj} {r : Cells} (h : ∀ q ∈ r, q.1 ≠ a) : ∀ p ∈ [(a, oa)], ∀ q ∈ r, p.1 ≠ q.1 := fun p hp q hq => by
  rw [List.mem_singleton.mp hp]; exact (h q hq).symm
theorem off2 {a b : Addr} {oa ob : Obj} {r : Cells} (h : ∀ q ∈ r, q.1 ≠ a) (k : ∀ q ∈ r, q.1 ≠ b) : ∀ p ∈ [(a, oa), (b, ob)], ∀ q ∈ r, p.1 ≠ q.1 := fun p hp q hq => by
  rcases List.mem_cons.mp hp with rfl | hp
  · exact (h q hq).symm
  · rw [List.mem_singleton.mp hp]; exact (k q hq).symm
theorem offL {d : Addr} {o : Cells} (h : AllLt d o) : ∀ p ∈ o, p.1 ≠ d := by
  induction o with
  | nil => intro p hp; cases hp
  | cons a r ih =>
    intro p hp
    rcases List.mem_cons.mp hp with rfl | hp
    · exact Nat.ne_of_lt h.1
    · exact ih h.2 p hp
theorem allLt_at {d : Addr} {o : Cells} (h : AllLt d o) {p : Addr × Obj} (hp : p ∈ o) : p.1 < d := by
  induction o with
  | nil => cases hp
  | cons a r ih =>
    rcases List.mem_cons.mp hp with rfl | hp
    · exact h.1
    · exact ih h.2 hp
theorem subC {a b : Cells} (h : a.Sublist b) : ∀ p ∈ a, p ∈ b := fun _ hp => h.subset hp
end
end Mine

-- MOrd
namespace Mine
theorem lt_same (c : Nat) (r t : List Nat) : ltCps (c :: r) (c :: t) = ltCps r t := by
  show (decide (c < c) || (c == c && ltCps r t)) = _
  simp
theorem lt_enc : ∀ a b : List Bool, ltCps (encL a) (encL b) = ltB a b
  | [], [] => rfl
  | [], b :: r => by cases b <;> rfl
  | a :: l, [] => by cases a <;> rfl
  | true :: l, true :: r => by
    show ltCps (38 :: encL l) (38 :: encL r) = _
    rw [lt_same, lt_enc l r]; simp [ltB]
  | false :: l, false :: r => by
    show ltCps (97 :: 109 :: 112 :: 59 :: encL l) (97 :: 109 :: 112 :: 59 :: encL r) = _
    rw [lt_same, lt_same, lt_same, lt_same, lt_enc l r]; simp [ltB]
  | true :: l, false :: r => by
    show (decide (38 < 97) || _) = _
    simp [ltB]
  | false :: l, true :: r => by
    show (decide (97 < 38) || (97 == 38 && _)) = _
    simp [ltB]
theorem lt_mkW (c1 c2 : Nat) (a b : List Bool) : ltCps (mkW c1 c2 a).cps.toList (mkW c1 c2 b).cps.toList = ltB a b := by
  rw [mkW_cps, mkW_cps, lt_same, lt_same, lt_enc]
end Mine

-- MCnt
section
namespace Mine
open Builtin Builtin.Str StrLaws
/-- count, on signs -/
noncomputable def cntL (y : List Nat) : Nat → List Nat → Nat
  | _, [] => 0
  | k + 1, _ :: l => cntL y k l
  | 0, c :: l => if (c :: l).take y.length = y then 1 + cntL y (y.length - 1) l else cntL y 0 l
theorem cnt_skip (y : List Nat) : ∀ (k : Nat) (l : List Nat), cntL y k l = cntL y 0 (l.drop k)
  | 0, _ => rfl
  | _ + 1, [] => rfl
  | k + 1, _ :: l => cnt_skip y k l
theorem cnt_hit {y l : List Nat} (hy : 1 ≤ y.length) (h : l.take y.length = y) : cntL y 0 l = 1 + cntL y 0 (l.drop y.length) := by
  cases l with
  | nil => rw [List.take_nil] at h; subst h; simp at hy
  | cons c l =>
    show (if (c :: l).take y.length = y then 1 + cntL y (y.length - 1) l else cntL y 0 l) = _
    rw [if_pos h, cnt_skip]
    obtain ⟨k, hk⟩ : ∃ k, y.length = k + 1 := ⟨y.length - 1, by omega⟩
    rw [hk]; rfl
theorem cnt_miss {y l : List Nat} {c : Nat} (h : (c :: l).take y.length ≠ y) : cntL y 0 (c :: l) = cntL y 0 l := by
  show (if (c :: l).take y.length = y then 1 + cntL y (y.length - 1) l else cntL y 0 l) = _
  rw [if_neg h]
theorem cnt_to {x y : Str} (hy : 1 ≤ y.length) {c : Nat} : ∀ (m a : Nat), a + m = c → c ≤ x.length → (∀ k, a ≤ k → k < c → ¬ At x y x.length k) →
    cntL y.cps.toList 0 (x.cps.toList.drop a) = cntL y.cps.toList 0 (x.cps.toList.drop c)
  | 0, a, h, _, _ => by rw [show a = c by omega]
  | m + 1, a, h, hc, hn => by
    have hl : a < x.cps.toList.length := by simp only [Array.length_toList]; show a < x.length; omega
    have ih := cnt_to hy m (a + 1) (by omega) hc fun k h1 h2 => hn k (by omega) h2
    rw [List.drop_eq_getElem_cons hl]
    have hm := hn a (Nat.le_refl _) (by omega)
    rw [at_iff hy, List.drop_eq_getElem_cons hl] at hm
    rw [cnt_miss hm, ih]
theorem cnt_parts {x y : Str} (hy : 1 ≤ y.length) : ∀ (cuts : List Nat) (a f : Nat), ChainG x y x.length a cuts f → (∀ k, f ≤ k → ¬ At x y x.length k) → a ≤ x.length → cuts.length = cntL y.cps.toList 0 (x.cps.toList.drop a)
  | [], a, f, h, hn, ha => by
    have e : f = a := h
    subst e
    have := cnt_to (x := x) hy (c := x.length) (x.length - f) f (by omega) (Nat.le_refl _) fun k h1 _ => hn k h1
    rw [this]
    have e2 : x.cps.toList.drop x.length = [] := List.drop_eq_nil_of_le (by simp only [Array.length_toList]; exact Nat.le_refl _)
    rw [e2]; rfl
  | c :: r, a, f, h, hn, ha => by
    obtain ⟨h1, h2, h3, h4⟩ := h
    have hc : c + y.length ≤ x.length := h2.1
    have ih := cnt_parts hy r _ f h4 hn hc
    have := cnt_to (x := x) hy (c := c) (c - a) a (by omega) (by omega) h3
    rw [this, cnt_hit (by exact hy) ((at_iff hy).mp h2)]
    have e3 : (y.cps.toList).length = y.length := Array.length_toList
    rw [List.drop_drop, e3, ← ih, List.length_cons]; omega
theorem count_cnt (x y : Str) (hy : 1 ≤ y.length) : Txt.count x y = (cntL y.cps.toList 0 x.cps.toList : Int) := by
  obtain ⟨f, hc, hn⟩ := occ_tight x y hy
  have key := cnt_parts hy _ _ f hc hn (Nat.zero_le _)
  rw [List.drop_zero] at key
  show ((_ : Nat) : Int) = _
  rw [← key]
theorem cnt_and : ∀ l : List Bool, cntL [38] 0 (encL l) = l.count true
  | [] => rfl
  | true :: l => by
    show cntL [38] 0 (38 :: encL l) = _
    rw [cnt_hit (by decide) (by simp)]
    show 1 + cntL [38] 0 (encL l) = _
    rw [cnt_and l, List.count_cons_self]; omega
  | false :: l => by
    show cntL [38] 0 (97 :: 109 :: 112 :: 59 :: encL l) = _
    rw [cnt_miss (by simp), cnt_miss (by simp), cnt_miss (by simp), cnt_miss (by simp), cnt_and l]
    simp
theorem cnt_amp : ∀ l : List Bool, cntL [97, 109, 112, 59] 0 (encL l) = l.count false
  | [] => rfl
  | true :: l => by
    show cntL _ 0 (38 :: encL l) = _
    rw [cnt_miss (by simp), cnt_amp l]
    simp
  | false :: l => by
    show cntL _ 0 (97 :: 109 :: 112 :: 59 :: encL l) = _
    rw [cnt_hit (by decide) (by simp)]
    show 1 + cntL _ 0 (encL l) = _
    rw [cnt_amp l, List.count_cons_self]; omega
theorem count_mkW {c1 c2 : Nat} (h1 : c1 ∈ nmC) (h2 : c2 ∈ nmC) (l : List Bool) : (Txt.count (mkW c1 c2 l) (Str.ofString "&"), Txt.count (mkW c1 c2 l) (Str.ofString "amp;")) = cnt l := by
  have n1 := nmC_ne h1
  have n2 := nmC_ne h2
  rw [count_cnt _ _ (by decide), count_cnt _ _ (by decide), lit_and, lit_amp, mkW_cps]
  rw [cnt_miss (by simp [n1]), cnt_miss (by simp [n2]), cnt_and]
  rw [cnt_miss (by intro h; exact n1.2.2.1 (List.cons.inj h).1), cnt_miss (by intro h; exact n2.2.2.1 (List.cons.inj h).1), cnt_amp]
  rfl
end Mine

end
-- MSort
namespace Mine
theorem StrsAre.rev {vs : List Value} {ss : List Str} (h : StrsAre vs ss) : StrsAre vs.reverse ss.reverse := by
  have h1 := strsAre_map vs.reverse (fun v hv => h.all v (List.mem_reverse.mp hv))
  rwa [List.map_reverse, h.strs] at h1
/-- texts sorted downwards -/
theorem outDown {vs : List Value} {ss : List Str} (hS : StrsAre vs ss) {xs : Array Keyed} (hp : xs.Perm (pairsOf vs)) (hs : SortedToK strKind xs (pairsOf vs).size) :
    ∃ ss', StrsAre ((xs.map (·.2)).reverse).toList ss' ∧ ss'.Perm ss ∧ sortedS ss'.reverse = true := by
  obtain ⟨ss', h1, h2, h3⟩ := sorted_out_str hS hp hs
  exact ⟨ss'.reverse, by rw [Array.toList_reverse]; exact StrsAre.rev h1, (List.reverse_perm _).trans h2, by rw [List.reverse_reverse]; exact h3⟩
section
variable {prog : Program} {w : World} {A : Around} {E : Value → Shared → Prop} {s : Shared}
theorem sortDownTree {a : Addr} {vs : List Value} {ss : List Str} {n : Nat} {P : PySem.Fin → Shared → Prop} (ho : s.heap.get? a = some (seqObj "list" vs.toArray n)) (hS : StrsAre vs ss) (h64 : vs.length < 64)
    (h : ∀ st' : SortSt, (arrOf st').Perm (pairsOf vs) → SortedToK strKind (arrOf st') (pairsOf vs).size → P (.done (.ret .none)) { s with heap := sortedHeap s.heap a vs ((arrOf st').map (·.2)).reverse }) :
    wpAny (model prog w) A (Builtin.«list.sort» ⟨[.ref a], [(Str.ofString "reverse", .bool true)]⟩) P E s := by
  rw [list_sort_rev]
  have ha : a < s.heap.objs.size := Heap.lt_size ho
  refine wpAny_bind (listItems_at ho rfl (wpAny_bind (listUpdate_at ho rfl ?_)))
  obtain ⟨e1, ho1⟩ : ∃ e1, (s.heap.update a (Obj.mapSeq fun _ => #[])).get? a = some (seqObj "list" #[] e1) := ⟨_, get?_update_seq ho (fun _ => #[])⟩
  refine wpAny_bind (seqEpoch_at ho1 rfl (wpAny_bind (wpAny_newTuple (wpAny_bind (wpAny_newList (wpAny_holding ?_))))))
  have ho6 : (((s.heap.update a (Obj.mapSeq fun _ => #[])).push (seqObj "tuple" vs.toArray 0)).push (seqObj "list" #[] 0)).get? a = some (seqObj "list" #[] e1) := by
    rw [Heap.get?_push_ne _ _ _ (by rw [size_push', Heap.size_update]; exact Nat.ne_of_lt (Nat.lt_succ_of_lt ha)), Heap.get?_push_ne _ _ _ (by rw [Heap.size_update]; exact Nat.ne_of_lt ha)]
    exact ho1
  show wpAny (model prog w) A _ P E { s with heap := ((s.heap.update a (Obj.mapSeq fun _ => #[])).push (seqObj "tuple" vs.toArray 0)).push (seqObj "list" #[] 0) }
  have hstart : (vs.toArray.zip vs.toArray).reverse.Perm (pairsOf vs) := Array.perm_iff_toList_perm.mpr (by rw [Array.toList_reverse]; exact List.reverse_perm _)
  simp only [if_true]
  refine wpAny_bind (wpAny_rule ?_)
  by_cases h2 : vs.toArray.size < 2
  · rw [if_pos h2, if_pos h2]
    refine wpAny_bind (wpAny_pure ?_)
    rw [StateT.run_pure]
    refine wpAny_bind (wpAny_pure ?_)
    dsimp only
    refine wpAny_bind (seqEpoch_at ho6 rfl ?_)
    refine wpAny_bind (listUpdate_at ho6 rfl ?_ (hsz2 := by
      simp only [Array.size_reverse, Array.size_map]; show (vs.toArray.zip vs.toArray).reverse.size ≤ _; rw [Array.size_reverse, Array.size_zip, sizeLine_eq]; omega))
    simp only [bne_self_eq_false, Bool.false_eq_true, if_false]
    refine wpAny_pure (h (SortSt.mk' general' (vs.toArray.zip vs.toArray).reverse #[] 7 none) hstart ?_)
    intro i j hij hj
    have hs : (pairsOf vs).size = vs.length := pairsOf_size _
    have hs2 : vs.toArray.size = vs.length := by simp
    have : i = j := by omega
    subst this; exact KeyOrd.kle_refl _
  · rw [if_neg h2, if_neg h2]
    obtain ⟨v₁, v₂, rest, rfl⟩ : ∃ v₁ v₂ rest, vs = v₁ :: v₂ :: rest := by
      match vs, h2 with
      | [], h2 => simp at h2
      | [_], h2 => simp at h2
      | v₁ :: v₂ :: rest, _ => exact ⟨v₁, v₂, rest, rfl⟩
    rw [keyKind_strs hS]
    refine wpAny_bind (wpAny_pure ?_)
    refine wpAny_bind (wpAny_mono (wpS_sortRunsK (κ := strKind) strKind_oneLt (a₀ := pairsOf (v₁ :: v₂ :: rest)) (st := SortSt.mk' oneType' ((v₁ :: v₂ :: rest).toArray.zip (v₁ :: v₂ :: rest).toArray).reverse #[] 7 none)
      (Q := fun _ st' => (arrOf st').Perm (pairsOf (v₁ :: v₂ :: rest)) ∧ failedOf st' = none ∧ SortedToK strKind (arrOf st') (pairsOf (v₁ :: v₂ :: rest)).size)
      hS.keysOf ⟨hstart, rfl, rfl, rfl⟩ (by rw [pairsOf_size]; simp) (by rw [pairsOf_size]; exact h64) fun st' a1 a2 a3 => ⟨a1, a2, a3⟩) ?_ fun _ _ e => e)
    rintro ⟨⟨⟩, st'⟩ s' ⟨rfl, hp, hf, hs⟩
    dsimp only
    refine wpAny_bind (seqEpoch_at ho6 rfl ?_)
    refine wpAny_bind (listUpdate_at ho6 rfl ?_ (hsz2 := by
      rw [Array.size_reverse]
      refine Nat.le_trans (Nat.le_of_eq ((Array.size_map ..).trans (hp.size_eq.trans (pairsOf_size _)))) ?_; rw [sizeLine_eq]; omega))
    rw [hf]
    simp only [bne_self_eq_false, Bool.false_eq_true, if_false]
    exact wpAny_pure (h st' hp hs)
theorem sortDown {h₀ : Heap} {L : Addr} {m : Str → Option Value} {news : List (Addr × Obj)} {l : Addr} {vs : List Value} {ss : List Str} {Q : Value → Shared → Prop}
    (F : Fr h₀ L s.heap m) (N : News h₀ L s.heap news) (hl : s.heap.IsList l vs.toArray) (hS : StrsAre vs ss) (h64 : vs.length < 64)
    (h : ∀ (D : Addr) (h' : Heap) (vs' : List Value) (ss' : List Str) (e : Nat), Fr h₀ L h' m → News h₀ L h' ((D, W.listOf vs'.toArray e) :: news) → StrsAre vs' ss' → ss'.Perm ss → sortedS ss'.reverse = true → (∀ p ∈ news, p.1 ≠ D) → Q (.ref D) { s with heap := h' }) :
    wpAny (model prog w) A (call (.builtin "sorted") [.ref l] [(Str.ofString "reverse", .bool true)]) Q E s := by
  refine call_function_entry_kw kind_sorted plain_sorted entry_sorted (args_sorted_rev _ _) ?_
  unfold Builtin.«sorted»
  refine wpAny_bind (m := checkCount "sorted" 1 1 _) (wpAny_pure (wpAny_bind (collect_list hl (wpAny_bind (wpAny_newList ?_)))))
  have hsz : ((s.heap.push (seqObj "list" #[] 0)).update s.heap.objs.size (Obj.mapSeq (· ++ vs.toArray))).objs.size = s.heap.objs.size + 1 := by
    rw [Heap.size_update, size_push']
  have hoL : (((s.heap.push (seqObj "list" #[] 0)).update s.heap.objs.size (Obj.mapSeq (· ++ vs.toArray))).push (seqObj "list" vs.toArray 0)).get? (s.heap.objs.size + 1) = some (seqObj "list" vs.toArray 0) := by
    rw [← hsz]; exact Heap.get?_push_size _ rfl
  show wpAny _ _ _ _ _ { s with heap := ((s.heap.push (seqObj "list" #[] 0)).update s.heap.objs.size (Obj.mapSeq (· ++ vs.toArray))).push (seqObj "list" vs.toArray 0) }
  rw [hsz]
  refine wpAny_bind (wpAny_holding (wpAny_call_entry_kw slot_list_sort ⟨_, hoL, rfl⟩ entry_list_sort (sortDownTree hoL hS h64 fun st' a1 a2 => ⟨_, rfl, ?_⟩) (args_list_sort_rev _ _)))
  obtain ⟨ss', h1, h2, h3⟩ := outDown hS a1 a2
  obtain ⟨e, he⟩ := sortedAll_at s.heap vs ((arrOf st').map (·.2)).reverse
  refine wpAny_pure ⟨_, rfl, h _ _ ((arrOf st').map (·.2)).reverse.toList ss' e (F.kept fun _ _ => sortedAll_old) (N.kept_cons F (fun _ _ => sortedAll_old) (Nat.le_succ _) he) h1 h2 h3 fun p hp => ?_⟩
  exact Nat.ne_of_lt (Nat.lt_succ_of_lt (Heap.lt_size (N p hp).1))
end
end Mine

-- MUniq
namespace Mine
noncomputable def downS (ys : List Str) : Prop := ys.Pairwise fun a b => ltCps a.cps.toList b.cps.toList = false
theorem rising_all : ∀ (p : Str) (l : List Str), risingS p l = true → (∀ x ∈ l, ¬ x.cps.toList < p.cps.toList) ∧ l.Pairwise fun a b => ¬ b.cps.toList < a.cps.toList
  | _, [], _ => ⟨fun _ h => (nomatch h), .nil⟩
  | p, x :: r, h => by
    have h' : (!ltCps x.cps.toList p.cps.toList && risingS x r) = true := h
    rw [Bool.and_eq_true, Bool.not_eq_true', ltCps_eq, decide_eq_false_iff_not] at h'
    obtain ⟨a, b⟩ := rising_all x r h'.2
    have le1 : p.cps.toList ≤ x.cps.toList := List.not_lt.mp h'.1
    refine ⟨fun y hy => ?_, List.pairwise_cons.mpr ⟨a, b⟩⟩
    rcases List.mem_cons.mp hy with rfl | hy
    · exact h'.1
    · exact List.not_lt.mpr (List.le_trans le1 (List.not_lt.mp (a y hy)))
theorem sorted_pw (l : List Str) (h : sortedS l = true) : l.Pairwise fun a b => ¬ b.cps.toList < a.cps.toList := by
  cases l with
  | nil => exact .nil
  | cons x r =>
    obtain ⟨a, b⟩ := rising_all x r h
    exact List.pairwise_cons.mpr ⟨a, b⟩
theorem down_unique : ∀ (xs ys : List Str), xs.Perm ys → (xs.Pairwise fun a b => ¬ a.cps.toList < b.cps.toList) → (ys.Pairwise fun a b => ¬ a.cps.toList < b.cps.toList) → xs = ys
  | [], ys, p, _, _ => (List.nil_perm.mp p).symm ▸ rfl
  | x :: xs, [], p, _, _ => absurd (List.perm_nil.mp p) (List.cons_ne_nil _ _)
  | x :: xs, y :: ys, p, hx, hy => by
    obtain ⟨x1, x2⟩ := List.pairwise_cons.mp hx
    obtain ⟨y1, y2⟩ := List.pairwise_cons.mp hy
    have e : x = y := by
      rcases List.mem_cons.mp (p.subset (.head _)) with e | m
      · exact e
      · rcases List.mem_cons.mp (p.symm.subset (.head _)) with e | m'
        · exact e.symm
        · exact str_ext (List.le_antisymm (List.not_lt.mp (y1 _ m)) (List.not_lt.mp (x1 _ m')))
    subst e
    rw [down_unique xs ys (List.Perm.cons_inv p) x2 y2]
theorem down_eq {xs ys : List Str} (p : xs.Perm ys) (h : sortedS xs.reverse = true) (k : downS ys) : xs = ys := by
  refine down_unique xs ys p ?_ ?_
  · exact List.pairwise_reverse.mp (sorted_pw _ h)
  · refine k.imp fun {a b} q => ?_
    rw [ltCps_eq, decide_eq_false_iff_not] at q
    exact q
/-- what Good says of a word's levels -/
theorem good_lev {l : List Bool} (h : Good l = true) {n : Nat} (hn : n < 4) : (lev false n l).map cnt = cseq (2 ^ n) ((cnt l).1, (cnt l).2 + n * (cnt l).1) ∧ (lev true n l).Perm (lev false n l) ∧ ((lev true n l).Pairwise fun a b => ltB a b = false) ∧ (∀ u ∈ lev false n l, u.length ≤ 100) ∧ (∀ u ∈ lev true n l, u.length ≤ 100) := by
  have := List.all_eq_true.mp h n (List.mem_range.mpr hn)
  simp only [Bool.and_eq_true, beq_iff_eq, decide_eq_true_eq, List.all_eq_true] at this
  obtain ⟨⟨⟨⟨a, b⟩, c⟩, d⟩, e⟩ := this
  exact ⟨a, b, c, d, e⟩
theorem lev_len : ∀ (a : Bool) (n : Nat) (l : List Bool), (lev a n l).length = 2 ^ n
  | _, 0, _ => rfl
  | false, n + 1, l => by
    have ih := lev_len false n l
    have e : ∀ ws : List (List Bool), (kids ws).length = 2 * ws.length := fun ws => by
      induction ws with
      | nil => rfl
      | cons u ws ih => unfold kids at ih ⊢; rw [List.flatMap_cons, List.length_append, ih]; simp; omega
    show (kids _).length = _
    rw [e, ih, Nat.pow_succ]; omega
  | true, n + 1, l => by
    have ih := lev_len true n l
    show (kids2 _).length = _
    unfold kids2
    rw [List.length_append, List.length_map, List.length_map, ih, Nat.pow_succ]; omega
theorem down_lev {l : List Bool} (h : Good l = true) {n : Nat} (hn : n < 4) (c1 c2 : Nat) {xs : List Str} (p : xs.Perm ((lev false n l).map (mkW c1 c2))) (k : sortedS xs.reverse = true) : xs = (lev true n l).map (mkW c1 c2) := by
  obtain ⟨-, q, r, -, -⟩ := good_lev h hn
  refine down_eq (p.trans (q.symm.map _)) k ?_
  unfold downS
  rw [List.pairwise_map]
  refine r.imp fun {a b} e => ?_
  rw [lt_mkW]; exact e
/-- the words of a floor, and the two behind each -/
theorem kids_at (ws : List (List Bool)) : ∀ (k : Nat) (u : List Bool), ws[k]? = some u → (kids ws)[2 * k]? = some (eL u) ∧ (kids ws)[2 * k + 1]? = some (oL u) := by
  induction ws with
  | nil => intro k u h; simp at h
  | cons v ws ih =>
    intro k u h
    cases k with
    | zero => cases h; exact ⟨rfl, rfl⟩
    | succ k =>
      have := ih k u h
      have e : kids (v :: ws) = eL v :: oL v :: kids ws := rfl
      rw [e, show 2 * (k + 1) = 2 * k + 1 + 1 by omega]
      exact this
end Mine

-- U1
namespace Mine
/-- a contract that leans on what the base holds -/
noncomputable def DoesP (P : Heap → Prop) (K : Frag) (prog : Program) (w : World) (k : Nat) (f : Addr) (vs : List Value) (res : Value → Cells → Prop) : Prop :=
  ∀ (dp un : Nat) (gd : Option (List Code)) (fr : List Env) (h₀ : Heap) (s : Shared) (R : Result → Shared → Prop),
    Gd K h₀ → P h₀ → (∀ b o, h₀.get? b = some o → s.heap.get? b = some o) → dp + k < recursionLimit → un + 20 * k < cLine →
    (∀ v h' tk own', res v own' → Sits h₀ h' own' → R (.ok (.ret v)) { s with heap := h', toks := tk }) →
    codeAny (model prog w) (arT dp un gd fr) (.call (.ref f) ⟨vs, []⟩) R s
section
variable {P : Heap → Prop} {K : Frag} {prog : Program} {w : World} {k : Nat} {f : Addr} {vs : List Value} {news : Cells} {res : Value → Cells → Prop}
  {oc : Value} {od an : Option Addr} {osl : Array (Option Value)} {name qual : Str} {params : Arguments} {body : List Stmt} {scope : Scope} {cl : List (Str × Addr)} {dV kV doc pm cdv ct : Value} {binds : List (Str × Value)}
theorem enterP (ho : K.lookup f = some ⟨oc, od, .func (fnX name qual params body scope cl dV kV doc pm an cdv ct), osl⟩) (hcd : codeIn K cdv qual = true)
    (hbind : ∀ s : Shared, K.In s.heap → BindsTo s (fnX name qual params body scope cl dV kV doc pm an cdv ct) ⟨vs, []⟩ binds) (hloc : ∀ y ∈ binds, scope.names.lookup y.1 = some .local)
    (h : ∀ (dp un : Nat) (gd : Option (List Code)) (fr : List Env) (g : Heap) (L : Addr) (s : Shared) (PP : Value → Shared → Prop), (∀ v s', Fin g L s res v s' → PP v s') → Gd K g → P g → Fr g L s.heap (fun y => binds.reverse.lookup y) → News g L s.heap [] →
      dp + k < recursionLimit → un + 20 * k < cLine →
      wpAny (model prog w) (arT (dp + 1) (un + 3) gd (envX qual scope L f cdv cl :: fr)) (execs body (envX qual scope L f cdv cl)) (fun fl s' => PP (match fl with | .ret v => v | _ => .none) s') (fun _ _ => False) s)
    (hP : ∀ h h' : Heap, (∀ b o, h.get? b = some o → h'.get? b = some o) → P h → P h') (hcell : ∀ x ∈ scope.names, x.2 ≠ .cell := by decide) (hco : scope.isCoroutine = false := by rfl) (hgen : scope.isGenerator = false := by rfl) (hk : scope.kind = .function := by rfl) (hk0 : 0 < k := by decide) :
    DoesP P K prog w k f vs res := by
  intro dp un gd fr h₀ s R G HP st hd hu hR
  have X : K.In s.heap := G.X.keeps st
  refine codeAny_call_def (fd := fnX name qual params body scope cl dV kV doc pm an cdv ct) (body := body) (binds := binds) (by show dp < recursionLimit; omega) (X _ _ ho) rfl (G.nolimit.keeps st) (codeRec_of X hcd) rfl (hbind s X) hcell hloc (fun h₁ hns hk₁ => ?_) hco hgen hk
  refine wpAny_mono (h dp un gd fr s.heap s.heap.objs.size { s with heap := h₁, toks := s.toks + binds.length } _ (fun _ _ x => x) (G.keeps st) (hP _ _ st HP) ⟨hns, fun b o e => hk₁ b o e, Nat.le_refl _⟩
    (fun p hp => nomatch hp) hd hu) (fun fl s' hl => ?_) fun _ _ y => y.elim
  obtain ⟨m', news', h', tk, rfl, F', N', r⟩ := hl
  refine hR _ h' tk news' r ⟨fun b o e => F'.keep b o (st b o e), fun p hp => ⟨(N' p hp).1, ?_⟩⟩
  cases q : h₀.get? p.1 with
  | none => rfl
  | some o => have := (N' p hp).2.2; rw [st _ _ q] at this; cases this
theorem useP {h₀ : Heap} {L : Addr} {m : Str → Option Value} {s : Shared} {dp un : Nat} {gd : Option (List Code)} {fr : List Env} {Q E : Value → Shared → Prop}
    (C : DoesP P K prog w k f vs res) (hP : P h₀) (hK : ∀ h h' : Heap, (∀ b o, h.get? b = some o → h'.get? b = some o) → P h → P h') (F : Fr h₀ L s.heap m) (N : News h₀ L s.heap news) (G : Gd K h₀) (hdp : dp + k < recursionLimit) (hun : un + 20 * k < cLine)
    (h : ∀ v h' tk own', res v own' → Fr h₀ L h' m → News h₀ L h' (own' ++ news) → (∀ p ∈ own', ∀ q ∈ news, p.1 ≠ q.1) → Q v { s with heap := h', toks := tk }) :
    wpAny (model prog w) (arT dp un gd fr) (call (.ref f) vs) Q E s := by
  obtain ⟨oL, es, ep, hL, hLd, hLk, hLf⟩ := F.ns
  refine wpAny_call (C dp un gd fr s.heap s _ (G.keeps F.keep) (hK _ _ F.keep hP) (fun b o e => e) hdp hun (fun v h' tk own' hv S' => ?_))
  refine h v h' tk own' hv ⟨⟨oL, es, ep, S'.keep L oL hL, hLd, hLk, hLf⟩, fun b o e => S'.keep b o (F.keep b o e), F.above⟩ (fun p hp => ?_) (fun p hp q hq e => ?_)
  · rcases List.mem_append.mp hp with hp | hp
    · refine ⟨(S'.own p hp).1, fun e => ?_, ?_⟩
      · have := (S'.own p hp).2; rw [e, hL] at this; cases this
      · cases q : h₀.get? p.1 with
        | none => rfl
        | some o => have := (S'.own p hp).2; rw [F.keep _ _ q] at this; cases this
    · exact ⟨S'.keep _ _ (N p hp).1, (N p hp).2⟩
  · have := (S'.own p hp).2; rw [e, (N q hq).1] at this; cases this
end
theorem IntsAre.put {vs : List Value} {is : List Int} (h : IntsAre vs is) (k : Nat) (x : Int) (t : Tok) : IntsAre (vs.set k (.int x t)) (is.set k x) := by
  induction h generalizing k with
  | nil => exact .nil
  | cons i u r ih => cases k with
    | zero => exact .cons x t r
    | succ k => exact .cons i u (ih k)
theorem heapsW {prog : Program} {w : World} (a : Addr) (items : List Value) (ns : List Int) (hI : IntsAre items ns) (hn : ns.length ≤ 63) :
    DoesP (fun h => h.IsList a items.toArray) (KH w.params) prog w 2 196 [.ref a] (fun r own => ∃ (l : Addr) (vs : List Value) (is : List Int) (n : Nat), r = .ref l ∧ own = [(l, W.listOf vs.toArray n)] ∧ IntsAre vs is ∧ is.length = 6) := by
  refine enterP (binds := [("script", .ref a)]) (by k_is) (by k_is) (fun s X => BindsTo.of_eq rfl) (locs rfl) ?_ (fun h h' k e => e.at (k a))
  intro dp un gd fr g L s PP hP G HL F N hdp hun
  obtain ⟨X, ⟨p, loose, mean, mg, mb, T⟩, codeHd⟩ := id G
  have hV : VMark := trivial
  try k_fold
  iterate 32 walk1
  rename_i l h1 l1 h2 F1 N1 Q2 hq2 hr2 h3 tk3 t3 u3 v3 hR F3 N3 hk3
  dsimp only at hR ⊢
  have hn' : (ns.length : Int) ≤ 63 := by omega
  have hsm : Builtin.Range.small 0 (ns.length : Int) 1 = true ∧ Builtin.Range.rangeSize 0 (ns.length : Int) 1 = ((ns.length : Nat) : Int) := ⟨small_one (by omega) (by omega) (by omega) (by omega), by rw [rangeSize_nat]; omega⟩
  refine rangeFor rfl F3 N3 hR hsm.1 hsm.2 (fun i m news => ∃ (o : Option Value) (vs : List Value) (is : List Int) (n : Nat), m = (fun y : Str => if y = "k" then o else if y = "heaps" then some (.ref l) else if y = "script" then some (.ref a) else none) ∧ IntsAre vs is ∧ is.length = 6 ∧ news = [(l, W.listOf vs.toArray n)]) ?_ ?_ ?_
  · refine ⟨none, _, _, 0, funext fun y => ?_, .cons 6 _ (.cons 5 _ (.cons 7 _ (.cons 2 _ (.cons 4 _ (.cons 9 _ .nil))))), rfl, rfl⟩
    have d1 : (Str.ofString "heaps" = Str.ofString "k") = False := by simp; decide
    have d2 : (Str.ofString "k" = Str.ofString "script") = False := by simp; decide
    have d3 : (Str.ofString "k" = Str.ofString "heaps") = False := by simp; decide
    by_cases h1 : y = Str.ofString "heaps"
    · subst h1; simp only [d1, if_true, if_false]
    · by_cases h2 : y = Str.ofString "k"
      · subst h2; simp only [d3, if_true, if_false]; rfl
      · simp only [h1, h2, if_false]; exact look1 rfl
  · intro I hI i t m news hi
    rintro ⟨o, vs, is, n, rfl, hv, hl, rfl⟩ it h4 tk4 F4 N4 Q3 hq3 hr3
    have nI : @Ne Nat l I := Nat.ne_of_lt (hI (l, _) (.head _))
    iterate 18 walk1
    rename_i F5 N5 l5 l6 l7
    have hb1 := Int.fmod_nonneg_of_pos (0 + (i : Int)) (b := 6) (by omega)
    have hb2 := Int.fmod_lt_of_pos (0 + (i : Int)) (b := 6) (by omega)
    refine hq3 _ _ _ _ ⟨some (.int (0 + (i : Int)) t), _, _, n, rfl, IntsAre.put hv _ _ _, ?_, rfl⟩ (frOf F5 fun y => by by_cases h : y = Str.ofString "k" <;> simp [h]) N5 (fun p hp => by rw [List.mem_singleton.mp hp]; exact nI)
    rw [List.length_set]; exact hl
  · rintro m news h5 tk5 ⟨o, vs, is, n, rfl, hv, hl, rfl⟩ F5 N5
    refine hq2 _ ?_
    iterate 3 walk1
    exact hP _ _ (Fin.intro F5 N5 ⟨l, vs, is, n, rfl, rfl, hv, hl⟩)
end Mine

-- T30a
local macro_rules | `(tactic| k_all) => `(tactic| assumption)
namespace Mine
theorem memL {α : Type} {x : α} {a b : List α} (h : x ∈ a) : x ∈ a ++ b := List.mem_append_left b h
theorem memR {α : Type} {x : α} {a b : List α} (h : x ∈ b) : x ∈ a ++ b := List.mem_append_right a h
theorem memT {α : Type} {x y : α} {b : List α} (h : x ∈ b) : x ∈ y :: b := .tail _ h
theorem memH {α : Type} {x : α} {b : List α} : x ∈ x :: b := .head _
theorem allN {α : Type} {P : α → Prop} : ∀ x ∈ ([] : List α), P x := fun _ h => nomatch h
theorem allC {α : Type} {P : α → Prop} {a : α} {l : List α} (h : P a) (k : ∀ x ∈ l, P x) : ∀ x ∈ a :: l, P x := List.forall_mem_cons.mpr ⟨h, k⟩
theorem allA {α : Type} {P : α → Prop} {l r : List α} (h : ∀ x ∈ l, P x) (k : ∀ x ∈ r, P x) : ∀ x ∈ l ++ r, P x := List.forall_mem_append.mpr ⟨h, k⟩
end Mine
local macro_rules | `(tactic| lcg_src) => `(tactic| ((try dsimp only [List.cons_append, List.nil_append]); repeat (first | with_reducible assumption | with_reducible exact Mine.memL (by assumption) | with_reducible exact Mine.memH | with_reducible exact Mine.memL (Mine.memL (by assumption)) | with_reducible exact Mine.memL (Mine.memR (by assumption)) | with_reducible refine Mine.memT ?_ | with_reducible refine Mine.memR ?_)); done)
local macro_rules | `(tactic| lcg_sub) => `(tactic| ((try dsimp only [List.cons_append, List.nil_append]); repeat' (first | with_reducible exact Mine.allN | with_reducible refine Mine.allC ?_ ?_ | with_reducible refine Mine.allA ?_ ?_ | (refine fun p' hp' => ?_; lcg_src) | lcg_src)); done)
namespace Mine
theorem offApp {a b : Cells} {d : Addr} (h : ∀ p ∈ a, p.1 ≠ d) (k : ∀ p ∈ b, p.1 ≠ d) : ∀ p ∈ a ++ b, p.1 ≠ d := List.forall_mem_append.mpr ⟨h, k⟩
noncomputable def bodyF : List Stmt := match stOf 20 with | .FunctionDef _ _ b _ _ _ _ _ _ _ => b | _ => []
noncomputable def scF : Scope := match stOf 20 with | .FunctionDef _ _ _ _ _ _ sc _ _ _ => sc | _ => ⟨.module, [], false, false, []⟩
noncomputable def outerB : List Stmt := match (bodyF[4]? : Option Stmt) with | some (.For _ _ b _ _) => b | _ => []
noncomputable def innerB : List Stmt := match (outerB[2]? : Option Stmt) with | some (.For _ _ b _ _) => b | _ => []
noncomputable abbrev envF (L : Addr) : Env := envOfC "_law_floors" scF L 234 (.ref 233)
noncomputable def HandOk (prog : Program) (w : World) (v : Value) : Prop := ∃ f : Addr, v = .ref f ∧ Writes prog w f ∧ keepIn (KH w.params) (.ref f) = true
/-- the names inside the inner loop -/
noncomputable def mIn (vO vD vW : Option Value) (la fa : Addr) (n : Int) (tn : Tok) (mB : Str → Option Value) : Str → Option Value := fun y =>
  if y = "other" then vO else if y = "word" then vD else if y = "write" then vW else if y = "laid" then some (.ref la) else if y = "floor" then some (.ref fa) else if y = "size" then some (.int n tn) else mB y
/-- the names ahead of the loops -/
noncomputable def mOut (vT vB : Option Value) (fl sx hl : Addr) (a : Bool) (tx : Str) (tt : Tok) : Str → Option Value := fun y =>
  if y = "taken" then vT else if y = "blanks" then vB else if y = "floors" then some (.ref fl) else if y = "siding" then some (.ref sx) else if y = "aside" then some (.bool a) else if y = "hands" then some (.ref hl) else if y = "text" then some (.str tx tt) else none
section
variable {prog : Program} {w : World} {A : Around} {E : Value → Shared → Prop} {s : Shared} {h₀ : Heap} {L x c2 : Addr} {oc2 : Obj} {tot : Int} {m : Str → Option Value} {news own : Cells} {q : List Str} {cs R : List Nat}
theorem LexA.cells (h : LexA prog w x c2 oc2 tot R own q) : ∃ pb cs, LexS prog w x c2 oc2 tot own pb cs := by
  rcases h with h | ⟨p, cs, -, -, -, h⟩
  · exact ⟨_, _, h⟩
  · exact ⟨_, _, h⟩
theorem methGet {pl : Sem Bool} {Q : Value × List Value → Shared → Prop} {pb : List Str} (h : LexS prog w x c2 oc2 tot own pb cs) (F : Fr h₀ L s.heap m) (X : (KH w.params).In h₀) (N : News h₀ L s.heap news) (hin : ∀ p ∈ own, p ∈ news) (hq : Q (.ref 133, [.ref x]) s) :
    wpAny (model prog w) A (getMethod (.ref x) "get_token" pl) Q E s := by
  obtain ⟨l, vs, kp, sg, ks, tl, hl, rfl, rfl, rfl, hv, hs, rfl⟩ := h
  refine method_inst (es := [_, _, _, _]) (n := 4) F X (InstAt.of_news (C := 143) (dx := l.d) N (hin _ (.head _)) (hin _ (.tail _ (.head _)))) (by k_is) (by k_is) (by k_is) (by k_get) hq
theorem methPush {pl : Sem Bool} {Q : Value × List Value → Shared → Prop} {pb : List Str} (h : LexS prog w x c2 oc2 tot own pb cs) (F : Fr h₀ L s.heap m) (X : (KH w.params).In h₀) (N : News h₀ L s.heap news) (hin : ∀ p ∈ own, p ∈ news) (hq : Q (.ref 140, [.ref x]) s) :
    wpAny (model prog w) A (getMethod (.ref x) "push_token" pl) Q E s := by
  obtain ⟨l, vs, kp, sg, ks, tl, hl, rfl, rfl, rfl, hv, hs, rfl⟩ := h
  refine method_inst (es := [_, _, _, _]) (n := 4) F X (InstAt.of_news (C := 143) (dx := l.d) N (hin _ (.head _)) (hin _ (.tail _ (.head _)))) (by k_is) (by k_is) (by k_is) (by k_get) hq
end
theorem offMap {o r r' : Cells} (h : ∀ p ∈ o, ∀ q ∈ r, p.1 ≠ q.1) (e : r'.map (·.1) = r.map (·.1)) : ∀ p ∈ o, ∀ q ∈ r', p.1 ≠ q.1 := fun p hp q hq => by
  obtain ⟨z, hz, ez⟩ := List.mem_map.mp (e ▸ List.mem_map_of_mem (f := (·.1)) hq : q.1 ∈ r.map (·.1))
  rw [← ez]; exact h p hp z hz
theorem offAt {o r : Cells} (h : ∀ p ∈ o, ∀ q ∈ r, p.1 ≠ q.1) {a : Addr} {oa : Obj} (ha : (a, oa) ∈ r) : ∀ p ∈ o, p.1 ≠ a := fun p hp => h p hp _ ha
end Mine

-- MPairs
namespace Mine
section
variable {prog : Program} {w : World} {A : Around} {E : Value → Shared → Prop} {s : Shared} {env : Env} {h₀ : Heap} {body : List Stmt} {Q : Flow → Shared → Prop} {elts : List Expr} {x1 : Nat} {pt : Pos}
/-- a loop over a list of tuples of the ledger -/
theorem pairsFor {ax : Addr} {vs : List Value} {n : Nat} {m : Str → Option Value} {news : Cells} (hh : A.handled = none) (F : Fr h₀ env.locals s.heap m) (N : News h₀ env.locals s.heap news) (hm : (ax, W.listOf vs.toArray n) ∈ news)
    (Ts : Nat → Addr) (vals : Nat → Array Value) (hvs : ∀ j, j < vs.length → vs[j]? = some (.ref (Ts j))) (hT : ∀ j, j < vs.length → (Ts j, ({ cls := .type "tuple", data := .seq (vals j) } : Obj)) ∈ news)
    (Inv : Nat → (Str → Option Value) → Cells → Prop) (h0 : Inv 0 m news)
    (step : ∀ I : Addr, (∀ p ∈ news, p.1 < I) → ∀ i T m₁ news₁ own h tk, i < vs.length → Inv i m₁ news₁ → (∀ p ∈ own, p.1 = I ∨ p.1 = ax ∨ ∃ j, j < vs.length ∧ p.1 = Ts j) → (∃ oi, (I, oi) ∈ own) → (∀ p ∈ news₁, p.1 ≠ I) → IsTup h T (vals i) → Fr h₀ env.locals h m₁ → News h₀ env.locals h (own ++ news₁) → ∀ Q' : Flow → Shared → Prop,
      (∀ h' tk' m' news', Inv (i + 1) m' news' → Fr h₀ env.locals h' m' → News h₀ env.locals h' (own ++ news') → (∀ p ∈ news', p.1 ≠ I) → Q' .next { s with heap := h', toks := tk' }) → (∀ v s', Q (.ret v) s' → Q' (.ret v) s') →
      wpAny (model prog w) A (assign (.Tuple elts x1 pt) env (.ref T)) (fun _ s₃ => wpAny (model prog w) A (execs body env) Q' E s₃) E { s with heap := h, toks := tk })
    (fin : ∀ m' news' h' tk, Inv vs.length m' news' → Fr h₀ env.locals h' m' → News h₀ env.locals h' news' → Q .next { s with heap := h', toks := tk }) :
    wpAny (model prog w) A (pyIter (.ref ax)) (fun it s₂ => TurnsAt prog w A h₀ env (.Tuple elts x1 pt) body Q E it s₂) E s := by
  have hax := N _ hm
  have hl : s.heap.IsList ax vs.toArray := ⟨_, hax.1, rfl, n, rfl⟩
  have hlt : ax < s.heap.objs.size := Heap.lt_size hax.1
  have hne : ax ≠ s.heap.objs.size := Nat.ne_of_lt hlt
  refine wpAny_pyIter_list hl ?_
  have hsz : vs.toArray.size = vs.length := by simp
  have W := WalksU.listOfTuples (prog := prog) (w := w) hh s.heap.objs.size ax hne vs.toArray Ts vals (fun j hj => by rw [hsz] at hj; simpa using hvs j hj) (fun j hj => by rw [hsz] at hj; exact Nat.ne_of_lt (Heap.lt_size (N _ (hT j hj)).1))
  rw [hsz] at W
  have hnew := next_is_new F
  have inI : ∀ p ∈ news, p.1 < s.heap.objs.size := fun p hp => Heap.lt_size (N p hp).1
  have fpm : ∀ b, b ∈ s.heap.objs.size :: ax :: (List.range vs.length).map Ts → b = s.heap.objs.size ∨ b = ax ∨ ∃ j, j < vs.length ∧ b = Ts j := fun b hb => by
    simp only [List.mem_cons, List.mem_map, List.mem_range] at hb
    rcases hb with hb | hb | ⟨j, hj, e⟩
    · exact .inl hb
    · exact .inr (.inl hb)
    · exact .inr (.inr ⟨j, hj, e.symm⟩)
  refine ⟨_, _, _, vs.length, _, _, _, m, news, fun i m₁ news₁ => Inv i m₁ news₁, rfl, KTurns.ofWalksU (elts := elts) (k := x1) (pos := pt) W, ?_, ?_, ?_, ?_, F.push _, (fun p hp => ⟨Heap.get?_push_of_some _ (N p hp).1, (N p hp).2⟩), h0, ?_, ?_⟩
  · intro hb
    rcases fpm _ hb with e | e | ⟨j, hj, e⟩
    · exact absurd F.ns.lt (e ▸ Nat.lt_irrefl _)
    · exact (N _ hm).2.1 e.symm
    · exact (N _ (hT j hj)).2.1 e.symm
  · intro b hb
    rw [List.mem_singleton.mp hb]
    exact hnew
  · intro p hp hI
    exact absurd (inI p hp) ((List.mem_singleton.mp hI) ▸ Nat.lt_irrefl _)
  · refine ⟨⟨_, Heap.get?_push_size _ rfl, rfl, rfl⟩, hl.at fun o e => Heap.get?_push_of_some _ e, fun k hk => ?_⟩
    exact ⟨_, Heap.get?_push_of_some _ (N _ (hT k hk)).1, rfl, _, rfl⟩
  · rintro i v m₁ news₁ h₁ tk₁ own hi ⟨T, vals', rfl, rfl, hT'⟩ hI hoff hof hown hback st F₁ N₁
    refine wpAny_mono (step s.heap.objs.size inI i T m₁ news₁ own h₁ tk₁ hi hI (fun p hp => fpm _ (hof p hp)) (by obtain ⟨o, eo, -⟩ := st.1; exact ⟨o, hback _ (.head _) hnew o eo⟩) (fun p hp q => hoff p hp (by rw [q]; exact .head _)) hT' F₁ N₁ (LoopStepV h₀ env.locals [s.heap.objs.size] own (fun m₁ news₁ => Inv (i + 1) m₁ news₁) { s with heap := h₁, toks := tk₁ } (fun v s' => Q (.ret v) s') fun s' => Q .next s') ?_ (fun v s' q => q)) (fun _ _ q => q) fun _ _ q => q
    intro h' tk' m' news' hI' F' N' hoff'
    exact LoopStepU.intro F' N' (fun p hp q => hoff' p hp (List.mem_singleton.mp q)) hI'
  · exact fun h' tk m' news' F' N' _ hI => fin m' news' h' tk hI F' N'
end
end Mine

-- T31a
namespace Mine
theorem turnedW {prog : Program} {w : World} {c1 c2 : Nat} (h1 : c1 ∈ nmC) (h2 : c2 ∈ nmC) (l : List Bool) (hl : l.length ≤ 1000) (t : Tok) :
   Does (KH w.params) prog w 2 229 [.str (mkW c1 c2 l) t] [] (fun r own => ∃ t', r = .str (mkW c1 c2 (nL l)) t' ∧ own = []) := by
  have e0 : (mkW c1 c2 l).cps.size ≤ 5000 := by have := mkW_size c1 c2 l; omega
  have e1 : (Txt.replace (mkW c1 c2 l) (Str.ofString "amp;") (Str.ofString "*")).cps.size ≤ 25000 := by
    have h5 := rep_len (Str.ofString "amp;").cps.toList (Str.ofString "*").cps.toList (by decide) 0 (mkW c1 c2 l).cps.toList
    rw [← replace_rep _ _ _ (by decide), Array.length_toList, Array.length_toList] at h5
    omega
  have e2 : (Txt.replace (Txt.replace (mkW c1 c2 l) (Str.ofString "amp;") (Str.ofString "*")) (Str.ofString "&") (Str.ofString "amp;")).cps.size ≤ 125000 := by
    have h5 := rep_len (Str.ofString "&").cps.toList (Str.ofString "amp;").cps.toList (by decide) 0 (Txt.replace (mkW c1 c2 l) (Str.ofString "amp;") (Str.ofString "*")).cps.toList
    rw [← replace_rep _ _ _ (by decide), Array.length_toList, Array.length_toList] at h5
    omega
  refine (turned (mkW c1 c2 l) t (Nat.le_trans e0 (by decide)) (Nat.le_trans e1 (by decide)) (Nat.le_trans e2 (by decide))).post ?_
  rintro v o ⟨t', rfl, rfl⟩
  exact ⟨t', by rw [turnd_mkW h1 h2], rfl⟩
/-- the tuple that a turn lays -/
noncomputable def blk (i : Nat) : Str := Txt.mul (Str.ofString " ") (0 + (i : Int))
noncomputable abbrev tupO (i : Nat) (c1 c2 : Nat) (l : List Bool) (b e : Tok) : Obj := { cls := .type "tuple", data := .seq #[.str (blk i) b, .str (mkW c1 c2 l) e] }
noncomputable def TurnEnd (prog : Program) (w : World) (x c2 : Addr) (oc2 : Obj) (tot : Int) (R : List Nat) (a : Bool) (q : List Str) (d1 d2 : Nat) (u : List Bool) (i : Nat) (lv sv : List Value) (o1 tc : Cells) (lv' sv' : List Value) : Prop :=
  (a = false ∧ LexS prog w x c2 oc2 tot o1 (q ++ [mkW d1 d2 (oL u)]) R ∧ tc = [] ∧ lv' = lv ∧ sv' = sv) ∨
  (a = true ∧ LexS prog w x c2 oc2 tot o1 q R ∧ ∃ p1 p2 b1 b2 e1 e2, tc = [(p2, tupO i d1 d2 (oL u) b2 e2), (p1, tupO i d1 d2 (oL u) b1 e1)] ∧ lv' = lv ++ [.ref p2] ∧ sv' = sv ++ [.ref p1])
section
variable {prog : Program} {w : World} {g : Heap} {L : Addr} {dp un : Nat} {gd : Option (List Code)} {fr : List Env} {E : Value → Shared → Prop}
theorem turnC (G : Gd (KH w.params) g) (hdp : dp + 20 < recursionLimit) (hun : un + 400 < cLine) {a : Bool} {tx : Str} {tt : Tok} {fl sx sdx hl fa la I x c2 : Addr} {it oc oc2 : Obj} {hvs fv lv sv : List Value} {nh nf nl ns e : Nat} {es : List DictEntry} {vT vB vO vD vW : Option Value}
    {n i : Nat} {tn ti : Tok} {tot : Int} {R : List Nat} {o1 o3 : Cells} {u : List Bool} {d1 d2 : Nat} {q : List Str} {s : Shared} {h : Heap} {tk : Nat}
    (hd1 : d1 ∈ nmC) (hd2 : d2 ∈ nmC) (hu : u.length ≤ 200) (hq : q.length < 900) (hx : LexS prog w x c2 oc2 tot o1 q R) {wf : Addr} {t2 t6 : Tok} (hi : i < n) (hn : n ≤ 4) (hoc : oc.data = .cell (some (.ref x)))
    (hlv : lv.length < 900) (hsv : sv.length < 900) (hes : getL "append" es = some none) (hes' : getL "push" es = some none)
    (F : Fr g L h (fun y => if y = "other" then some (.str (mkW d1 d2 (oL u)) t6) else if y = "word" then some (.str (mkW d1 d2 u) t2) else if y = "write" then some (.ref wf) else if y = "turn" then some (.int (0 + (i : Int)) ti) else mIn vO vD vW la fa n tn (mOut vT vB fl sx hl a tx tt) y))
    (N : News g L h ((I, it) :: (fa, W.listOf fv.toArray nf) :: (la, W.listOf lv.toArray nl) :: (sx, accObj 101 sdx sv ns) :: (sdx, dictOf es e) :: (L + 1, oc) :: (hl, W.listOf hvs.toArray nh) :: (o1 ++ o3)))
    (hap : @Ne Nat fa I ∧ @Ne Nat la I ∧ @Ne Nat sx I ∧ @Ne Nat sdx I ∧ @Ne Nat (L + 1) I ∧ @Ne Nat hl I ∧ @Ne Nat la fa ∧ @Ne Nat sx fa ∧ @Ne Nat sdx fa ∧ @Ne Nat (L + 1) fa ∧ @Ne Nat hl fa ∧ @Ne Nat sx la ∧ @Ne Nat sdx la ∧ @Ne Nat (L + 1) la ∧ @Ne Nat hl la ∧ @Ne Nat sdx sx ∧ @Ne Nat (L + 1) sx ∧ @Ne Nat hl sx ∧ @Ne Nat (L + 1) sdx ∧ @Ne Nat hl sdx ∧ @Ne Nat hl (L + 1))
    (H1 : ∀ p ∈ o1, ∀ q ∈ (I, it) :: (fa, W.listOf fv.toArray nf) :: (la, W.listOf lv.toArray nl) :: (sx, accObj 101 sdx sv ns) :: (sdx, dictOf es e) :: (L + 1, oc) :: (hl, W.listOf hvs.toArray nh) :: o3, p.1 ≠ q.1)
    (H3 : ∀ p ∈ o3, ∀ q ∈ [(I, it), (fa, W.listOf fv.toArray nf), (la, W.listOf lv.toArray nl), (sx, accObj 101 sdx sv ns), (sdx, dictOf es e), (L + 1, oc), (hl, W.listOf hvs.toArray nh)], p.1 ≠ q.1)
    {Q' : Flow → Shared → Prop}
    (hQ : ∀ (h' : Heap) (tk' : Nat) (o1' tc : Cells) (lv' sv' : List Value) (nl' ns' : Nat), TurnEnd prog w x c2 oc2 tot R a q d1 d2 u i lv sv o1' tc lv' sv' →
      Fr g L h' (fun y => if y = "other" then some (.str (mkW d1 d2 (oL u)) t6) else if y = "word" then some (.str (mkW d1 d2 u) t2) else if y = "write" then some (.ref wf) else if y = "turn" then some (.int (0 + (i : Int)) ti) else mIn vO vD vW la fa n tn (mOut vT vB fl sx hl a tx tt) y) →
      News g L h' ((I, it) :: (fa, W.listOf fv.toArray nf) :: (la, W.listOf lv'.toArray nl') :: (sx, accObj 101 sdx sv' ns') :: (sdx, dictOf es e) :: (L + 1, oc) :: (hl, W.listOf hvs.toArray nh) :: (o1' ++ (tc ++ o3))) →
      (∀ p ∈ o1', ∀ q ∈ (I, it) :: (fa, W.listOf fv.toArray nf) :: (la, W.listOf lv'.toArray nl') :: (sx, accObj 101 sdx sv' ns') :: (sdx, dictOf es e) :: (L + 1, oc) :: (hl, W.listOf hvs.toArray nh) :: (tc ++ o3), p.1 ≠ q.1) →
      (∀ p ∈ tc ++ o3, ∀ q ∈ [(I, it), (fa, W.listOf fv.toArray nf), (la, W.listOf lv'.toArray nl'), (sx, accObj 101 sdx sv' ns'), (sdx, dictOf es e), (L + 1, oc), (hl, W.listOf hvs.toArray nh)], p.1 ≠ q.1) → Q' .next { s with heap := h', toks := tk' }) :
    wpAny (model prog w) (arT (dp + 1) (un + 3) gd (envF L :: fr)) (execs (innerB.drop 5) (envF L)) Q' (fun _ _ => False) { s with heap := h, toks := tk } := by
  obtain ⟨X, ⟨p, loose, mean, mg, mb, T⟩, codeHd⟩ := id G
  conv => arg 3; arg 1; whnf
  unfold envF
  conv in (occs := *) scF => all_goals whnf
  obtain ⟨a1, a2, a3, a4, a5, a6, b1, b2, b3, b4, b5, z1, z2, z3, z4, y1, y2, y3, x1, x2, w1⟩ := hap
  have g2 := offApp (offAt H1 (a := la) (oa := W.listOf lv.toArray nl) (by k_mem)) (offAt H3 (a := la) (oa := W.listOf lv.toArray nl) (by k_mem))
  have g3 := offApp (offAt H1 (a := sx) (oa := accObj 101 sdx sv ns) (by k_mem)) (offAt H3 (a := sx) (oa := accObj 101 sdx sv ns) (by k_mem))
  have g4 := offApp (offAt H1 (a := sdx) (oa := dictOf es e) (by k_mem)) (offAt H3 (a := sdx) (oa := dictOf es e) (by k_mem))
  iterate 10 walk1
  · rename_i ha
    refine methO F X N (by k_mem) (by k_mem) (by k_is) (by k_is) (by k_is) (by k_is) hes' ?_
    iterate 10 walk1
    rename_i tb kb kz kn
    clear kz kn
    refine use (own := [(sx, accObj 101 sdx sv ns), (sdx, dictOf es e)]) (rest := (I, it) :: (fa, W.listOf fv.toArray nf) :: (la, W.listOf lv.toArray nl) :: (L + 1, oc) :: (hl, W.listOf hvs.toArray nh) :: (o1 ++ o3)) (push sx sdx sv ns e es (blk i) (mkW d1 d2 (oL u)) _ _ (by k_ne) hes (by omega)) F N G
      (subC (.cons _ (.cons _ (.cons _ (.cons_cons _ (.cons_cons _ (List.nil_sublist _))))))) (subC (.cons_cons _ (.cons_cons _ (.cons_cons _ (.cons _ (.cons _ (.refl _))))))) (off2 (by k_all) (by k_all)) (by omega) (by omega) ?_
    rintro v h2 tk2 own2 ⟨rfl, p1, np1, rfl⟩ F2 N2 H2
    have H2' : ∀ q ∈ (I, it) :: (fa, W.listOf fv.toArray nf) :: (la, W.listOf lv.toArray nl) :: (L + 1, oc) :: (hl, W.listOf hvs.toArray nh) :: (o1 ++ o3), q.1 ≠ p1 := fun q hq => (H2 (p1, _) (.tail _ (.tail _ (.head _))) q hq).symm
    have np2 : @Ne Nat p1 sdx := fun q => by
      have m1 := (N2 (p1, _) (List.mem_append_left _ (.tail _ (.tail _ (.head _))))).1
      have m2 := (N2 (sdx, _) (List.mem_append_left _ (.tail _ (.head _)))).1
      rw [q] at m1
      rw [m1] at m2
      exact absurd (congrArg Obj.cls (Option.some.inj m2)) (by simp)
    have np1 : @Ne Nat p1 sx := np1
    have c1' : @Ne Nat I p1 := H2' _ (.head _)
    have c2' : @Ne Nat fa p1 := H2' _ (.tail _ (.head _))
    have c3' : @Ne Nat la p1 := H2' _ (.tail _ (.tail _ (.head _)))
    have c4' : @Ne Nat (L + 1) p1 := H2' _ (.tail _ (.tail _ (.tail _ (.head _))))
    have c5' : @Ne Nat hl p1 := H2' _ (.tail _ (.tail _ (.tail _ (.tail _ (.head _)))))
    have c6' : ∀ q ∈ o1 ++ o3, q.1 ≠ p1 := fun q hq => H2' q (.tail _ (.tail _ (.tail _ (.tail _ (.tail _ hq)))))
    have N3 := cb_drop (news := (I, it) :: (fa, W.listOf fv.toArray nf) :: (la, W.listOf lv.toArray nl) :: (sx, accObj 101 sdx (sv ++ [.ref p1]) (ns + 1)) :: (sdx, dictOf es e) :: (L + 1, oc) :: (hl, W.listOf hvs.toArray nh) :: (p1, tupO i d1 d2 (oL u) tb t6) :: (o1 ++ o3)) N2 (by lcg_sub)
    clear N2 N F H2 H2' g3 g4
    dsimp only
    iterate 22 walk1
    rename_i tb2 kb2 kz2 kn2 D h3 l3 h4 F4 N4
    clear kz2 kn2
    have hD : ∀ p ∈ o1 ++ o3, p.1 ≠ D := offL l3.2.2.2.2.2.2.2.2
    rw [show lv.toArray.push (Value.ref D) = (lv ++ [Value.ref D]).toArray by simp] at N4
    refine hQ _ _ o1 [(D, tupO i d1 d2 (oL u) tb2 t6), (p1, tupO i d1 d2 (oL u) tb t6)] (lv ++ [.ref D]) (sv ++ [.ref p1]) (nl + 1) (ns + 1) (.inr ⟨ha, hx, p1, D, tb, tb2, t6, t6, rfl, rfl, rfl⟩) F4 (cb_drop N4 fun p hp => ?_) (fun p hp => ?_) (List.forall_mem_cons.mpr ⟨?_, List.forall_mem_cons.mpr ⟨?_, offMap H3 rfl⟩⟩)
    · simp only [List.mem_cons, List.mem_append, List.not_mem_nil, or_false] at hp ⊢
      rcases hp with hp | hp | hp | hp | hp | hp | hp | hp | (hp | hp) | hp <;> simp [hp, blk]
    · refine List.forall_mem_cons.mpr ⟨H1 p hp (I, it) (by k_mem), List.forall_mem_cons.mpr ⟨H1 p hp (fa, W.listOf fv.toArray nf) (by k_mem), List.forall_mem_cons.mpr ⟨H1 p hp (la, W.listOf lv.toArray nl) (by k_mem), List.forall_mem_cons.mpr ⟨H1 p hp (sx, accObj 101 sdx sv ns) (by k_mem), List.forall_mem_cons.mpr ⟨H1 p hp (sdx, dictOf es e) (by k_mem), List.forall_mem_cons.mpr ⟨H1 p hp (L + 1, oc) (by k_mem), List.forall_mem_cons.mpr ⟨H1 p hp (hl, W.listOf hvs.toArray nh) (by k_mem), List.forall_mem_cons.mpr ⟨hD p (List.mem_append_left _ hp), List.forall_mem_cons.mpr ⟨c6' p (List.mem_append_left _ hp), fun q hq => H1 p hp q (.tail _ (.tail _ (.tail _ (.tail _ (.tail _ (.tail _ (.tail _ hq)))))))⟩⟩⟩⟩⟩⟩⟩⟩⟩
    · repeat' (first | exact List.forall_mem_nil _ | refine List.forall_mem_cons.mpr ⟨by k_ne, ?_⟩)
    · repeat' (first | exact List.forall_mem_nil _ | refine List.forall_mem_cons.mpr ⟨by k_ne, ?_⟩)
  · iterate 4 walk1
    rename_i ha
    refine methPush hx F X N (subC ((List.sublist_append_left o1 o3).trans ?_)) ?_
    · repeat (first | exact List.Sublist.refl _ | refine List.Sublist.cons _ ?_)
    iterate 5 walk1
    refine use (own := o1) (rest := (I, it) :: (fa, W.listOf fv.toArray nf) :: (la, W.listOf lv.toArray nl) :: (sx, accObj 101 sdx sv ns) :: (sdx, dictOf es e) :: (L + 1, oc) :: (hl, W.listOf hvs.toArray nh) :: o3) (pushS hx (by omega) (mkW d1 d2 (oL u)) t6) F N G (subC ((List.sublist_append_left o1 o3).trans ?_)) (subC ?_) H1 (by omega) (by omega) ?_
    · repeat (first | exact List.Sublist.refl _ | refine List.Sublist.cons _ ?_)
    · repeat (first | exact List.sublist_append_right _ _ | refine List.Sublist.cons_cons _ ?_)
    rintro v h2 tk2 o2 ⟨rfl, hx2⟩ F2 N2 H2
    have N3 := cb_drop (news := (I, it) :: (fa, W.listOf fv.toArray nf) :: (la, W.listOf lv.toArray nl) :: (sx, accObj 101 sdx sv ns) :: (sdx, dictOf es e) :: (L + 1, oc) :: (hl, W.listOf hvs.toArray nh) :: (o2 ++ o3)) N2 (by lcg_sub)
    clear N2 N F H1 hx
    dsimp only
    iterate 2 walk1
    exact hQ _ _ o2 [] lv sv nl ns (.inl ⟨ha, hx2, rfl, rfl, rfl⟩) F2 N3 H2 H3
end
end Mine

-- T31b
namespace Mine
section
variable {prog : Program} {w : World} {g : Heap} {L : Addr} {dp un : Nat} {gd : Option (List Code)} {fr : List Env} {E : Value → Shared → Prop}
theorem turnB (G : Gd (KH w.params) g) (hdp : dp + 20 < recursionLimit) (hun : un + 400 < cLine) {a : Bool} {tx : Str} {tt : Tok} {fl sx sdx hl fa la I x c2 : Addr} {it oc oc2 : Obj} {hvs fv lv sv : List Value} {nh nf nl ns e : Nat} {es : List DictEntry} {vT vB vO vD vW : Option Value}
    {n i : Nat} {tn ti : Tok} {tot : Int} {R : List Nat} {o1 o3 : Cells} {u : List Bool} {d1 d2 : Nat} {q : List Str} {s : Shared} {h : Heap} {tk : Nat}
    (hd1 : d1 ∈ nmC) (hd2 : d2 ∈ nmC) (hu : u.length ≤ 200) (hq : q.length < 800) (hx : LexS prog w x c2 oc2 tot o1 q R) {wf : Addr} {t2 : Tok} (hwf : Writes prog w wf) (hkeep : keepIn (KH w.params) (.ref wf) = true) (hoc : oc.data = .cell (some (.ref x)))
    (hlv : lv.length < 900) (hsv : sv.length < 900) (hi : i < n) (hn : n ≤ 4) (hes' : getL "push" es = some none) (hes : getL "append" es = some none)
    (F : Fr g L h (fun y => if y = "word" then some (.str (mkW d1 d2 u) t2) else if y = "write" then some (.ref wf) else if y = "turn" then some (.int (0 + (i : Int)) ti) else mIn vO vD vW la fa n tn (mOut vT vB fl sx hl a tx tt) y))
    (N : News g L h ((I, it) :: (fa, W.listOf fv.toArray nf) :: (la, W.listOf lv.toArray nl) :: (sx, accObj 101 sdx sv ns) :: (sdx, dictOf es e) :: (L + 1, oc) :: (hl, W.listOf hvs.toArray nh) :: (o1 ++ o3)))
    (hap : @Ne Nat fa I ∧ @Ne Nat la I ∧ @Ne Nat sx I ∧ @Ne Nat sdx I ∧ @Ne Nat (L + 1) I ∧ @Ne Nat hl I ∧ @Ne Nat la fa ∧ @Ne Nat sx fa ∧ @Ne Nat sdx fa ∧ @Ne Nat (L + 1) fa ∧ @Ne Nat hl fa ∧ @Ne Nat sx la ∧ @Ne Nat sdx la ∧ @Ne Nat (L + 1) la ∧ @Ne Nat hl la ∧ @Ne Nat sdx sx ∧ @Ne Nat (L + 1) sx ∧ @Ne Nat hl sx ∧ @Ne Nat (L + 1) sdx ∧ @Ne Nat hl sdx ∧ @Ne Nat hl (L + 1))
    (H1 : ∀ p ∈ o1, ∀ q ∈ (I, it) :: (fa, W.listOf fv.toArray nf) :: (la, W.listOf lv.toArray nl) :: (sx, accObj 101 sdx sv ns) :: (sdx, dictOf es e) :: (L + 1, oc) :: (hl, W.listOf hvs.toArray nh) :: o3, p.1 ≠ q.1)
    (H3 : ∀ p ∈ o3, ∀ q ∈ [(I, it), (fa, W.listOf fv.toArray nf), (la, W.listOf lv.toArray nl), (sx, accObj 101 sdx sv ns), (sdx, dictOf es e), (L + 1, oc), (hl, W.listOf hvs.toArray nh)], p.1 ≠ q.1)
    {Q' : Flow → Shared → Prop}
    (hQ : ∀ (t6 : Tok) (h' : Heap) (tk' : Nat) (o1' tc : Cells) (lv' sv' : List Value) (nl' ns' : Nat), TurnEnd prog w x c2 oc2 tot R a (q ++ [mkW d1 d2 (eL u)]) d1 d2 u i lv sv o1' tc lv' sv' →
      Fr g L h' (fun y => if y = "other" then some (.str (mkW d1 d2 (oL u)) t6) else if y = "word" then some (.str (mkW d1 d2 u) t2) else if y = "write" then some (.ref wf) else if y = "turn" then some (.int (0 + (i : Int)) ti) else mIn vO vD vW la fa n tn (mOut vT vB fl sx hl a tx tt) y) →
      News g L h' ((I, it) :: (fa, W.listOf fv.toArray nf) :: (la, W.listOf lv'.toArray nl') :: (sx, accObj 101 sdx sv' ns') :: (sdx, dictOf es e) :: (L + 1, oc) :: (hl, W.listOf hvs.toArray nh) :: (o1' ++ (tc ++ o3))) →
      (∀ p ∈ o1', ∀ q ∈ (I, it) :: (fa, W.listOf fv.toArray nf) :: (la, W.listOf lv'.toArray nl') :: (sx, accObj 101 sdx sv' ns') :: (sdx, dictOf es e) :: (L + 1, oc) :: (hl, W.listOf hvs.toArray nh) :: (tc ++ o3), p.1 ≠ q.1) →
      (∀ p ∈ tc ++ o3, ∀ q ∈ [(I, it), (fa, W.listOf fv.toArray nf), (la, W.listOf lv'.toArray nl'), (sx, accObj 101 sdx sv' ns'), (sdx, dictOf es e), (L + 1, oc), (hl, W.listOf hvs.toArray nh)], p.1 ≠ q.1) → Q' .next { s with heap := h', toks := tk' }) :
    wpAny (model prog w) (arT (dp + 1) (un + 3) gd (envF L :: fr)) (execs (innerB.drop 3) (envF L)) Q' (fun _ _ => False) { s with heap := h, toks := tk } := by
  obtain ⟨X, ⟨p, loose, mean, mg, mb, T⟩, codeHd⟩ := id G
  show wpAny _ _ (execs (List.cons _ (List.cons _ (innerB.drop 5))) _) _ _ _
  generalize hrest : innerB.drop 5 = rest
  unfold envF
  conv in (occs := *) scF => all_goals whnf
  iterate 4 walk1
  refine methPush hx F X N (subC ((List.sublist_append_left o1 o3).trans ?_)) ?_
  · repeat (first | exact List.Sublist.refl _ | refine List.Sublist.cons _ ?_)
  iterate 4 walk1
  refine callWith_K X hkeep ?_
  iterate 4 walk1
  refine use (own := []) (hwf (mkW d1 d2 u) t2 (plain_mkW hd1 hd2 (by omega))) F N G (fun _ hp => nomatch hp) (fun _ hp => hp) (fun _ hp => nomatch hp) (by omega) (by omega) ?_
  rintro v h1 tk1 own1 ⟨t3, rfl, rfl⟩ F1 N1 -
  rw [escd_mkW hd1 hd2]
  rw [List.nil_append] at N1
  clear N F
  iterate 2 walk1
  refine use (own := o1) (rest := (I, it) :: (fa, W.listOf fv.toArray nf) :: (la, W.listOf lv.toArray nl) :: (sx, accObj 101 sdx sv ns) :: (sdx, dictOf es e) :: (L + 1, oc) :: (hl, W.listOf hvs.toArray nh) :: o3) (pushS hx (by omega) (mkW d1 d2 (eL u)) t3) F1 N1 G (subC ((List.sublist_append_left o1 o3).trans ?_)) (subC ?_) H1 (by omega) (by omega) ?_
  · repeat (first | exact List.Sublist.refl _ | refine List.Sublist.cons _ ?_)
  · repeat (first | exact List.sublist_append_right _ _ | refine List.Sublist.cons_cons _ ?_)
  rintro v h2 tk2 o2 ⟨rfl, hx2⟩ F2 N2 H2
  have N3 := cb_drop (news := (I, it) :: (fa, W.listOf fv.toArray nf) :: (la, W.listOf lv.toArray nl) :: (sx, accObj 101 sdx sv ns) :: (sdx, dictOf es e) :: (L + 1, oc) :: (hl, W.listOf hvs.toArray nh) :: (o2 ++ o3)) N2 (by lcg_sub)
  clear N2 N1 F1 H1 hx
  iterate 8 walk1
  refine callWith_K X hkeep ?_
  iterate 8 walk1
  refine use (own := []) (turnedW hd1 hd2 u (by omega) t2) F2 N3 G (fun _ hp => nomatch hp) (fun _ hp => hp) (fun _ hp => nomatch hp) (by omega) (by omega) ?_
  rintro v h4 tk4 own4 ⟨t4, rfl, rfl⟩ F4 N4 -
  rw [List.nil_append] at N4
  clear N3 F2
  iterate 2 walk1
  refine use (own := []) (hwf (mkW d1 d2 (nL u)) t4 (plain_mkW hd1 hd2 (by rw [nL_len]; omega))) F4 N4 G (fun _ hp => nomatch hp) (fun _ hp => hp) (fun _ hp => nomatch hp) (by omega) (by omega) ?_
  rintro v h5 tk5 own5 ⟨t5, rfl, rfl⟩ F5 N5 -
  rw [escd_mkW hd1 hd2]
  rw [List.nil_append] at N5
  clear N4 F4
  iterate 2 walk1
  refine use (own := []) (turnedW hd1 hd2 (eL (nL u)) (by have := eL_len (nL u); rw [nL_len] at this; omega) t5) F5 N5 G (fun _ hp => nomatch hp) (fun _ hp => hp) (fun _ hp => nomatch hp) (by omega) (by omega) ?_
  rintro v h6 tk6 own6 ⟨t6, rfl, rfl⟩ F6 N6 -
  rw [List.nil_append] at N6
  clear N5 F5
  iterate 1 walk1
  rename_i h7 F7 N7
  subst hrest
  dsimp only
  refine turnC (s := s) G hdp hun hd1 hd2 hu (by rw [List.length_append]; show q.length + 1 < 900; omega) hx2 hi hn hoc hlv hsv hes hes' F7 N7 hap H2 H3 (fun h' tk' o1' tc lv' sv' nl' ns' a b c d e => hQ t6 h' tk' o1' tc lv' sv' nl' ns' a b c d e)
end
end Mine

-- T31c
namespace Mine
section
variable {prog : Program} {w : World} {g : Heap} {L : Addr} {dp un : Nat} {gd : Option (List Code)} {fr : List Env} {E : Value → Shared → Prop}
theorem turnStep (G : Gd (KH w.params) g) (hdp : dp + 20 < recursionLimit) (hun : un + 400 < cLine) {a : Bool} {tx : Str} {tt : Tok} {fl sx sdx hl fa la I x c2 : Addr} {it oc oc2 : Obj} {hvs fv lv sv : List Value} {nh nf nl ns e : Nat} {es : List DictEntry} {vT vB vO vD vW : Option Value}
    {n i : Nat} {tn ti : Tok} {tot : Int} {R : List Nat} {o1 o3 : Cells} {u : List Bool} {d1 d2 : Nat} {q : List Str} {s : Shared} {h : Heap} {tk : Nat}
    (hd1 : d1 ∈ nmC) (hd2 : d2 ∈ nmC) (hu : u.length ≤ 200) (hq : q.length < 800) (hi : i < n) (hn : n ≤ 4) (hh : hvs.length = 5 ∧ ∀ v ∈ hvs, HandOk prog w v) (hx : LexA prog w x c2 oc2 tot R o1 (mkW d1 d2 u :: q)) (hoc : oc.data = .cell (some (.ref x)))
    (hfv : fv.length < 900) (hlv : lv.length < 900) (hsv : sv.length < 900) (hes' : getL "push" es = some none) (hes : getL "append" es = some none)
    (F : Fr g L h (fun y => if y = "turn" then some (.int (0 + (i : Int)) ti) else mIn vO vD vW la fa n tn (mOut vT vB fl sx hl a tx tt) y))
    (N : News g L h ((I, it) :: (fa, W.listOf fv.toArray nf) :: (la, W.listOf lv.toArray nl) :: (sx, accObj 101 sdx sv ns) :: (sdx, dictOf es e) :: (L + 1, oc) :: (hl, W.listOf hvs.toArray nh) :: (o1 ++ o3)))
    (hap : @Ne Nat fa I ∧ @Ne Nat la I ∧ @Ne Nat sx I ∧ @Ne Nat sdx I ∧ @Ne Nat (L + 1) I ∧ @Ne Nat hl I ∧ @Ne Nat la fa ∧ @Ne Nat sx fa ∧ @Ne Nat sdx fa ∧ @Ne Nat (L + 1) fa ∧ @Ne Nat hl fa ∧ @Ne Nat sx la ∧ @Ne Nat sdx la ∧ @Ne Nat (L + 1) la ∧ @Ne Nat hl la ∧ @Ne Nat sdx sx ∧ @Ne Nat (L + 1) sx ∧ @Ne Nat hl sx ∧ @Ne Nat (L + 1) sdx ∧ @Ne Nat hl sdx ∧ @Ne Nat hl (L + 1))
    (H1 : ∀ p ∈ o1, ∀ q ∈ (I, it) :: (fa, W.listOf fv.toArray nf) :: (la, W.listOf lv.toArray nl) :: (sx, accObj 101 sdx sv ns) :: (sdx, dictOf es e) :: (L + 1, oc) :: (hl, W.listOf hvs.toArray nh) :: o3, p.1 ≠ q.1)
    (H3 : ∀ p ∈ o3, ∀ q ∈ [(I, it), (fa, W.listOf fv.toArray nf), (la, W.listOf lv.toArray nl), (sx, accObj 101 sdx sv ns), (sdx, dictOf es e), (L + 1, oc), (hl, W.listOf hvs.toArray nh)], p.1 ≠ q.1)
    {Q' : Flow → Shared → Prop}
    (hQ : ∀ (t2 t6 : Tok) (wf : Addr) (nf' : Nat) (h' : Heap) (tk' : Nat) (o1' tc : Cells) (lv' sv' : List Value) (nl' ns' : Nat), TurnEnd prog w x c2 oc2 tot R a (q ++ [mkW d1 d2 (eL u)]) d1 d2 u i lv sv o1' tc lv' sv' →
      Fr g L h' (fun y => if y = "other" then some (.str (mkW d1 d2 (oL u)) t6) else if y = "word" then some (.str (mkW d1 d2 u) t2) else if y = "write" then some (.ref wf) else if y = "turn" then some (.int (0 + (i : Int)) ti) else mIn vO vD vW la fa n tn (mOut vT vB fl sx hl a tx tt) y) →
      News g L h' ((I, it) :: (fa, W.listOf (fv ++ [Value.str (mkW d1 d2 u) t2]).toArray nf') :: (la, W.listOf lv'.toArray nl') :: (sx, accObj 101 sdx sv' ns') :: (sdx, dictOf es e) :: (L + 1, oc) :: (hl, W.listOf hvs.toArray nh) :: (o1' ++ (tc ++ o3))) →
      (∀ p ∈ o1', ∀ q ∈ (I, it) :: (fa, W.listOf (fv ++ [Value.str (mkW d1 d2 u) t2]).toArray nf') :: (la, W.listOf lv'.toArray nl') :: (sx, accObj 101 sdx sv' ns') :: (sdx, dictOf es e) :: (L + 1, oc) :: (hl, W.listOf hvs.toArray nh) :: (tc ++ o3), p.1 ≠ q.1) →
      (∀ p ∈ tc ++ o3, ∀ q ∈ [(I, it), (fa, W.listOf (fv ++ [Value.str (mkW d1 d2 u) t2]).toArray nf'), (la, W.listOf lv'.toArray nl'), (sx, accObj 101 sdx sv' ns'), (sdx, dictOf es e), (L + 1, oc), (hl, W.listOf hvs.toArray nh)], p.1 ≠ q.1) → Q' .next { s with heap := h', toks := tk' }) :
    wpAny (model prog w) (arT (dp + 1) (un + 3) gd (envF L :: fr)) (execs innerB (envF L)) Q' (fun _ _ => False) { s with heap := h, toks := tk } := by
  obtain ⟨X, ⟨p, loose, mean, mg, mb, T⟩, codeHd⟩ := id G
  show wpAny _ _ (execs (List.cons _ (List.cons _ (List.cons _ (innerB.drop 3)))) _) _ _ _
  generalize hrest : innerB.drop 3 = rest
  unfold envF
  conv in (occs := *) scF => all_goals whnf
  have hb1 := Int.fmod_nonneg_of_pos ((n : Int) + (0 + (i : Int))) (b := 5) (by omega)
  have hb2 := Int.fmod_lt_of_pos ((n : Int) + (0 + (i : Int))) (b := 5) (by omega)
  obtain ⟨wv, hwv⟩ : ∃ v, hvs[(((n : Int) + (0 + (i : Int))).fmod 5).toNat]? = some v := ⟨_, List.getElem?_eq_getElem (by omega)⟩
  obtain ⟨wf, rfl, hwf, hkeep⟩ := hh.2 wv (List.mem_of_getElem? hwv)
  iterate 11 walk1
  refine subscriptTail_builtin (N.isList (by k_mem)).typeIs list_getitem_lookup (itemK N (by k_mem) hb1 (by omega) hwv ?_)
  iterate 6 walk1
  rename_i h1 F1 N1 tk1 htk1
  obtain ⟨pb0, cs0, hx0⟩ := hx.cells
  refine methGet hx0 F1 X N1 (subC ((List.sublist_append_left o1 o3).trans ?_)) ?_
  · repeat (first | exact List.Sublist.refl _ | refine List.Sublist.cons _ ?_)
  iterate 1 walk1
  refine use (own := o1) (rest := (I, it) :: (fa, W.listOf fv.toArray nf) :: (la, W.listOf lv.toArray nl) :: (sx, accObj 101 sdx sv ns) :: (sdx, dictOf es e) :: (L + 1, oc) :: (hl, W.listOf hvs.toArray nh) :: o3) (getA hx (by omega)) F1 N1 G (subC ((List.sublist_append_left o1 o3).trans ?_)) (subC ?_) H1 (by omega) (by omega) ?_
  · repeat (first | exact List.Sublist.refl _ | refine List.Sublist.cons _ ?_)
  · repeat (first | exact List.sublist_append_right _ _ | refine List.Sublist.cons_cons _ ?_)
  rintro v h2 tk2 o2 ⟨t2, rfl, hx2⟩ F2 N2 H2
  have N3 := cb_drop (news := (I, it) :: (fa, W.listOf fv.toArray nf) :: (la, W.listOf lv.toArray nl) :: (sx, accObj 101 sdx sv ns) :: (sdx, dictOf es e) :: (L + 1, oc) :: (hl, W.listOf hvs.toArray nh) :: (o2 ++ o3)) N2 (by lcg_sub)
  clear N2 N1 F1 H1 hx hx0
  have g1 := offApp (offAt H2 (a := fa) (oa := W.listOf fv.toArray nf) (by k_mem)) (offAt H3 (a := fa) (oa := W.listOf fv.toArray nf) (by k_mem))
  have g2 := offApp (offAt H2 (a := la) (oa := W.listOf lv.toArray nl) (by k_mem)) (offAt H3 (a := la) (oa := W.listOf lv.toArray nl) (by k_mem))
  have g3 := offApp (offAt H2 (a := sx) (oa := accObj 101 sdx sv ns) (by k_mem)) (offAt H3 (a := sx) (oa := accObj 101 sdx sv ns) (by k_mem))
  have g4 := offApp (offAt H2 (a := sdx) (oa := dictOf es e) (by k_mem)) (offAt H3 (a := sdx) (oa := dictOf es e) (by k_mem))
  obtain ⟨a1, a2, a3, a4, a5, a6, b1, b2, b3, b4, b5, z1, z2, z3, z4, y1, y2, y3, x1, x2, w1⟩ := hap
  iterate 12 walk1
  rename_i h7 F7 N7
  subst hrest
  dsimp only
  rw [show fv.toArray.push (Value.str (mkW d1 d2 u) t2) = (fv ++ [Value.str (mkW d1 d2 u) t2]).toArray by simp] at N7
  refine turnB (s := s) G hdp hun hd1 hd2 hu hq hx2 hwf hkeep hoc hlv hsv hi hn hes' hes F7 N7 ⟨a1, a2, a3, a4, a5, a6, b1, b2, b3, b4, b5, z1, z2, z3, z4, y1, y2, y3, x1, x2, w1⟩ (offMap H2 rfl) (offMap H3 rfl) (fun t6 h' tk' o1' tc lv' sv' nl' ns' a b c d e => hQ t2 t6 wf _ h' tk' o1' tc lv' sv' nl' ns' a b c d e)
end
end Mine

-- T32

namespace Mine
section
variable {prog : Program} {w : World} {A : Around} {s : Shared} {E : Value → Shared → Prop} {env : Env} {h₀ : Heap} {x : Str} {body : List Stmt} {Q : Flow → Shared → Prop} {m₀ : Str → Option Value} {h : Heap} {tk : Nat} {news : Cells}
/-- as rangeFor, the word knows the iterator's place -/
theorem rangeForI {ra : Addr} {a b : Int} {t u v : Tok} {n : Nat} (hh : A.handled = none) (F : Fr h₀ env.locals h m₀) (N : News h₀ env.locals h news) (hr : IsRange h ra a b 1 t u v) (hs : Builtin.Range.small a b 1 = true) (hn : Builtin.Range.rangeSize a b 1 = (n : Int)) (Inv : Addr → Nat → (Str → Option Value) → Cells → Prop) (hI : ∀ I : Addr, (∀ p ∈ news, p.1 < I) → Inv I 0 m₀ news)
    (step : ∀ I : Addr, ∀ i t m news, i < n → Inv I i m news → ∀ (it : Obj) h tk, Fr h₀ env.locals h (fun y => if y = x then some (.int (a + (i : Int)) t) else m y) → News h₀ env.locals h ((I, it) :: news) → ∀ Q' : Flow → Shared → Prop,
      (∀ h' tk' m' news', Inv I (i + 1) m' news' → Fr h₀ env.locals h' m' → News h₀ env.locals h' ((I, it) :: news') → (∀ p ∈ news', p.1 ≠ I) → Q' .next { s with heap := h', toks := tk' }) → (∀ v s', Q (.ret v) s' → Q' (.ret v) s') →
      wpAny (model prog w) A (execs body env) Q' E { s with heap := h, toks := tk })
    (fin : ∀ I m news h tk, Inv I n m news → Fr h₀ env.locals h m → News h₀ env.locals h news → Q .next { s with heap := h, toks := tk }) :
    IterV prog w A h₀ env x body Q E (.ref ra) { s with heap := h, toks := tk } :=
  iter_rangeUnr (s := { s with heap := h, toks := tk }) hh hr hs hn F N fun I hlt => rangeInv (s := { s with heap := h, toks := tk }) (Inv I) (fun i t m news hi j it h tk F N Q' q r' => step I i t m news hi j it h tk F N Q' q r') (fun m news h tk i F N => fin I m news h tk i F N) n 0 m₀ news (Nat.zero_add n) (hI I hlt)
theorem listForI {ax : Addr} {vs : List Value} {n : Nat} (hh : A.handled = none) (F : Fr h₀ env.locals h m₀) (N : News h₀ env.locals h news) (hm : (ax, W.listOf vs.toArray n) ∈ news) (Inv : Addr → List Value → (Str → Option Value) → Cells → Prop) (hI : ∀ I : Addr, (∀ p ∈ news, p.1 < I) → Inv I vs m₀ news)
    (step : ∀ I : Addr, ∀ v r m news, Inv I (v :: r) m news → ∀ (it : Obj) h tk, Fr h₀ env.locals h (fun y => if y = x then some v else m y) → News h₀ env.locals h ((I, it) :: news) → ∀ Q' : Flow → Shared → Prop,
      (∀ h' tk' m' news', Inv I r m' news' → Fr h₀ env.locals h' m' → News h₀ env.locals h' ((I, it) :: news') → (∀ p ∈ news', p.1 ≠ I) → (ax, W.listOf vs.toArray n) ∈ news' → Q' .next { s with heap := h', toks := tk' }) → (∀ v s', Q (.ret v) s' → Q' (.ret v) s') →
      wpAny (model prog w) A (execs body env) Q' E { s with heap := h, toks := tk })
    (fin : ∀ I m news h tk, Inv I [] m news → Fr h₀ env.locals h m → News h₀ env.locals h news → Q .next { s with heap := h, toks := tk }) :
    IterV prog w A h₀ env x body Q E (.ref ax) { s with heap := h, toks := tk } :=
  iter_listUnr (s := { s with heap := h, toks := tk }) hh F N hm rfl rfl fun I hlt => listInv (s := { s with heap := h, toks := tk }) (Inv I) (fun v r m news i it h tk F N Q' q r' => step I v r m news i it h tk F N Q' q r') (fun m news h tk i F N => fin I m news h tk i F N) vs m₀ news (hI I hlt)
end
/-- the names inside the inner loop, its own among them -/
noncomputable def mT (vTu vO vD vW : Option Value) (la fa : Addr) (n : Int) (tn : Tok) (mB : Str → Option Value) : Str → Option Value := fun y => if y = "turn" then vTu else mIn vO vD vW la fa n tn mB y
theorem mT_turn {vTu vO vD vW v : Option Value} {la fa : Addr} {n : Int} {tn : Tok} {mB : Str → Option Value} (y : Str) : (if y = Str.ofString "turn" then v else mT vTu vO vD vW la fa n tn mB y) = (if y = Str.ofString "turn" then v else mIn vO vD vW la fa n tn mB y) := by
  unfold mT
  by_cases h : y = Str.ofString "turn" <;> simp [h]
theorem nm_tu1 : (Str.ofString "turn" = Str.ofString "other") = False := by simp; decide
theorem nm_tu2 : (Str.ofString "turn" = Str.ofString "word") = False := by simp; decide
theorem nm_tu3 : (Str.ofString "turn" = Str.ofString "write") = False := by simp; decide
theorem mT_end {vTu vO vD vW v1 v2 v3 : Option Value} {la fa : Addr} {n : Int} {tn : Tok} {mB : Str → Option Value} (y : Str) :
    (if y = Str.ofString "other" then v1 else if y = Str.ofString "word" then v2 else if y = Str.ofString "write" then v3 else if y = Str.ofString "turn" then vTu else mIn vO vD vW la fa n tn mB y) = mT vTu v1 v2 v3 la fa n tn mB y := by
  unfold mT mIn
  by_cases h0 : y = Str.ofString "turn"
  · subst h0; simp only [nm_tu1, nm_tu2, nm_tu3, if_false, if_true]
  · simp only [h0, if_false]
    by_cases h1 : y = Str.ofString "other"
    · simp only [h1, if_true]
    · simp only [h1, if_false]
      by_cases h2 : y = Str.ofString "word"
      · simp only [h2, if_true]
      · simp only [h2, if_false]
        by_cases h3 : y = Str.ofString "write"
        · simp only [h3, if_true]
        · simp only [h3, if_false]
/-- the tuples that are laid -/
inductive Laid (d1 d2 : Nat) (o : Cells) : List Value → List (Nat × List Bool) → Prop
  | nil : Laid d1 d2 o [] []
  | snoc {lv : List Value} {P : List (Nat × List Bool)} {p : Addr} {k : Nat} {u : List Bool} {b e : Tok} : Laid d1 d2 o lv P → (p, tupO k d1 d2 (oL u) b e) ∈ o → Laid d1 d2 o (lv ++ [.ref p]) (P ++ [(k, u)])
theorem Laid.mono {d1 d2 : Nat} {o o' : Cells} (hs : ∀ p ∈ o, p ∈ o') {lv : List Value} {P : List (Nat × List Bool)} (h : Laid d1 d2 o lv P) : Laid d1 d2 o' lv P := by
  induction h with
  | nil => exact .nil
  | snoc _ m ih => exact .snoc ih (hs _ m)
theorem Laid.length {d1 d2 : Nat} {o : Cells} {lv : List Value} {P : List (Nat × List Bool)} (h : Laid d1 d2 o lv P) : lv.length = P.length := by
  induction h with
  | nil => rfl
  | snoc _ _ ih => simp [ih]
/-- the words that a level's words leave in the line at once -/
noncomputable def nx (a : Bool) (ws : List (List Bool)) : List (List Bool) := cond a (ws.map eL) (kids ws)
noncomputable def enum (ws : List (List Bool)) : List (Nat × List Bool) := (List.range ws.length).zip ws
theorem enum_snoc (ws : List (List Bool)) (u : List Bool) : enum (ws ++ [u]) = enum ws ++ [(ws.length, u)] := by
  unfold enum
  rw [List.length_append, List.length_singleton, List.range_succ, List.zip_append (by simp)]; rfl
theorem nx_snoc (a : Bool) (ws : List (List Bool)) (u : List Bool) : nx a (ws ++ [u]) = nx a ws ++ cond a [eL u] [eL u, oL u] := by
  cases a
  · show kids (ws ++ [u]) = kids ws ++ _
    unfold kids; simp
  · show (ws ++ [u]).map eL = ws.map eL ++ _
    simp
end Mine

-- T33
namespace Mine
noncomputable abbrev dum (I : Addr) : Addr × Obj := (I, W.listOf #[] 0)
noncomputable abbrev cellsIn (fa la sx sdx hl L : Addr) (fv lv sv : List Value) (nf nl ns e nh : Nat) (es : List DictEntry) (oc : Obj) (hvs : List Value) (o : Cells) : Cells :=
  (fa, W.listOf fv.toArray nf) :: (la, W.listOf lv.toArray nl) :: (sx, accObj 101 sdx sv ns) :: (sdx, dictOf es e) :: (L + 1, oc) :: (hl, W.listOf hvs.toArray nh) :: o
structure Fix where
  (fa la sx sdx hl L x c2 tp : Addr)
  (oc oc2 : Obj)
  (hvs : List Value)
  (nh e : Nat)
  (es : List DictEntry)
  (tot n : Int)
  (tn : Tok)
  (R : List Nat)
  (a : Bool)
  (d1 d2 : Nat)
  (ws : List (List Bool))
  (mB : Str → Option Value)
  (o3 : Cells)
noncomputable def InnerInv (prog : Program) (w : World) (z : Fix) (I : Addr) (i : Nat) (m : Str → Option Value) (news : Cells) : Prop :=
  ∃ (vTu vO vD vW : Option Value) (fv lv sv : List Value) (nf nl ns : Nat) (o1 o3 : Cells),
    m = mT vTu vO vD vW z.la z.fa z.n z.tn z.mB ∧ news = cellsIn z.fa z.la z.sx z.sdx z.hl z.L fv lv sv nf nl ns z.e z.nh z.es z.oc z.hvs (o1 ++ o3) ∧
    StrsAre fv ((z.ws.take i).map (mkW z.d1 z.d2)) ∧ (i = 0 → LexA prog w z.x z.c2 z.oc2 z.tot z.R o1 (z.ws.map (mkW z.d1 z.d2))) ∧
    (0 < i → LexS prog w z.x z.c2 z.oc2 z.tot o1 ((z.ws.drop i ++ nx z.a (z.ws.take i)).map (mkW z.d1 z.d2)) z.R) ∧
    (z.a = false → lv = [] ∧ sv = [.ref z.tp]) ∧ (z.a = true → ∃ pv, sv = .ref z.tp :: pv ∧ Laid z.d1 z.d2 o3 lv (enum (z.ws.take i)) ∧ Laid z.d1 z.d2 o3 pv (enum (z.ws.take i))) ∧
    (∀ p ∈ z.o3, p ∈ o3) ∧ (∀ p ∈ o1, ∀ q ∈ dum I :: cellsIn z.fa z.la z.sx z.sdx z.hl z.L fv lv sv nf nl ns z.e z.nh z.es z.oc z.hvs o3, p.1 ≠ q.1) ∧
    (∀ p ∈ o3, ∀ q ∈ dum I :: cellsIn z.fa z.la z.sx z.sdx z.hl z.L fv lv sv nf nl ns z.e z.nh z.es z.oc z.hvs [], p.1 ≠ q.1)
theorem kids_len : ∀ ws : List (List Bool), (kids ws).length = 2 * ws.length
  | [] => rfl
  | u :: ws => by
    have := kids_len ws
    unfold kids at this ⊢
    rw [List.flatMap_cons, List.length_append, this]; simp; omega
theorem nx_len (a : Bool) (ws : List (List Bool)) : (nx a ws).length ≤ 2 * ws.length := by
  cases a
  · show (kids ws).length ≤ _; rw [kids_len]; exact Nat.le_refl _
  · show (ws.map eL).length ≤ _; simp; omega
section
variable {prog : Program} {w : World} {g : Heap} {dp un : Nat} {gd : Option (List Code)} {fr : List Env}
theorem innerTurn (G : Gd (KH w.params) g) (hdp : dp + 20 < recursionLimit) (hun : un + 400 < cLine) (z : Fix) {tx : Str} {tt : Tok} {fl : Addr} {vT vB : Option Value} (hmB : z.mB = mOut vT vB fl z.sx z.hl z.a tx tt)
    (hd1 : z.d1 ∈ nmC) (hd2 : z.d2 ∈ nmC) (hn : z.n = z.ws.length) (hn4 : z.ws.length ≤ 4) (hws : ∀ u ∈ z.ws, u.length ≤ 200) (hh : z.hvs.length = 5 ∧ ∀ v ∈ z.hvs, HandOk prog w v) (hoc : z.oc.data = .cell (some (.ref z.x))) (hes : getL "append" z.es = some none) (hes' : getL "push" z.es = some none)
    (hap : @Ne Nat z.la z.fa ∧ @Ne Nat z.sx z.fa ∧ @Ne Nat z.sdx z.fa ∧ @Ne Nat (z.L + 1) z.fa ∧ @Ne Nat z.hl z.fa ∧ @Ne Nat z.sx z.la ∧ @Ne Nat z.sdx z.la ∧ @Ne Nat (z.L + 1) z.la ∧ @Ne Nat z.hl z.la ∧ @Ne Nat z.sdx z.sx ∧ @Ne Nat (z.L + 1) z.sx ∧ @Ne Nat z.hl z.sx ∧ @Ne Nat (z.L + 1) z.sdx ∧ @Ne Nat z.hl z.sdx ∧ @Ne Nat z.hl (z.L + 1))
    {I : Addr} (hI : @Ne Nat z.fa I ∧ @Ne Nat z.la I ∧ @Ne Nat z.sx I ∧ @Ne Nat z.sdx I ∧ @Ne Nat (z.L + 1) I ∧ @Ne Nat z.hl I) {i : Nat} {t : Tok} {m : Str → Option Value} {news : Cells} (hi : i < z.ws.length) (J : InnerInv prog w z I i m news) {it : Obj} {s : Shared} {h : Heap} {tk : Nat}
    (F : Fr g z.L h (fun y => if y = "turn" then some (.int (0 + (i : Int)) t) else m y)) (N : News g z.L h ((I, it) :: news)) {Q' : Flow → Shared → Prop}
    (hQ : ∀ h' tk' m' news', InnerInv prog w z I (i + 1) m' news' → Fr g z.L h' m' → News g z.L h' ((I, it) :: news') → (∀ p ∈ news', p.1 ≠ I) → Q' .next { s with heap := h', toks := tk' }) :
    wpAny (model prog w) (arT (dp + 1) (un + 3) gd (envF z.L :: fr)) (execs innerB (envF z.L)) Q' (fun _ _ => False) { s with heap := h, toks := tk } := by
  obtain ⟨vTu, vO, vD, vW, fv, lv, sv, nf, nl, ns, o1, o3, rfl, rfl, hfv, hx0, hx1, hf, ht, ho3, H1, H3⟩ := J
  obtain ⟨u, hu⟩ : ∃ u, z.ws[i]? = some u := ⟨_, List.getElem?_eq_getElem hi⟩
  have hut : z.ws.take (i + 1) = z.ws.take i ++ [u] := by rw [List.take_add_one, hu]; rfl
  have hud : z.ws.drop i = u :: z.ws.drop (i + 1) := by
    rw [List.drop_eq_getElem_cons hi]
    congr 1
    rw [List.getElem?_eq_getElem hi] at hu
    exact Option.some.inj hu
  have hum : u ∈ z.ws := List.mem_of_getElem? hu
  have hq : LexA prog w z.x z.c2 z.oc2 z.tot z.R o1 (mkW z.d1 z.d2 u :: (z.ws.drop (i + 1) ++ nx z.a (z.ws.take i)).map (mkW z.d1 z.d2)) := by
    rcases Nat.eq_zero_or_pos i with h0 | h0
    · have := hx0 h0
      subst h0
      have e : z.ws = u :: z.ws.drop 1 := by rw [← hud]; rfl
      rw [e] at this
      have e2 : nx z.a (z.ws.take 0) = [] := by cases z.a <;> rfl
      rw [e2, List.append_nil]
      exact this
    · have := hx1 h0
      rw [hud] at this
      exact .inl this
  have lt : (z.ws.take i).length = i := by rw [List.length_take]; omega
  have lq : ((z.ws.drop (i + 1) ++ nx z.a (z.ws.take i)).map (mkW z.d1 z.d2)).length < 800 := by
    have := nx_len z.a (z.ws.take i)
    rw [List.length_map, List.length_append, List.length_drop]; omega
  have le : (enum (z.ws.take i)).length ≤ 4 := by unfold enum; rw [List.length_zip, List.length_range, Nat.min_self]; omega
  have llv : lv.length < 900 ∧ sv.length < 900 := by
    cases ha : z.a with
    | false => obtain ⟨rfl, rfl⟩ := hf ha; exact ⟨Nat.zero_lt_succ _, show 1 < 900 by decide⟩
    | true =>
      obtain ⟨pv, rfl, l1, l2⟩ := ht ha
      rw [List.length_cons, l1.length, l2.length]; omega
  obtain ⟨a1, a2, a3, a4, a5, a6⟩ := hI
  obtain ⟨b1, b2, b3, b4, b5, z1, z2, z3, z4, y1, y2, y3, x1, x2, w1⟩ := hap
  rw [hmB] at F
  rw [hn] at F
  refine turnStep (s := s) (it := it) G hdp hun hd1 hd2 (hws u hum) lq hi hn4 hh hq hoc (by rw [hfv.length, List.length_map, lt]; omega) llv.1 llv.2 hes' hes (frOf F mT_turn) N ⟨a1, a2, a3, a4, a5, a6, b1, b2, b3, b4, b5, z1, z2, z3, z4, y1, y2, y3, x1, x2, w1⟩ (offMap H1 rfl) (offMap H3 rfl) ?_
  intro t2 t6 wf nf' h' tk' o1' tc lv' sv' nl' ns' E F' N' H1' H3'
  refine hQ h' tk' _ _ ⟨some (.int (0 + (i : Int)) t), some (.str (mkW z.d1 z.d2 (oL u)) t6), some (.str (mkW z.d1 z.d2 u) t2), some (.ref wf), fv ++ [.str (mkW z.d1 z.d2 u) t2], lv', sv', nf', nl', ns', o1', tc ++ o3, rfl, rfl, ?_, fun e => absurd e (Nat.succ_ne_zero i), fun _ => ?_, fun ha => ?_, fun ha => ?_, fun p hp => List.mem_append_right _ (ho3 p hp), offMap H1' rfl, offMap H3' rfl⟩ ?_ N' ?_
  · rw [hut, List.map_append]
    exact hfv.append' (.cons _ t2 .nil)
  · rw [hut, nx_snoc]
    rcases E with ⟨ha, hx, -⟩ | ⟨ha, hx, -⟩
    · rw [ha] at hx ⊢
      have e : (z.ws.drop (i + 1) ++ (nx false (z.ws.take i) ++ [eL u, oL u])).map (mkW z.d1 z.d2) = (z.ws.drop (i + 1) ++ nx false (z.ws.take i)).map (mkW z.d1 z.d2) ++ [mkW z.d1 z.d2 (eL u)] ++ [mkW z.d1 z.d2 (oL u)] := by simp
      show LexS prog w z.x z.c2 z.oc2 z.tot o1' ((z.ws.drop (i + 1) ++ (nx false (z.ws.take i) ++ [eL u, oL u])).map (mkW z.d1 z.d2)) z.R
      rw [e]; exact hx
    · rw [ha] at hx ⊢
      have e : (z.ws.drop (i + 1) ++ (nx true (z.ws.take i) ++ [eL u])).map (mkW z.d1 z.d2) = (z.ws.drop (i + 1) ++ nx true (z.ws.take i)).map (mkW z.d1 z.d2) ++ [mkW z.d1 z.d2 (eL u)] := by simp
      show LexS prog w z.x z.c2 z.oc2 z.tot o1' ((z.ws.drop (i + 1) ++ (nx true (z.ws.take i) ++ [eL u])).map (mkW z.d1 z.d2)) z.R
      rw [e]; exact hx
  · rcases E with ⟨-, -, -, rfl, rfl⟩ | ⟨hb, -⟩
    · exact hf ha
    · rw [ha] at hb; cases hb
  · rcases E with ⟨hb, -⟩ | ⟨-, -, p1, p2, e1, e2, e3, e4, rfl, rfl, rfl⟩
    · rw [ha] at hb; cases hb
    · obtain ⟨pv, rfl, l1, l2⟩ := ht ha
      have sub : ∀ p ∈ o3, p ∈ [(p2, tupO i z.d1 z.d2 (oL u) e2 e4), (p1, tupO i z.d1 z.d2 (oL u) e1 e3)] ++ o3 := fun p hp => List.mem_append_right _ hp
      refine ⟨pv ++ [.ref p1], rfl, ?_, ?_⟩
      · rw [hut, enum_snoc, lt]
        exact (l1.mono sub).snoc (b := e2) (e := e4) (.head _)
      · rw [hut, enum_snoc, lt]
        exact (l2.mono sub).snoc (b := e1) (e := e3) (.tail _ (.head _))
  · rw [hmB, hn]
    exact frOf F' mT_end
  · intro p hp
    simp only [cellsIn, List.mem_cons, List.mem_append] at hp
    rcases hp with rfl | rfl | rfl | rfl | rfl | rfl | hp | hp
    · exact a1
    · exact a2
    · exact a3
    · exact a4
    · exact a5
    · exact a6
    · exact H1' p hp _ (.head _)
    · exact H3' p (List.mem_append.mpr hp) _ (.head _)
end
end Mine

-- T34
namespace Mine
theorem small_n : ∀ k : Nat, k ≤ 4 → Builtin.Range.small 0 (k : Int) 1 = true ∧ Builtin.Range.rangeSize 0 (k : Int) 1 = (k : Int)
  | 0, _ => ⟨by decide, by decide⟩
  | 1, _ => ⟨by decide, by decide⟩
  | 2, _ => ⟨by decide, by decide⟩
  | 3, _ => ⟨by decide, by decide⟩
  | 4, _ => ⟨by decide, by decide⟩
  | k + 5, h => absurd h (by omega)
section
variable {prog : Program} {w : World} {g : Heap} {dp un : Nat} {gd : Option (List Code)} {fr : List Env}
theorem innerLoop (G : Gd (KH w.params) g) (hdp : dp + 20 < recursionLimit) (hun : un + 400 < cLine) (z : Fix) {tx : Str} {tt : Tok} {fl : Addr} {vT vB : Option Value} (hmB : z.mB = mOut vT vB fl z.sx z.hl z.a tx tt)
    (hd1 : z.d1 ∈ nmC) (hd2 : z.d2 ∈ nmC) (hn : z.n = z.ws.length) (hn4 : z.ws.length ≤ 4) (hws : ∀ u ∈ z.ws, u.length ≤ 200) (hh : z.hvs.length = 5 ∧ ∀ v ∈ z.hvs, HandOk prog w v) (hoc : z.oc.data = .cell (some (.ref z.x))) (hes : getL "append" z.es = some none) (hes' : getL "push" z.es = some none)
    (hap : @Ne Nat z.la z.fa ∧ @Ne Nat z.sx z.fa ∧ @Ne Nat z.sdx z.fa ∧ @Ne Nat (z.L + 1) z.fa ∧ @Ne Nat z.hl z.fa ∧ @Ne Nat z.sx z.la ∧ @Ne Nat z.sdx z.la ∧ @Ne Nat (z.L + 1) z.la ∧ @Ne Nat z.hl z.la ∧ @Ne Nat z.sdx z.sx ∧ @Ne Nat (z.L + 1) z.sx ∧ @Ne Nat z.hl z.sx ∧ @Ne Nat (z.L + 1) z.sdx ∧ @Ne Nat z.hl z.sdx ∧ @Ne Nat z.hl (z.L + 1))
    {vTu vO vD vW : Option Value} {nf nl ns : Nat} {o1 : Cells} (hx : LexA prog w z.x z.c2 z.oc2 z.tot z.R o1 (z.ws.map (mkW z.d1 z.d2))) {s : Shared} {h : Heap} {tk : Nat}
    (F : Fr g z.L h (mT vTu vO vD vW z.la z.fa z.n z.tn z.mB)) (N : News g z.L h (cellsIn z.fa z.la z.sx z.sdx z.hl z.L [] [] [.ref z.tp] nf nl ns z.e z.nh z.es z.oc z.hvs (o1 ++ z.o3)))
    (H1 : ∀ p ∈ o1, ∀ q ∈ cellsIn z.fa z.la z.sx z.sdx z.hl z.L [] [] [.ref z.tp] nf nl ns z.e z.nh z.es z.oc z.hvs z.o3, p.1 ≠ q.1)
    (H3 : ∀ p ∈ z.o3, ∀ q ∈ cellsIn z.fa z.la z.sx z.sdx z.hl z.L [] [] [.ref z.tp] nf nl ns z.e z.nh z.es z.oc z.hvs [], p.1 ≠ q.1) {Q' : Flow → Shared → Prop}
    (hQ : ∀ I h' tk' m' news', InnerInv prog w z I z.ws.length m' news' → Fr g z.L h' m' → News g z.L h' news' → wpAny (model prog w) (arT (dp + 1) (un + 3) gd (envF z.L :: fr)) (execs (outerB.drop 3) (envF z.L)) Q' (fun _ _ => False) { s with heap := h', toks := tk' }) :
    wpAny (model prog w) (arT (dp + 1) (un + 3) gd (envF z.L :: fr)) (execs (outerB.drop 2) (envF z.L)) Q' (fun _ _ => False) { s with heap := h, toks := tk } := by
  obtain ⟨X, ⟨p, loose, mean, mg, mb, T⟩, codeHd⟩ := id G
  obtain ⟨fa, la, sx, sdx, hl, L, x, c2, tp, oc, oc2, hvs, nh, e, es, tot, n, tn, R, a, d1, d2, ws, mB, o3⟩ := z
  dsimp only at *
  subst hmB
  subst hn
  have hV : VMark := trivial
  show wpAny _ _ (execs (List.cons _ (outerB.drop 3)) _) _ _ _
  generalize hrest : outerB.drop 3 = rest at *
  unfold envF
  conv in (occs := *) scF => all_goals whnf
  iterate 8 walk1
  rename_i Q2 hq2 hr2 h2 tk2 t1 u1 v1 hR F2 N2 hk2
  obtain ⟨r1, r2⟩ := small_n ws.length hn4
  dsimp only at hR ⊢
  refine rangeForI rfl F2 N2 hR r1 r2 (fun I i m news => InnerInv prog w ⟨fa, la, sx, sdx, hl, L, x, c2, tp, oc, oc2, hvs, nh, e, es, tot, ws.length, tn, R, a, d1, d2, ws, mOut vT vB fl sx hl a tx tt, o3⟩ I i m news ∧ (@Ne Nat fa I ∧ @Ne Nat la I ∧ @Ne Nat sx I ∧ @Ne Nat sdx I ∧ @Ne Nat (L + 1) I ∧ @Ne Nat hl I)) ?_ ?_ ?_
  · intro I hI
    refine ⟨⟨vTu, vO, vD, vW, [], [], [.ref tp], nf, nl, ns, o1, o3, rfl, rfl, .nil, fun _ => hx, fun h => absurd h (Nat.lt_irrefl 0), fun _ => ⟨rfl, rfl⟩, fun _ => ⟨[], rfl, .nil, .nil⟩, fun _ h => h, fun p hp => List.forall_mem_cons.mpr ⟨?_, H1 p hp⟩, fun p hp => List.forall_mem_cons.mpr ⟨?_, H3 p hp⟩⟩, ?_, ?_, ?_, ?_, ?_, ?_⟩
    · exact Nat.ne_of_lt (hI p (by simp [hp]))
    · exact Nat.ne_of_lt (hI p (by simp [hp]))
    · exact Nat.ne_of_lt (hI (fa, _) (.head _))
    · exact Nat.ne_of_lt (hI (la, _) (.tail _ (.head _)))
    · exact Nat.ne_of_lt (hI (sx, _) (.tail _ (.tail _ (.head _))))
    · exact Nat.ne_of_lt (hI (sdx, _) (.tail _ (.tail _ (.tail _ (.head _)))))
    · exact Nat.ne_of_lt (hI (L + 1, _) (.tail _ (.tail _ (.tail _ (.tail _ (.head _))))))
    · exact Nat.ne_of_lt (hI (hl, _) (.tail _ (.tail _ (.tail _ (.tail _ (.tail _ (.head _)))))))
  · intro I i t m news hi J it h' tk' F' N' Q' hn' hr'
    exact innerTurn (s := s) G hdp hun ⟨fa, la, sx, sdx, hl, L, x, c2, tp, oc, oc2, hvs, nh, e, es, tot, ws.length, tn, R, a, d1, d2, ws, mOut vT vB fl sx hl a tx tt, o3⟩ rfl hd1 hd2 rfl hn4 hws hh hoc hes hes' hap J.2 hi J.1 F' N' (fun h'' tk'' m' news' J' F'' N'' off => hn' h'' tk'' m' news' ⟨J', J.2⟩ F'' N'' off)
  · intro I m news h' tk' J F' N'
    exact hq2 _ (hQ I h' tk' m news J.1 F' N')
end
end Mine

-- T35
namespace Mine
theorem mT_taken {vTu vO vD vW vT vB v : Option Value} {la fa fl sx hl : Addr} {n : Int} {tn tt : Tok} {a : Bool} {tx : Str} (y : Str) :
    (if y = Str.ofString "taken" then v else mT vTu vO vD vW la fa n tn (mOut vT vB fl sx hl a tx tt) y) = mT vTu vO vD vW la fa n tn (mOut v vB fl sx hl a tx tt) y := by
  by_cases h : y = Str.ofString "taken"
  · subst h; kernel_rfl
  · unfold mT mIn mOut; simp only [h, if_false]
section
variable {prog : Program} {w : World} {g : Heap} {dp un : Nat} {gd : Option (List Code)} {fr : List Env}
theorem takeStep (G : Gd (KH w.params) g) (hdp : dp + 20 < recursionLimit) (hun : un + 400 < cLine) {a : Bool} {tx : Str} {tt : Tok} {fl sx sdx hl fa la L : Addr} {oc : Obj} {hvs fv lv sv : List Value} {nh nf nl ns e : Nat} {es : List DictEntry} {vT vB vO vD vW vTu : Option Value}
    {n : Int} {tn : Tok} {o : Cells} {tp : Addr} {s : Shared} {h : Heap} {tk : Nat} (hsv : sv.length < 100) (hes' : getL "pop_from" es = some none)
    (F : Fr g L h (mT vTu vO vD vW la fa n tn (mOut vT vB fl sx hl a tx tt))) (N : News g L h (cellsIn fa la sx sdx hl L fv lv (.ref tp :: sv) nf nl ns e nh es oc hvs o))
    (hap : @Ne Nat la fa ∧ @Ne Nat sx fa ∧ @Ne Nat sdx fa ∧ @Ne Nat (L + 1) fa ∧ @Ne Nat hl fa ∧ @Ne Nat sx la ∧ @Ne Nat sdx la ∧ @Ne Nat (L + 1) la ∧ @Ne Nat hl la ∧ @Ne Nat sdx sx ∧ @Ne Nat (L + 1) sx ∧ @Ne Nat hl sx ∧ @Ne Nat (L + 1) sdx ∧ @Ne Nat hl sdx ∧ @Ne Nat hl (L + 1))
    (ho : ∀ p ∈ o, ∀ q ∈ cellsIn fa la sx sdx hl L fv lv (.ref tp :: sv) nf nl ns e nh es oc hvs [], p.1 ≠ q.1) (hsx : sx ≠ 101) {Q' : Flow → Shared → Prop}
    (hQ : ∀ y h' tk' ns', Fr g L h' (mT vTu vO vD vW la fa n tn (mOut (some (.ref y)) vB fl sx hl a tx tt)) → News g L h' ((y, W.listOf sv.toArray 0) :: cellsIn fa la sx sdx hl L fv lv [.ref tp] nf nl ns' e nh es oc hvs o) → (∀ q ∈ cellsIn fa la sx sdx hl L fv lv [.ref tp] nf nl ns' e nh es oc hvs o, q.1 ≠ y) →
      wpAny (model prog w) (arT (dp + 1) (un + 3) gd (envF L :: fr)) (execs (outerB.drop 4) (envF L)) Q' (fun _ _ => False) { s with heap := h', toks := tk' }) :
    wpAny (model prog w) (arT (dp + 1) (un + 3) gd (envF L :: fr)) (execs (outerB.drop 3) (envF L)) Q' (fun _ _ => False) { s with heap := h, toks := tk } := by
  obtain ⟨X, ⟨p, loose, mean, mg, mb, T⟩, codeHd⟩ := id G
  show wpAny _ _ (execs (List.cons _ (outerB.drop 4)) _) _ _ _
  generalize hrest : outerB.drop 4 = rest at *
  unfold envF
  conv in (occs := *) scF => all_goals whnf
  obtain ⟨b1, b2, b3, b4, b5, z1, z2, z3, z4, y1, y2, y3, x1, x2, w1⟩ := hap
  have g3 : ∀ p ∈ o, p.1 ≠ sx := offAt ho (a := sx) (oa := accObj 101 sdx (.ref tp :: sv) ns) (by k_mem)
  have g4 : ∀ p ∈ o, p.1 ≠ sdx := offAt ho (a := sdx) (oa := dictOf es e) (by k_mem)
  iterate 4 walk1
  refine methO F X N (by k_mem) (by k_mem) (by k_is) (by k_is) (by k_is) (by k_is) hes' ?_
  iterate 5 walk1
  refine use (own := [(sx, accObj 101 sdx (.ref tp :: sv) ns), (sdx, dictOf es e)]) (rest := (fa, W.listOf fv.toArray nf) :: (la, W.listOf lv.toArray nl) :: (L + 1, oc) :: (hl, W.listOf hvs.toArray nh) :: o) (popFrom sx sdx (by k_ne) hsx (.ref tp :: sv) ns e es 1 _ (by simp) (by simp; omega) _ (.inl rfl)) F N G
    (subC (.cons _ (.cons _ (.cons_cons _ (.cons_cons _ (List.nil_sublist _)))))) (subC (.cons_cons _ (.cons_cons _ (.cons _ (.cons _ (.refl _)))))) (off2 (by k_all) (by k_all)) (by omega) (by omega) ?_
  rintro v h2 tk2 own2 ⟨y, ns', rfl, ny1, ny2, rfl⟩ F2 N2 H2
  have N3 := cb_drop (news := (y, W.listOf sv.toArray 0) :: cellsIn fa la sx sdx hl L fv lv [.ref tp] nf nl ns' e nh es oc hvs o) N2 (by lcg_sub)
  clear N2 N F
  dsimp only
  iterate 1 walk1
  rename_i h3 F3 N4
  subst hrest
  dsimp only
  refine hQ y h3 _ ns' (frOf F3 mT_taken) N4 fun q hq => ?_
  simp only [cellsIn, List.mem_cons] at hq
  rcases hq with rfl | rfl | rfl | rfl | rfl | rfl | hq
  · exact fun e => H2 _ (.head _) _ (.head _) e.symm
  · exact fun e => H2 _ (.head _) _ (.tail _ (.head _)) e.symm
  · exact ny1.symm
  · exact ny2.symm
  · exact fun e => H2 _ (.head _) _ (.tail _ (.tail _ (.head _))) e.symm
  · exact fun e => H2 _ (.head _) _ (.tail _ (.tail _ (.tail _ (.head _)))) e.symm
  · exact fun e => H2 _ (.head _) _ (.tail _ (.tail _ (.tail _ (.tail _ hq)))) e.symm
end
end Mine

-- T36
namespace Mine
theorem Laid.fn {d1 d2 : Nat} {o : Cells} {lv : List Value} {P : List (Nat × List Bool)} (h : Laid d1 d2 o lv P) : ∃ (Ts : Nat → Addr) (vals : Nat → Array Value), (∀ j, j < lv.length → lv[j]? = some (.ref (Ts j))) ∧ (∀ j, j < lv.length → (Ts j, ({ cls := .type "tuple", data := .seq (vals j) } : Obj)) ∈ o) ∧
    ∀ j, j < lv.length → ∃ k u b e, P[j]? = some (k, u) ∧ vals j = #[.str (blk k) b, .str (mkW d1 d2 (oL u)) e] := by
  induction h with
  | nil => exact ⟨fun _ => 0, fun _ => #[], fun j hj => absurd hj (Nat.not_lt_zero j), fun j hj => absurd hj (Nat.not_lt_zero j), fun j hj => absurd hj (Nat.not_lt_zero j)⟩
  | @snoc lv P p k u b e hl hm ih =>
    obtain ⟨Ts, vals, i1, i2, i3⟩ := ih
    have hlen := hl.length
    refine ⟨fun j => if j < lv.length then Ts j else p, fun j => if j < lv.length then vals j else #[.str (blk k) b, .str (mkW d1 d2 (oL u)) e], fun j hj => ?_, fun j hj => ?_, fun j hj => ?_⟩
    · by_cases h : j < lv.length
      · dsimp only; rw [if_pos h, List.getElem?_append_left h]; exact i1 j h
      · dsimp only; rw [if_neg h]
        have : j = lv.length := by simp at hj; omega
        subst this; simp
    · by_cases h : j < lv.length
      · simp only [h, if_true]; exact i2 j h
      · simp only [h, if_false]; exact hm
    · by_cases h : j < lv.length
      · simp only [h, if_true]
        obtain ⟨k', u', b', e', q1, q2⟩ := i3 j h
        exact ⟨k', u', b', e', by rw [List.getElem?_append_left (by omega)]; exact q1, q2⟩
      · simp only [h, if_false]
        have : j = P.length := by simp at hj; omega
        subst this
        exact ⟨k, u, b, e, by simp, rfl⟩
theorem mT_pair {vTu vO vD vW vT vB v1 v2 : Option Value} {la fa fl sx hl : Addr} {n : Int} {tn tt : Tok} {a : Bool} {tx : Str} (y : Str) :
    (if y = Str.ofString "other" then v2 else if y = Str.ofString "blanks" then v1 else mT vTu vO vD vW la fa n tn (mOut vT vB fl sx hl a tx tt) y) = mT vTu v2 vD vW la fa n tn (mOut vT v1 fl sx hl a tx tt) y := by
  by_cases h : y = Str.ofString "other"
  · subst h; kernel_rfl
  · by_cases h2 : y = Str.ofString "blanks"
    · subst h2; kernel_rfl
    · unfold mT mIn mOut; simp only [h, h2, if_false]
section
variable {prog : Program} {w : World} {g : Heap} {dp un : Nat} {gd : Option (List Code)} {fr : List Env}
theorem pairStep (G : Gd (KH w.params) g) (hdp : dp + 20 < recursionLimit) (hun : un + 400 < cLine) {a : Bool} {tx : Str} {tt : Tok} {fl sx sdx hl' fa la L y x c2 : Addr} {oc oc2 : Obj} {hvs fv lv pv : List Value} {nh nf nl ns e : Nat} {es : List DictEntry} {vT vB vO vD vW vTu : Option Value}
    {n : Int} {tn : Tok} {o1 o3 : Cells} {tp : Addr} {s : Shared} {h : Heap} {tk : Nat} {tot : Int} {R : List Nat} {q : List Str} {d1 d2 : Nat} {P : List (Nat × List Bool)} (hP : P.length ≤ 4) (hq : q.length < 100) (hoc : oc.data = .cell (some (.ref x)))
    (hvT : vT = some (.ref y)) (hx : LexS prog w x c2 oc2 tot o1 q R) (hl : Laid d1 d2 o3 pv P)
    (F : Fr g L h (mT vTu vO vD vW la fa n tn (mOut vT vB fl sx hl' a tx tt))) (N : News g L h ((y, W.listOf pv.toArray 0) :: cellsIn fa la sx sdx hl' L fv lv [.ref tp] nf nl ns e nh es oc hvs (o1 ++ o3)))
    (H1 : ∀ p ∈ o1, ∀ q ∈ (y, W.listOf pv.toArray 0) :: cellsIn fa la sx sdx hl' L fv lv [.ref tp] nf nl ns e nh es oc hvs o3, p.1 ≠ q.1) {Q' : Flow → Shared → Prop}
    (hQ : ∀ h' tk' vB' vO' o1', LexS prog w x c2 oc2 tot o1' (q ++ P.map fun p => mkW d1 d2 (oL p.2)) R → Fr g L h' (mT vTu vO' vD vW la fa n tn (mOut vT vB' fl sx hl' a tx tt)) → News g L h' ((y, W.listOf pv.toArray 0) :: cellsIn fa la sx sdx hl' L fv lv [.ref tp] nf nl ns e nh es oc hvs (o1' ++ o3)) →
      (∀ p ∈ o1', ∀ q ∈ (y, W.listOf pv.toArray 0) :: cellsIn fa la sx sdx hl' L fv lv [.ref tp] nf nl ns e nh es oc hvs o3, p.1 ≠ q.1) →
      wpAny (model prog w) (arT (dp + 1) (un + 3) gd (envF L :: fr)) (execs (outerB.drop 5) (envF L)) Q' (fun _ _ => False) { s with heap := h', toks := tk' }) :
    wpAny (model prog w) (arT (dp + 1) (un + 3) gd (envF L :: fr)) (execs (outerB.drop 4) (envF L)) Q' (fun _ _ => False) { s with heap := h, toks := tk } := by
  obtain ⟨X, ⟨p, loose, mean, mg, mb, T⟩, codeHd⟩ := id G
  show wpAny _ _ (execs (List.cons _ (outerB.drop 5)) _) _ _ _
  generalize hrest : outerB.drop 5 = rest at *
  subst hvT
  unfold envF at hQ ⊢
  conv in (occs := *) scF => all_goals whnf
  obtain ⟨Ts, vals, i1, i2, i3⟩ := hl.fn
  have hlen := hl.length
  refine wpAny_execs_cons (For_turns F ?_)
  walk1
  refine pairsFor (s := { s with heap := h, toks := tk }) rfl F N (.head _) Ts vals i1 (fun j hj => .tail _ (.tail _ (.tail _ (.tail _ (.tail _ (.tail _ (.tail _ (List.mem_append_right _ (i2 j hj))))))))) (fun j m news => ∃ vB' vO' o1', m = mT vTu vO' vD vW la fa n tn (mOut (some (.ref y)) vB' fl sx hl' a tx tt) ∧ news = (y, W.listOf pv.toArray 0) :: cellsIn fa la sx sdx hl' L fv lv [.ref tp] nf nl ns e nh es oc hvs (o1' ++ o3) ∧ LexS prog w x c2 oc2 tot o1' (q ++ (P.take j).map fun p => mkW d1 d2 (oL p.2)) R ∧
     (∀ p ∈ o1', ∀ q ∈ (y, W.listOf pv.toArray 0) :: cellsIn fa la sx sdx hl' L fv lv [.ref tp] nf nl ns e nh es oc hvs o3, p.1 ≠ q.1)) ⟨vB, vO, o1, rfl, rfl, by simpa using hx, H1⟩ ?_ ?_
  · rintro I hI j T m₁ news₁ own h₁ tk₁ hj ⟨vB', vO', o1', rfl, rfl, hx', H1'⟩ hown ⟨oi, hoi⟩ hoff hT F' N' Q1 hn1 hr1
    obtain ⟨k, u, b, e', hPj, hv⟩ := i3 j hj
    rw [hv] at hT
    have N2 := cb_drop (news := (y, W.listOf pv.toArray 0) :: cellsIn fa la sx sdx hl' L fv lv [.ref tp] nf nl ns e nh es oc hvs (o1' ++ (o3 ++ own))) N' (by lcg_sub)
    refine unpackN_ F' N2 hT rfl rfl rfl ?_
    intro h2 F2 N3
    iterate 12 walk1
    rename_i h3 F3 N4 tk3 htk3
    have lq : (q ++ (P.take j).map fun p => mkW d1 d2 (oL p.2)).length < 1000 := by
      rw [List.length_append, List.length_map, List.length_take]; omega
    refine methPush hx' F3 X N4 (subC ((List.sublist_append_left o1' (o3 ++ own)).trans ?_)) ?_
    · repeat (first | exact List.Sublist.refl _ | refine List.Sublist.cons _ ?_)
    iterate 5 walk1
    refine use (own := o1') (rest := (y, W.listOf pv.toArray 0) :: cellsIn fa la sx sdx hl' L fv lv [.ref tp] nf nl ns e nh es oc hvs (o3 ++ own)) (pushS hx' lq (mkW d1 d2 (oL u)) e') F3 N4 G (subC ((List.sublist_append_left o1' (o3 ++ own)).trans ?_)) (subC ?_) (fun p hp q hq => ?_) (by omega) (by omega) ?_
    · repeat (first | exact List.Sublist.refl _ | refine List.Sublist.cons _ ?_)
    · repeat (first | exact List.sublist_append_right _ _ | refine List.Sublist.cons_cons _ ?_)
    · by_cases hqo : q ∈ own
      · rcases hown q hqo with e1 | e1 | ⟨j', hj', e1⟩
        · rw [e1]; exact hoff p (by simp [hp])
        · rw [e1]; exact H1' p hp _ (.head _)
        · rw [e1]; exact H1' p hp _ (.tail _ (.tail _ (.tail _ (.tail _ (.tail _ (.tail _ (.tail _ (i2 j' hj'))))))))
      · refine H1' p hp q ?_
        simp only [cellsIn, List.mem_cons, List.mem_append] at hq ⊢
        simp only [hqo, or_false] at hq
        exact hq
    rintro v h4 tk4 o2 ⟨rfl, hx2⟩ F4 N5 H5
    dsimp only
    iterate 1 walk1
    refine hn1 h4 _ _ _ ⟨some (.str (blk k) b), some (.str (mkW d1 d2 (oL u)) e'), o2, rfl, rfl, ?_, fun p hp q hq => H5 p hp q ?_⟩ (frOf F4 mT_pair) (cb_drop N5 fun p hp => ?_) fun p hp => ?_
    · rw [List.take_add_one, hPj]
      have e9 : q ++ List.map (fun p => mkW d1 d2 (oL p.2)) (P.take j ++ (some (k, u)).toList) = (q ++ List.map (fun p => mkW d1 d2 (oL p.2)) (P.take j)) ++ [mkW d1 d2 (oL u)] := by simp
      rw [e9]; exact hx2
    · revert q; lcg_sub
    · revert p; lcg_sub
    · by_cases hpo : p ∈ o2
      · exact H5 p hpo (I, oi) (by simp [hoi])
      · refine hoff p ?_
        simp only [cellsIn, List.mem_cons, List.mem_append] at hp ⊢
        simp only [hpo, false_or] at hp
        rcases hp with hp | hp | hp | hp | hp | hp | hp | hp <;> simp [hp]
  · rintro m' news' h' tk' ⟨vB', vO', o1', rfl, rfl, hx', H1'⟩ F' N'
    refine hQ h' tk' vB' vO' o1' ?_ F' N' H1'
    rw [hlen, List.take_length] at hx'
    exact hx'
end
end Mine

-- T37
namespace Mine
noncomputable def dat (d1 d2 : Nat) (p : Nat × List Bool) : PyData := .tuple [.str (blk p.1), .str (mkW d1 d2 (oL p.2))]
theorem readsAll_app {h : Heap} {vs us : List Value} {xs ys : List PyData} {as bs : List Addr} (a : ReadsAll h vs xs as) (b : ReadsAll h us ys bs) : ∃ cs, ReadsAll h (vs ++ us) (xs ++ ys) cs := by
  induction vs generalizing xs as with
  | nil => cases a; exact ⟨_, b⟩
  | cons v vs ih =>
    cases a with
    | cons r a => obtain ⟨cs, q⟩ := ih a; exact ⟨_, .cons r q⟩
theorem Laid.reads {d1 d2 : Nat} {o : Cells} {lv : List Value} {P : List (Nat × List Bool)} {h : Heap} (N : ∀ p ∈ o, h.get? p.1 = some p.2) (l : Laid d1 d2 o lv P) : ∃ as, ReadsAll h lv (P.map (dat d1 d2)) as := by
  induction l with
  | nil => exact ⟨_, .nil⟩
  | @snoc lv P p k u b e l m ih =>
    obtain ⟨as, q⟩ := ih
    rw [List.map_append]
    exact readsAll_app q (.cons (.tuple (N _ m) rfl rfl (.cons (.str _ b) (.cons (.str _ e) .nil))) .nil)
theorem strOk_mkW {d1 d2 : Nat} (h1 : d1 ∈ nmC) (h2 : d2 ∈ nmC) (l : List Bool) : PyData.strOk (mkW d1 d2 l) = true := by
  unfold PyData.strOk mkW
  rw [List.all_toArray, List.all_eq_true]
  intro c hc
  have small : ∀ c ∈ nmC, c < 0x110000 := by decide
  have small2 : ∀ c ∈ [38, 97, 109, 112, 59], c < 0x110000 := by decide
  rcases List.mem_cons.mp hc with rfl | hc
  · exact decide_eq_true (small _ h1)
  · rcases List.mem_cons.mp hc with rfl | hc
    · exact decide_eq_true (small _ h2)
    · exact decide_eq_true (small2 _ (encL_mem hc))
theorem strOk_blk : ∀ k : Nat, k < 4 → PyData.strOk (blk k) = true
  | 0, _ => by decide +kernel
  | 1, _ => by decide +kernel
  | 2, _ => by decide +kernel
  | 3, _ => by decide +kernel
  | k + 4, h => absurd h (by omega)
theorem dat_lay {d1 d2 : Nat} (h1 : d1 ∈ nmC) (h2 : d2 ∈ nmC) : ∀ P : List (Nat × List Bool), (∀ p ∈ P, p.1 < 4) → PyData.canLayAll0 (P.map (dat d1 d2)) = true
  | [], _ => rfl
  | p :: P, h => by
    have := dat_lay h1 h2 P fun q hq => h q (.tail _ hq)
    show ((PyData.strOk (blk p.1) && (PyData.strOk (mkW d1 d2 (oL p.2)) && true)) && PyData.canLayAll0 (P.map (dat d1 d2))) = true
    rw [this, strOk_mkW h1 h2, strOk_blk _ (h p (.head _))]; rfl
theorem dat_depth (d1 d2 : Nat) : ∀ P : List (Nat × List Bool), PyData.depthAll (P.map (dat d1 d2)) ≤ 2
  | [] => Nat.zero_le _
  | p :: P => by
    have := dat_depth d1 d2 P
    show max (PyData.depth (dat d1 d2 p)) (PyData.depthAll (P.map (dat d1 d2))) ≤ 2
    have e : PyData.depth (dat d1 d2 p) ≤ 2 := by
      show PyData.depthAll [.str (blk p.1), .str (mkW d1 d2 (oL p.2))] + 1 ≤ 2
      simp [PyData.depthAll, PyData.depth]
    omega
theorem dat_shaped {d1 d2 : Nat} (h1 : d1 ∈ nmC) (h2 : d2 ∈ nmC) (P : List (Nat × List Bool)) (h : ∀ p ∈ P, p.1 < 4) : PySem.SeqAt.shaped (.list (P.map (dat d1 d2))) = true := by
  unfold PySem.SeqAt.shaped
  rw [Bool.and_eq_true]
  refine ⟨dat_lay h1 h2 P h, decide_eq_true ?_⟩
  show PyData.depthAll (P.map (dat d1 d2)) + 1 ≤ 64
  have := dat_depth d1 d2 P
  omega
section
variable {prog : Program} {w : World} {A : Around} {E : Value → Shared → Prop} {s : Shared} {h₀ : Heap} {L y la : Addr} {o news : Cells} {lv pv : List Value} {P : List (Nat × List Bool)} {d1 d2 n1 n2 : Nat}
/-- what was taken is what was laid -/
theorem eqLaid {Q : Value → Shared → Prop} (N : News h₀ L s.heap news) (hin : ∀ p ∈ o, p ∈ news) (hy : (y, W.listOf pv.toArray n1) ∈ news) (hl : (la, W.listOf lv.toArray n2) ∈ news) (l1 : Laid d1 d2 o lv P) (l2 : Laid d1 d2 o pv P)
    (h1 : d1 ∈ nmC) (h2 : d2 ∈ nmC) (hP : ∀ p ∈ P, p.1 < 4) (hu : A.units + 64 < cLine) (h : Q (.bool true) s) : wpAny (model prog w) A (compareOp .Eq (.ref y) (.ref la)) Q E s := by
  have No : ∀ p ∈ o, s.heap.get? p.1 = some p.2 := fun p hp => (N p (hin p hp)).1
  obtain ⟨as, r1⟩ := l1.reads No
  obtain ⟨bs, r2⟩ := l2.reads No
  have q := dat_shaped h1 h2 P hP
  have e1 : Reads s.heap (.ref y) (.list (P.map (dat d1 d2))) (y :: bs) := .list (N _ hy).1 rfl rfl (by simpa using r2)
  have e2 : Reads s.heap (.ref la) (.list (P.map (dat d1 d2))) (la :: as) := .list (N _ hl).1 rfl rfl (by simpa using r1)
  refine eq_dataH e1 e2 q q hu ?_
  rw [PySem.SeqAt.eqv_refl _ (PySem.SeqAt.canLay_of_shaped q)]
  exact h
end
end Mine

-- T38
namespace Mine
section
variable {prog : Program} {w : World} {g : Heap} {dp un : Nat} {gd : Option (List Code)} {fr : List Env}
theorem floorStep (G : Gd (KH w.params) g) (hdp : dp + 20 < recursionLimit) (hun : un + 400 < cLine) {a : Bool} {tx : Str} {tt : Tok} {fl sx sdx hl fa la L y : Addr} {oc : Obj} {hvs fv lv pv fls : List Value} {nh nf nl ns e nfl : Nat} {es : List DictEntry} {vT vB vO vD vW vTu : Option Value}
    {n : Int} {tn : Tok} {o1 o3 o4 : Cells} {tp : Addr} {s : Shared} {h : Heap} {tk : Nat} {d1 d2 : Nat} {P : List (Nat × List Bool)} (hP : ∀ p ∈ P, p.1 < 4) (hd1 : d1 ∈ nmC) (hd2 : d2 ∈ nmC) (hfls : fls.length < 100)
    (hvT : vT = some (.ref y)) (l1 : Laid d1 d2 o3 lv P) (l2 : Laid d1 d2 o3 pv P) (ho4 : ∀ p ∈ o4, p ∈ o3) (hfl : ∀ p ∈ o4, p.1 ≠ fl) (hfl1 : ∀ p ∈ o1, p.1 ≠ fl) (hne : @Ne Nat fa fl ∧ @Ne Nat sx fl ∧ @Ne Nat sdx fl ∧ @Ne Nat (L + 1) fl ∧ @Ne Nat hl fl)
    (F : Fr g L h (mT vTu vO vD vW la fa n tn (mOut vT vB fl sx hl a tx tt))) (N : News g L h ((fl, W.listOf fls.toArray nfl) :: (y, W.listOf pv.toArray 0) :: cellsIn fa la sx sdx hl L fv lv [.ref tp] nf nl ns e nh es oc hvs (o1 ++ o3))) {Q' : Flow → Shared → Prop}
    (hQ : ∀ h' tk', Fr g L h' (mT vTu vO vD vW la fa n tn (mOut vT vB fl sx hl a tx tt)) → News g L h' ((fl, W.listOf (fls ++ [Value.ref fa]).toArray (nfl + 1)) :: (fa, W.listOf fv.toArray nf) :: (sx, accObj 101 sdx [.ref tp] ns) :: (sdx, dictOf es e) :: (L + 1, oc) :: (hl, W.listOf hvs.toArray nh) :: (o1 ++ o4)) →
      Q' .next { s with heap := h', toks := tk' }) :
    wpAny (model prog w) (arT (dp + 1) (un + 3) gd (envF L :: fr)) (execs (outerB.drop 5) (envF L)) Q' (fun _ _ => False) { s with heap := h, toks := tk } := by
  obtain ⟨X, ⟨p, loose, mean, mg, mb, T⟩, codeHd⟩ := id G
  subst hvT
  conv => arg 3; arg 1; whnf
  unfold envF
  conv in (occs := *) scF => all_goals whnf
  have hin : ∀ p ∈ o3, p ∈ (fl, W.listOf fls.toArray nfl) :: (y, W.listOf pv.toArray 0) :: cellsIn fa la sx sdx hl L fv lv [.ref tp] nf nl ns e nh es oc hvs (o1 ++ o3) := subC ((List.sublist_append_right o1 o3).trans (by repeat (first | exact List.Sublist.refl _ | refine List.Sublist.cons _ ?_)))
  iterate 11 (first | (k_unfold; (try dsimp only)) | walk1 | (dsimp only; walk1))
  refine eqLaid N hin (by k_mem) (by k_mem) l1 l2 hd1 hd2 hP (by show un + 3 + 64 < cLine; omega) ?_
  have N2 := cb_drop (news := (fl, W.listOf fls.toArray nfl) :: (fa, W.listOf fv.toArray nf) :: (sx, accObj 101 sdx [.ref tp] ns) :: (sdx, dictOf es e) :: (L + 1, oc) :: (hl, W.listOf hvs.toArray nh) :: (o1 ++ o4)) N (fun p hp => by
    simp only [cellsIn, List.mem_cons, List.mem_append] at hp ⊢
    rcases hp with hp | hp | hp | hp | hp | hp | hp | hp
    all_goals first | (simp [hp]; done) | (simp [ho4 _ hp]; done))
  clear N hin
  obtain ⟨e1, e2, e3, e4, e5⟩ := hne
  have g1 := offApp hfl1 hfl
  iterate 7 walk1
  rename_i h3 F3 N3
  rw [show fls.toArray.push (Value.ref fa) = (fls ++ [Value.ref fa]).toArray by simp] at N3
  exact hQ h3 _ F3 N3
end
end Mine

-- T39
namespace Mine
section
variable {prog : Program} {w : World} {g : Heap} {dp un : Nat} {gd : Option (List Code)} {fr : List Env}
theorem startStep (G : Gd (KH w.params) g) {L : Addr} {m : Str → Option Value} {ns : Cells} {s : Shared} {h : Heap} {tk : Nat} (F : Fr g L h m) (N : News g L h ns) {Q' : Flow → Shared → Prop}
    (hQ : ∀ fa la h' tk', Fr g L h' (fun y => if y = "laid" then some (.ref la) else if y = "floor" then some (.ref fa) else m y) → News g L h' ((la, W.listOf #[] 0) :: (fa, W.listOf #[] 0) :: ns) → AllLt fa ns → @LT.lt Nat _ fa la → AllLt la ns →
      wpAny (model prog w) (arT (dp + 1) (un + 3) gd (envF L :: fr)) (execs (outerB.drop 2) (envF L)) Q' (fun _ _ => False) { s with heap := h', toks := tk' }) :
    wpAny (model prog w) (arT (dp + 1) (un + 3) gd (envF L :: fr)) (execs outerB (envF L)) Q' (fun _ _ => False) { s with heap := h, toks := tk } := by
  obtain ⟨X, ⟨p, loose, mean, mg, mb, T⟩, codeHd⟩ := id G
  show wpAny _ _ (execs (List.cons _ (List.cons _ (outerB.drop 2))) _) _ _ _
  generalize hrest : outerB.drop 2 = rest at *
  unfold envF at hQ ⊢
  conv in (occs := *) scF => all_goals whnf
  iterate 13 walk1
  rename_i fa h1 l1 h2 tk2 htk2 la h3 l2 h4 F4 N4
  subst hrest
  dsimp only
  exact hQ fa la h4 _ F4 N4 (allLt_of l1) l2.1 l2.2
end
end Mine

-- T40
namespace Mine
/-- the names in the outer loop -/
noncomputable def mX (vTu vO vD vW vLa vFa vSz : Option Value) (mB : Str → Option Value) : Str → Option Value := fun y =>
  if y = "turn" then vTu else if y = "other" then vO else if y = "word" then vD else if y = "write" then vW else if y = "laid" then vLa else if y = "floor" then vFa else if y = "size" then vSz else mB y
theorem mX_of {vTu vO vD vW : Option Value} {la fa : Addr} {n : Int} {tn : Tok} {mB : Str → Option Value} (y : Str) : mT vTu vO vD vW la fa n tn mB y = mX vTu vO vD vW (some (.ref la)) (some (.ref fa)) (some (.int n tn)) mB y := rfl
theorem mX_start {vTu vO vD vW vLa vFa vSz : Option Value} {la fa : Addr} {n : Int} {tn : Tok} {mB : Str → Option Value} (y : Str) :
    (if y = Str.ofString "laid" then some (Value.ref la) else if y = Str.ofString "floor" then some (Value.ref fa) else if y = Str.ofString "size" then some (Value.int n tn) else mX vTu vO vD vW vLa vFa vSz mB y) = mT vTu vO vD vW la fa n tn mB y := by
  by_cases h : y = Str.ofString "laid"
  · subst h; kernel_rfl
  · by_cases h2 : y = Str.ofString "floor"
    · subst h2; kernel_rfl
    · by_cases h3 : y = Str.ofString "size"
      · subst h3; kernel_rfl
      · unfold mX mT mIn; simp only [h, h2, h3, if_false]
theorem mX_none {mB : Str → Option Value} (h : ∀ y, y = Str.ofString "turn" ∨ y = Str.ofString "other" ∨ y = Str.ofString "word" ∨ y = Str.ofString "write" ∨ y = Str.ofString "laid" ∨ y = Str.ofString "floor" ∨ y = Str.ofString "size" → mB y = none) (y : Str) : mB y = mX none none none none none none none mB y := by
  unfold mX
  by_cases h1 : y = Str.ofString "turn"
  · rw [if_pos h1]; exact h y (.inl h1)
  · rw [if_neg h1]
    by_cases h2 : y = Str.ofString "other"
    · rw [if_pos h2]; exact h y (.inr (.inl h2))
    · rw [if_neg h2]
      by_cases h3 : y = Str.ofString "word"
      · rw [if_pos h3]; exact h y (.inr (.inr (.inl h3)))
      · rw [if_neg h3]
        by_cases h4 : y = Str.ofString "write"
        · rw [if_pos h4]; exact h y (.inr (.inr (.inr (.inl h4))))
        · rw [if_neg h4]
          by_cases h5 : y = Str.ofString "laid"
          · rw [if_pos h5]; exact h y (.inr (.inr (.inr (.inr (.inl h5)))))
          · rw [if_neg h5]
            by_cases h6 : y = Str.ofString "floor"
            · rw [if_pos h6]; exact h y (.inr (.inr (.inr (.inr (.inr (.inl h6))))))
            · rw [if_neg h6]
              by_cases h7 : y = Str.ofString "size"
              · rw [if_pos h7]; exact h y (.inr (.inr (.inr (.inr (.inr (.inr h7))))))
              · rw [if_neg h7]
end Mine

-- T41
namespace Mine
structure FixO where
  (sx sdx hl L x c2 tp fl : Addr)
  (oc oc2 : Obj)
  (hvs : List Value)
  (nh e : Nat)
  (es : List DictEntry)
  (tot : Int)
  (R : List Nat)
  (a : Bool)
  (d1 d2 : Nat)
  (l : List Bool)
  (tx : Str)
  (tt : Tok)
  (o0 : Cells)
/-- the floors that stand -/
noncomputable def Flrs (d1 d2 : Nat) (a : Bool) (l : List Bool) (o0 o : Cells) (fls : List Value) (j : Nat) : Prop :=
  fls.length = j ∧ ∀ i, i < j → ∃ (f : Addr) (fv : List Value) (k : Nat), fls[i]? = some (.ref f) ∧ (f, W.listOf fv.toArray k) ∈ o ∧ StrsAre fv ((lev a i l).map (mkW d1 d2)) ∧ ∀ p ∈ o0, p.1 ≠ f
theorem Flrs.snoc {d1 d2 : Nat} {a : Bool} {l : List Bool} {o0 o o' : Cells} {fls : List Value} {j : Nat} (h : Flrs d1 d2 a l o0 o fls j) (hs : ∀ p ∈ o, p ∈ o') {f : Addr} {fv : List Value} {k : Nat} (hm : (f, W.listOf fv.toArray k) ∈ o') (hf : StrsAre fv ((lev a j l).map (mkW d1 d2))) (hn : ∀ p ∈ o0, p.1 ≠ f) :
    Flrs d1 d2 a l o0 o' (fls ++ [.ref f]) (j + 1) := by
  obtain ⟨e, h⟩ := h
  refine ⟨by simp [e], fun i hi => ?_⟩
  by_cases q : i < j
  · obtain ⟨f', fv', k', h1, h2, h3⟩ := h i q
    exact ⟨f', fv', k', by rw [List.getElem?_append_left (by omega)]; exact h1, hs _ h2, h3⟩
  · have : i = j := by omega
    subst this
    exact ⟨f, fv, k, by subst e; simp, hm, hf, hn⟩
theorem Flrs.less {d1 d2 : Nat} {a : Bool} {l : List Bool} {o0 o0' o : Cells} {fls : List Value} {j : Nat} (h : Flrs d1 d2 a l o0 o fls j) (hs : ∀ p ∈ o0', p ∈ o0) : Flrs d1 d2 a l o0' o fls j :=
  ⟨h.1, fun i hi => by obtain ⟨f, fv, k, a, b, c, d⟩ := h.2 i hi; exact ⟨f, fv, k, a, b, c, fun p hp => d p (hs p hp)⟩⟩
noncomputable abbrev cellsX (z : FixO) (fls : List Value) (nfl ns : Nat) (o : Cells) : Cells :=
  (z.fl, W.listOf fls.toArray nfl) :: (z.sx, accObj 101 z.sdx [.ref z.tp] ns) :: (z.sdx, dictOf z.es z.e) :: (z.L + 1, z.oc) :: (z.hl, W.listOf z.hvs.toArray z.nh) :: o
noncomputable def OuterInv (prog : Program) (w : World) (z : FixO) (I : Addr) (r : List Value) (m : Str → Option Value) (news : Cells) : Prop :=
  ∃ (j : Nat) (vTu vO vD vW vLa vFa vSz vT vB : Option Value) (fls : List Value) (nfl ns : Nat) (o1 o4 : Cells),
    j + r.length = 3 ∧ IntsAre r ([1, 2, 4].drop j) ∧ m = mX vTu vO vD vW vLa vFa vSz (mOut vT vB z.fl z.sx z.hl z.a z.tx z.tt) ∧ news = cellsX z fls nfl ns (o1 ++ o4) ∧
    (j = 0 → LexA prog w z.x z.c2 z.oc2 z.tot z.R o1 ((lev z.a 0 z.l).map (mkW z.d1 z.d2))) ∧
    (0 < j → LexS prog w z.x z.c2 z.oc2 z.tot o1 ((lev z.a j z.l).map (mkW z.d1 z.d2)) z.R) ∧
    Flrs z.d1 z.d2 z.a z.l z.o0 o4 fls j ∧ (∀ p ∈ z.o0, p ∈ o4) ∧
    (∀ p ∈ o1, ∀ q ∈ dum I :: cellsX z fls nfl ns o4, p.1 ≠ q.1) ∧
    (∀ p ∈ o4, ∀ q ∈ dum I :: cellsX z fls nfl ns [], p.1 ≠ q.1)
theorem lev_nx (a : Bool) (j : Nat) (l : List Bool) : lev a (j + 1) l = nx a (lev a j l) ++ cond a ((lev a j l).map oL) [] := by
  cases a
  · show kids _ = kids _ ++ []
    rw [List.append_nil]
  · rfl
theorem enum_snd (ws : List (List Bool)) : (enum ws).map (·.2) = ws := by
  unfold enum
  rw [List.map_snd_zip]
  simp
theorem enum_fst (ws : List (List Bool)) : ∀ p ∈ enum ws, p.1 < ws.length := fun p hp => by
  have := List.of_mem_zip hp
  simpa using this.1
theorem enum_len (ws : List (List Bool)) : (enum ws).length = ws.length := by unfold enum; simp
section
variable {prog : Program} {w : World} {g : Heap} {dp un : Nat} {gd : Option (List Code)} {fr : List Env}
theorem outerTurn (G : Gd (KH w.params) g) (hdp : dp + 20 < recursionLimit) (hun : un + 400 < cLine) (z : FixO)
    (hd1 : z.d1 ∈ nmC) (hd2 : z.d2 ∈ nmC) (hlev : ∀ j, j < 3 → (lev z.a j z.l).length = 2 ^ j ∧ ∀ u ∈ lev z.a j z.l, u.length ≤ 200) (hh : z.hvs.length = 5 ∧ ∀ v ∈ z.hvs, HandOk prog w v) (hoc : z.oc.data = .cell (some (.ref z.x)))
    (hes : getL "append" z.es = some none) (hes' : getL "push" z.es = some none) (hes2 : getL "pop_from" z.es = some none) (hsx : z.sx ≠ 101)
    (hap : @Ne Nat z.sx z.fl ∧ @Ne Nat z.sdx z.fl ∧ @Ne Nat (z.L + 1) z.fl ∧ @Ne Nat z.hl z.fl ∧ @Ne Nat z.sdx z.sx ∧ @Ne Nat (z.L + 1) z.sx ∧ @Ne Nat z.hl z.sx ∧ @Ne Nat (z.L + 1) z.sdx ∧ @Ne Nat z.hl z.sdx ∧ @Ne Nat z.hl (z.L + 1))
    {I : Addr} (hI : @Ne Nat z.fl I ∧ @Ne Nat z.sx I ∧ @Ne Nat z.sdx I ∧ @Ne Nat (z.L + 1) I ∧ @Ne Nat z.hl I) {v : Value} {r : List Value} {m : Str → Option Value} {news : Cells} (J : OuterInv prog w z I (v :: r) m news) {it : Obj} {s : Shared} {h : Heap} {tk : Nat}
    (F : Fr g z.L h (fun y => if y = "size" then some v else m y)) (N : News g z.L h ((I, it) :: news)) {Q' : Flow → Shared → Prop}
    (hQ : ∀ h' tk' m' news', OuterInv prog w z I r m' news' → Fr g z.L h' m' → News g z.L h' ((I, it) :: news') → (∀ p ∈ news', p.1 ≠ I) → Q' .next { s with heap := h', toks := tk' }) :
    wpAny (model prog w) (arT (dp + 1) (un + 3) gd (envF z.L :: fr)) (execs outerB (envF z.L)) Q' (fun _ _ => False) { s with heap := h, toks := tk } := by
  obtain ⟨j, vTu, vO, vD, vW, vLa, vFa, vSz, vT, vB, fls, nfl, ns, o1, o4, hj, hint, rfl, rfl, hx0, hx1, hfl, ho0, H1, H4⟩ := J
  have hj3 : j < 3 := by simp only [List.length_cons] at hj; omega
  obtain ⟨hl1, hl2⟩ := hlev j hj3
  have hn4 : (lev z.a j z.l).length ≤ 4 := by
    rw [hl1]
    have : j = 0 ∨ j = 1 ∨ j = 2 := by omega
    rcases this with rfl | rfl | rfl <;> decide
  obtain ⟨tn, rfl, hint'⟩ : ∃ tn, v = .int ((lev z.a j z.l).length : Nat) tn ∧ IntsAre r ([1, 2, 4].drop (j + 1)) := by
    have : j = 0 ∨ j = 1 ∨ j = 2 := by omega
    rcases this with rfl | rfl | rfl
    · rw [hl1]; cases hint with | cons _ u k => exact ⟨u, rfl, k⟩
    · rw [hl1]; cases hint with | cons _ u k => exact ⟨u, rfl, k⟩
    · rw [hl1]; cases hint with | cons _ u k => exact ⟨u, rfl, k⟩
  clear hint
  refine startStep (s := s) G F N ?_
  intro fa la h1 tk1 F1 N1 A1 A2 A3
  have F1 := frOf F1 mX_start
  have fne : ∀ p ∈ (I, it) :: cellsX z fls nfl ns (o1 ++ o4), @Ne Nat p.1 fa := fun p hp => Nat.ne_of_lt (allLt_at A1 hp)
  have lne : ∀ p ∈ (I, it) :: cellsX z fls nfl ns (o1 ++ o4), @Ne Nat p.1 la := fun p hp => Nat.ne_of_lt (allLt_at A3 hp)
  obtain ⟨e1, e2, e3, e4, e5, e6, e7, e8, e9, e10⟩ := hap
  obtain ⟨i1, i2, i3, i4, i5⟩ := hI
  have f1 : @Ne Nat z.fl fa := fne (z.fl, _) (.tail _ (.head _))
  have f2 : @Ne Nat z.sx fa := fne (z.sx, _) (.tail _ (.tail _ (.head _)))
  have f3 : @Ne Nat z.sdx fa := fne (z.sdx, _) (.tail _ (.tail _ (.tail _ (.head _))))
  have f4 : @Ne Nat (z.L + 1) fa := fne (z.L + 1, _) (.tail _ (.tail _ (.tail _ (.tail _ (.head _)))))
  have f5 : @Ne Nat z.hl fa := fne (z.hl, _) (.tail _ (.tail _ (.tail _ (.tail _ (.tail _ (.head _))))))
  have fI : @Ne Nat I fa := fne (I, it) (.head _)
  have l1 : @Ne Nat z.fl la := lne (z.fl, _) (.tail _ (.head _))
  have l2 : @Ne Nat z.sx la := lne (z.sx, _) (.tail _ (.tail _ (.head _)))
  have l3 : @Ne Nat z.sdx la := lne (z.sdx, _) (.tail _ (.tail _ (.tail _ (.head _))))
  have l4 : @Ne Nat (z.L + 1) la := lne (z.L + 1, _) (.tail _ (.tail _ (.tail _ (.tail _ (.head _)))))
  have l5 : @Ne Nat z.hl la := lne (z.hl, _) (.tail _ (.tail _ (.tail _ (.tail _ (.tail _ (.head _))))))
  have lI : @Ne Nat I la := lne (I, it) (.head _)
  have lf : @Ne Nat la fa := Nat.ne_of_gt A2
  have fo : ∀ p ∈ o1 ++ o4, @Ne Nat p.1 fa := fun p hp => fne p (.tail _ (.tail _ (.tail _ (.tail _ (.tail _ (.tail _ hp))))))
  have lo : ∀ p ∈ o1 ++ o4, @Ne Nat p.1 la := fun p hp => lne p (.tail _ (.tail _ (.tail _ (.tail _ (.tail _ (.tail _ hp))))))
  have hap' : @Ne Nat la fa ∧ @Ne Nat z.sx fa ∧ @Ne Nat z.sdx fa ∧ @Ne Nat (z.L + 1) fa ∧ @Ne Nat z.hl fa ∧ @Ne Nat z.sx la ∧ @Ne Nat z.sdx la ∧ @Ne Nat (z.L + 1) la ∧ @Ne Nat z.hl la ∧ @Ne Nat z.sdx z.sx ∧ @Ne Nat (z.L + 1) z.sx ∧ @Ne Nat z.hl z.sx ∧ @Ne Nat (z.L + 1) z.sdx ∧ @Ne Nat z.hl z.sdx ∧ @Ne Nat z.hl (z.L + 1) :=
    ⟨lf, f2, f3, f4, f5, l2, l3, l4, l5, e5, e6, e7, e8, e9, e10⟩
  have hq : LexA prog w z.x z.c2 z.oc2 z.tot z.R o1 ((lev z.a j z.l).map (mkW z.d1 z.d2)) := by
    rcases Nat.eq_zero_or_pos j with h0 | h0
    · subst h0; exact hx0 rfl
    · exact .inl (hx1 h0)
  have N2 := cb_drop (news := cellsIn fa la z.sx z.sdx z.hl z.L [] [] [.ref z.tp] 0 0 ns z.e z.nh z.es z.oc z.hvs (o1 ++ ((I, it) :: (z.fl, W.listOf fls.toArray nfl) :: o4))) N1 (by lcg_sub)
  clear N1 N F
  refine innerLoop (s := s) G hdp hun ⟨fa, la, z.sx, z.sdx, z.hl, z.L, z.x, z.c2, z.tp, z.oc, z.oc2, z.hvs, z.nh, z.e, z.es, z.tot, ((lev z.a j z.l).length : Nat), tn, z.R, z.a, z.d1, z.d2, lev z.a j z.l, mOut vT vB z.fl z.sx z.hl z.a z.tx z.tt, (I, it) :: (z.fl, W.listOf fls.toArray nfl) :: o4⟩
    rfl hd1 hd2 rfl hn4 hl2 hh hoc hes hes' hap' hq F1 N2 (fun p hp q hq => ?_) (fun p hp q hq => ?_) ?_
  · revert q
    refine allC ?_ (allC ?_ (allC ?_ (allC ?_ (allC ?_ (allC ?_ (allC ?_ (allC ?_ (fun q hq => ?_))))))))
    · exact fo p (List.mem_append_left _ hp)
    · exact lo p (List.mem_append_left _ hp)
    · exact H1 p hp (z.sx, _) (.tail _ (.tail _ (.head _)))
    · exact H1 p hp (z.sdx, _) (.tail _ (.tail _ (.tail _ (.head _))))
    · exact H1 p hp (z.L + 1, _) (.tail _ (.tail _ (.tail _ (.tail _ (.head _)))))
    · exact H1 p hp (z.hl, _) (.tail _ (.tail _ (.tail _ (.tail _ (.tail _ (.head _))))))
    · exact H1 p hp (dum I) (.head _)
    · exact H1 p hp (z.fl, _) (.tail _ (.head _))
    · exact H1 p hp q (.tail _ (.tail _ (.tail _ (.tail _ (.tail _ (.tail _ hq))))))
  · simp only [cellsIn, List.mem_cons, List.not_mem_nil, or_false] at hq
    rcases List.mem_cons.mp hp with rfl | hp
    · rcases hq with rfl | rfl | rfl | rfl | rfl | rfl
      · exact fI
      · exact lI
      · exact Ne.symm i2
      · exact Ne.symm i3
      · exact Ne.symm i4
      · exact Ne.symm i5
    · rcases List.mem_cons.mp hp with rfl | hp
      · rcases hq with rfl | rfl | rfl | rfl | rfl | rfl
        · exact f1
        · exact l1
        · exact Ne.symm e1
        · exact Ne.symm e2
        · exact Ne.symm e3
        · exact Ne.symm e4
      · rcases hq with rfl | rfl | rfl | rfl | rfl | rfl
        · exact fo p (List.mem_append_right _ hp)
        · exact lo p (List.mem_append_right _ hp)
        · exact H4 p hp (z.sx, _) (.tail _ (.tail _ (.head _)))
        · exact H4 p hp (z.sdx, _) (.tail _ (.tail _ (.tail _ (.head _))))
        · exact H4 p hp (z.L + 1, _) (.tail _ (.tail _ (.tail _ (.tail _ (.head _)))))
        · exact H4 p hp (z.hl, _) (.tail _ (.tail _ (.tail _ (.tail _ (.tail _ (.head _))))))
  intro I' h2 tk2 m2 news2 J2 F2 N3
  obtain ⟨vTu2, vO2, vD2, vW2, fv, lv, sv, nf, nl, ns2, o1', o3, rfl, rfl, hfv, -, hx2, hf, ht, ho3, H1', H3'⟩ := J2
  dsimp only at hfv hx2 hf ht ho3 H1' H3' F2 N3
  rw [List.take_length] at hfv hx2 ht
  rw [List.drop_length, List.nil_append] at hx2
  have hx2 := hx2 (by rw [hl1]; exact Nat.pow_pos (by decide))
  obtain ⟨P, pv, rfl, k1, k2, hPe⟩ : ∃ P pv, sv = .ref z.tp :: pv ∧ Laid z.d1 z.d2 o3 lv P ∧ Laid z.d1 z.d2 o3 pv P ∧ P = cond z.a (enum (lev z.a j z.l)) [] := by
    cases ha : z.a with
    | false =>
      obtain ⟨rfl, rfl⟩ := hf ha
      exact ⟨[], [], rfl, .nil, .nil, rfl⟩
    | true =>
      obtain ⟨pv, e, q1, q2⟩ := ht ha
      rw [ha] at q1 q2
      exact ⟨_, pv, e, q1, q2, rfl⟩
  have hPl : P.length ≤ 4 := by
    rw [hPe]
    cases ha : z.a with
    | false => exact Nat.zero_le _
    | true => rw [ha] at hn4; show (enum _).length ≤ 4; rw [enum_len]; exact hn4
  have hPk : ∀ p ∈ P, p.1 < 4 := by
    rw [hPe]
    cases ha : z.a with
    | false => intro p hp; cases hp
    | true => intro p hp; rw [ha] at hn4; exact Nat.lt_of_lt_of_le (enum_fst _ p hp) hn4
  have hPs : nx z.a (lev z.a j z.l) ++ P.map (fun p => oL p.2) = lev z.a (j + 1) z.l := by
    rw [lev_nx, hPe]
    congr 1
    cases z.a with
    | false => rfl
    | true =>
      show (enum _).map (fun p => oL p.2) = (lev true j z.l).map oL
      conv => rhs; rw [← enum_snd (lev true j z.l)]
      rw [List.map_map]; rfl
  have hpv : pv.length = P.length := k2.length
  have hfin : (z.fl, W.listOf fls.toArray nfl) ∈ o3 := ho3 _ (.tail _ (.head _))
  refine takeStep (s := s) G hdp hun (by omega) hes2 F2 N3 hap' (fun p hp q hq => ?_) hsx ?_
  · rcases List.mem_append.mp hp with hp | hp
    · refine H1' p hp q (List.mem_cons_of_mem _ ?_)
      revert q; lcg_sub
    · exact H3' p hp q (.tail _ hq)
  intro y h3 tk3 ns3 F3 N4 hy
  refine pairStep (s := s) (q := (nx z.a (lev z.a j z.l)).map (mkW z.d1 z.d2)) G hdp hun hPl (by rw [List.length_map]; have := nx_len z.a (lev z.a j z.l); omega) hoc rfl hx2 k2 F3 N4 (fun p hp q hq => ?_) ?_
  · rcases List.mem_cons.mp hq with rfl | hq
    · refine hy p ?_
      lcg_src
    · exact (offMap H1' (r' := dum I' :: cellsIn fa la z.sx z.sdx z.hl z.L fv lv [.ref z.tp] nf nl ns3 z.e z.nh z.es z.oc z.hvs o3) rfl) p hp q (List.mem_cons_of_mem _ hq)
  intro h4 tk4 vB4 vO4 o1'' hx4 F4 N5 H5
  have N6 := cb_drop (news := (z.fl, W.listOf fls.toArray nfl) :: (y, W.listOf pv.toArray 0) :: cellsIn fa la z.sx z.sdx z.hl z.L fv lv [.ref z.tp] nf nl ns3 z.e z.nh z.es z.oc z.hvs (o1'' ++ o3)) N5 (fun p hp => by
    rcases List.mem_cons.mp hp with rfl | hp
    · lcg_src
    · exact hp)
  refine floorStep (s := s) (o4 := (I, it) :: o4) G hdp hun hPk hd1 hd2 (by rw [hfl.1]; omega) rfl k1 k2 (fun p hp => ho3 p ?_) (fun p hp => ?_) (fun p hp => ?_) ⟨Ne.symm f1, e1, e2, e3, e4⟩ F4 N6 ?_
  · rcases List.mem_cons.mp hp with rfl | hp
    · exact .head _
    · exact .tail _ (.tail _ hp)
  · rcases List.mem_cons.mp hp with rfl | hp
    · exact Ne.symm i1
    · exact H4 p hp (z.fl, _) (.tail _ (.head _))
  · refine H5 p hp (z.fl, W.listOf fls.toArray nfl) ?_
    lcg_src
  intro h5 tk5 F5 N7
  have o1ne : ∀ p ∈ o1'', ∀ q ∈ (fa, W.listOf fv.toArray nf) :: o4, p.1 ≠ q.1 := fun p hp q hq => by
    rcases List.mem_cons.mp hq with rfl | hq
    · exact H5 p hp (fa, W.listOf fv.toArray nf) (.tail _ (.head _))
    · refine H5 p hp q ?_
      simp only [cellsIn, List.mem_cons]
      have := ho3 q (.tail _ (.tail _ hq))
      simp [this]
  refine hQ h5 tk5 _ (cellsX z (fls ++ [.ref fa]) (nfl + 1) ns3 (o1'' ++ ((fa, W.listOf fv.toArray nf) :: o4))) ⟨j + 1, vTu2, vO4, vD2, vW2, _, _, _, some (.ref y), vB4, fls ++ [.ref fa], nfl + 1, ns3, o1'', (fa, W.listOf fv.toArray nf) :: o4, ?_, hint', funext mX_of, rfl, fun e => absurd e (Nat.succ_ne_zero j), fun _ => ?_, ?_, fun p hp => .tail _ (ho0 p hp), fun p hp q hq => ?_, fun p hp q hq => ?_⟩ F5 (cb_drop N7 fun p hp => ?_) fun p hp => ?_
  · simp only [List.length_cons] at hj; omega
  · rw [← hPs, List.map_append, List.map_map]
    exact hx4
  · exact hfl.snoc (fun p hp => .tail _ hp) (.head _) hfv (fun p hp => fo p (List.mem_append_right _ (ho0 p hp)))
  · revert q
    refine allC ?_ (allC ?_ (allC ?_ (allC ?_ (allC ?_ (allC ?_ (fun q hq => ?_))))))
    · refine H5 p hp (I, it) ?_
      have hx9 := ho3 (I, it) (.head _)
      lcg_src
    · refine H5 p hp (z.fl, W.listOf fls.toArray nfl) ?_
      lcg_src
    · exact H5 p hp (z.sx, accObj 101 z.sdx [.ref z.tp] ns3) (by lcg_src)
    · exact H5 p hp (z.sdx, dictOf z.es z.e) (by lcg_src)
    · exact H5 p hp (z.L + 1, z.oc) (by lcg_src)
    · exact H5 p hp (z.hl, W.listOf z.hvs.toArray z.nh) (by lcg_src)
    · exact o1ne p hp q hq
  · simp only [cellsX, List.mem_cons, List.not_mem_nil, or_false] at hq
    rcases List.mem_cons.mp hp with rfl | hp
    · rcases hq with rfl | rfl | rfl | rfl | rfl | rfl
      · exact Ne.symm fI
      · exact Ne.symm f1
      · exact Ne.symm f2
      · exact Ne.symm f3
      · exact Ne.symm f4
      · exact Ne.symm f5
    · rcases hq with rfl | rfl | rfl | rfl | rfl | rfl
      · exact H4 p hp (dum I) (.head _)
      · exact H4 p hp (z.fl, W.listOf fls.toArray nfl) (.tail _ (.head _))
      · exact H4 p hp (z.sx, accObj 101 z.sdx [.ref z.tp] ns) (.tail _ (.tail _ (.head _)))
      · exact H4 p hp (z.sdx, _) (.tail _ (.tail _ (.tail _ (.head _))))
      · exact H4 p hp (z.L + 1, _) (.tail _ (.tail _ (.tail _ (.tail _ (.head _)))))
      · exact H4 p hp (z.hl, _) (.tail _ (.tail _ (.tail _ (.tail _ (.tail _ (.head _))))))
  · revert p; lcg_sub
  · simp only [cellsX, List.mem_cons, List.mem_append] at hp
    rcases hp with rfl | rfl | rfl | rfl | rfl | hp | rfl | hp
    · exact i1
    · exact i2
    · exact i3
    · exact i4
    · exact i5
    · refine H5 p hp (I, it) ?_
      have hx9 := ho3 (I, it) (.head _)
      lcg_src
    · exact Ne.symm fI
    · exact H4 p hp (dum I) (.head _)
end
end Mine

-- T42
namespace Mine
section
variable {prog : Program} {w : World} {g : Heap} {dp un : Nat} {gd : Option (List Code)} {fr : List Env}
theorem outerLoop (G : Gd (KH w.params) g) (hdp : dp + 20 < recursionLimit) (hun : un + 400 < cLine) (z : FixO)
    (hd1 : z.d1 ∈ nmC) (hd2 : z.d2 ∈ nmC) (hlev : ∀ j, j < 3 → (lev z.a j z.l).length = 2 ^ j ∧ ∀ u ∈ lev z.a j z.l, u.length ≤ 200) (hh : z.hvs.length = 5 ∧ ∀ v ∈ z.hvs, HandOk prog w v) (hoc : z.oc.data = .cell (some (.ref z.x)))
    (hes : getL "append" z.es = some none) (hes' : getL "push" z.es = some none) (hes2 : getL "pop_from" z.es = some none) (hsx : z.sx ≠ 101)
    (hap : @Ne Nat z.sx z.fl ∧ @Ne Nat z.sdx z.fl ∧ @Ne Nat (z.L + 1) z.fl ∧ @Ne Nat z.hl z.fl ∧ @Ne Nat z.sdx z.sx ∧ @Ne Nat (z.L + 1) z.sx ∧ @Ne Nat z.hl z.sx ∧ @Ne Nat (z.L + 1) z.sdx ∧ @Ne Nat z.hl z.sdx ∧ @Ne Nat z.hl (z.L + 1))
    {ns : Nat} {o1 : Cells} (hx : LexA prog w z.x z.c2 z.oc2 z.tot z.R o1 [mkW z.d1 z.d2 z.l]) {s : Shared} {h : Heap} {tk : Nat}
    (F : Fr g z.L h (mOut none none z.fl z.sx z.hl z.a z.tx z.tt)) (N : News g z.L h (cellsX z [] 0 ns (o1 ++ z.o0)))
    (H1 : ∀ p ∈ o1, ∀ q ∈ cellsX z [] 0 ns z.o0, p.1 ≠ q.1) (H4 : ∀ p ∈ z.o0, ∀ q ∈ cellsX z [] 0 ns [], p.1 ≠ q.1) {Q' : Flow → Shared → Prop}
    (hQ : ∀ h' tk' vTu vO vD vW vLa vFa vSz vT vB fls nfl ns' o1' o4, LexS prog w z.x z.c2 z.oc2 z.tot o1' ((lev z.a 3 z.l).map (mkW z.d1 z.d2)) z.R → Flrs z.d1 z.d2 z.a z.l z.o0 o4 fls 3 → (∀ p ∈ z.o0, p ∈ o4) →
      (∀ p ∈ o1', ∀ q ∈ cellsX z fls nfl ns' o4, p.1 ≠ q.1) → (∀ p ∈ o4, ∀ q ∈ cellsX z fls nfl ns' [], p.1 ≠ q.1) →
      Fr g z.L h' (mX vTu vO vD vW vLa vFa vSz (mOut vT vB z.fl z.sx z.hl z.a z.tx z.tt)) → News g z.L h' (cellsX z fls nfl ns' (o1' ++ o4)) →
      wpAny (model prog w) (arT (dp + 1) (un + 3) gd (envF z.L :: fr)) (execs (bodyF.drop 5) (envF z.L)) Q' (fun _ _ => False) { s with heap := h', toks := tk' }) :
    wpAny (model prog w) (arT (dp + 1) (un + 3) gd (envF z.L :: fr)) (execs (bodyF.drop 4) (envF z.L)) Q' (fun _ _ => False) { s with heap := h, toks := tk } := by
  obtain ⟨X, ⟨p, loose, mean, mg, mb, T⟩, codeHd⟩ := id G
  have hV : VMark := trivial
  show wpAny _ _ (execs (List.cons _ (bodyF.drop 5)) _) _ _ _
  generalize hrest : bodyF.drop 5 = rest at *
  unfold envF at hQ ⊢
  conv in (occs := *) scF => all_goals whnf
  iterate 10 walk1
  rename_i Q2 hq2 hr2 D h2 F2 N2 l2
  obtain ⟨b1, b2, b3, b4, b5, b6⟩ := l2
  dsimp only
  have N2 := cb_drop (news := cellsX z [] 0 ns (o1 ++ ((D, W.listOf #[Value.int 1 tk, Value.int 2 (tk + 1), Value.int 4 (tk + 1 + 1)] 0) :: z.o0))) N2 (by lcg_sub)
  have hD : (D, W.listOf #[Value.int 1 tk, Value.int 2 (tk + 1), Value.int 4 (tk + 1 + 1)] 0) ∈ cellsX z [] 0 ns (o1 ++ ((D, W.listOf #[Value.int 1 tk, Value.int 2 (tk + 1), Value.int 4 (tk + 1 + 1)] 0) :: z.o0)) := by simp [cellsX]
  refine listForI rfl F2 N2 hD (fun I r m news => OuterInv prog w { z with o0 := (D, W.listOf #[Value.int 1 tk, Value.int 2 (tk + 1), Value.int 4 (tk + 1 + 1)] 0) :: z.o0 } I r m news ∧ (@Ne Nat z.fl I ∧ @Ne Nat z.sx I ∧ @Ne Nat z.sdx I ∧ @Ne Nat (z.L + 1) I ∧ @Ne Nat z.hl I)) ?_ ?_ ?_
  · intro I hI
    have hI2 : @Ne Nat D I := Nat.ne_of_lt (hI (D, _) hD)
    have k1 : @Ne Nat z.fl I := Nat.ne_of_lt (hI (z.fl, _) (.head _))
    have k2 : @Ne Nat z.sx I := Nat.ne_of_lt (hI (z.sx, _) (.tail _ (.head _)))
    have k3 : @Ne Nat z.sdx I := Nat.ne_of_lt (hI (z.sdx, _) (.tail _ (.tail _ (.head _))))
    have k4 : @Ne Nat (z.L + 1) I := Nat.ne_of_lt (hI (z.L + 1, _) (.tail _ (.tail _ (.tail _ (.head _)))))
    have k5 : @Ne Nat z.hl I := Nat.ne_of_lt (hI (z.hl, _) (.tail _ (.tail _ (.tail _ (.tail _ (.head _))))))
    have k6 : ∀ p ∈ o1 ++ z.o0, @Ne Nat p.1 I := fun p hp => Nat.ne_of_lt (hI p (.tail _ (.tail _ (.tail _ (.tail _ (.tail _ (by
      rcases List.mem_append.mp hp with hp | hp
      · exact List.mem_append_left _ hp
      · exact List.mem_append_right _ (.tail _ hp))))))))
    have k7 : ∀ p ∈ o1 ++ z.o0, @Ne Nat p.1 D := fun p hp => Nat.ne_of_lt (allLt_at b6 hp)
    refine ⟨⟨0, none, none, none, none, none, none, none, none, none, [], 0, ns, o1, _, rfl, .cons 1 _ (.cons 2 _ (.cons 4 _ .nil)), funext (mX_none fun y hy => ?_), rfl, fun _ => hx, fun h => absurd h (Nat.lt_irrefl 0), ⟨rfl, fun i hi => absurd hi (Nat.not_lt_zero i)⟩, fun p hp => hp, fun p hp q hq => ?_, fun p hp q hq => ?_⟩, k1, k2, k3, k4, k5⟩
    · rcases hy with rfl | rfl | rfl | rfl | rfl | rfl | rfl <;> kernel_rfl
    · rcases List.mem_cons.mp hq with rfl | hq
      · exact k6 p (List.mem_append_left _ hp)
      · simp only [cellsX, List.mem_cons] at hq
        by_cases hqd : q = (D, W.listOf #[Value.int 1 tk, Value.int 2 (tk + 1), Value.int 4 (tk + 1 + 1)] 0)
        · subst hqd; exact k7 p (List.mem_append_left _ hp)
        · refine H1 p hp q ?_
          simp only [hqd, false_or] at hq
          simp only [cellsX, List.mem_cons]
          exact hq
    · rcases List.mem_cons.mp hp with rfl | hp
      · revert q
        refine allC ?_ (allC ?_ (allC ?_ (allC ?_ (allC ?_ (allC ?_ (allN))))))
        · exact hI2
        · exact Nat.ne_of_gt b1
        · exact Nat.ne_of_gt b2
        · exact Nat.ne_of_gt b3
        · exact Nat.ne_of_gt b4
        · exact Nat.ne_of_gt b5
      · rcases List.mem_cons.mp hq with rfl | hq
        · exact k6 p (List.mem_append_right _ hp)
        · exact H4 p hp q hq
  · intro I v r m news J it h3 tk3 F3 N3 Q3 hq3 hr3
    refine outerTurn (s := s) G hdp hun { z with o0 := (D, W.listOf #[Value.int 1 tk, Value.int 2 (tk + 1), Value.int 4 (tk + 1 + 1)] 0) :: z.o0 } hd1 hd2 hlev hh hoc hes hes' hes2 hsx hap J.2 J.1 F3 N3 (fun h' tk' m' news' J' F' N' off => hq3 h' tk' m' news' ⟨J', J.2⟩ F' N' off ?_)
    obtain ⟨j, -, -, -, -, -, -, -, -, -, -, -, -, o1', o4', -, -, -, rfl, -, -, -, ho0, -, -⟩ := J'
    have hin := ho0 _ (.head _)
    lcg_src
  · intro I m news h3 tk3 J F3 N3
    obtain ⟨⟨j, vTu, vO, vD, vW, vLa, vFa, vSz, vT, vB, fls, nfl, ns', o1', o4', hj, -, rfl, rfl, -, hx1, hfl, ho0, H1', H4'⟩, -⟩ := J
    have hj3 : j = 3 := hj
    subst hj3
    exact hq2 _ (hQ h3 tk3 vTu vO vD vW vLa vFa vSz vT vB fls nfl ns' o1' o4' (hx1 (by omega)) (hfl.less fun p hp => .tail _ hp) (fun p hp => ho0 p (.tail _ hp)) (fun p hp q hq => H1' p hp q (.tail _ hq)) (fun p hp q hq => H4' p hp q (.tail _ hq)) F3 N3)
end
end Mine

-- MComp
namespace Mine
section
variable {prog : Program} {w : World} {A : Around} {E : Value → Shared → Prop} {s : Shared} {h₀ : Heap} {L : Addr} {m : Str → Option Value} {env : Env}
/-- a comprehension, its source made: the walk stops here -/
noncomputable def CompV (prog : Program) (w : World) (A : Around) (h₀ : Heap) (L : Addr) (m : Str → Option Value) (env : Env) (elt : PySem.Expr) (x : Str) (scope : Scope) (cl : List (Str × Addr)) (Q : Value → Shared → Prop) (xv : Value) (s₁ : Shared) : Prop :=
  LCg.CompSrc prog w A h₀ L m env elt x scope cl (fun s₂ => LCg.FinE h₀ L m s₂ Q) xv s₁
theorem compV {elt iter : PySem.Expr} {x : Str} {px : Pos} {scope : Scope} {cl : List (Str × Addr)} {pos : Pos} {Q : Value → Shared → Prop} (_ : VMark) (F₀ : Fr h₀ L s.heap m)
    (hclos : closureFor scope env = pure cl) (hcell : ∀ y ∈ scope.names, y.2 ≠ .cell) (hkind : scope.kind = .function)
    (hnames : ∀ y ∈ scope.names, y.2 = .local → scope.names.lookup y.1 = some .local) (hx : scope.names.lookup x = some .local)
    (h : wpAny (model prog w) A (eval iter env) (CompV prog w A h₀ L m env elt x scope cl Q) E s)
    (hs : ∀ x, foldedSetIterable iter env x = pure x := by intro _; rfl) :
    wpAny (model prog w) A (eval (.ListComp elt [⟨.Name x px, iter, [], 0⟩] scope pos) env) Q E s := LCg.ListComp_U F₀ hclos hcell hkind hnames hx h hs
theorem compEndMono {I C D : Addr} {s₁ : Shared} {oI oC oD : Obj} {S : Cells → Prop} {r1 r2 : Value → Cells → Prop} {y : Value} {s₂ : Shared} (h : LCg.CompEnd h₀ L m s₁ I oI C oC D oD S r1 y s₂) (i : ∀ n, r1 y n → r2 y n) : LCg.CompEnd h₀ L m s₁ I oI C oC D oD S r2 y s₂ := by
  obtain ⟨h', tk, news', a, b, c, d, e, f⟩ := h
  exact ⟨h', tk, news', a, b, c, d, e, i _ f⟩
theorem compInv {elt : PySem.Expr} {x : Str} {scope : Scope} {cl : List (Str × Addr)} {S : Cells → Prop} {P : Nat → Value → Prop} {Fi : List Value → Cells → Prop} {n : Nat} (Inv : Nat → List Value → Cells → Prop)
    (step : ∀ i ys news, i < n → Inv i ys news → ∀ v I oI C oC D m₂ h tk (E' : Value → Shared → Prop), P i v → LCg.NsObj oC m₂ → m₂ x = some v → Fr h₀ L h m → News h₀ L h ((I, oI) :: (C, oC) :: (D, LCg.lst ys) :: news) → LCg.Off3 I C D news → ((@Ne Nat I C) ∧ (@Ne Nat I D) ∧ (@Ne Nat C D)) →
      wpAny (model prog w) A (eval elt (compEnvC scope cl C env)) (LCg.CompEnd h₀ L m { s with heap := h, toks := tk } I oI C oC D (LCg.lst ys) S (fun y news' => Inv (i + 1) (ys ++ [y]) news')) E' { s with heap := h, toks := tk })
    (fin : ∀ ys news, Inv n ys news → Fi ys news) : ∀ k i ys news, i + k = n → Inv i ys news → LCg.CompRest prog w A h₀ L m env elt x scope cl s S P Fi k i ys news
  | 0, i, ys, news, e, hI => LCg.CompRest.zero (fin ys news (by rw [← e]; exact hI))
  | k + 1, i, ys, news, e, hI => LCg.CompRest.succ fun v I oI C oC D m₂ h tk E' a b c d f g j =>
      wpAny_mono (step i ys news (by omega) hI v I oI C oC D m₂ h tk E' a b c d f g j) (fun y s' q => compEndMono q fun news' r => compInv Inv step fin k (i + 1) _ news' (by omega) r) fun _ _ q => q
end
end Mine
local macro_rules | `(tactic| walk_at "eval ListComp") => `(tactic| (k_here; k_dflt (refine Mine.compV (by assumption) (by k_asm) (by with_unfolding_all rfl) (by decide) (by rfl) (by decide) (by rfl) ?_)))

-- T43
namespace Mine
section
variable {prog : Program} {w : World} {g : Heap} {dp un : Nat} {gd : Option (List Code)} {fr : List Env}
theorem lastFloor (G : Gd (KH w.params) g) (hdp : dp + 20 < recursionLimit) (hun : un + 400 < cLine) (z : FixO) (hoc : z.oc.data = .cell (some (.ref z.x))) {vTu vO vD vW vLa vFa vSz vT vB : Option Value} {fls : List Value} {nfl ns : Nat} {o1 o4 : Cells}
    {s : Shared} {h : Heap} {tk : Nat} (hap : @Ne Nat z.sx z.fl ∧ @Ne Nat z.sdx z.fl ∧ @Ne Nat (z.L + 1) z.fl ∧ @Ne Nat z.hl z.fl ∧ @Ne Nat z.sdx z.sx ∧ @Ne Nat (z.L + 1) z.sx ∧ @Ne Nat z.hl z.sx ∧ @Ne Nat (z.L + 1) z.sdx ∧ @Ne Nat z.hl z.sdx ∧ @Ne Nat z.hl (z.L + 1))
    (hw8 : (lev z.a 3 z.l).length = 8) (hx : LexS prog w z.x z.c2 z.oc2 z.tot o1 ((lev z.a 3 z.l).map (mkW z.d1 z.d2)) z.R) (hfl : Flrs z.d1 z.d2 z.a z.l z.o0 o4 fls 3) (ho0 : ∀ p ∈ z.o0, p ∈ o4)
    (H1 : ∀ p ∈ o1, ∀ q ∈ cellsX z fls nfl ns o4, p.1 ≠ q.1) (H4 : ∀ p ∈ o4, ∀ q ∈ cellsX z fls nfl ns [], p.1 ≠ q.1)
    (F : Fr g z.L h (mX vTu vO vD vW vLa vFa vSz (mOut vT vB z.fl z.sx z.hl z.a z.tx z.tt))) (N : News g z.L h (cellsX z fls nfl ns (o1 ++ o4))) {Q' : Flow → Shared → Prop}
    (hQ : ∀ h' tk' fls' nfl' o1' o4', LexS prog w z.x z.c2 z.oc2 z.tot o1' [] z.R → Flrs z.d1 z.d2 z.a z.l z.o0 o4' fls' 4 → (∀ p ∈ o4, p ∈ o4') →
      (∀ p ∈ o1', ∀ q ∈ cellsX z fls' nfl' ns o4', p.1 ≠ q.1) → (∀ p ∈ o4', ∀ q ∈ cellsX z fls' nfl' ns [], p.1 ≠ q.1) →
      Fr g z.L h' (mX vTu vO vD vW vLa vFa vSz (mOut vT vB z.fl z.sx z.hl z.a z.tx z.tt)) → News g z.L h' (cellsX z fls' nfl' ns (o1' ++ o4')) →
      wpAny (model prog w) (arT (dp + 1) (un + 3) gd (envF z.L :: fr)) (execs (bodyF.drop 6) (envF z.L)) Q' (fun _ _ => False) { s with heap := h', toks := tk' }) :
    wpAny (model prog w) (arT (dp + 1) (un + 3) gd (envF z.L :: fr)) (execs (bodyF.drop 5) (envF z.L)) Q' (fun _ _ => False) { s with heap := h, toks := tk } := by
  obtain ⟨X, ⟨p, loose, mean, mg, mb, T⟩, codeHd⟩ := id G
  have hV : VMark := trivial
  show wpAny _ _ (execs (List.cons _ (bodyF.drop 6)) _) _ _ _
  generalize hrest : bodyF.drop 6 = rest at *
  unfold envF at hQ ⊢
  conv in (occs := *) scF => all_goals whnf
  iterate 15 walk1
  rename_i h1 tk1 t1 u1 v1 hR F1 N1 hk1
  obtain ⟨ws, hws⟩ : ∃ ws, (lev z.a 3 z.l).map (mkW z.d1 z.d2) = ws := ⟨_, rfl⟩
  rw [hws] at hx
  have hwl : ws.length = 8 := by rw [← hws, List.length_map]; exact hw8
  refine LCg.CompSrc.range rfl F1 N1 hR (by decide) (n := 8) (by rfl) (by decide) ?_
  intro g'
  refine compInv (fun i ys news => ∃ o1', news = cellsX z fls nfl ns (o1' ++ o4) ∧ LexS prog w z.x z.c2 z.oc2 z.tot o1' (ws.drop i) z.R ∧ StrsAre ys (ws.take i) ∧ (∀ p ∈ o1', ∀ q ∈ cellsX z fls nfl ns o4, p.1 ≠ q.1)) ?_ ?_ 8 0 [] _ rfl ⟨o1, rfl, hx, .nil, H1⟩
  · rintro i ys news hi ⟨o1', rfl, hx', hys, H1'⟩ v I oI C oC D m₂ h2 tk2 E' hP hC hxm F2 N2 off ⟨n1, n2, n3⟩
    obtain ⟨u, hu⟩ : ∃ u, ws[i]? = some u := ⟨_, List.getElem?_eq_getElem (by omega)⟩
    have hud : ws.drop i = u :: ws.drop (i + 1) := by
      rw [List.drop_eq_getElem_cons (by omega)]
      congr 1
      rw [List.getElem?_eq_getElem (by omega)] at hu
      exact Option.some.inj hu
    have hut : ws.take (i + 1) = ws.take i ++ [u] := by rw [List.take_add_one, hu]; rfl
    rw [hud] at hx'
    have offm := off.mem
    iterate 3 walk1
    refine methGet hx' F2 X N2 (fun p hp => ?_) ?_
    · lcg_src
    walk1
    refine use (own := o1') (rest := (I, oI) :: (C, oC) :: (D, LCg.lst ys) :: cellsX z fls nfl ns o4) (getS hx' (by rw [List.length_drop]; omega)) F2 N2 G (fun p hp => ?_) (fun p hp => ?_) (fun p hp q hq => ?_) (by omega) (by omega) ?_
    · lcg_src
    · revert p; lcg_sub
    · have hpn : p ∈ cellsX z fls nfl ns (o1' ++ o4) := by lcg_src
      obtain ⟨q1, q2, q3⟩ := offm p hpn
      rcases List.mem_cons.mp hq with rfl | hq
      · exact q1
      · rcases List.mem_cons.mp hq with rfl | hq
        · exact q2
        · rcases List.mem_cons.mp hq with rfl | hq
          · exact q3
          · exact H1' p hp q hq
    rintro v h3 tk3 o2 ⟨t', rfl, hx3⟩ F3 N3 H3
    refine LCg.CompEnd.intro F3 N3 (cellsX z fls nfl ns (o2 ++ o4)) (fun p hp => ?_) (LCg.Off3.of fun p hp => ?_) trivial ⟨o2, rfl, hx3, ?_, fun p hp q hq => H3 p hp q (.tail _ (.tail _ (.tail _ hq)))⟩
    · revert p; lcg_sub
    · by_cases hp2 : p ∈ o2
      · exact ⟨H3 p hp2 _ (.head _), H3 p hp2 _ (.tail _ (.head _)), H3 p hp2 _ (.tail _ (.tail _ (.head _)))⟩
      · refine offm p ?_
        simp only [cellsX, List.mem_cons, List.mem_append] at hp ⊢
        simp only [hp2, false_or] at hp
        rcases hp with hp | hp | hp | hp | hp | hp <;> simp [hp]
    · rw [hut]
      exact hys.append' (.cons u t' .nil)
  · rintro ys news ⟨o2, rfl, hx2, hys, H2⟩ D h2 tk2 F2 N2 off
    have e8 : ws.drop 8 = [] := List.drop_eq_nil_of_le (by omega)
    have e9 : ws.take 8 = ws := List.take_of_length_le (by omega)
    have hx2 : LexS prog w z.x z.c2 z.oc2 z.tot o2 [] z.R := by rw [← e8]; exact hx2
    have hys : StrsAre ys ws := by rw [← e9]; exact hys
    have off1 : ∀ p ∈ cellsX z fls nfl ns (o2 ++ o4), @Ne Nat p.1 D := by
      have : ∀ l : Cells, LCg.Off1 D l → ∀ p ∈ l, @Ne Nat p.1 D := fun l => by
        induction l with
        | nil => intro _ p hp; cases hp
        | cons a r ih =>
          intro h p hp
          rcases List.mem_cons.mp hp with rfl | hp
          · exact h.1
          · exact ih h.2 p hp
      exact this _ off
    have o2fl : ∀ p ∈ o2, p.1 ≠ z.fl := fun p hp => H2 p hp (z.fl, W.listOf fls.toArray nfl) (.head _)
    have o4fl : ∀ p ∈ o4, p.1 ≠ z.fl := fun p hp => H4 p hp (z.fl, W.listOf fls.toArray nfl) (.head _)
    have g1 := offApp o2fl o4fl
    obtain ⟨e1, e2, e3, e4, e5, e6, e7, e8, e9, e10⟩ := hap
    have n1 : @Ne Nat z.fl D := off1 (z.fl, _) (.head _)
    have hfl2 : fls.length = 3 := hfl.1
    iterate 2 walk1
    rename_i h3 F3 N3
    dsimp only
    rw [show fls.toArray.push (Value.ref D) = (fls ++ [Value.ref D]).toArray by simp] at N3
    refine hQ h3 _ (fls ++ [Value.ref D]) (nfl + 1) o2 ((D, W.listOf ys.toArray ys.length) :: o4) hx2 (hfl.snoc (fun p hp => .tail _ hp) (.head _) (by rw [hws]; exact hys) (fun p hp => off1 p (by simp only [cellsX, List.mem_cons, List.mem_append]; simp [ho0 p hp]))) (fun p hp => .tail _ hp) (fun p hp q hq => ?_) (fun p hp q hq => ?_) F3 (cb_drop N3 fun p hp => ?_)
    · by_cases hqd : q = (D, W.listOf ys.toArray ys.length)
      · subst hqd
        exact off1 p (by lcg_src)
      · refine (offMap H2 (r' := cellsX z (fls ++ [Value.ref D]) (nfl + 1) ns o4) rfl) p hp q ?_
        simp only [cellsX, List.mem_cons] at hq ⊢
        simp only [hqd, false_or] at hq
        exact hq
    · rcases List.mem_cons.mp hp with rfl | hp
      · revert q
        refine allC ?_ (allC ?_ (allC ?_ (allC ?_ (allC ?_ (allN)))))
        · exact Ne.symm n1
        · exact Ne.symm (off1 (z.sx, _) (.tail _ (.head _)))
        · exact Ne.symm (off1 (z.sdx, _) (.tail _ (.tail _ (.head _))))
        · exact Ne.symm (off1 (z.L + 1, _) (.tail _ (.tail _ (.tail _ (.head _)))))
        · exact Ne.symm (off1 (z.hl, _) (.tail _ (.tail _ (.tail _ (.tail _ (.head _))))))
      · exact (offMap H4 (r' := cellsX z (fls ++ [Value.ref D]) (nfl + 1) ns []) rfl) p hp q hq
    · simp only [cellsX, List.mem_cons, List.mem_append] at hp ⊢
      rcases hp with hp | hp | hp | hp | hp | hp | hp | hp
      all_goals first | (simp [hp]; done) | (subst hp; simp; done)
end
end Mine

-- T44
namespace Mine
section
variable {prog : Program} {w : World} {A : Around} {E : Value → Shared → Prop} {s : Shared} {h₀ : Heap} {L x c2 : Addr} {oc2 : Obj} {tot : Int} {m : Str → Option Value} {news own : Cells} {cs : List Nat}
theorem attrLine {ex : Bool} {Q : Value → Shared → Prop} {pb : List Str} (h : LexS prog w x c2 oc2 tot own pb cs) (F : Fr h₀ L s.heap m) (X : (KH w.params).In h₀) (N : News h₀ L s.heap news) (hin : ∀ p ∈ own, p ∈ news) (hq : ∀ tl, Q (.int (tot - nl cs) tl) { s with toks := s.toks + 1 }) :
    wpAny (model prog w) A (getAttr (.ref x) "lineno" ex) Q E s := by
  obtain ⟨l, vs, kp, sg, ks, tl, hl, rfl, rfl, rfl, hv, hs, rfl⟩ := h
  exact get_own (es := [_, _, _, _]) (n := 4) F X (InstAt.of_news (C := 143) (dx := l.d) N (hin _ (.head _)) (hin _ (.tail _ (.head _)))) (by k_is) (by k_is) (by k_is) (by k_is) (by k_get) rfl (hq tl)
end
section
variable {prog : Program} {w : World} {g : Heap} {dp un : Nat} {gd : Option (List Code)} {fr : List Env}
theorem floorsEnd (G : Gd (KH w.params) g) (hdp : dp + 20 < recursionLimit) (hun : un + 400 < cLine) (z : FixO) (hoc : z.oc.data = .cell (some (.ref z.x))) (hes2 : getL "pop_from" z.es = some none) (hsx : z.sx ≠ 101) (hR : TokR z.R [122] []) (hRl : z.R.length < 10000) {vTu vO vD vW vLa vFa vSz vT vB : Option Value} {fls : List Value} {nfl ns : Nat} {o1 o4 : Cells}
    {s : Shared} {h : Heap} {tk : Nat} (hap : @Ne Nat z.sx z.fl ∧ @Ne Nat z.sdx z.fl ∧ @Ne Nat (z.L + 1) z.fl ∧ @Ne Nat z.hl z.fl ∧ @Ne Nat z.sdx z.sx ∧ @Ne Nat (z.L + 1) z.sx ∧ @Ne Nat z.hl z.sx ∧ @Ne Nat (z.L + 1) z.sdx ∧ @Ne Nat z.hl z.sdx ∧ @Ne Nat z.hl (z.L + 1))
    (hx : LexS prog w z.x z.c2 z.oc2 z.tot o1 [] z.R) (hfl : fls.length = 4)
    (H1 : ∀ p ∈ o1, ∀ q ∈ cellsX z fls nfl ns o4, p.1 ≠ q.1) (H4 : ∀ p ∈ o4, ∀ q ∈ cellsX z fls nfl ns [], p.1 ≠ q.1)
    (F : Fr g z.L h (mX vTu vO vD vW vLa vFa vSz (mOut vT vB z.fl z.sx z.hl z.a z.tx z.tt))) (N : News g z.L h (cellsX z fls nfl ns (o1 ++ o4))) {Q' : Flow → Shared → Prop}
    (hQ : ∀ (rl fe y : Addr) h' tk' o1' t2 t3 tl m', LexS prog w z.x z.c2 z.oc2 z.tot o1' [] [] → Fr g z.L h' m' → News g z.L h' ((rl, W.listOf (fls ++ [Value.ref fe]).toArray 0) :: (fe, W.listOf #[Value.str "z" t2, Value.str "" t3, Value.int z.tot tl, Value.ref y] 0) :: (y, W.listOf #[Value.ref z.tp] 0) :: (z.hl, W.listOf z.hvs.toArray z.nh) :: (o1' ++ o4)) →
      (∀ p ∈ o1', ∀ q ∈ cellsX z fls nfl ns o4, p.1 ≠ q.1) → (∀ p ∈ (z.hl, W.listOf z.hvs.toArray z.nh) :: (o1' ++ o4), p.1 ≠ rl ∧ p.1 ≠ fe ∧ p.1 ≠ y) → Q' (.ret (.ref rl)) { s with heap := h', toks := tk' }) :
    wpAny (model prog w) (arT (dp + 1) (un + 3) gd (envF z.L :: fr)) (execs (bodyF.drop 6) (envF z.L)) Q' (fun _ _ => False) { s with heap := h, toks := tk } := by
  obtain ⟨X, ⟨p, loose, mean, mg, mb, T⟩, codeHd⟩ := id G
  conv => arg 3; arg 1; whnf
  unfold envF
  conv in (occs := *) scF => all_goals whnf
  have hcl : ∀ {o : Cells} {u : Cells}, ∀ p ∈ o, p ∈ cellsX z fls nfl ns (o ++ u) := fun p hp => by
    lcg_src
  have hcr : ∀ {o : Cells}, ∀ p ∈ cellsX z fls nfl ns o4, p ∈ cellsX z fls nfl ns (o ++ o4) := fun p hp => by
    revert p; lcg_sub
  have hdr : ∀ {o : Cells}, ∀ p ∈ cellsX z fls nfl ns (o ++ o4), p ∈ o ++ cellsX z fls nfl ns o4 := fun p hp => by
    revert p; lcg_sub
  iterate 10 walk1
  refine methGet hx F X N hcl ?_
  walk1
  refine use (own := o1) (rest := cellsX z fls nfl ns o4) (getR hx hRl hR) F N G hcl hcr H1 (by omega) (by omega) ?_
  rintro v h2 tk2 o2 ⟨t2, rfl, hx2⟩ F2 N2 H2
  have N2 := cb_drop (news := cellsX z fls nfl ns (o2 ++ o4)) N2 hdr
  clear hx F N
  dsimp only
  iterate 3 walk1
  refine methGet hx2 F2 X N2 hcl ?_
  walk1
  refine use (own := o2) (rest := cellsX z fls nfl ns o4) (getR hx2 (by decide) .eof) F2 N2 G hcl hcr H2 (by omega) (by omega) ?_
  rintro v h3 tk3 o3 ⟨t3, rfl, hx3⟩ F3 N3 H3
  have N3 := cb_drop (news := cellsX z fls nfl ns (o3 ++ o4)) N3 hdr
  clear hx2 F2 N2
  dsimp only
  iterate 3 walk1
  refine attrLine hx3 F3 X N3 hcl fun tl => ?_
  iterate 3 walk1
  refine methO F3 X N3 (by k_mem) (by k_mem) (by k_is) (by k_is) (by k_is) (by k_is) hes2 ?_
  walk1
  obtain ⟨e1, e2, e3, e4, e5, e6, e7, e8, e9, e10⟩ := hap
  have g3 : ∀ p ∈ o3 ++ o4, p.1 ≠ z.sx := fun p hp => by
    rcases List.mem_append.mp hp with hp | hp
    · exact H3 p hp (z.sx, accObj 101 z.sdx [.ref z.tp] ns) (by lcg_src)
    · exact H4 p hp (z.sx, accObj 101 z.sdx [.ref z.tp] ns) (by lcg_src)
  have g4 : ∀ p ∈ o3 ++ o4, p.1 ≠ z.sdx := fun p hp => by
    rcases List.mem_append.mp hp with hp | hp
    · exact H3 p hp (z.sdx, dictOf z.es z.e) (by lcg_src)
    · exact H4 p hp (z.sdx, dictOf z.es z.e) (by lcg_src)
  refine use (own := [(z.sx, accObj 101 z.sdx [.ref z.tp] ns), (z.sdx, dictOf z.es z.e)]) (rest := (z.fl, W.listOf fls.toArray nfl) :: (z.L + 1, z.oc) :: (z.hl, W.listOf z.hvs.toArray z.nh) :: (o3 ++ o4)) (popFrom z.sx z.sdx (Ne.symm e5) hsx [.ref z.tp] ns z.e z.es 0 229 (Nat.zero_le _) (show 1 < 1000 by decide) [.ref z.sx] (.inr ⟨rfl, rfl, rfl⟩)) F3 N3 G
    (subC (.cons _ (.cons_cons _ (.cons_cons _ (List.nil_sublist _))))) (subC (.cons_cons _ (.cons _ (.cons _ (.refl _))))) (off2 (List.forall_mem_cons.mpr ⟨Ne.symm e1, List.forall_mem_cons.mpr ⟨e6, List.forall_mem_cons.mpr ⟨e7, g3⟩⟩⟩) (List.forall_mem_cons.mpr ⟨Ne.symm e2, List.forall_mem_cons.mpr ⟨e8, List.forall_mem_cons.mpr ⟨e9, g4⟩⟩⟩)) (by omega) (by omega) ?_
  rintro v h4 tk4 o5 ⟨y, ns', rfl, y1, y2, rfl⟩ F4 N4 H5
  have N4 := cb_drop (news := (y, W.listOf #[Value.ref z.tp] 0) :: (z.fl, W.listOf fls.toArray nfl) :: (z.hl, W.listOf z.hvs.toArray z.nh) :: (o3 ++ o4)) N4 (fun p hp => by
    simp only [List.mem_cons, List.mem_append, List.not_mem_nil, or_false] at hp ⊢
    rcases hp with hp | hp | hp | hp | hp
    all_goals first | (simp [hp]; done) | (subst hp; simp; done))
  clear F3 N3
  dsimp only
  have yfl : @Ne Nat y z.fl := H5 _ (.head _) _ (.head _)
  have yhl : @Ne Nat y z.hl := H5 _ (.head _) _ (.tail _ (.tail _ (.head _)))
  have yo : ∀ p ∈ o3 ++ o4, @Ne Nat p.1 y := fun p hp => (H5 _ (.head _) p (.tail _ (.tail _ (.tail _ hp)))).symm
  iterate 7 walk1
  rename_i fe h5 l5 D h6 F6 N6 l6 h7 F7 N7
  obtain ⟨-, -, f3, f4⟩ := l5
  have hlt : ∀ p ∈ (z.hl, W.listOf z.hvs.toArray z.nh) :: (o3 ++ o4), @LT.lt Nat _ p.1 h6.objs.size := fun p hp => Heap.lt_size (N6 p (.tail _ (.tail _ (.tail _ (.tail _ hp))))).1
  refine hQ h6.objs.size fe y h7 _ o3 t2 t3 tl _ hx3 F7 (cb_drop N7 fun p hp => ?_) H3 (fun p hp => ⟨Nat.ne_of_lt (hlt p hp), ?_, ?_⟩)
  · simp only [List.mem_cons, List.mem_append] at hp ⊢
    rcases hp with hp | hp | hp | hp | hp | hp
    · subst hp; exact .inl rfl
    · subst hp
      refine .inr (.inr (.inl ?_))
      have e : z.tot - nl [] = z.tot := by show z.tot - 0 = z.tot; omega
      rw [e]
    all_goals (simp [hp]; done)
  · rcases List.mem_cons.mp hp with rfl | hp
    · exact Nat.ne_of_lt f3
    · exact Nat.ne_of_lt (allLt_at f4 hp)
  · rcases List.mem_cons.mp hp with rfl | hp
    · exact Ne.symm yhl
    · exact yo p hp
end
end Mine

-- U2
local macro_rules | `(tactic| k_all) => `(tactic| assumption)
namespace Mine
noncomputable def citer : Nat → Int × Int → Int × Int
  | 0, x => x
  | n + 1, x => nxt (citer n x)
theorem citer_nxt : ∀ (n : Nat) (x : Int × Int), citer n (nxt x) = nxt (citer n x)
  | 0, _ => rfl
  | n + 1, x => congrArg nxt (citer_nxt n x)
theorem cseq_snoc : ∀ (n : Nat) (x : Int × Int), cseq (n + 1) x = cseq n x ++ [citer n x]
  | 0, _ => rfl
  | n + 1, x => by
    show x :: cseq (n + 1) (nxt x) = x :: (cseq n (nxt x) ++ [nxt (citer n x)])
    rw [cseq_snoc n (nxt x), citer_nxt]
theorem citer_mem : ∀ {n i : Nat} (x : Int × Int), i < n → citer i x ∈ cseq n x
  | n + 1, i, x, h => by
    rw [cseq_snoc]
    by_cases e : i = n
    · subst e; exact List.mem_append_right _ (.head _)
    · exact List.mem_append_left _ (citer_mem x (by omega))
noncomputable abbrev tupI (x : Int × Int) (t u : Tok) : Obj := { cls := .type "tuple", data := .seq #[.int x.1 t, .int x.2 u] }
/-- a list of pairs of numbers -/
inductive CntL (o : Cells) : List Value → List (Int × Int) → Prop
  | nil : CntL o [] []
  | snoc {vs : List Value} {xs : List (Int × Int)} {T : Addr} {x : Int × Int} {t u : Tok} : CntL o vs xs → (T, tupI x t u) ∈ o → CntL o (vs ++ [.ref T]) (xs ++ [x])
theorem CntL.mono {o o' : Cells} (hs : ∀ p ∈ o, p ∈ o') {vs : List Value} {xs : List (Int × Int)} (h : CntL o vs xs) : CntL o' vs xs := by
  induction h with
  | nil => exact .nil
  | snoc _ m ih => exact .snoc ih (hs _ m)
theorem CntL.length {o : Cells} {vs : List Value} {xs : List (Int × Int)} (h : CntL o vs xs) : vs.length = xs.length := by
  induction h with
  | nil => rfl
  | snoc _ _ ih => simp [ih]
noncomputable def COk (xs : List (Int × Int)) : Prop := ∀ x ∈ xs, 0 ≤ x.1 ∧ x.1 ≤ 1000 ∧ 0 < x.2 ∧ x.2 ≤ 1000
theorem countsW {prog : Program} {w : World} (p q : Int) (n : Nat) (t u v : Tok) (hp : 0 ≤ p) (hp2 : p ≤ 1000) (hq : 0 ≤ q) (hq2 : q ≤ 1000) (hn : n < 4) (ok : COk (cseq (2 ^ n) (p, q + n * p))) :
   Does (KH w.params) prog w 2 241 [.int p t, .int q u, .int (n : Int) v] [] (fun r own => ∃ (c : Addr) (vs : List Value) (k : Nat) (o : Cells), r = .ref c ∧ own = (c, W.listOf vs.toArray k) :: o ∧ CntL o vs (cseq (2 ^ n) (p, q + n * p))) := by
  refine enterT (binds := [("p", .int p t), ("q", .int q u), ("n", .int (n : Int) v)]) (by k_is) (by k_is) (fun s X => BindsTo.of_eq rfl) (locs rfl) ?_
  intro dp un gd fr g L s PP hP G F N l0 hdp hun hT
  obtain ⟨X, ⟨p0, loose, mean, mg, mb, T⟩, codeHd⟩ := id G
  have hn0 : 0 ≤ (n : Int) := by omega
  have hn3 : (n : Int) ≤ 3 := by omega
  have hV : VMark := trivial
  try k_fold
  iterate 34 walk1
  rename_i D h1 l1 c h2 l2 h3 F3 N3 Q2 hq2' hr2 h4 tk4 t4 u4 v4 hR F4 N4 hk4
  dsimp only at hR ⊢
  have hsm : Builtin.Range.small 0 (2 ^ Int.toNat (n : Int) - 1) 1 = true ∧ Builtin.Range.rangeSize 0 (2 ^ Int.toNat (n : Int) - 1) 1 = ((2 ^ n - 1 : Nat) : Int) := by
    have : n = 0 ∨ n = 1 ∨ n = 2 ∨ n = 3 := by omega
    rcases this with rfl | rfl | rfl | rfl <;> exact ⟨by decide, by decide⟩
  refine rangeForI rfl F4 N4 hR hsm.1 hsm.2 (fun I i m news => ∃ (o vP vQ : Option Value) (vs : List Value) (T : Addr) (t1 t2 : Tok) (k : Nat) (ce : Cells),
    m = (fun y : Str => if y = "turn" then o else if y = "q" then vQ else if y = "p" then vP else if y = "counts" then some (.ref c) else if y = "n" then some (.int (n : Int) v) else none) ∧
    news = (c, W.listOf (vs ++ [Value.ref T]).toArray k) :: (T, tupI (citer i (p, q + n * p)) t1 t2) :: ce ∧ CntL ce vs (cseq i (p, q + n * p)) ∧ vs.length = i ∧ @Ne Nat c T ∧ (∀ z ∈ ce, z.1 ≠ c) ∧ @Ne Nat c I ∧ @Ne Nat T I ∧ ∀ z ∈ ce, z.1 ≠ I) ?_ ?_ ?_
  · intro I hI
    refine ⟨none, some (.int p t), some (.int q u), [], D, t, _, 0, [], funext fun y => ?_, rfl, .nil, rfl, Nat.ne_of_gt l2, fun _ hz => (nomatch hz), Nat.ne_of_lt (hI (c, _) (.head _)), Nat.ne_of_lt (hI (D, _) (.tail _ (.head _))), fun _ hz => (nomatch hz)⟩
    by_cases h1 : y = Str.ofString "counts"
    · subst h1; kernel_rfl
    · by_cases h2 : y = Str.ofString "turn"
      · subst h2; kernel_rfl
      · by_cases h3 : y = Str.ofString "q"
        · subst h3; kernel_rfl
        · by_cases h4 : y = Str.ofString "p"
          · subst h4; kernel_rfl
          · simp only [h1, h2, h3, h4, if_false]
            by_cases h5 : y = Str.ofString "n"
            · subst h5; kernel_rfl
            · rw [if_neg h5]
              show List.lookup y [("n", Value.int (n : Int) v), ("q", Value.int q u), ("p", Value.int p t)] = none
              rw [List.lookup_cons, List.lookup_cons, List.lookup_cons, show (y == Str.ofString "n") = false from beq_eq_false_iff_ne.mpr h5, show (y == Str.ofString "q") = false from beq_eq_false_iff_ne.mpr h3, show (y == Str.ofString "p") = false from beq_eq_false_iff_ne.mpr h4]; rfl
  · intro I i ti m news hi
    rintro ⟨o, vP, vQ, vs, T1, t1, t2, k, ce, rfl, rfl, hc, hvl, hcT, hce, nI1, nI2, nI3⟩ it h5 tk5 F5 N5 Q3 hq3 hr3
    have hx := ok _ (citer_mem (p, q + n * p) (show i < 2 ^ n by omega))
    obtain ⟨x, hxe⟩ : ∃ x, citer i (p, q + n * p) = x := ⟨_, rfl⟩
    have hnx : citer (i + 1) (p, q + n * p) = nxt x := by rw [← hxe]; rfl
    rw [hnx] at hq3
    rw [hxe] at hx N5
    obtain ⟨x1, x2⟩ := x
    obtain ⟨hx1, hx2, hx3, hx4⟩ := hx
    dsimp only at hx1 hx2 hx3 hx4
    dsimp only [tupI] at N5
    have hi8 : i < 8 := by
      have : n = 0 ∨ n = 1 ∨ n = 2 ∨ n = 3 := by omega
      rcases this with rfl | rfl | rfl | rfl <;> omega
    have hvl8 : (vs ++ [Value.ref T1]).length < 9 := by simp; omega
    have hxn : x2 ≠ 0 := by omega
    iterate 7 walk1
    refine subscriptTail_builtin (N5.isList (by k_mem)).typeIs list_getitem_lookup (wpAny_getItem_list_neg (x := .ref T1) (N5.isList (a := c) (by k_mem)) (by decide) (by simp; omega) (by decide) (by rw [show (-1 + (((vs ++ [Value.ref T1]).toArray.size : Nat) : Int)).toNat = vs.length by simp; omega]; simp) ?_)
    iterate 42 walk1
    rename_i tk8 hk8 D2 h9 l9 h10 F10 N10
    obtain ⟨d1, d2, d3, d4⟩ := l9
    rw [show (vs ++ [Value.ref T1]).toArray.push (Value.ref D2) = (vs ++ [Value.ref T1] ++ [Value.ref D2]).toArray by simp] at N10
    refine hq3 _ _ _ ((c, W.listOf (vs ++ [Value.ref T1] ++ [Value.ref D2]).toArray (k + 1)) :: (D2, tupI (nxt (x1, x2)) t2 (tk8 + 1 + 1 + 1 + 1 + 1)) :: (T1, tupI (x1, x2) t1 t2) :: ce) ⟨some (.int (0 + (i : Int)) ti), some (.int x1 t1), some (.int x2 t2), vs ++ [.ref T1], D2, t2, tk8 + 1 + 1 + 1 + 1 + 1, k + 1, (T1, tupI (x1, x2) t1 t2) :: ce, funext fun y => rfl, rfl, ?_, by simp [hvl], Nat.ne_of_lt d2, ?_, nI1, Nat.ne_of_gt d1, ?_⟩ (frOf F10 fun y => ?_) (cb_drop N10 fun z hz => ?_) (fun z hz => ?_)
    · rw [cseq_snoc, hxe]
      exact (hc.mono fun z hz => .tail _ hz).snoc (.head _)
    · exact List.forall_mem_cons.mpr ⟨Ne.symm hcT, hce⟩
    · exact List.forall_mem_cons.mpr ⟨nI2, nI3⟩
    · by_cases h1 : y = Str.ofString "q"
      · subst h1; kernel_rfl
      · by_cases h2 : y = Str.ofString "p"
        · subst h2; kernel_rfl
        · simp only [h1, h2, if_false]
          by_cases h3 : y = Str.ofString "turn"
          · simp only [h3, if_true]
          · simp only [h3, if_false]
    · simp only [List.mem_cons] at hz ⊢
      rcases hz with hz | hz | hz | hz | hz
      · exact .inr (.inl hz)
      · exact .inr (.inr (.inl hz))
      · exact .inl hz
      · exact .inr (.inr (.inr (.inl hz)))
      · exact .inr (.inr (.inr (.inr hz)))
    · simp only [List.mem_cons] at hz
      rcases hz with rfl | rfl | rfl | hz
      · exact nI1
      · exact Nat.ne_of_gt d1
      · exact nI2
      · exact nI3 _ hz
  · rintro I m news h5 tk5 ⟨o, vP, vQ, vs, T1, t1, t2, k, ce, rfl, rfl, hc, hvl, hcT, hce, -⟩ F5 N5
    refine hq2' _ ?_
    iterate 3 walk1
    refine hP _ _ (Fin.intro F5 N5 ⟨c, _, k, _, rfl, rfl, ?_⟩)
    have e : 2 ^ n = 2 ^ n - 1 + 1 := by have := Nat.pow_pos (n := n) (show 0 < 2 by decide); omega
    rw [e, cseq_snoc]
    exact (hc.mono fun z hz => .tail _ hz).snoc (.head _)
end Mine

-- T45
namespace Mine
theorem mOut_none {fl sx hl : Addr} {a : Bool} {tx : Str} {tt : Tok} (y : Str) : (if y = Str.ofString "floors" then some (Value.ref fl) else if y = Str.ofString "siding" then some (Value.ref sx) else if y = Str.ofString "aside" then some (Value.bool a) else if y = Str.ofString "hands" then some (Value.ref hl) else if y = Str.ofString "text" then some (Value.str tx tt) else none) = mOut none none fl sx hl a tx tt y := by
  by_cases h : y = Str.ofString "taken"
  · subst h; kernel_rfl
  · by_cases h2 : y = Str.ofString "blanks"
    · subst h2; kernel_rfl
    · unfold mOut; simp only [h, h2, if_false]
noncomputable abbrev tup0 (t u : Tok) : Obj := { cls := .type "tuple", data := .seq #[.str "" t, .str "#" u] }
/-- what floors gives back -/
noncomputable def FloorsR (hl : Addr) (hvs : List Value) (nh : Nat) (d1 d2 : Nat) (a : Bool) (l : List Bool) (tot : Int) (r : Value) (own : Cells) : Prop :=
  ∃ (rl fe y tp : Addr) (fls : List Value) (t2 t3 tl b1 b2 : Tok) (own2 rest : Cells),
    r = .ref rl ∧ own = (hl, W.listOf hvs.toArray nh) :: (own2 ++ rest) ∧ TabOwn own2 ∧ (∀ p ∈ own2, p.1 ≠ hl) ∧ (∀ p ∈ rest, p.1 ≠ hl ∧ ∀ q ∈ own2, p.1 ≠ q.1) ∧
    (rl, W.listOf (fls ++ [Value.ref fe]).toArray 0) ∈ rest ∧ (fe, W.listOf #[Value.str "z" t2, Value.str "" t3, Value.int tot tl, Value.ref y] 0) ∈ rest ∧ (y, W.listOf #[Value.ref tp] 0) ∈ rest ∧ (tp, tup0 b1 b2) ∈ rest ∧ Flrs d1 d2 a l [] rest fls 4
theorem handOk {prog : Program} {w : World} : ∀ v ∈ [Value.ref 161, Value.ref 168, Value.ref 175, Value.ref 182, Value.ref 189], HandOk prog w v := by
  intro v hv
  simp only [List.mem_cons, List.not_mem_nil, or_false] at hv
  rcases hv with rfl | rfl | rfl | rfl | rfl
  · exact ⟨_, rfl, esc161, by k_is⟩
  · exact ⟨_, rfl, esc168, by k_is⟩
  · exact ⟨_, rfl, esc175, by k_is⟩
  · exact ⟨_, rfl, esc182, by k_is⟩
  · exact ⟨_, rfl, esc189, by k_is⟩
theorem floors {prog : Program} {w : World} (hpf : ((prog.main.file : Str) == ("/claim/cut.py" : Str)) = true) (hps : (prog.main.scope.names.lookup ("super" : Str)).isSome = false)
   (a : Bool) (tx : Str) (tt : Tok) (hl : Addr) (hvs : List Value) (nh : Nat) (hh : hvs.length = 5 ∧ ∀ v ∈ hvs, v ∈ [Value.ref 161, Value.ref 168, Value.ref 175, Value.ref 182, Value.ref 189]) (own0 : Cells) (ht : TabOwn own0) (hne : ∀ p ∈ own0, p.1 ≠ hl) (hsz : tx.cps.size ≤ 9000)
   (d1 d2 : Nat) (hd1 : d1 ∈ nmC) (hd2 : d2 ∈ nmC) (l : List Bool) (hlev : ∀ j, j < 4 → ∀ u ∈ lev a j l, u.length ≤ 200) (R : List Nat) (hR1 : TokR tx.cps.toList (mkW d1 d2 l).cps.toList R) (hR2 : TokR R [122] []) (hRl : R.length < 10000) :
   Does (KH w.params) prog w 24 234 [.str tx tt, .ref hl, .bool a] ((hl, W.listOf hvs.toArray nh) :: own0) (FloorsR hl hvs nh d1 d2 a l (1 + nl tx.cps.toList)) := by
  refine enterC (binds := [("text", .str tx tt), ("hands", .ref hl), ("aside", .bool a)]) (by k_is) (by k_is) (fun s X => BindsTo.of_eq rfl) (by rfl) (by decide +kernel) ?_
  intro dp un gd fr g L s cells PP hP G F N Y l0 hdp hun
  show wpAny _ _ (execs (List.cons _ (List.cons _ (List.cons _ (List.cons _ (bodyF.drop 4))))) _) _ _ _
  generalize hrest : bodyF.drop 4 = rest
  obtain ⟨X, ⟨p, loose, mean, mg, mb, T⟩, codeHd⟩ := id G
  obtain ⟨oc, rfl, dc1⟩ := CellsAre.one Y
  simp only [List.cons_append, List.nil_append] at N
  clear Y
  have dc1 : oc.data = .cell none := dc1
  have hV : VMark := trivial
  try k_fold
  iterate 9 walk1
  refine use (own := own0) (rest := [(L + 1, oc), (hl, W.listOf hvs.toArray nh)]) (lexNew ht tx tt (by rw [sizeLine_eq]; omega)) F N G (fun p hp => .tail _ (.tail _ hp)) (fun p hp => ?_) (fun p hp q hq => ?_) (by omega) (by omega) ?_
  · simp only [List.mem_cons, List.not_mem_nil, or_false] at hp
    rcases hp with rfl | rfl
    · exact .head _
    · exact .tail _ (.head _)
  · simp only [List.mem_cons, List.not_mem_nil, or_false] at hq
    have hp' : @LT.lt Nat _ p.1 L := l0 p (.tail _ hp)
    rcases hq with rfl | rfl
    · show @Ne Nat p.1 (L + 1)
      omega
    · exact hne p hp
  rintro v h1 tk1 own1 ⟨x, c1, c2, oc1, oc2, o1, rfl, hx, hcd, n1, hoff, rfl⟩ F1 N1 hd1
  have N2 := cb_drop (news := (L + 1, oc) :: (hl, W.listOf hvs.toArray nh) :: (c1, oc1) :: (210, tab2 c1 c2) :: o1) N1 (fun p hp => by
    simp only [List.mem_cons, List.mem_append, List.not_mem_nil, or_false] at hp ⊢
    rcases hp with hp | hp | hp | hp | hp <;> simp [hp])
  have e1 : ∀ p ∈ o1, p.1 ≠ L + 1 := fun p hp => hd1 p (List.mem_append_left _ hp) _ (.head _)
  have e2 : ∀ p ∈ o1, p.1 ≠ hl := fun p hp => hd1 p (List.mem_append_left _ hp) _ (.tail _ (.head _))
  have e3 : @Ne Nat c1 (L + 1) := hd1 (c1, oc1) (List.mem_append_right _ (.head _)) _ (.head _)
  have e4 : @Ne Nat c1 hl := hd1 (c1, oc1) (List.mem_append_right _ (.head _)) _ (.tail _ (.head _))
  have e5 : @Ne Nat 210 (L + 1) := hd1 (210, tab2 c1 c2) (List.mem_append_right _ (.tail _ (.head _))) _ (.head _)
  have e6 : @Ne Nat 210 hl := hd1 (210, tab2 c1 c2) (List.mem_append_right _ (.tail _ (.head _))) _ (.tail _ (.head _))
  have e7 : @LT.lt Nat _ hl L := l0 _ (.head _)
  clear N1 N F hd1 l0
  iterate 7 walk1
  rename_i h2 oc' F2 N2 dcl
  have F2 := frOf F2 (m' := fun y => if y = "aside" then some (.bool a) else if y = "hands" then some (.ref hl) else if y = "text" then some (.str tx tt) else none) (fun y => rfl)
  refine accNew hpf hps F2 N2 G (by omega) (by omega) ?_
  intro sx sdx h3 tk3 st su F3 N3 n2 f1 f2
  k_lt f1
  k_lt2 f2
  obtain ⟨f1a, f1b, f1c, f1d, f1e⟩ := f1
  have o2 : ∀ p ∈ o1, p.1 ≠ sdx := offL f1e
  have o3 : ∀ p ∈ o1, p.1 ≠ sx := fun p hp e => by have := allLt_at f1e hp; rw [e] at this; exact absurd (Nat.lt_trans f2 this) (Nat.lt_irrefl _)
  iterate 6 walk1
  rename_i h4 F4 N4 tk4 htk4
  refine methO F4 X N4 (.head _) (.tail _ (.head _)) (by k_is) (by k_is) (by k_is) (by k_is) (by k_get) ?_
  iterate 7 walk1
  refine use (own := [(sx, accObj 101 sdx [] 0), (sdx, dictOf [⟨PyData.keyHash w.params "_initial_size", .str "_initial_size" st, .int 0 su⟩] 1)]) (rest := (L + 1, oc') :: (hl, W.listOf hvs.toArray nh) :: (c1, oc1) :: (210, tab2 c1 c2) :: o1) (push sx sdx [] 0 1 [⟨PyData.keyHash w.params "_initial_size", .str "_initial_size" st, .int 0 su⟩] "" "#" _ _ (by k_ne) (by k_get) (by decide)) F4 N4 G (subC (.cons_cons _ (.cons_cons _ (List.nil_sublist _)))) (subC (.cons _ (.cons _ (.refl _)))) (off2 (by k_all) (by k_all)) (by omega) (by omega) ?_
  rintro v h5 tk5 own5 ⟨rfl, tp, np, rfl⟩ F5 N5 hd5
  have N6 := cb_drop (news := (sx, accObj 101 sdx [.ref tp] 1) :: (sdx, dictOf [⟨PyData.keyHash w.params "_initial_size", .str "_initial_size" st, .int 0 su⟩] 1) :: (L + 1, oc') :: (hl, W.listOf hvs.toArray nh) :: (c1, oc1) :: (210, tab2 c1 c2) :: (o1 ++ [(tp, ({ cls := .type "tuple", data := .seq #[.str "" tk4, .str "#" (tk4 + 1)] } : Obj))])) N5 (by lcg_sub)
  clear N5 N4 F4
  dsimp only
  iterate 6 walk1
  rename_i fl h6 l6 h7 F7 N7
  obtain ⟨q1, q2, q3, q4, q5, q6, q7⟩ := l6
  have qo : ∀ p ∈ o1 ++ [(tp, tup0 tk4 (tk4 + 1))], @LT.lt Nat _ p.1 fl := fun p hp => allLt_at q7 hp
  have np : @Ne Nat tp sx := np
  have np2 : @Ne Nat tp sdx := fun q => by
    have m1 := (N7 (tp, tup0 tk4 (tk4 + 1)) (by simp)).1
    have m2 := (N7 (sdx, _) (.tail _ (.tail _ (.head _)))).1
    rw [q] at m1
    rw [m1] at m2
    exact absurd (congrArg Obj.cls (Option.some.inj m2)) (by simp)
  have tq : ∀ q ∈ (L + 1, oc') :: (hl, W.listOf hvs.toArray nh) :: (c1, oc1) :: (210, tab2 c1 c2) :: o1, @Ne Nat tp q.1 := hd5 _ (.tail _ (.tail _ (.head _)))
  have tqL : @Ne Nat tp (L + 1) := tq _ (.head _)
  have tqh : @Ne Nat tp hl := tq _ (.tail _ (.head _))
  have tqc : @Ne Nat tp c1 := tq _ (.tail _ (.tail _ (.head _)))
  have tqt : @Ne Nat tp 210 := tq _ (.tail _ (.tail _ (.tail _ (.head _))))
  have tqo : ∀ q ∈ o1, @Ne Nat tp q.1 := fun q hq => tq q (.tail _ (.tail _ (.tail _ (.tail _ hq))))
  have tqf : @LT.lt Nat _ tp fl := qo (tp, tup0 tk4 (tk4 + 1)) (by simp)
  have hc2 := hx.code
  have c12 : @Ne Nat c2 c1 := (hoff _ hc2).1
  have c21 : @Ne Nat c2 210 := (hoff _ hc2).2
  have f2 : @LT.lt Nat _ sdx sx := f2
  have f1a : @LT.lt Nat _ (L + 1) sdx := f1a
  have f1b : @LT.lt Nat _ hl sdx := f1b
  have f1c : @LT.lt Nat _ c1 sdx := f1c
  have f1d : @LT.lt Nat _ 210 sdx := f1d
  have e7 : @LT.lt Nat _ hl L := e7
  have q1 : @LT.lt Nat _ sx fl := q1
  have q2 : @LT.lt Nat _ sdx fl := q2
  have q3 : @LT.lt Nat _ (L + 1) fl := q3
  have q4 : @LT.lt Nat _ hl fl := q4
  have q5 : @LT.lt Nat _ c1 fl := q5
  have q6 : @LT.lt Nat _ 210 fl := q6
  have N8 := cb_drop (news := cellsX ⟨sx, sdx, hl, L, x, c2, tp, fl, oc', oc2, hvs, nh, 1, [⟨PyData.keyHash w.params "_initial_size", .str "_initial_size" st, .int 0 su⟩], 1 + nl tx.cps.toList, R, a, d1, d2, l, tx, tt, [(tp, tup0 tk4 (tk4 + 1)), (c1, oc1), (210, tab2 c1 c2)]⟩ [] 0 1 (o1 ++ [(tp, tup0 tk4 (tk4 + 1)), (c1, oc1), (210, tab2 c1 c2)])) N7 (by lcg_sub)
  have hap : @Ne Nat sx fl ∧ @Ne Nat sdx fl ∧ @Ne Nat (L + 1) fl ∧ @Ne Nat hl fl ∧ @Ne Nat sdx sx ∧ @Ne Nat (L + 1) sx ∧ @Ne Nat hl sx ∧ @Ne Nat (L + 1) sdx ∧ @Ne Nat hl sdx ∧ @Ne Nat hl (L + 1) := by
    refine ⟨?_, ?_, ?_, ?_, ?_, ?_, ?_, ?_, ?_, ?_⟩ <;> omega
  have hc0 : TokR tx.cps.toList (mkW d1 d2 l).cps.toList R := hR1
  subst hrest
  dsimp only
  refine outerLoop (s := s) G (by omega) (by omega) ⟨sx, sdx, hl, L, x, c2, tp, fl, oc', oc2, hvs, nh, 1, [⟨PyData.keyHash w.params "_initial_size", .str "_initial_size" st, .int 0 su⟩], 1 + nl tx.cps.toList, R, a, d1, d2, l, tx, tt, [(tp, tup0 tk4 (tk4 + 1)), (c1, oc1), (210, tab2 c1 c2)]⟩
    hd1 hd2 (fun j hj => ⟨lev_len a j l, hlev j (by omega)⟩) ⟨hh.1, fun v hv => handOk v (hh.2 v hv)⟩ dcl (by k_get) (by k_get) (by k_get) n2 hap (.inr ⟨mkW d1 d2 l, tx.cps.toList, rfl, by rw [Array.length_toList]; omega, hc0, hx⟩) (frOf F7 mOut_none) N8 (fun p hp q hq => ?_) (fun p hp q hq => ?_) ?_
  · revert q
    refine allC ?_ (allC ?_ (allC ?_ (allC ?_ (allC ?_ (allC ?_ (allC ?_ (allC ?_ (allN))))))))
    · exact Nat.ne_of_lt (qo p (List.mem_append_left _ hp))
    · exact o3 p hp
    · exact o2 p hp
    · exact e1 p hp
    · exact e2 p hp
    · exact (tqo p hp).symm
    · exact (hoff p hp).1
    · exact (hoff p hp).2
  · simp only [cellsX, List.mem_cons, List.not_mem_nil, or_false] at hp hq
    rcases hp with rfl | rfl | rfl
    · rcases hq with rfl | rfl | rfl | rfl | rfl
      · exact Nat.ne_of_lt tqf
      · exact np
      · exact np2
      · exact tqL
      · exact tqh
    · rcases hq with rfl | rfl | rfl | rfl | rfl
      · exact Nat.ne_of_lt q5
      · exact Nat.ne_of_lt (Nat.lt_trans f1c f2)
      · exact Nat.ne_of_lt f1c
      · exact e3
      · exact e4
    · rcases hq with rfl | rfl | rfl | rfl | rfl
      · exact Nat.ne_of_lt q6
      · exact Nat.ne_of_lt (Nat.lt_trans f1d f2)
      · exact Nat.ne_of_lt f1d
      · exact e5
      · exact e6
  clear F7 N7 N8
  intro h8 tk8 vTu vO vD vW vLa vFa vSz vT vB fls8 nfl8 ns8 o18 o48 hx8 hfl8 ho8 H18 H48 F8 N8
  refine lastFloor (s := s) G (by omega) (by omega) _ dcl hap (lev_len a 3 l) hx8 hfl8 ho8 H18 H48 F8 N8 ?_
  intro h9 tk9 fls9 nfl9 o19 o49 hx9 hfl9 ho9 H19 H49 F9 N9
  refine floorsEnd (s := s) G (by omega) (by omega) _ dcl (by k_get) n2 hR2 hRl hap hx9 hfl9.1 H19 H49 F9 N9 ?_
  intro rl fe y h10 tk10 o110 t2 t3 tl m10 hx10 F10 N10 H10 hnew
  have htp := ho9 _ (ho8 _ (.head _))
  have hc1 := ho9 _ (ho8 _ (.tail _ (.head _)))
  have h21 := ho9 _ (ho8 _ (.tail _ (.tail _ (.head _))))
  have hc2' := hx10.code
  obtain ⟨fil, hfil⟩ : ∃ fil, o49.filter (fun p => decide (@Ne Nat p.1 c1 ∧ @Ne Nat p.1 210)) = fil := ⟨_, rfl⟩
  have filM : ∀ p, p ∈ fil ↔ p ∈ o49 ∧ @Ne Nat p.1 c1 ∧ @Ne Nat p.1 210 := fun p => by rw [← hfil, List.mem_filter, decide_eq_true_eq]
  have new1 : ∀ p ∈ [(210, tab2 c1 c2), (c1, oc1), (c2, oc2)], p ∈ (hl, W.listOf hvs.toArray nh) :: (o110 ++ o49) := fun p hp => by
    simp only [List.mem_cons, List.not_mem_nil, or_false] at hp
    rcases hp with rfl | rfl | rfl
    · exact .tail _ (List.mem_append_right _ h21)
    · exact .tail _ (List.mem_append_right _ hc1)
    · exact .tail _ (List.mem_append_left _ hc2')
  have c2o : ∀ p ∈ o49, p.1 ≠ c2 := fun p hp => (H10 _ hc2' p (.tail _ (.tail _ (.tail _ (.tail _ (.tail _ hp)))))).symm
  have hlo : ∀ p ∈ o49, p.1 ≠ hl := fun p hp => H49 p hp (hl, _) (.tail _ (.tail _ (.tail _ (.tail _ (.head _)))))
  have hl2 : c2 ≠ hl := H10 _ hc2' (hl, W.listOf hvs.toArray nh) (.tail _ (.tail _ (.tail _ (.tail _ (.head _)))))
  refine hP _ _ (Fin.intro (news' := (hl, W.listOf hvs.toArray nh) :: ([(210, tab2 c1 c2), (c1, oc1), (c2, oc2)] ++ ((rl, W.listOf (fls9 ++ [Value.ref fe]).toArray 0) :: (fe, W.listOf #[Value.str "z" t2, Value.str "" t3, Value.int (1 + nl tx.cps.toList) tl, Value.ref y] 0) :: (y, W.listOf #[Value.ref tp] 0) :: (tp, tup0 tk4 (tk4 + 1)) :: fil))) F10 (cb_drop N10 fun p hp => ?_)
    ⟨rl, fe, y, tp, fls9, t2, t3, tl, tk4, tk4 + 1, _, _, rfl, rfl, .inr ⟨c1, c2, oc1, oc2, hcd, c12.symm, n1, c21, rfl⟩, fun p hp => ?_, fun p hp => ?_, .head _, .tail _ (.head _), .tail _ (.tail _ (.head _)), .tail _ (.tail _ (.tail _ (.head _))), hfl9.1, fun i hi => ?_⟩)
  · simp only [List.mem_cons, List.mem_append, List.not_mem_nil, or_false] at hp ⊢
    rcases hp with hp | (hp | hp | hp) | hp | hp | hp | hp | hp
    · simp [hp]
    · subst hp; simp [h21]
    · subst hp; simp [hc1]
    · subst hp; simp [hc2']
    · simp [hp]
    · simp [hp]
    · simp [hp]
    · subst hp; simp [htp]
    · simp [((filM p).mp hp).1]
  · simp only [List.mem_cons, List.not_mem_nil, or_false] at hp
    rcases hp with rfl | rfl | rfl
    · exact e6
    · exact e4
    · exact hl2
  · have key : ∀ p ∈ o49, @Ne Nat p.1 c1 → @Ne Nat p.1 210 → p.1 ≠ hl ∧ ∀ q ∈ [(210, tab2 c1 c2), (c1, oc1), (c2, oc2)], p.1 ≠ q.1 := fun p hp k1 k2 => by
      refine ⟨hlo p hp, fun q hq => ?_⟩
      revert q
      refine allC ?_ (allC ?_ (allC ?_ (allN)))
      · exact k2
      · exact k1
      · exact c2o p hp
    have hn := fun q hq => hnew q (new1 q hq)
    have hh := hnew (hl, W.listOf hvs.toArray nh) (.head _)
    rcases List.mem_cons.mp hp with rfl | hp
    · exact ⟨hh.1.symm, fun q hq => (hn q hq).1.symm⟩
    · rcases List.mem_cons.mp hp with rfl | hp
      · exact ⟨hh.2.1.symm, fun q hq => (hn q hq).2.1.symm⟩
      · rcases List.mem_cons.mp hp with rfl | hp
        · exact ⟨hh.2.2.symm, fun q hq => (hn q hq).2.2.symm⟩
        · rcases List.mem_cons.mp hp with rfl | hp
          · exact key _ htp tqc tqt
          · obtain ⟨k1, k2, k3⟩ := (filM p).mp hp
            exact key p k1 k2 k3
  · obtain ⟨f, fv, k, b1, b2, b3, b4⟩ := hfl9.2 i hi
    refine ⟨f, fv, k, b1, .tail _ (.tail _ (.tail _ (.tail _ ((filM _).mpr ⟨b2, (b4 _ (.tail _ (.head _))).symm, (b4 _ (.tail _ (.tail _ (.head _)))).symm⟩)))), b3, fun p hp => nomatch hp⟩
end Mine

-- U3
namespace Mine
noncomputable def lawB : List Stmt := match stOf 22 with | .FunctionDef _ _ b _ _ _ _ _ _ _ => b | _ => []
noncomputable def lawSc : Scope := match stOf 22 with | .FunctionDef _ _ _ _ _ _ sc _ _ _ => sc | _ => ⟨.module, [], false, false, []⟩
noncomputable abbrev envLw (L fa : Addr) (cd : Value) : Env := envOf "law" lawSc L fa cd
theorem tokText2 {x i : List Nat} {b1 b2 : Nat} (hi : Inn x i) (h1 : b1 ∈ [32, 9, 13, 10]) (h2 : b2 ∈ [32, 9, 13, 10]) (hx : x ≠ []) (hq : (34 : Nat) ∉ x) : ∃ R, TokR (b1 :: (i ++ [b2] ++ [122])) x R ∧ TokR R [122] [] ∧ R.length < 10000 := by
  cases hi with
  | quo =>
    refine ⟨[b2, 122], .ws (ws_of h1) ?_, .ws (ws_of h2) tokZ, by show 2 < 10000; decide⟩
    rw [List.cons_append, List.cons_append, List.append_assoc, List.append_assoc, List.cons_append, List.nil_append]
    exact .quo (quoR _ x [] hq)
  | esc =>
    refine ⟨[122], .ws (ws_of h1) ?_, tokZ, by show 1 < 10000; decide⟩
    cases x with
    | nil => exact absurd rfl hx
    | cons c x =>
      rw [List.flatMap_cons, List.append_assoc, List.append_assoc, List.cons_append, List.cons_append, List.nil_append]
      exact .esc (escR [122] x [c] b2 (ws_of h2))
theorem inn_len {x i : List Nat} (h : Inn x i) : i.length ≤ 2 + 5 * x.length := by
  cases h with
  | quo =>
    have := rep_len [92] [92, 92] (by decide) 0 x
    simp only [List.length_cons, List.length_append, List.length_nil]; omega
  | esc => rw [esc_len]; omega
theorem no34 {c1 c2 : Nat} (h1 : c1 ∈ nmC) (h2 : c2 ∈ nmC) (l : List Bool) : (34 : Nat) ∉ c1 :: c2 :: encL l := by
  intro h
  rcases List.mem_cons.mp h with rfl | h
  · exact absurd h1 (by decide)
  · rcases List.mem_cons.mp h with rfl | h
    · exact absurd h2 (by decide)
    · exact absurd (encL_mem h) (by decide)
/-- the floors of one line, as they stand -/
noncomputable def FlR (d1 d2 : Nat) (a : Bool) (l : List Bool) (tot : Int) (r : Addr) (rest : Cells) : Prop :=
  ∃ (fe y tp : Addr) (fls : List Value) (t2 t3 tl b1 b2 : Tok), (r, W.listOf (fls ++ [Value.ref fe]).toArray 0) ∈ rest ∧ (fe, W.listOf #[Value.str "z" t2, Value.str "" t3, Value.int tot tl, Value.ref y] 0) ∈ rest ∧ (y, W.listOf #[Value.ref tp] 0) ∈ rest ∧ (tp, tup0 b1 b2) ∈ rest ∧ Flrs d1 d2 a l [] rest fls 4
theorem FlR.mono {d1 d2 : Nat} {a : Bool} {l : List Bool} {tot : Int} {r : Addr} {o o' : Cells} (h : FlR d1 d2 a l tot r o) (hs : ∀ p ∈ o, p ∈ o') : FlR d1 d2 a l tot r o' := by
  obtain ⟨fe, y, tp, fls, t2, t3, tl, b1, b2, m1, m2, m3, m4, e, hf⟩ := h
  refine ⟨fe, y, tp, fls, t2, t3, tl, b1, b2, hs _ m1, hs _ m2, hs _ m3, hs _ m4, e, fun i hi => ?_⟩
  obtain ⟨f, fv, k, a, b, c, d⟩ := hf i hi
  exact ⟨f, fv, k, a, hs _ b, c, d⟩
theorem TabOwn.tab {own : Cells} (h : TabOwn own) : ∃ ps, ((210 : Addr), tabObj ps) ∈ own := by
  rcases h with rfl | ⟨c1, c2, oc1, oc2, -, -, -, -, rfl⟩
  · exact ⟨_, .head _⟩
  · exact ⟨_, .head _⟩
/-- the names of the law, its floors made -/
noncomputable def mL1 (a hp hl r1 r2 : Addr) (rt tx : Str) (t1 t2 : Tok) : Str → Option Value := fun y =>
  if y = "second" then some (.ref r2) else if y = "first" then some (.ref r1) else if y = "hands" then some (.ref hl) else if y = "text" then some (.str tx t2) else if y = "root" then some (.str rt t1) else if y = "heaps" then some (.ref hp) else if y = "script" then some (.ref a) else none
section
variable {prog : Program} {w : World} {g : Heap} {dp un : Nat} {gd : Option (List Code)} {fr : List Env}
theorem lawA (hpf : ((prog.main.file : Str) == ("/claim/cut.py" : Str)) = true) (hps : (prog.main.scope.names.lookup ("super" : Str)).isSome = false) (G : Gd (KH w.params) g) (hdp : dp + 40 < recursionLimit) (hun : un + 900 < cLine)
    {L fa a : Addr} {cd : Value} {items : List Value} {is : List Int} {s : Shared} {h : Heap} {tk : Nat} (HL : g.IsList a items.toArray) (hI : IntsAre items is) (hn : is.length ≤ 63)
    (F : Fr g L h (fun y => if y = "script" then some (.ref a) else none)) (N : News g L h [(210, tabObj #[])]) {Q' : Flow → Shared → Prop}
    (hQ : ∀ (hp hl r1 r2 : Addr) (c1 c2 : Nat) (l : List Bool) (rt tx : Str) (t1 t2 : Tok) (n1 n2 : Cells) (h' : Heap) (tk' : Nat), c1 ∈ nmC → c2 ∈ nmC → l ∈ words 3 → rt = mkW c1 c2 l → tx.cps.size ≤ 9000 →
      FlR c1 c2 false l (1 + nl tx.cps.toList) r1 n1 → FlR c1 c2 true l (1 + nl tx.cps.toList) r2 n2 → (∃ ps, ((210 : Addr), tabObj ps) ∈ n2) → Fr g L h' (mL1 a hp hl r1 r2 rt tx t1 t2) → News g L h' (n1 ++ n2) →
      wpAny (model prog w) (arT dp un gd fr) (execs (lawB.drop 6) (envLw L fa cd)) Q' (fun _ _ => False) { s with heap := h', toks := tk' }) :
    wpAny (model prog w) (arT dp un gd fr) (execs lawB (envLw L fa cd)) Q' (fun _ _ => False) { s with heap := h, toks := tk } := by
  obtain ⟨X, ⟨p, loose, mean, mg, mb, T⟩, codeHd⟩ := id G
  show wpAny _ _ (execs (List.cons _ (List.cons _ (List.cons _ (List.cons _ (List.cons _ (List.cons _ (lawB.drop 6))))))) _) _ _ _
  generalize hrest : lawB.drop 6 = rest at *
  unfold envLw at hQ ⊢
  conv in (occs := *) lawSc => all_goals whnf
  iterate 8 walk1
  refine ⟨X.keeps F.keep, ?_⟩
  refine useP (heapsW a items is hI hn) HL (fun h h' k e => e.at (k a)) F N G (by omega) (by omega) ?_
  rintro v h1 tk1 o1 ⟨hp, hv, hi, hk, rfl, rfl, hvI, hvl⟩ F1 N1 D1
  have N1 : News g L h1 [(hp, W.listOf hv.toArray hk), (210, tabObj #[])] := N1
  have d1 : @Ne Nat hp 210 := D1 _ (.head _) _ (.head _)
  clear F N D1
  dsimp only
  iterate 10 walk1
  rename_i h1' F1 N1 tk1' htk1
  refine ⟨X.keeps F1.keep, ?_⟩
  refine use (own := [(hp, W.listOf hv.toArray hk)]) (rest := [(210, tabObj #[])]) (root hp hv hk hi hvI hvl) F1 N1 G (subC (.cons_cons _ (List.nil_sublist _))) (subC (.cons _ (.refl _))) (off1 (List.forall_mem_cons.mpr ⟨Ne.symm d1, List.forall_mem_nil _⟩)) (by omega) (by omega) ?_
  rintro v h2 tk2 o2 ⟨x, tx, c1, c2, ps, rfl, hx, hc1, hc2, hR, rfl⟩ F2 N2 -
  have N2 : News g L h2 [(hp, W.listOf hv.toArray hk), (210, tabObj #[])] := N2
  clear F1 N1
  dsimp only
  obtain ⟨l, hl⟩ : ∃ l, ps.filterMap id = l := ⟨_, rfl⟩
  have hlw : l ∈ words 3 := hl ▸ rch_words hR
  have hg : Good l = true := List.all_eq_true.mp words_good l hlw
  rw [hl] at hx
  have hxw : x = mkW c1 c2 l := str_ext hx
  have hl0 : l.length ≤ 100 := (good_lev hg (n := 0) (by decide)).2.2.2.1 l (.head _)
  have hxs : x.cps.size ≤ 402 := by rw [hxw]; have := mkW_size c1 c2 l; omega
  clear hR hl
  iterate 17 walk1
  rename_i h2' F2 N2 tk2' htk2 th
  refine use (own := []) (rest := [(hp, W.listOf hv.toArray hk), (210, tabObj #[])]) (textw x tx _ th (show x.cps.size < 10000 by omega)) F2 N2 G (fun p hp => nomatch hp) (fun p hp => hp) (fun p hp => nomatch hp) (by omega) (by omega) ?_
  rintro v h3 tk3 o3 ⟨y, ty, b1, b2, i, rfl, hy, hinn, hb1, hb2, rfl⟩ F3 N3 -
  have N3 : News g L h3 [(hp, W.listOf hv.toArray hk), (210, tabObj #[])] := N3
  clear F2 N2
  have hys : y.length ≤ 4000 := by
    have := inn_len hinn
    show y.cps.size ≤ _
    rw [← Array.length_toList, hy]
    simp only [List.length_cons, List.length_append, List.length_nil]
    have e := Array.length_toList (xs := x.cps)
    omega
  have hz : (Str.ofString "z").cps.toList = [122] := by decide +kernel
  have hyz : (y ++ Str.ofString "z").cps.toList = b1 :: (i ++ [b2] ++ [122]) := by rw [Str.cps_append, Array.toList_append, hy, hz]; simp
  have hyzs : (y ++ Str.ofString "z").cps.size ≤ 9000 := by
    have e := Str.length_append y (Str.ofString "z")
    have e2 : (Str.ofString "z").length = 1 := by decide +kernel
    show (y ++ Str.ofString "z").length ≤ _
    omega
  obtain ⟨R, hT1, hT2, hRl⟩ := tokText2 hinn hb1 hb2 (by rw [hx]; exact List.cons_ne_nil _ _) (by rw [hx]; exact no34 hc1 hc2 l)
  rw [← hyz, hxw] at hT1
  dsimp only
  iterate 22 walk1
  rename_i t4 k4 hk4 h4 F4 N4 tk4 htk4 h5 tk5 t5 F5 N5
  have hm1 := Int.fmod_nonneg_of_pos hi.sum (b := 5) (by omega)
  have hm2 := Int.fmod_lt_of_pos hi.sum (b := 5) (by omega)
  clear hinn hk4 F4 N4
  refine use (own := []) (rest := [(hp, W.listOf hv.toArray hk), (210, tabObj #[])]) (hands _ _ hm1 hm2) F5 N5 G (fun p hp => nomatch hp) (fun p hp => hp) (fun p hp => nomatch hp) (by omega) (by omega) ?_
  rintro v h6 tk6 o6 ⟨hl, hvs, rfl, rfl, hvs5, hvsm⟩ F6 N6 D6
  have N6 : News g L h6 [(hl, W.listOf hvs.toArray 0), (hp, W.listOf hv.toArray hk), (210, tabObj #[])] := N6
  have d2 : @Ne Nat hl hp := D6 _ (.head _) _ (.head _)
  have d3 : @Ne Nat hl 210 := D6 _ (.head _) _ (.tail _ (.head _))
  clear F5 N5
  generalize y ++ Str.ofString "z" = tx' at hyz hyzs hT1 F6
  dsimp only
  iterate 15 walk1
  rename_i h7 F7 N7 tk7 htk7
  have hlevF : ∀ j, j < 4 → ∀ u ∈ lev false j l, u.length ≤ 200 := fun j hj u hu => Nat.le_trans ((good_lev hg hj).2.2.2.1 u hu) (by decide)
  have hlevT : ∀ j, j < 4 → ∀ u ∈ lev true j l, u.length ≤ 200 := fun j hj u hu => Nat.le_trans ((good_lev hg hj).2.2.2.2 u hu) (by decide)
  clear D6
  refine use (own := [(hl, W.listOf hvs.toArray 0), (210, tabObj #[])]) (rest := [(hp, W.listOf hv.toArray hk)]) (floors hpf hps false tx' t4 hl hvs 0 ⟨hvs5, hvsm⟩ [(210, tabObj #[])] (.inl rfl) (fun p hp => by rw [List.mem_singleton.mp hp]; exact Ne.symm d3) hyzs c1 c2 hc1 hc2 l hlevF R hT1 hT2 hRl) F7 N7 G
    (subC (.cons_cons _ (.cons _ (.refl _)))) (subC (.cons _ (.cons_cons _ (List.nil_sublist _)))) (off2 (List.forall_mem_cons.mpr ⟨Ne.symm d2, List.forall_mem_nil _⟩) (List.forall_mem_cons.mpr ⟨d1, List.forall_mem_nil _⟩)) (by omega) (by omega) ?_
  rintro v h8 tk8 o8 ⟨rl, fe, yy, tp, fls, t2, t3, tl, b1', b2', own2, rest1, rfl, rfl, hT, hne2, hdis, m1, m2, m3, m4, hfl⟩ F8 N8 D8
  have dhp : ∀ p ∈ own2 ++ rest1, @Ne Nat p.1 hp := fun p hp' => D8 p (.tail _ hp') _ (.head _)
  have N8 := cb_drop (news := (hl, W.listOf hvs.toArray 0) :: (hp, W.listOf hv.toArray hk) :: (own2 ++ rest1)) N8 (by lcg_sub)
  clear D8
  dsimp only
  iterate 14 walk1
  rename_i h9 F9 N9 tk9 htk9
  refine ⟨X.keeps F9.keep, ?_⟩
  refine use (own := (hl, W.listOf hvs.toArray 0) :: own2) (rest := (hp, W.listOf hv.toArray hk) :: rest1) (floors hpf hps true tx' t4 hl hvs 0 ⟨hvs5, hvsm⟩ own2 hT hne2 hyzs c1 c2 hc1 hc2 l hlevT R hT1 hT2 hRl) F9 N9 G
    (fun p hp => ?_) (fun p hp => ?_) (fun p hp q hq => ?_) (by omega) (by omega) ?_
  · revert p; lcg_sub
  · revert p; lcg_sub
  · rcases List.mem_cons.mp hp with rfl | hp <;> rcases List.mem_cons.mp hq with rfl | hq
    · exact d2
    · exact (hdis q hq).1.symm
    · exact dhp p (List.mem_append_left _ hp)
    · exact ((hdis q hq).2 p hp).symm
  rintro v h10 tk10 o10 ⟨rl2, fe2, yy2, tp2, fls2, t22, t32, tl2, b12, b22, own3, rest2, rfl, rfl, hT', hne3, hdis2, k1, k2, k3, k4, hfl2⟩ F10 N10 D10
  have N10 := cb_drop (news := rest1 ++ (own3 ++ rest2)) N10 (by lcg_sub)
  clear D10
  dsimp only
  walk1
  rename_i h11 F11 N11
  dsimp only
  subst hrest
  obtain ⟨pst, htab⟩ := hT'.tab
  exact hQ hp hl rl rl2 c1 c2 l x tx' tx t4 rest1 (own3 ++ rest2) h11 _ hc1 hc2 hlw hxw hyzs ⟨fe, yy, tp, fls, t2, t3, tl, b1', b2', m1, m2, m3, m4, hfl⟩ (FlR.mono ⟨fe2, yy2, tp2, fls2, t22, t32, tl2, b12, b22, k1, k2, k3, k4, hfl2⟩ fun p hp => List.mem_append_right _ hp) ⟨pst, List.mem_append_left _ htab⟩ (frOf F11 fun y => rfl) N11
end
end Mine

-- U4
namespace Mine
theorem cnt_nl : ∀ xs : List Nat, (cntL [10] 0 xs : Int) = nl xs
  | [] => rfl
  | c :: xs => by
    have ih := cnt_nl xs
    by_cases h : c = 10
    · subst h
      rw [cnt_hit (by decide) (by simp)]
      show ((1 + cntL [10] 0 xs : Nat) : Int) = nl xs + 1
      rw [← ih]; omega
    · rw [cnt_miss (by simpa using h), ih]
      show _ = cond (c == 10) _ _
      rw [show (c == 10) = false from beq_eq_false_iff_ne.mpr h]; rfl
theorem count_nl (x : Str) : Txt.count x (Str.ofString "\n") = nl x.cps.toList := by
  rw [count_cnt _ _ (by decide), show (Str.ofString "\n").cps.toList = [10] by decide +kernel, cnt_nl]
theorem shaped_strs {ss : List Str} (h : ∀ x ∈ ss, PyData.strOk x = true) : PySem.SeqAt.shaped (.list (ss.map .str)) = true := by
  unfold PySem.SeqAt.shaped
  rw [Bool.and_eq_true]
  refine ⟨?_, decide_eq_true ?_⟩
  · show PyData.canLayAll0 (ss.map .str) = true
    rw [canLayAll_strs']
    exact List.all_eq_true.mpr h
  · show PyData.depthAll (ss.map .str) + 1 ≤ 64
    rw [depthAll_strs']; decide
section
variable {prog : Program} {w : World} {A : Around} {E : Value → Shared → Prop} {s : Shared} {h₀ : Heap} {L : Addr} {news : Cells}
theorem neSame {a b : Value} {d : PyData} {as bs : List Addr} {Q : Value → Shared → Prop} (ra : Reads s.heap a d as) (rb : Reads s.heap b d bs) (hs : PySem.SeqAt.shaped d = true) (hu : A.units + 64 < cLine) (h : Q (.bool false) s) : wpAny (model prog w) A (compareOp .NotEq a b) Q E s := by
  refine ne_dataH ra rb hs hs hu ?_
  rw [PySem.SeqAt.eqv_refl _ (PySem.SeqAt.canLay_of_shaped hs)]
  exact h
theorem readsStrs {H : Heap} {f : Addr} {fv : List Value} {k : Nat} {ss : List Str} (N : News h₀ L H news) (hm : (f, W.listOf fv.toArray k) ∈ news) (hf : StrsAre fv ss) : Reads H (.ref f) (.list (ss.map .str)) [f] :=
  .list (N _ hm).1 rfl rfl (hf.reads _)
noncomputable def endD (tot : Int) : PyData := .list [.str "z", .str "", .int tot, .list [.tuple [.str "", .str "#"]]]
theorem endD_shaped (tot : Int) : PySem.SeqAt.shaped (endD tot) = true := by
  unfold PySem.SeqAt.shaped endD
  rw [Bool.and_eq_true]
  exact ⟨by kernel_rfl, by kernel_rfl⟩
theorem readsEnd {H : Heap} {fe y tp : Addr} {t2 t3 tl b1 b2 : Tok} {tot : Int} {k1 k2 : Nat} (N : News h₀ L H news) (h1 : (fe, W.listOf #[Value.str "z" t2, Value.str "" t3, Value.int tot tl, Value.ref y] k1) ∈ news) (h2 : (y, W.listOf #[Value.ref tp] k2) ∈ news) (h3 : (tp, tup0 b1 b2) ∈ news) :
    ∃ as, Reads H (.ref fe) (endD tot) as :=
  ⟨_, .list (N _ h1).1 rfl rfl (.cons (.str _ _) (.cons (.str _ _) (.cons (.int _ _) (.cons (.list (N _ h2).1 rfl rfl (.cons (.tuple (N _ h3).1 rfl rfl (.cons (.str _ _) (.cons (.str _ _) .nil))) .nil)) .nil))))⟩
end
section
variable {prog : Program} {w : World} {g : Heap} {dp un : Nat} {gd : Option (List Code)} {fr : List Env}
theorem lawE (G : Gd (KH w.params) g) (hdp : dp + 40 < recursionLimit) (hun : un + 900 < cLine)
    {L fa a hp hl r1 r2 : Addr} {cd : Value} {c1 c2 : Nat} {l : List Bool} {rt tx : Str} {t1 t2 : Tok} {n1 n2 : Cells} {s : Shared} {h : Heap} {tk : Nat} (hc1 : c1 ∈ nmC) (hc2 : c2 ∈ nmC) (hrt : rt = mkW c1 c2 l)
    (hf1 : FlR c1 c2 false l (1 + nl tx.cps.toList) r1 n1) (hf2 : FlR c1 c2 true l (1 + nl tx.cps.toList) r2 n2)
    (F : Fr g L h (mL1 a hp hl r1 r2 rt tx t1 t2)) (N : News g L h (n1 ++ n2)) {Q' : Flow → Shared → Prop}
    (hQ : ∀ (en : Addr) (h' : Heap) (tk' : Nat), Fr g L h' (fun y => if y = "end" then some (.ref en) else mL1 a hp hl r1 r2 rt tx t1 t2 y) → News g L h' (n1 ++ n2) →
      wpAny (model prog w) (arT dp un gd fr) (execs (lawB.drop 8) (envLw L fa cd)) Q' (fun _ _ => False) { s with heap := h', toks := tk' }) :
    wpAny (model prog w) (arT dp un gd fr) (execs (lawB.drop 6) (envLw L fa cd)) Q' (fun _ _ => False) { s with heap := h, toks := tk } := by
  obtain ⟨X, ⟨p, loose, mean, mg, mb, T⟩, codeHd⟩ := id G
  show wpAny _ _ (execs (List.cons _ (List.cons _ (lawB.drop 8))) _) _ _ _
  generalize hrest : lawB.drop 8 = rest at *
  unfold envLw at hQ ⊢
  conv in (occs := *) lawSc => all_goals whnf
  iterate 42 walk1
  rename_i D h1 l1 Y h2 l2 en h3 l3 h4 F4 N4 tk4 htk4
  rw [count_nl] at N4
  obtain ⟨fe, y, tp, fls, e2, e3, el, b1, b2, m1, m2, m3, m4, hfl⟩ := hf1
  obtain ⟨fe', y', tp', fls', e2', e3', el', b1', b2', m1', m2', m3', m4', hfl'⟩ := hf2
  obtain ⟨f0, fv0, k0, q1, q2, q3, -⟩ := hfl.2 0 (by decide)
  have in1 : ∀ {p : Addr × Obj}, p ∈ n1 → p ∈ n1 ++ n2 := fun h => List.mem_append_left _ h
  have in2 : ∀ {p : Addr × Obj}, p ∈ n2 → p ∈ n1 ++ n2 := fun h => List.mem_append_right _ h
  refine subscriptTail_builtin (N4.isList (a := r1) (.tail _ (.tail _ (.tail _ (in1 m1))))).typeIs list_getitem_lookup (itemK N4 (.tail _ (.tail _ (.tail _ (in1 m1)))) (by decide) (by decide) (v := .ref f0) (by show (fls ++ [Value.ref fe])[0]? = _; rw [List.getElem?_append_left (by rw [hfl.1]; decide)]; exact q1) ?_)
  iterate 5 walk1
  rename_i bx h5 F5 N5 l5
  subst hrt
  have hu : (arT dp un gd fr).units + 64 < cLine := by show un + 64 < cLine; omega
  refine neSame (d := .list (([l].map (mkW c1 c2)).map .str)) (readsStrs N5 (.tail _ (.tail _ (.tail _ (.tail _ (in1 q2))))) q3) (.list (N5 _ (.head _)).1 rfl rfl (.cons (.str _ _) .nil)) (shaped_strs fun x hx => by rw [List.map_singleton, List.mem_singleton] at hx; rw [hx]; exact strOk_mkW hc1 hc2 l) hu ?_
  iterate 7 walk1
  have at4 : ∀ {fl : List Value} {f : Addr}, fl.length = 4 → (fl ++ [Value.ref f])[4]? = some (.ref f) := fun h => by rw [← h]; simp
  have k1 := in1 (p := _) m1
  have k1' := in2 (p := _) m1'
  refine subscriptTail_builtin (N5.isList (a := r1) (.tail _ (.tail _ (.tail _ (.tail _ k1))))).typeIs list_getitem_lookup (itemK N5 (.tail _ (.tail _ (.tail _ (.tail _ k1)))) (by decide) (by decide) (v := .ref fe) (at4 hfl.1) ?_)
  obtain ⟨z0, z1⟩ := readsEnd (tot := 1 + nl tx.cps.toList) N5 (.tail _ (.head _)) (.tail _ (.tail _ (.head _))) (.tail _ (.tail _ (.tail _ (.head _))))
  obtain ⟨z2, z3⟩ := readsEnd (tot := 1 + nl tx.cps.toList) N5 (.tail _ (.tail _ (.tail _ (.tail _ (in1 m2))))) (.tail _ (.tail _ (.tail _ (.tail _ (in1 m3))))) (.tail _ (.tail _ (.tail _ (.tail _ (in1 m4)))))
  obtain ⟨z4, z5⟩ := readsEnd (tot := 1 + nl tx.cps.toList) N5 (.tail _ (.tail _ (.tail _ (.tail _ (in2 m2'))))) (.tail _ (.tail _ (.tail _ (.tail _ (in2 m3'))))) (.tail _ (.tail _ (.tail _ (.tail _ (in2 m4')))))
  walk1
  refine neSame z3 z1 (endD_shaped _) hu ?_
  iterate 7 walk1
  refine subscriptTail_builtin (N5.isList (a := r2) (.tail _ (.tail _ (.tail _ (.tail _ k1'))))).typeIs list_getitem_lookup (itemK N5 (.tail _ (.tail _ (.tail _ (.tail _ k1')))) (by decide) (by decide) (v := .ref fe') (at4 hfl'.1) ?_)
  walk1
  refine neSame z5 z1 (endD_shaped _) hu ?_
  iterate 6 walk1
  dsimp only
  subst hrest
  exact hQ en h5 _ F5 (cb_drop N5 fun p hp => .tail _ (.tail _ (.tail _ (.tail _ hp))))
end
end Mine

-- U5
namespace Mine
section
variable {prog : Program} {w : World} {A : Around} {E : Value → Shared → Prop} {s : Shared} {h₀ : Heap} {L : Addr} {m : Str → Option Value} {env : Env}
/-- a comprehension that is stored, its source made: the walk stops here -/
noncomputable def CompA (prog : Program) (w : World) (A : Around) (h₀ : Heap) (L : Addr) (m : Str → Option Value) (env : Env) (elt : PySem.Expr) (x : Str) (scope : Scope) (cl : List (Str × Addr)) (y : Str) (Q : Flow → Shared → Prop) (xv : Value) (s₁ : Shared) : Prop :=
  LCg.CompSrc prog w A h₀ L m env elt x scope cl (fun s₂ => LCg.FinA h₀ L m s₂ y Q) xv s₁
theorem compA {elt iter : PySem.Expr} {x y : Str} {px py : Pos} {scope : Scope} {cl : List (Str × Addr)} {pos spos : Pos} {Q : Flow → Shared → Prop} (_ : VMark) (F₀ : Fr h₀ L s.heap m) (hLe : env.locals = L)
    (hsw : swapsWith (.ListComp elt [⟨.Name x px, iter, [], 0⟩] scope pos) (some (.Name y py)) spos.line env = pure true)
    (hclos : closureFor scope env = pure cl) (hcell : ∀ z ∈ scope.names, z.2 ≠ .cell) (hkind : scope.kind = .function)
    (hnames : ∀ z ∈ scope.names, z.2 = .local → scope.names.lookup z.1 = some .local) (hx : scope.names.lookup x = some .local)
    (hy : env.kindOf y = some .local) (hp : (env.scope.kind == .class || (env.scope.kind == .module && env.locals != env.globals)) = false)
    (h : wpAny (model prog w) A (eval iter env) (CompA prog w A h₀ L m env elt x scope cl y Q) E s)
    (hs : ∀ x, foldedSetIterable iter env x = pure x := by intro _; rfl) :
    wpAny (model prog w) A (exec (.Assign [.Name y py] (.ListComp elt [⟨.Name x px, iter, [], 0⟩] scope pos) spos) env) Q E s := LCg.Assign_ListComp_U F₀ hLe hsw hclos hcell hkind hnames hx hy hp h hs
end
noncomputable def cokB (l : List Bool) : Bool := ((cnt l).1 ≤ 1000) && ((cnt l).2 ≤ 1000) && (List.range 4).all fun n => (cseq (2 ^ n) ((cnt l).1, (cnt l).2 + n * (cnt l).1)).all fun x => decide (0 ≤ x.1 ∧ x.1 ≤ 1000 ∧ 0 < x.2 ∧ x.2 ≤ 1000)
theorem words_cok : (words 3).all cokB = true := by decide +kernel
theorem cok_of {l : List Bool} (h : l ∈ words 3) : (cnt l).1 ≤ 1000 ∧ (cnt l).2 ≤ 1000 ∧ ∀ n : Nat, n < 4 → COk (cseq (2 ^ n) ((cnt l).1, (cnt l).2 + n * (cnt l).1)) := by
  have := List.all_eq_true.mp words_cok l h
  simp only [cokB, Bool.and_eq_true, decide_eq_true_eq, List.all_eq_true] at this
  obtain ⟨⟨a, b⟩, c⟩ := this
  exact ⟨a, b, fun n hn x hx => c n (List.mem_range.mpr hn) x hx⟩
noncomputable def tupD (x : Int × Int) : PyData := .tuple [.int x.1, .int x.2]
theorem CntL.reads {o : Cells} {vs : List Value} {xs : List (Int × Int)} {h : Heap} (N : ∀ p ∈ o, h.get? p.1 = some p.2) (c : CntL o vs xs) : ∃ as, ReadsAll h vs (xs.map tupD) as := by
  induction c with
  | nil => exact ⟨_, .nil⟩
  | @snoc vs xs T x t u c m ih =>
    obtain ⟨as, q⟩ := ih
    rw [List.map_append]
    exact readsAll_app q (.cons (.tuple (N _ m) rfl rfl (.cons (.int _ t) (.cons (.int _ u) .nil))) .nil)
theorem cnt_lay : ∀ xs : List (Int × Int), PyData.canLayAll0 (xs.map tupD) = true
  | [] => rfl
  | x :: xs => by
    have := cnt_lay xs
    show (PyData.canLay0 (tupD x) && PyData.canLayAll0 (xs.map tupD)) = true
    rw [this]; rfl
theorem cnt_depth : ∀ xs : List (Int × Int), PyData.depthAll (xs.map tupD) ≤ 2
  | [] => Nat.zero_le _
  | x :: xs => by
    have := cnt_depth xs
    show max (PyData.depth (tupD x)) (PyData.depthAll (xs.map tupD)) ≤ 2
    have e : PyData.depth (tupD x) ≤ 2 := by
      show PyData.depthAll [.int x.1, .int x.2] + 1 ≤ 2
      simp [PyData.depthAll, PyData.depth]
    omega
theorem cnt_shaped (xs : List (Int × Int)) : PySem.SeqAt.shaped (.list (xs.map tupD)) = true := by
  unfold PySem.SeqAt.shaped
  rw [Bool.and_eq_true]
  refine ⟨cnt_lay xs, decide_eq_true ?_⟩
  show PyData.depthAll (xs.map tupD) + 1 ≤ 64
  have := cnt_depth xs
  omega
/-- the names of the law in its first loop -/
noncomputable def mL2 (vT vN : Option Value) (en : Addr) (m : Str → Option Value) : Str → Option Value := fun y => if y = "told" then vT else if y = "n" then vN else if y = "end" then some (.ref en) else m y
noncomputable def forB : List Stmt := match (lawB[8]? : Option Stmt) with | some (.For _ _ b _ _) => b | _ => []
end Mine
local macro_rules | `(tactic| walk_at "exec Assign cons ListComp") => `(tactic| (k_here; k_dflt (refine Mine.compA (by assumption) (by k_asm) (by rfl) (by with_unfolding_all rfl) (by with_unfolding_all rfl) (by decide) (by rfl) (by decide) (by rfl) (by rfl) (by rfl) ?_)))

-- U6
namespace Mine
theorem strsAt {vs : List Value} {ss : List Str} (h : StrsAre vs ss) : ∀ {i : Nat} {v : Value}, vs[i]? = some v → ∃ x t, v = .str x t ∧ ss[i]? = some x := by
  induction h with
  | nil => intro i v h; simp at h
  | cons x t _ ih =>
    intro i v h
    cases i with
    | zero => cases h; exact ⟨x, t, rfl, rfl⟩
    | succ i => exact ih h
theorem mL2_told {vT vN v u : Option Value} {en : Addr} {m : Str → Option Value} (y : Str) : (if y = Str.ofString "told" then v else (fun y => if y = Str.ofString "n" then u else mL2 vT vN en m y) y) = mL2 v u en m y := by
  unfold mL2
  by_cases h : y = Str.ofString "told"
  · simp only [h, if_true]
  · by_cases h2 : y = Str.ofString "n"
    · simp only [h, h2, if_true, if_false]
    · simp only [h, h2, if_false]
section
variable {prog : Program} {w : World} {g : Heap} {dp un : Nat} {gd : Option (List Code)} {fr : List Env}
theorem lawT (G : Gd (KH w.params) g) (hdp : dp + 40 < recursionLimit) (hun : un + 900 < cLine)
    {L fa a hp hl r1 r2 en I : Addr} {cd : Value} {c1 c2 : Nat} {l : List Bool} {tx : Str} {t1 t2 : Tok} {n1 n2 : Cells} {it : Obj} {s : Shared} {h : Heap} {tk : Nat} (hc1 : c1 ∈ nmC) (hc2 : c2 ∈ nmC) (hlw : l ∈ words 3)
    (hf1 : FlR c1 c2 false l (1 + nl tx.cps.toList) r1 n1) (hf2 : FlR c1 c2 true l (1 + nl tx.cps.toList) r2 n2) (hI : ∀ p ∈ n1 ++ n2, p.1 ≠ I) {n : Nat} (hn : n < 4) {tn : Tok} {vT vN : Option Value}
    (F : Fr g L h (fun y => if y = "n" then some (.int (0 + (n : Int)) tn) else mL2 vT vN en (mL1 a hp hl r1 r2 (mkW c1 c2 l) tx t1 t2) y)) (N : News g L h ((I, it) :: (n1 ++ n2))) {Q' : Flow → Shared → Prop}
    (hQ : ∀ (h' : Heap) (tk' : Nat) (vT' : Option Value), Fr g L h' (mL2 vT' (some (.int (0 + (n : Int)) tn)) en (mL1 a hp hl r1 r2 (mkW c1 c2 l) tx t1 t2)) → News g L h' ((I, it) :: (n1 ++ n2)) → Q' .next { s with heap := h', toks := tk' }) :
    wpAny (model prog w) (arT dp un gd fr) (execs forB (envLw L fa cd)) Q' (fun _ _ => False) { s with heap := h, toks := tk } := by
  obtain ⟨X, ⟨p, loose, mean, mg, mb, T⟩, codeHd⟩ := id G
  have hV : VMark := trivial
  conv => arg 3; arg 1; whnf
  unfold envLw
  conv in (occs := *) lawSc => all_goals whnf
  obtain ⟨fe, y, tp, fls, e2, e3, el, b1, b2, m1, m2, m3, m4, hfl⟩ := hf1
  obtain ⟨fe', y', tp', fls', e2', e3', el', b1', b2', m1', m2', m3', m4', hfl'⟩ := hf2
  obtain ⟨f, fv, k, q1, q2, q3, -⟩ := hfl.2 n hn
  obtain ⟨f', fv', k', q1', q2', q3', -⟩ := hfl'.2 n hn
  have in1 : ∀ {p : Addr × Obj}, p ∈ n1 → p ∈ n1 ++ n2 := fun h => List.mem_append_left _ h
  have in2 : ∀ {p : Addr × Obj}, p ∈ n2 → p ∈ n1 ++ n2 := fun h => List.mem_append_right _ h
  have hwn : (lev false n l).length ≤ 8 := by
    rw [lev_len]
    have : n = 0 ∨ n = 1 ∨ n = 2 ∨ n = 3 := by omega
    rcases this with rfl | rfl | rfl | rfl <;> decide
  have hfl8 : fv.length = (lev false n l).length := by rw [q3.length, List.length_map]
  have hg : Good l = true := List.all_eq_true.mp words_good l hlw
  have hfl4 := hfl.1
  have hn0 : (0 : Int) ≤ 0 + (n : Int) := by omega
  have hn9 : 0 + (n : Int) < 2 ^ 63 := by omega
  have atn : ∀ {fl : List Value} {f fe : Addr}, fl.length = 4 → fl[n]? = some (.ref f) → (fl ++ [Value.ref fe])[(0 + (n : Int)).toNat]? = some (.ref f) := fun h q => by
    rw [show (0 + (n : Int)).toNat = n by omega, List.getElem?_append_left (by omega)]; exact q
  iterate 5 walk1
  refine subscriptTail_builtin (N.isList (a := r1) (.tail _ (in1 m1))).typeIs list_getitem_lookup (itemK N (.tail _ (in1 m1)) hn0 hn9 (v := .ref f) (atn hfl4 q1) ?_)
  refine LCg.CompSrc.ledger rfl F N (.tail _ (in1 q2)) (by rw [sizeLine_eq, List.size_toArray]; omega) ?_
  intro g'
  rw [List.size_toArray]
  refine compInv (fun i ys news => ∃ ce : Cells, news = ce ++ (I, it) :: (n1 ++ n2) ∧ CntL ce ys (((lev false n l).take i).map cnt) ∧ ∀ z ∈ ce, @Ne Nat z.1 I) ?_ ?_ fv.length 0 [] _ (Nat.zero_add _) ⟨[], rfl, .nil, fun _ hz => (nomatch hz)⟩
  · rintro i ys news hi ⟨ce, rfl, hys, hce⟩ v J oJ C oC D m₃ h3 tk3 E' hP hC hxm F3 N3 off ⟨j1, j2, j3⟩
    rw [List.getElem?_toArray] at hP
    obtain ⟨x, t, rfl, hxi⟩ := strsAt q3 hP
    rw [List.getElem?_map] at hxi
    obtain ⟨u, hu, rfl⟩ := Option.map_eq_some_iff.mp hxi
    have hcu := count_mkW hc1 hc2 u
    have hut : (lev false n l).take (i + 1) = (lev false n l).take i ++ [u] := by rw [List.take_add_one, hu]; rfl
    iterate 22 walk1
    rename_i D9 h9 F9 N9 l9
    obtain ⟨l91, l92, l93, l94⟩ := l9
    have offm := off.mem
    refine LCg.CompEnd.intro F9 N9 ((D9, tupI (cnt u) (tk3 + 1) (tk3 + 1 + 1 + 1)) :: ce ++ (I, it) :: (n1 ++ n2)) (fun p hp => ?_) (LCg.Off3.of fun p hp => ?_) (.inr ⟨W.listOf fv.toArray k, ?_, rfl, k, rfl⟩) ⟨(D9, tupI (cnt u) (tk3 + 1) (tk3 + 1 + 1 + 1)) :: ce, rfl, ?_, ?_⟩
    · rw [← hcu] at hp
      revert p; lcg_sub
    · rcases List.mem_cons.mp hp with rfl | hp
      · exact ⟨Nat.ne_of_gt l91, Nat.ne_of_gt l92, Nat.ne_of_gt l93⟩
      · exact offm p hp
    · simp only [List.cons_append, List.mem_cons, List.mem_append]
      simp [q2]
    · rw [hut, List.map_append]
      exact (hys.mono fun z hz => .tail _ hz).snoc (.head _)
    · refine List.forall_mem_cons.mpr ⟨Nat.ne_of_gt (allLt_at l94 (p := (I, it)) (by simp)), hce⟩
  · rintro ys news ⟨ce, rfl, hys, hce⟩ D h3 tk3 F3 N3 off
    rw [List.take_of_length_le (by omega)] at hys
    have F3 := frOf F3 mL2_told
    dsimp only
    iterate 30 walk1
    have hcc := count_mkW hc1 hc2 l
    have hc91 : Txt.count (mkW c1 c2 l) (Str.ofString "&") = (cnt l).1 := congrArg Prod.fst hcc
    have hc92 : Txt.count (mkW c1 c2 l) (Str.ofString "amp;") = (cnt l).2 := congrArg Prod.snd hcc
    obtain ⟨ok1, ok2, ok3⟩ := cok_of hlw
    obtain ⟨gl1, gl2, gl3, -, -⟩ := good_lev hg hn
    have hu : (arT dp un gd fr).units + 64 < cLine := by show un + 64 < cLine; omega
    rw [hc91, hc92, Int.zero_add]
    refine use (own := []) (rest := (D, LCg.lst ys) :: (ce ++ (I, it) :: (n1 ++ n2))) (countsW (cnt l).1 (cnt l).2 n _ _ _ (Int.natCast_nonneg _) ok1 (Int.natCast_nonneg _) ok2 hn (ok3 n hn)) F3 N3 G (fun p hp => nomatch hp) (fun p hp => hp) (fun p hp => nomatch hp) (by omega) (by omega) ?_
    rintro v h4 tk4 o4 ⟨c, vs, k9, o9, rfl, rfl, hcl⟩ F4 N4 -
    rw [← gl1] at hcl
    obtain ⟨as1, ra1⟩ := hys.reads (h := h4) (fun p hp => (N4 p (by lcg_src)).1)
    obtain ⟨as2, ra2⟩ := hcl.reads (h := h4) (fun p hp => (N4 p (by lcg_src)).1)
    have rd1 : Reads h4 (.ref D) (.list (((lev false n l).map cnt).map tupD)) (D :: as1) := .list (N4 (D, LCg.lst ys) (by simp)).1 rfl rfl (by simpa using ra1)
    have rd2 : Reads h4 (.ref c) (.list (((lev false n l).map cnt).map tupD)) (c :: as2) := .list (N4 (c, W.listOf vs.toArray k9) (by simp)).1 rfl rfl (by simpa using ra2)
    dsimp only
    refine neSame rd1 rd2 (cnt_shaped _) hu ?_
    have N5 := cb_drop (news := (I, it) :: (n1 ++ n2)) N4 (by lcg_sub)
    clear N3 F3
    clear N4
    iterate 7 walk1
    refine subscriptTail_builtin (N5.isList (a := r2) (.tail _ (in2 m1'))).typeIs list_getitem_lookup (itemK N5 (.tail _ (in2 m1')) hn0 hn9 (v := .ref f') (atn hfl'.1 q1') ?_)
    iterate 7 walk1
    refine subscriptTail_builtin (N5.isList (a := r1) (.tail _ (in1 m1))).typeIs list_getitem_lookup (itemK N5 (.tail _ (in1 m1)) hn0 hn9 (v := .ref f) (atn hfl4 q1) ?_)
    iterate 4 walk1
    show wpAny _ _ (call (Value.builtin _) [Value.ref _] [(_, Value.bool _)]) _ _ _
    refine sortDown F4 N5 (N5.isList (.tail _ (in1 q2))) q3 (by omega) ?_
    intro S h6 sv ss ke F6 N6 hsv hperm hsort hne
    have hss := down_lev hg hn c1 c2 hperm hsort
    subst hss
    refine neSame (readsStrs N6 (.tail _ (.tail _ (in2 q2'))) q3') (readsStrs N6 (.head _) hsv) (shaped_strs fun x hx => by
      obtain ⟨u, -, rfl⟩ := List.mem_map.mp hx
      exact strOk_mkW hc1 hc2 u) hu ?_
    iterate 7 walk1
    exact hQ h6 _ _ F6 (cb_drop N6 fun p hp => .tail _ hp)
end
end Mine

-- U7
namespace Mine
section
variable {prog : Program} {w : World} {g : Heap} {dp un : Nat} {gd : Option (List Code)} {fr : List Env}
theorem lawL (G : Gd (KH w.params) g) (hdp : dp + 40 < recursionLimit) (hun : un + 900 < cLine)
    {L fa a hp hl r1 r2 en : Addr} {cd : Value} {c1 c2 : Nat} {l : List Bool} {tx : Str} {t1 t2 : Tok} {n1 n2 : Cells} {s : Shared} {h : Heap} {tk : Nat} (hc1 : c1 ∈ nmC) (hc2 : c2 ∈ nmC) (hlw : l ∈ words 3)
    (hf1 : FlR c1 c2 false l (1 + nl tx.cps.toList) r1 n1) (hf2 : FlR c1 c2 true l (1 + nl tx.cps.toList) r2 n2)
    (F : Fr g L h (fun y => if y = "end" then some (.ref en) else mL1 a hp hl r1 r2 (mkW c1 c2 l) tx t1 t2 y)) (N : News g L h (n1 ++ n2)) {Q' : Flow → Shared → Prop}
    (hQ : ∀ (h' : Heap) (tk' : Nat) (vT vN : Option Value), Fr g L h' (mL2 vT vN en (mL1 a hp hl r1 r2 (mkW c1 c2 l) tx t1 t2)) → News g L h' (n1 ++ n2) →
      wpAny (model prog w) (arT dp un gd fr) (execs (lawB.drop 9) (envLw L fa cd)) Q' (fun _ _ => False) { s with heap := h', toks := tk' }) :
    wpAny (model prog w) (arT dp un gd fr) (execs (lawB.drop 8) (envLw L fa cd)) Q' (fun _ _ => False) { s with heap := h, toks := tk } := by
  obtain ⟨X, ⟨p, loose, mean, mg, mb, T⟩, codeHd⟩ := id G
  have hV : VMark := trivial
  show wpAny _ _ (execs (List.cons _ (lawB.drop 9)) _) _ _ _
  generalize hrest : lawB.drop 9 = rest at *
  unfold envLw at hQ ⊢
  conv in (occs := *) lawSc => all_goals whnf
  iterate 8 walk1
  rename_i Q2 hq2 hr2 h2 tk2 ta ua va hR F2 N2 hk2
  dsimp only at hR ⊢
  refine rangeForI (n := 4) rfl F2 N2 hR (by decide) (by decide) (fun I i m news => (∃ vT vN, m = mL2 vT vN en (mL1 a hp hl r1 r2 (mkW c1 c2 l) tx t1 t2)) ∧ news = n1 ++ n2 ∧ ∀ p ∈ n1 ++ n2, p.1 ≠ I) ?_ ?_ ?_
  · intro I hI
    refine ⟨⟨none, none, funext fun y => ?_⟩, rfl, fun p hp => Nat.ne_of_lt (hI p hp)⟩
    by_cases h : y = Str.ofString "told"
    · subst h; kernel_rfl
    · by_cases h2 : y = Str.ofString "n"
      · subst h2; kernel_rfl
      · unfold mL2; simp only [h, h2, if_false]
  · rintro I i t m news hi ⟨⟨vT, vN, rfl⟩, rfl, hne⟩ it h4 tk4 F4 N4 Q3 hq3 hr3
    exact lawT (s := s) G hdp hun hc1 hc2 hlw hf1 hf2 hne hi F4 N4 fun h' tk' vT' F' N' => hq3 h' tk' _ _ ⟨⟨vT', _, rfl⟩, rfl, hne⟩ F' N' hne
  · rintro I m news h4 tk4 ⟨⟨vT, vN, rfl⟩, rfl, hne⟩ F4 N4
    exact hq2 _ (hQ h4 tk4 vT vN F4 N4)
end
end Mine

-- U8
namespace Mine
noncomputable def forN : List Stmt := match (lawB[9]? : Option Stmt) with | some (.For _ _ b _ _) => b | _ => []
noncomputable def forK : List Stmt := match (forN[0]? : Option Stmt) with | some (.For _ _ b _ _) => b | _ => []
theorem strsGet {vs : List Value} {ss : List Str} (h : StrsAre vs ss) : ∀ {i : Nat} {x : Str}, ss[i]? = some x → ∃ t, vs[i]? = some (.str x t) := by
  induction h with
  | nil => intro i x h; simp at h
  | cons x t _ ih =>
    intro i y h
    cases i with
    | zero => cases h; exact ⟨t, rfl⟩
    | succ i => exact ih h
/-- the names of the law in its last loops -/
noncomputable def mL3 (vO v1 vK : Option Value) (m : Str → Option Value) : Str → Option Value := fun y => if y = "other" then vO else if y = "one" then v1 else if y = "k" then vK else m y
theorem mL3_end {vO v1 vK a b c : Option Value} {m : Str → Option Value} (y : Str) : (if y = Str.ofString "other" then a else if y = Str.ofString "one" then b else if y = Str.ofString "k" then c else mL3 vO v1 vK m y) = mL3 a b c m y := by
  unfold mL3
  by_cases h : y = Str.ofString "other"
  · simp only [h, if_true]
  · by_cases h2 : y = Str.ofString "one"
    · simp only [h, h2, if_true, if_false]
    · by_cases h3 : y = Str.ofString "k"
      · simp only [h, h2, h3, if_true, if_false]
      · simp only [h, h2, h3, if_false]
section
variable {prog : Program} {w : World} {g : Heap} {dp un : Nat} {gd : Option (List Code)} {fr : List Env}
theorem lawK (G : Gd (KH w.params) g) (hdp : dp + 40 < recursionLimit) (hun : un + 900 < cLine)
    {L fa a hp hl r1 r2 en : Addr} {cd : Value} {c1 c2 : Nat} {l : List Bool} {tx : Str} {t1 t2 : Tok} {n1 : Cells} {s : Shared} {h : Heap} {tk : Nat} (hc1 : c1 ∈ nmC) (hc2 : c2 ∈ nmC) (hlw : l ∈ words 3)
    (hf1 : FlR c1 c2 false l (1 + nl tx.cps.toList) r1 n1) {n k : Nat} (hn : n < 3) (hk : k < 2 ^ n) {tn tm : Tok} {vT vO v1 vK : Option Value} {news : Cells} (hin : ∀ p ∈ n1, p ∈ news)
    (F : Fr g L h (fun y => if y = "k" then some (.int (0 + (k : Int)) tm) else mL3 vO v1 vK (mL2 vT (some (.int (0 + (n : Int)) tn)) en (mL1 a hp hl r1 r2 (mkW c1 c2 l) tx t1 t2)) y)) (N : News g L h news) {Q' : Flow → Shared → Prop}
    (hQ : ∀ (h' : Heap) (tk' : Nat) (vO' v1' : Option Value), Fr g L h' (mL3 vO' v1' (some (.int (0 + (k : Int)) tm)) (mL2 vT (some (.int (0 + (n : Int)) tn)) en (mL1 a hp hl r1 r2 (mkW c1 c2 l) tx t1 t2))) → News g L h' news → Q' .next { s with heap := h', toks := tk' }) :
    wpAny (model prog w) (arT dp un gd fr) (execs forK (envLw L fa cd)) Q' (fun _ _ => False) { s with heap := h, toks := tk } := by
  obtain ⟨X, ⟨p, loose, mean, mg, mb, T⟩, codeHd⟩ := id G
  conv => arg 3; arg 1; whnf
  unfold envLw
  conv in (occs := *) lawSc => all_goals whnf
  obtain ⟨fe, y, tp, fls, e2, e3, el, b1, b2, m1, m2, m3, m4, hfl⟩ := hf1
  obtain ⟨f, fv, kf, q1, q2, q3, -⟩ := hfl.2 n (by omega)
  obtain ⟨f', fv', kf', q1', q2', q3', -⟩ := hfl.2 (n + 1) (by omega)
  have hkl : k < (lev false n l).length := by rw [lev_len]; exact hk
  obtain ⟨u, hu⟩ : ∃ u, (lev false n l)[k]? = some u := ⟨_, List.getElem?_eq_getElem hkl⟩
  obtain ⟨hu1, hu2⟩ := kids_at (lev false n l) k u hu
  have hk4 : k < 4 := by
    have : n = 0 ∨ n = 1 ∨ n = 2 := by omega
    rcases this with rfl | rfl | rfl <;> omega
  have hk0 : (0 : Int) ≤ 0 + (k : Int) := by omega
  have hk9 : 0 + (k : Int) < 4 := by omega
  have hn0 : (0 : Int) ≤ 0 + (n : Int) := by omega
  have hn9 : 0 + (n : Int) < 3 := by omega
  have hfl4 := hfl.1
  have lk : lev false (n + 1) l = kids (lev false n l) := rfl
  rw [lk] at q3'
  obtain ⟨w0, hw0⟩ := strsGet q3 (i := k) (x := mkW c1 c2 u) (by rw [List.getElem?_map, hu]; rfl)
  obtain ⟨w1, hw1⟩ := strsGet q3' (i := 2 * k) (x := mkW c1 c2 (eL u)) (by rw [List.getElem?_map, hu1]; rfl)
  obtain ⟨w2, hw2⟩ := strsGet q3' (i := 2 * k + 1) (x := mkW c1 c2 (oL u)) (by rw [List.getElem?_map, hu2]; rfl)
  have hr1 := hin _ m1
  have hrf := hin _ q2
  have hrf' := hin _ q2'
  have i1 : (fls ++ [Value.ref fe])[(0 + (n : Int) + 1).toNat]? = some (.ref f') := by rw [show (0 + (n : Int) + 1).toNat = n + 1 by omega, List.getElem?_append_left (by omega)]; exact q1'
  have i0 : (fls ++ [Value.ref fe])[(0 + (n : Int)).toNat]? = some (.ref f) := by rw [show (0 + (n : Int)).toNat = n by omega, List.getElem?_append_left (by omega)]; exact q1
  iterate 10 walk1
  refine subscriptTail_builtin (N.isList hr1).typeIs list_getitem_lookup (itemK N hr1 (by omega) (by omega) i1 ?_)
  have ix1 : (2 * (0 + (k : Int))).toNat = 2 * k := by omega
  have ix2 : (2 * (0 + (k : Int)) + 1).toNat = 2 * k + 1 := by omega
  have ix0 : (0 + (k : Int)).toNat = k := by omega
  have big : ∀ v : List Bool, v.length ≤ 200 → (mkW c1 c2 v).length ≤ 1048576 := fun v hv => by
    have := mkW_size c1 c2 v
    show (mkW c1 c2 v).cps.size ≤ _
    omega
  have hg : Good l = true := List.all_eq_true.mp words_good l hlw
  have bg := (good_lev hg (n := n + 1) (by omega)).2.2.2.1
  have big1 := big (eL u) (Nat.le_trans (bg _ (List.mem_of_getElem? hu1)) (by decide))
  have big2 := big (oL u) (Nat.le_trans (bg _ (List.mem_of_getElem? hu2)) (by decide))
  have be := mk_back_e hc1 hc2 u
  have bo := mk_back_o hc1 hc2 u
  iterate 5 walk1
  refine subscriptTail_builtin (N.isList hrf').typeIs list_getitem_lookup (itemK N hrf' (by omega) (by omega) (by rw [ix1]; exact hw1) ?_)
  iterate 20 walk1
  rename_i t9 k9 hk9' h5 F5 N5 tk5 htk5
  rw [be] at F5
  refine subscriptTail_builtin (N5.isList hr1).typeIs list_getitem_lookup (itemK N5 hr1 (by omega) (by omega) i1 ?_)
  iterate 8 walk1
  refine subscriptTail_builtin (N5.isList hrf').typeIs list_getitem_lookup (itemK N5 hrf' (by omega) (by omega) (by rw [ix2]; exact hw2) ?_)
  iterate 19 walk1
  rename_i t10 k10 hk10' h6 F6 N6 tk6 htk6
  rw [bo] at F6
  refine subscriptTail_builtin (N6.isList hr1).typeIs list_getitem_lookup (itemK N6 hr1 (by omega) (by omega) i0 ?_)
  iterate 2 walk1
  refine subscriptTail_builtin (N6.isList hrf).typeIs list_getitem_lookup (itemK N6 hrf (by omega) (by omega) (by rw [ix0]; exact hw0) ?_)
  have hne : (mkW c1 c2 u != mkW c1 c2 u) = false := by simp
  walk1
  rw [hne]
  iterate 9 walk1
  refine subscriptTail_builtin (N6.isList hr1).typeIs list_getitem_lookup (itemK N6 hr1 (by omega) (by omega) i0 ?_)
  iterate 2 walk1
  refine subscriptTail_builtin (N6.isList hrf).typeIs list_getitem_lookup (itemK N6 hrf (by omega) (by omega) (by rw [ix0]; exact hw0) ?_)
  walk1
  rw [hne]
  iterate 6 walk1
  refine hQ h6 _ _ _ (frOf F6 mL3_end) N6
end
end Mine

-- U9
namespace Mine
theorem mL3_n {vO v1 vK vT vN u : Option Value} {en : Addr} {m : Str → Option Value} (y : Str) : (if y = Str.ofString "n" then u else mL3 vO v1 vK (mL2 vT vN en m) y) = mL3 vO v1 vK (mL2 vT u en m) y := by
  by_cases h : y = Str.ofString "n"
  · subst h; kernel_rfl
  · unfold mL3 mL2; simp only [h, if_false]
theorem mL3_none {vT vN : Option Value} {en a hp hl r1 r2 : Addr} {rt tx : Str} {t1 t2 : Tok} (y : Str) : mL2 vT vN en (mL1 a hp hl r1 r2 rt tx t1 t2) y = mL3 none none none (mL2 vT vN en (mL1 a hp hl r1 r2 rt tx t1 t2)) y := by
  by_cases h : y = Str.ofString "other"
  · subst h; kernel_rfl
  · by_cases h2 : y = Str.ofString "one"
    · subst h2; kernel_rfl
    · by_cases h3 : y = Str.ofString "k"
      · subst h3; kernel_rfl
      · unfold mL3; simp only [h, h2, h3, if_false]
section
variable {prog : Program} {w : World} {g : Heap} {dp un : Nat} {gd : Option (List Code)} {fr : List Env}
theorem lawN (G : Gd (KH w.params) g) (hdp : dp + 40 < recursionLimit) (hun : un + 900 < cLine)
    {L fa a hp hl r1 r2 en I : Addr} {cd : Value} {c1 c2 : Nat} {l : List Bool} {tx : Str} {t1 t2 : Tok} {n1 n2 : Cells} {it : Obj} {s : Shared} {h : Heap} {tk : Nat} (hc1 : c1 ∈ nmC) (hc2 : c2 ∈ nmC) (hlw : l ∈ words 3)
    (hf1 : FlR c1 c2 false l (1 + nl tx.cps.toList) r1 n1) {n : Nat} (hn : n < 3) {tn : Tok} {vT vN vO v1 vK : Option Value}
    (F : Fr g L h (fun y => if y = "n" then some (.int (0 + (n : Int)) tn) else mL3 vO v1 vK (mL2 vT vN en (mL1 a hp hl r1 r2 (mkW c1 c2 l) tx t1 t2)) y)) (N : News g L h ((I, it) :: (n1 ++ n2))) {Q' : Flow → Shared → Prop}
    (hQ : ∀ (h' : Heap) (tk' : Nat) (vN' vO' v1' vK' : Option Value), Fr g L h' (mL3 vO' v1' vK' (mL2 vT vN' en (mL1 a hp hl r1 r2 (mkW c1 c2 l) tx t1 t2))) → News g L h' ((I, it) :: (n1 ++ n2)) → Q' .next { s with heap := h', toks := tk' }) :
    wpAny (model prog w) (arT dp un gd fr) (execs forN (envLw L fa cd)) Q' (fun _ _ => False) { s with heap := h, toks := tk } := by
  obtain ⟨X, ⟨p, loose, mean, mg, mb, T⟩, codeHd⟩ := id G
  have hV : VMark := trivial
  have hn0 : (0 : Int) ≤ 0 + (n : Int) := by omega
  have hn9 : 0 + (n : Int) < 3 := by omega
  conv => arg 3; arg 1; whnf
  unfold envLw
  conv in (occs := *) lawSc => all_goals whnf
  iterate 11 walk1
  rename_i Q2 hq2 hr2 h2 tk2 ta ua va hR F2 N2 hk2
  dsimp only at hR ⊢
  have hsm : Builtin.Range.small 0 (2 ^ (0 + (n : Int)).toNat) 1 = true ∧ Builtin.Range.rangeSize 0 (2 ^ (0 + (n : Int)).toNat) 1 = ((2 ^ n : Nat) : Int) := by
    have : n = 0 ∨ n = 1 ∨ n = 2 := by omega
    rcases this with rfl | rfl | rfl <;> exact ⟨by decide, by decide⟩
  refine rangeForI (n := 2 ^ n) rfl F2 N2 hR hsm.1 hsm.2 (fun J i m news => (∃ vO v1 vK, m = mL3 vO v1 vK (mL2 vT (some (.int (0 + (n : Int)) tn)) en (mL1 a hp hl r1 r2 (mkW c1 c2 l) tx t1 t2))) ∧ news = (I, it) :: (n1 ++ n2) ∧ ∀ p ∈ (I, it) :: (n1 ++ n2), p.1 ≠ J) ?_ ?_ ?_
  · intro J hJ
    exact ⟨⟨vO, v1, vK, funext mL3_n⟩, rfl, fun p hp => Nat.ne_of_lt (hJ p hp)⟩
  · rintro J k t m news hk ⟨⟨vO', v1', vK', rfl⟩, rfl, hne⟩ jt h4 tk4 F4 N4 Q3 hq3 hr3
    exact lawK (s := s) (news := (J, jt) :: (I, it) :: (n1 ++ n2)) G hdp hun hc1 hc2 hlw hf1 hn hk (fun p hp => .tail _ (.tail _ (List.mem_append_left _ hp))) F4 N4 fun h' tk' vO2 v12 F' N' => hq3 h' tk' _ _ ⟨⟨vO2, v12, _, rfl⟩, rfl, hne⟩ F' N' hne
  · rintro J m news h4 tk4 ⟨⟨vO', v1', vK', rfl⟩, rfl, hne⟩ F4 N4
    refine hq2 _ ?_
    walk1
    exact hQ h4 tk4 _ vO' v1' vK' F4 N4
/-- the law's end -/
theorem lawD (G : Gd (KH w.params) g) (hdp : dp + 40 < recursionLimit) (hun : un + 900 < cLine)
    {L fa a hp hl r1 r2 en : Addr} {cd : Value} {c1 c2 : Nat} {l : List Bool} {tx : Str} {t1 t2 : Tok} {n1 n2 : Cells} {s : Shared} {h : Heap} {tk : Nat} (hc1 : c1 ∈ nmC) (hc2 : c2 ∈ nmC) (hlw : l ∈ words 3)
    (hf1 : FlR c1 c2 false l (1 + nl tx.cps.toList) r1 n1) {vT vN : Option Value}
    (F : Fr g L h (mL2 vT vN en (mL1 a hp hl r1 r2 (mkW c1 c2 l) tx t1 t2))) (N : News g L h (n1 ++ n2)) {Q' : Flow → Shared → Prop}
    (hQ : ∀ (h' : Heap) (tk' : Nat) (m' : Str → Option Value), Fr g L h' m' → News g L h' (n1 ++ n2) → Q' (.ret (.bool true)) { s with heap := h', toks := tk' }) :
    wpAny (model prog w) (arT dp un gd fr) (execs (lawB.drop 9) (envLw L fa cd)) Q' (fun _ _ => False) { s with heap := h, toks := tk } := by
  obtain ⟨X, ⟨p, loose, mean, mg, mb, T⟩, codeHd⟩ := id G
  have hV : VMark := trivial
  conv => arg 3; arg 1; whnf
  unfold envLw
  conv in (occs := *) lawSc => all_goals whnf
  iterate 8 walk1
  rename_i Q2 hq2 hr2 h2 tk2 ta ua va hR F2 N2 hk2
  dsimp only at hR ⊢
  refine rangeForI (n := 3) rfl F2 N2 hR (by decide) (by decide) (fun I i m news => (∃ vN vO v1 vK, m = mL3 vO v1 vK (mL2 vT vN en (mL1 a hp hl r1 r2 (mkW c1 c2 l) tx t1 t2))) ∧ news = n1 ++ n2 ∧ ∀ p ∈ n1 ++ n2, p.1 ≠ I) ?_ ?_ ?_
  · intro I hI
    exact ⟨⟨vN, none, none, none, funext mL3_none⟩, rfl, fun p hp => Nat.ne_of_lt (hI p hp)⟩
  · rintro I i t m news hi ⟨⟨vN', vO, v1, vK, rfl⟩, rfl, hne⟩ it h4 tk4 F4 N4 Q3 hq3 hr3
    exact lawN (s := s) G hdp hun hc1 hc2 hlw hf1 hi F4 N4 fun h' tk' vN2 vO2 v12 vK2 F' N' => hq3 h' tk' _ _ ⟨⟨vN2, vO2, v12, vK2, rfl⟩, rfl, hne⟩ F' N' hne
  · rintro I m news h4 tk4 ⟨⟨vN', vO, v1, vK, rfl⟩, rfl, hne⟩ F4 N4
    refine hq2 _ ?_
    iterate 3 walk1
    exact hQ h4 tk4 _ F4 N4
end
end Mine

-- U10
namespace Mine
section
variable {prog : Program} {w : World} {g : Heap} {dp un : Nat} {gd : Option (List Code)} {fr : List Env}
/-- the law -/
theorem lawW (hpf : ((prog.main.file : Str) == ("/claim/cut.py" : Str)) = true) (hps : (prog.main.scope.names.lookup ("super" : Str)).isSome = false) (G : Gd (KH w.params) g) (hdp : dp + 40 < recursionLimit) (hun : un + 900 < cLine)
    {L fa a : Addr} {cd : Value} {items : List Value} {is : List Int} {s : Shared} {h : Heap} {tk : Nat} (HL : g.IsList a items.toArray) (hI : IntsAre items is) (hn : is.length ≤ 63)
    (F : Fr g L h (fun y => if y = "script" then some (.ref a) else none)) (N : News g L h [(210, tabObj #[])]) {Q' : Flow → Shared → Prop}
    (hQ : ∀ (h' : Heap) (tk' : Nat) (m' : Str → Option Value) (news : Cells), Fr g L h' m' → News g L h' news → (∃ ps, ((210 : Addr), tabObj ps) ∈ news) → Q' (.ret (.bool true)) { s with heap := h', toks := tk' }) :
    wpAny (model prog w) (arT dp un gd fr) (execs lawB (envLw L fa cd)) Q' (fun _ _ => False) { s with heap := h, toks := tk } := by
  refine lawA (s := s) hpf hps G hdp hun HL hI hn F N ?_
  intro hp hl r1 r2 c1 c2 l rt tx t1 t2 n1 n2 h1 tk1 hc1 hc2 hlw hrt hsz f1 f2 htab F1 N1
  refine lawE (s := s) G hdp hun hc1 hc2 hrt f1 f2 F1 N1 ?_
  intro en h2 tk2 F2 N2
  subst hrt
  refine lawL (s := s) G hdp hun hc1 hc2 hlw f1 f2 F2 N2 ?_
  intro h3 tk3 vT vN F3 N3
  exact lawD (s := s) G hdp hun hc1 hc2 hlw f1 F3 N3 fun h' tk' m' F' N' => hQ h' tk' m' _ F' N' (htab.imp fun ps hp => List.mem_append_right _ hp)
end
end Mine

-- MEnd
open Mine
theorem PySem.Challenge.cw_xj0021_02_holds : PySem.Challenge.rw_xj0021_02.Holds := by
  w_on
  refine holds_law said fun said' => ?_
  refine holds_open (q := view) (loose := ["_Accumulator"]) (Xt := fun s => xlAt view [] s && recOk (RowW.records rwW) s) (XP := XL view []) (Yf := Hook.obs (kmHook KH KAs (fun _ => by kernel_rfl) [210])) (Ya := Hook.val (kmHook KH KAs (fun _ => by kernel_rfl) [210])) (YP := Hook.says (kmHook KH KAs (fun _ => by kernel_rfl) [210])) (N := 2802) left (Hook.of (kmHook KH KAs (fun _ => by kernel_rfl) [210])) (Hook.keeps (kmHook KH KAs (fun _ => by kernel_rfl) [210])) (fun s e => xl_of s (Bool.and_eq_true_iff.mp e).1) XL.keeps (by rfl) (by rfl) (by rfl) (fun s e => recFacts_of (Bool.and_eq_true_iff.mp e).2) (by rfl) said' (by kernel_rfl) ⟨rfl, rfl, rfl, rfl, rfl, by kernel_rfl⟩ ?hw ?hc
  case hw => w_witness2
  case hc =>
    k_go0
    rename_i w s0 s1 mg mb G0 Y0 fa ob pm cd doc kV ho hcd hg X1 V1 T1 B1 TE TW ns hsh hlay hL1 hr1 hl2 a1 a2 a items a3 hL2 ra w1 r0 hI hr hcond hc2 hD h1 X' T' K' F' N' l0
    have hn : ns.length ≤ 63 := by omega
    refine wpAny_mono (lawW (s := s1) (a := a) (items := items) (is := ns) (by kernel_rfl) (by kernel_rfl) ⟨X', ⟨_, _, _, _, _, T'⟩, codeHd⟩ (by show 2 + claimMargin + 40 < recursionLimit; decide) (by show 7 + 900 < cLine; decide) lifted hI hn (frOf F' fun y => ?_) N' (fun h' tk' m' news F2 N2 ht => ?_)) (fun fl s' q => q) (fun _ _ q => q.elim)
    · show List.lookup y [(Str.ofString "script", Value.ref a)] = _
      exact look1 rfl
    · obtain ⟨ps, ht⟩ := ht
      refine ⟨?_, ⟨GrownAt.of N2 ht, trivial⟩⟩
      dsimp only
      k_steps
