import PyProof.Rows.All
import Wide.All
import OpenK.AllK
import Wide.FinOn
import Lean
import PySem.Challenge.RW_xj0021_01
open PySem PySem.W PyProof.Rows PySem.Spec PySem.Calls
set_option Elab.async false
set_option compiler.extract_closed false
set_option linter.all false
set_option maxRecDepth 100000
set_option maxHeartbeats 8000000

-- AMToks
namespace Mine
theorem runs_toks {M : Model} {Γ : PySem.Ctx} {p : Pos} {t : Sem PySem.Fin} {fs : List PySem.Frame} {s s' : Shared} {e : End} (h : Runs M Γ p t fs s e s') : s.toks ≤ s'.toks := by
  induction h <;> (try simp only [Shared.setGen] at *) <;> first | omega | exact Nat.le_refl _ | exact Nat.le_trans (by assumption) (by assumption) | (simp_all <;> omega) | skip
theorem wakes_toks {M : Model} {Γ : PySem.Ctx} {p : Pos} {g : Nat} {r : Resume} {s s' : Shared} {res : GenResult} (h : Wakes M Γ p g r s res s') : s.toks ≤ s'.toks := by
  unfold Wakes at h
  repeat' split at h
  all_goals (first | exact h.elim | (obtain ⟨_, rfl⟩ := h; exact Nat.le_refl _) | (obtain ⟨_, _, hr, _, _, rfl⟩ := h; have := runs_toks hr; exact this) | skip)
theorem wp_toks {α : Type} {M : Model} {Γ : PySem.Ctx} {n : Nat} {Q : α → Pos → Shared → Prop} {E : Value → Pos → Shared → Prop} : ∀ (t : Sem α) (p : Pos) (s : Shared), n ≤ s.toks →
    Sem.wp M Γ t (fun a p s' => n ≤ s'.toks → Q a p s') (fun e p s' => n ≤ s'.toks → E e p s') p s → Sem.wp M Γ t Q E p s
  | .pure _, _, _, h, k => k h
  | .raise _, _, _, h, k => k h
  | .unsupported _, _, _, _, k => k
  | .finish _, _, _, _, k => k
  | .rule _ f, _, _, h, k => wp_toks (f ()) _ _ h k
  | .at _ f, _, _, h, k => wp_toks (f ()) _ _ h k
  | .load _ _ f, _, _, h, ⟨o, e, k⟩ => ⟨o, e, wp_toks (f o) _ _ h k⟩
  | .update _ _ _ f, _, _, h, ⟨e, k⟩ => ⟨e, wp_toks (f ()) _ _ h k⟩
  | .loadIfAlive _ f, _, _, h, k => wp_toks (f _) _ _ h k
  | .point _ f, _, _, h, k => wp_toks (f ()) _ _ h k
  | .register _ _, _, _, _, k => k
  | .alloc _ f, _, _, h, k => wp_toks (f _) _ _ h k
  | .fresh f, _, s, h, k => wp_toks (f _) _ { s with toks := s.toks + 1 } (Nat.le_succ_of_le h) k
  | .ask f, _, _, h, k => wp_toks (f _) _ _ h k
  | .choose _ _ f, _, _, h, ⟨e, k⟩ => ⟨e, wp_toks (f _) _ _ h k⟩
  | .os _ _ f, _, _, h, k => wp_toks (f _) _ _ h k
  | .call _ _ _ _ f, _, _, h, ⟨r, s', hr, k⟩ => ⟨r, s', hr, wp_toks (f r) _ _ (Nat.le_trans h (runs_toks hr)) k⟩
  | .handled _ f, _, _, h, k => wp_toks (f _) _ _ h k
  | .genState _ f, _, _, h, ⟨st, e, k⟩ => ⟨st, e, wp_toks (f _) _ _ h k⟩
  | .newGen _ f, _, _, h, k => wp_toks (f _) _ _ h k
  | .resume _ _ _ f, _, _, h, ⟨r, s', hw, k⟩ => ⟨r, s', hw, wp_toks (f _) _ _ (Nat.le_trans h (wakes_toks hw)) k⟩
  | .yield .., _, _, _, k => k
  | .stack f, _, _, h, k => wp_toks (f _) _ _ h k
  | .fork .., _, _, _, k => k
  | .thread f, _, _, h, k => wp_toks (f _) _ _ h k
  | .await .., _, _, _, k => k
theorem wpAny_toks {α : Type} {M : Model} {A : Around} {t : Sem α} {Q : α → Shared → Prop} {E : Value → Shared → Prop} {s : Shared}
    (h : wpAny M A t (fun v s' => s.toks ≤ s'.toks → Q v s') E s) : wpAny M A t Q E s := fun Γ p hΓ =>
  wp_toks t p s (Nat.le_refl _) (Sem.wp_mono M Γ t (post := fun v _ s' => s.toks ≤ s'.toks → Q v s') (exc := fun e _ s' => E e s') (exc' := fun e _ s' => s.toks ≤ s'.toks → E e s') (fun _ _ _ x => x) (fun _ _ _ x _ => x) p s (h Γ p hΓ))
section
variable {prog : Program} {w : World} {A : Around} {E : Value → Shared → Prop} {s : Shared} {x y z : Str} {t u v : Tok} {Q : Value → Shared → Prop}
theorem replaceT (hu : @LT.lt Nat instLTNat 0 u) (huv : @LT.lt Nat instLTNat u v) (hyz : (y == z) = false) (hx : x.length ≤ 1048576) (hz : z.length ≤ 14)
    (hq : ∀ t' k, s.toks ≤ k → Q (.str (Txt.replace x y z) t') { s with toks := k }) : wpAny (model prog w) A (call (.builtin "str.replace") [.str x t, .str y u, .str z v]) Q E s :=
  wpAny_toks (SC.replaceW (Nat.ne_of_gt hu) (Nat.ne_of_gt (Nat.lt_trans hu huv)) (Nat.ne_of_lt huv) hyz hx hz fun t' k h => hq t' k h)
theorem cutNext {st : Stmt} {env : Env} {Q : Flow → Shared → Prop} (Post : Shared → Prop) (h1 : ∀ Q' : Flow → Shared → Prop, (∀ s', Post s' → Q' .next s') → wpAny (model prog w) A (exec st env) Q' E s) (h2 : ∀ s', Post s' → Q .next s') :
    wpAny (model prog w) A (exec st env) Q E s := h1 Q h2
end
end Mine

-- AMRep
section
namespace Mine
open Builtin Builtin.Str StrLaws
/-- replace, on signs -/
noncomputable def rep (y z : List Nat) : Nat → List Nat → List Nat
  | _, [] => []
  | k + 1, _ :: l => rep y z k l
  | 0, c :: l => if (c :: l).take y.length = y then z ++ rep y z (y.length - 1) l else c :: rep y z 0 l
theorem rep_skip (y z : List Nat) : ∀ (k : Nat) (l : List Nat), rep y z k l = rep y z 0 (l.drop k)
  | 0, _ => rfl
  | _ + 1, [] => rfl
  | k + 1, _ :: l => rep_skip y z k l
theorem rep_hit {y z l : List Nat} (hy : 1 ≤ y.length) (h : l.take y.length = y) : rep y z 0 l = z ++ rep y z 0 (l.drop y.length) := by
  cases l with
  | nil => rw [List.take_nil] at h; subst h; simp at hy
  | cons c l =>
    show (if (c :: l).take y.length = y then z ++ rep y z (y.length - 1) l else c :: rep y z 0 l) = _
    rw [if_pos h, rep_skip]
    obtain ⟨k, hk⟩ : ∃ k, y.length = k + 1 := ⟨y.length - 1, by omega⟩
    rw [hk]; rfl
theorem rep_miss {y z l : List Nat} {c : Nat} (h : (c :: l).take y.length ≠ y) : rep y z 0 (c :: l) = c :: rep y z 0 l := by
  show (if (c :: l).take y.length = y then z ++ rep y z (y.length - 1) l else c :: rep y z 0 l) = _
  rw [if_neg h]
theorem at_iff {x y : Str} {k : Nat} (hy : 1 ≤ y.length) : At x y x.length k ↔ (x.cps.toList.drop k).take y.length = y.cps.toList := by
  unfold At
  rw [subAt_eq, beq_iff_eq]
  constructor
  · exact fun h => h.2
  · intro h
    refine ⟨?_, h⟩
    have := congrArg List.length h
    simp only [List.length_take, List.length_drop, Array.length_toList] at this
    have e1 : y.cps.size = y.length := rfl
    have e2 : x.cps.size = x.length := rfl
    omega
theorem rep_to {x y : Str} {z : List Nat} (hy : 1 ≤ y.length) {c : Nat} : ∀ (m a : Nat), a + m = c → c ≤ x.length → (∀ k, a ≤ k → k < c → ¬ At x y x.length k) →
    rep y.cps.toList z 0 (x.cps.toList.drop a) = (x.cps.toList.drop a).take m ++ rep y.cps.toList z 0 (x.cps.toList.drop c)
  | 0, a, h, _, _ => by rw [show a = c by omega]; simp
  | m + 1, a, h, hc, hn => by
    have hl : a < x.cps.toList.length := by simp only [Array.length_toList]; show a < x.length; omega
    have ih := rep_to (z := z) hy m (a + 1) (by omega) hc fun k h1 h2 => hn k (by omega) h2
    rw [List.drop_eq_getElem_cons hl]
    have hm := hn a (Nat.le_refl _) (by omega)
    rw [at_iff hy, List.drop_eq_getElem_cons hl] at hm
    rw [rep_miss hm, ih, List.take_succ_cons, List.cons_append]
theorem rep_parts {x y z : Str} (hy : 1 ≤ y.length) : ∀ (cuts : List Nat) (a f : Nat), ChainG x y x.length a cuts f → (∀ k, f ≤ k → ¬ At x y x.length k) → a ≤ x.length →
    (Str.join z (partsFrom x y.length a cuts)).cps.toList = rep y.cps.toList z.cps.toList 0 (x.cps.toList.drop a)
  | [], a, f, h, hn, ha => by
    have e : f = a := h
    subst e
    have := rep_to (x := x) (z := z.cps.toList) hy (c := x.length) (x.length - f) f (by omega) (Nat.le_refl _) fun k h1 _ => hn k h1
    rw [this]
    show (strSub x f x.length).cps.toList = _
    rw [strSub_toList]
    have e2 : x.cps.toList.drop x.length = [] := List.drop_eq_nil_of_le (by simp only [Array.length_toList]; exact Nat.le_refl _)
    rw [e2]
    simp [rep]
  | c :: r, a, f, h, hn, ha => by
    obtain ⟨h1, h2, h3, h4⟩ := h
    have hc : c + y.length ≤ x.length := h2.1
    have ih := rep_parts (z := z) hy r _ f h4 hn hc
    have := rep_to (x := x) (z := z.cps.toList) hy (c := c) (c - a) a (by omega) (by omega) h3
    rw [this, rep_hit (by exact hy) ((at_iff hy).mp h2)]
    have e3 : (y.cps.toList).length = y.length := Array.length_toList
    rw [List.drop_drop, e3]
    rw [← ih]
    obtain ⟨p, q, hp⟩ := partsFrom_ne x y.length (c + y.length) r
    show (Str.join z (strSub x a c :: partsFrom x y.length (c + y.length) r)).cps.toList = _
    rw [hp]
    show (strSub x a c ++ z ++ Str.join z (p :: q)).cps.toList = _
    rw [Str.cps_append, Str.cps_append, Array.toList_append, Array.toList_append, strSub_toList, List.append_assoc]
theorem replace_rep (x y z : Str) (hy : 1 ≤ y.length) : (Txt.replace x y z).cps.toList = rep y.cps.toList z.cps.toList 0 x.cps.toList := by
  obtain ⟨f, hc, hn⟩ := occ_tight x y hy
  have key := rep_parts (z := z) hy _ _ f hc hn (Nat.zero_le _)
  rw [List.drop_zero] at key
  unfold Txt.replace
  split
  · rename_i h
    rw [Bool.or_eq_true] at h
    rcases h with h | h
    · rw [List.isEmpty_iff.mp h] at key
      rw [← key]
      show _ = (strSub x 0 x.length).cps.toList
      rw [sub_whole]
    · rw [Bool.and_eq_true, beq_iff_eq] at h
      omega
  · rw [partsBetween_eq, glued_eq_join]
    exact key
end Mine

end
-- AMBase
namespace Mine
noncomputable abbrev Cells := List (Addr × Obj)
noncomputable abbrev arT (dp un : Nat) (gd : Option (List Code)) (fr : List Env) : Around := { handled := none, depth := dp, frames := some fr, guards := gd, units := un }

/-- what stands in h: all of the base, and the owned cells, which are none of the base's -/
structure Sits (h₀ h : Heap) (own : Cells) : Prop where
  keep : ∀ b o, h₀.get? b = some o → h.get? b = some o
  own : ∀ p ∈ own, h.get? p.1 = some p.2 ∧ h₀.get? p.1 = none

/-- the text's own part stands -/
structure Gd (K : Frag) (h₀ : Heap) : Prop where
  X : K.In h₀
  T : ∃ p loose mean mg mb, Top p loose mean mg mb h₀
  C : CodeHd h₀ 214 210 ∧ CodeHd h₀ 245 243
theorem Gd.keeps {K : Frag} {h h' : Heap} (G : Gd K h) (k : ∀ b o, h.get? b = some o → h'.get? b = some o) : Gd K h' := by
  obtain ⟨X, ⟨p, l, e, mg, mb, T⟩, C⟩ := G
  exact ⟨X.keeps k, ⟨p, l, e, mg, mb, T.keeps k⟩, C.1.keeps k, C.2.keeps k⟩
theorem Gd.nolimit {K : Frag} {h : Heap} (G : Gd K h) : h.NoLimit := by
  obtain ⟨X, ⟨p, l, e, mg, mb, T⟩, C⟩ := G
  exact T.nolimit

noncomputable def Does (K : Frag) (prog : Program) (w : World) (k : Nat) (f : Addr) (vs : List Value) (own : Cells) (res : Value → Cells → Prop) : Prop :=
  ∀ (dp un : Nat) (gd : Option (List Code)) (fr : List Env) (h₀ : Heap) (s : Shared) (R : Result → Shared → Prop),
    Gd K h₀ → Sits h₀ s.heap own → dp + k < recursionLimit → un + 20 * k < cLine →
    (∀ v h' tk own', res v own' → Sits h₀ h' own' → R (.ok (.ret v)) { s with heap := h', toks := tk }) →
    codeAny (model prog w) (arT dp un gd fr) (.call (.ref f) ⟨vs, []⟩) R s

/-- the end of a body -/
noncomputable def Fin (g : Heap) (L : Addr) (s : Shared) (res : Value → Cells → Prop) (v : Value) (s' : Shared) : Prop :=
  ∃ m' news' h' tk, s' = { s with heap := h', toks := tk } ∧ Fr g L h' m' ∧ News g L h' news' ∧ res v news'

theorem Fin.intro {g : Heap} {L : Addr} {s : Shared} {res : Value → Cells → Prop} {v : Value} {m' : Str → Option Value} {news' : Cells} {h' : Heap} {tk : Nat} (F : Fr g L h' m') (N : News g L h' news') (r : res v news') :
    Fin g L s res v { s with heap := h', toks := tk } := ⟨_, _, _, _, rfl, F, N, r⟩

section
variable {K : Frag} {prog : Program} {w : World} {k : Nat} {f : Addr} {vs : List Value} {own rest news : Cells} {res : Value → Cells → Prop}
  {oc : Value} {od an : Option Addr} {osl : Array (Option Value)} {name qual : Str} {params : Arguments} {body : List Stmt} {scope : Scope} {cl : List (Str × Addr)} {dV kV doc pm cdv ct : Value} {binds : List (Str × Value)}

theorem sits_hide {h₀ h : Heap} (S : Sits h₀ h own) : ∀ b o, h₀.get? b = some o → (hideAll h (own.map (·.1))).get? b = some o := fun b o e => by
  refine hideAll_get _ (S.keep b o e) fun q => ?_
  obtain ⟨p, hp, rfl⟩ := List.mem_map.mp q
  rw [(S.own p hp).2] at e; cases e

theorem enterT (ho : K.lookup f = some ⟨oc, od, .func (fnX name qual params body scope cl dV kV doc pm an cdv ct), osl⟩) (hcd : codeIn K cdv qual = true)
    (hbind : ∀ s : Shared, K.In s.heap → BindsTo s (fnX name qual params body scope cl dV kV doc pm an cdv ct) ⟨vs, []⟩ binds) (hloc : ∀ y ∈ binds, scope.names.lookup y.1 = some .local)
    (h : ∀ (dp un : Nat) (gd : Option (List Code)) (fr : List Env) (g : Heap) (L : Addr) (s : Shared) (P : Value → Shared → Prop), (∀ v s', Fin g L s res v s' → P v s') → Gd K g → Fr g L s.heap (fun y => binds.reverse.lookup y) → News g L s.heap own → (∀ p ∈ own, p.1 < L) →
      dp + k < recursionLimit → un + 20 * k < cLine → binds.length ≤ s.toks →
      wpAny (model prog w) (arT (dp + 1) (un + 3) gd (envX qual scope L f cdv cl :: fr)) (execs body (envX qual scope L f cdv cl)) (fun fl s' => P (match fl with | .ret v => v | _ => .none) s') (fun _ _ => False) s)
    (hcell : ∀ x ∈ scope.names, x.2 ≠ .cell := by decide) (hco : scope.isCoroutine = false := by rfl) (hgen : scope.isGenerator = false := by rfl) (hk : scope.kind = .function := by rfl) (hk0 : 0 < k := by decide) :
    Does K prog w k f vs own res := by
  intro dp un gd fr h₀ s R G S hd hu hR
  have X : K.In s.heap := G.X.keeps S.keep
  refine codeAny_call_def (fd := fnX name qual params body scope cl dV kV doc pm an cdv ct) (body := body) (binds := binds) (by show dp < recursionLimit; omega) (X _ _ ho) rfl (G.nolimit.keeps S.keep) (codeRec_of X hcd) rfl (hbind s X) hcell hloc (fun h₁ hns hk₁ => ?_) hco hgen hk
  have st := sits_hide S
  refine wpAny_mono (h dp un gd fr (hideAll s.heap (own.map (·.1))) s.heap.objs.size { s with heap := h₁, toks := s.toks + binds.length } _ (fun _ _ x => x) (G.keeps st) ⟨hns, fun b o e => hk₁ b o (of_hideAll _ e), Nat.le_of_eq (hideAll_size _ _)⟩
    (fun p hp => ⟨hk₁ _ _ (S.own p hp).1, Nat.ne_of_lt (Heap.lt_size (S.own p hp).1), hideAll_none _ (List.mem_map_of_mem hp)⟩) (fun p hp => Heap.lt_size (S.own p hp).1) hd hu (Nat.le_add_left _ _)) (fun fl s' hl => ?_) fun _ _ y => y.elim
  obtain ⟨m', news', h', tk, rfl, F', N', r⟩ := hl
  refine hR _ h' tk news' r ⟨fun b o e => F'.keep b o (st b o e), fun p hp => ⟨(N' p hp).1, ?_⟩⟩
  cases q : h₀.get? p.1 with
  | none => rfl
  | some o => have := (N' p hp).2.2; rw [st _ _ q] at this; cases this

theorem enter (ho : K.lookup f = some ⟨oc, od, .func (fnX name qual params body scope cl dV kV doc pm an cdv ct), osl⟩) (hcd : codeIn K cdv qual = true)
    (hbind : ∀ s : Shared, K.In s.heap → BindsTo s (fnX name qual params body scope cl dV kV doc pm an cdv ct) ⟨vs, []⟩ binds) (hloc : ∀ y ∈ binds, scope.names.lookup y.1 = some .local)
    (h : ∀ (dp un : Nat) (gd : Option (List Code)) (fr : List Env) (g : Heap) (L : Addr) (s : Shared) (P : Value → Shared → Prop), (∀ v s', Fin g L s res v s' → P v s') → Gd K g → Fr g L s.heap (fun y => binds.reverse.lookup y) → News g L s.heap own → (∀ p ∈ own, p.1 < L) →
      dp + k < recursionLimit → un + 20 * k < cLine →
      wpAny (model prog w) (arT (dp + 1) (un + 3) gd (envX qual scope L f cdv cl :: fr)) (execs body (envX qual scope L f cdv cl)) (fun fl s' => P (match fl with | .ret v => v | _ => .none) s') (fun _ _ => False) s)
    (hcell : ∀ x ∈ scope.names, x.2 ≠ .cell := by decide) (hco : scope.isCoroutine = false := by rfl) (hgen : scope.isGenerator = false := by rfl) (hk : scope.kind = .function := by rfl) (hk0 : 0 < k := by decide) :
    Does K prog w k f vs own res :=
  enterT ho hcd hbind hloc (fun dp un gd fr g L s P a b c d e f k _ => h dp un gd fr g L s P a b c d e f k) hcell hco hgen hk hk0

theorem enterC (ho : K.lookup f = some ⟨oc, od, .func (fnX name qual params body scope [] dV kV doc pm an cdv ct), osl⟩) (hcd : codeIn K cdv qual = true)
    (hbind : ∀ s : Shared, K.In s.heap → BindsTo s (fnX name qual params body scope [] dV kV doc pm an cdv ct) ⟨vs, []⟩ binds)
    (hkind : (binds.all fun y => scope.names.lookup y.1 == some .local || scope.names.lookup y.1 == some .cell) = true) (hnd : ((cellsFrom 0 scope.names []).map (·.1)).Nodup)
    (h : ∀ (dp un : Nat) (gd : Option (List Code)) (fr : List Env) (g : Heap) (L : Addr) (s : Shared) (cells : Cells) (P : Value → Shared → Prop), (∀ v s', Fin g L s res v s' → P v s') → Gd K g → Fr g L s.heap (bindL (envOfC qual scope L f cdv).kindOf binds fun _ => none) → News g L s.heap (cells ++ own) →
      CellsAre (bindC (envOfC qual scope L f cdv).kindOf binds fun _ => none) (cellsFrom (L + 1) scope.names []) cells → (∀ p ∈ own, p.1 < L) →
      dp + k < recursionLimit → un + 20 * k < cLine →
      wpAny (model prog w) (arT (dp + 1) (un + 3) gd (envOfC qual scope L f cdv :: fr)) (execs body (envOfC qual scope L f cdv)) (fun fl s' => P (match fl with | .ret v => v | _ => .none) s') (fun _ _ => False) s)
    (hco : scope.isCoroutine = false := by rfl) (hgen : scope.isGenerator = false := by rfl) (hk : scope.kind = .function := by rfl) (hk0 : 0 < k := by decide) :
    Does K prog w k f vs own res := by
  intro dp un gd fr h₀ s R G S hd hu hR
  have X : K.In s.heap := G.X.keeps S.keep
  have st := sits_hide S
  refine codeAny_call_function (fd := fnX name qual params body scope [] dV kV doc pm an cdv ct) (body := body) (by show dp < recursionLimit; omega) (X _ _ ho) rfl hco hgen rfl (codeRec_of X hcd) (hbind s X _ _ _ _ ?_)
  refine wpAny_newFunctionEnv_cells hk (kindsX hkind _) fun env' he s' x => ?_
  subst he
  refine ⟨(G.nolimit.keeps S.keep).keeps x.toInCall.keep, codeAny_func ?_⟩
  obtain ⟨h₁, tk, rfl, _⟩ := x.done
  have hk₁ := x.toInCall.keep
  obtain ⟨cells, NC, Y⟩ := Cl.news (h₀ := s.heap) (Nat.le_refl _) fun n c hm => ⟨x.cell n c (lookup_of_mem_nodup (cellsFrom_names scope.names 0 (s.heap.objs.size + 1) [] [] rfl ▸ hnd) hm), x.above n c hm⟩
  refine wpAny_mono (h dp un gd fr (hideAll s.heap (own.map (·.1))) s.heap.objs.size { s with heap := h₁, toks := tk } cells _ (fun _ _ x => x) (G.keeps st) ⟨x.toInCall.ns, fun b o e => hk₁ b o (of_hideAll _ e), Nat.le_of_eq (hideAll_size _ _)⟩ (fun p hp => ?_) Y (fun p hp => Heap.lt_size (S.own p hp).1) hd hu)
    (fun fl s' hl => ?_) fun _ _ y => y.elim
  · rcases List.mem_append.mp hp with hp | hp
    · refine ⟨(NC p hp).1, (NC p hp).2.1, ?_⟩
      cases q : (hideAll s.heap (own.map (·.1))).get? p.1 with
      | none => rfl
      | some o => have := of_hideAll _ q; rw [(NC p hp).2.2] at this; cases this
    · exact ⟨hk₁ _ _ (S.own p hp).1, Nat.ne_of_lt (Heap.lt_size (S.own p hp).1), hideAll_none _ (List.mem_map_of_mem hp)⟩
  obtain ⟨m', news', h', tk', rfl, F', N', r⟩ := hl
  refine hR _ h' tk' news' r ⟨fun b o e => F'.keep b o (st b o e), fun p hp => ⟨(N' p hp).1, ?_⟩⟩
  cases q : h₀.get? p.1 with
  | none => rfl
  | some o => have := (N' p hp).2.2; rw [st _ _ q] at this; cases this

/-- a lambda of the call's own -/
theorem enterL {pm ctv : Value} {c' : Addr} {lbody : Expr} {dd : Option Addr} {oc : Obj} {cvs : Array Value} {ct' : Tok} {sl : Array (Option Value)} (ho : (f, (⟨.type "function", dd, .func (kla_fn name qual params lbody scope cl pm (.ref c') ctv), sl⟩ : Obj)) ∈ own)
    (hc : (c', oc) ∈ own) (hcd1 : oc.data = .fields cvs) (hcd2 : cvs[1]? = some (.str qual ct'))
    (hbind : bindArgs (kla_fn name qual params lbody scope cl pm (.ref c') ctv) ⟨vs, []⟩ = pure binds) (hloc : ∀ y ∈ binds, scope.names.lookup y.1 = some .local)
    (h : ∀ (dp un : Nat) (gd : Option (List Code)) (fr : List Env) (g : Heap) (L : Addr) (s : Shared) (P : Value → Shared → Prop), (∀ v s', Fin g L s res v s' → P v s') → Gd K g → Fr g L s.heap (fun y => binds.reverse.lookup y) → News g L s.heap own → (∀ p ∈ own, p.1 < L) →
      dp + k < recursionLimit → un + 20 * k < cLine →
      wpAny (model prog w) (arT (dp + 1) (un + 3) gd (envX qual scope L f (.ref c') cl :: fr)) (eval lbody (envX qual scope L f (.ref c') cl)) (fun v s' => P v s') (fun _ _ => False) s)
    (hcell : ∀ x ∈ scope.names, x.2 ≠ .cell := by decide) (hco : scope.isCoroutine = false := by rfl) (hgen : scope.isGenerator = false := by rfl) (hk : scope.kind = .function := by rfl) (hk0 : 0 < k := by decide) :
    Does K prog w k f vs own res := by
  intro dp un gd fr h₀ s R G S hd hu hR
  refine kla_callFunE (by show dp < recursionLimit; omega) (S.own _ ho).1 rfl hco hgen rfl ⟨c', oc, cvs, ct', rfl, (S.own _ hc).1, hcd1, hcd2⟩ ?_
  rw [hbind]
  refine wpAny_pure (wpAny_newFunctionEnv hcell hloc (fun h₁ hns hsb => ⟨(G.nolimit.keeps S.keep).fresh _ hsb, ?_⟩) hk)
  show codeAny _ _ (.expr lbody (envX qual scope s.heap.objs.size f (.ref c') cl)) _ _
  have hk₁ : ∀ b o, s.heap.get? b = some o → h₁.get? b = some o := fun b o e => hsb.extBut b o (Nat.ne_of_lt (Heap.lt_size e)) (Heap.get?_push_of_some _ e)
  have st := sits_hide S
  refine kla_codeExpr (wpAny_mono (h dp un gd fr (hideAll s.heap (own.map (·.1))) s.heap.objs.size { s with heap := h₁, toks := s.toks + binds.length } _ (fun _ _ x => x) (G.keeps st) ⟨hns, fun b o e => hk₁ b o (of_hideAll _ e), Nat.le_of_eq (hideAll_size _ _)⟩
    (fun p hp => ⟨hk₁ _ _ (S.own p hp).1, Nat.ne_of_lt (Heap.lt_size (S.own p hp).1), hideAll_none _ (List.mem_map_of_mem hp)⟩) (fun p hp => Heap.lt_size (S.own p hp).1) hd hu) (fun v s' hl => ?_) fun _ _ y => y.elim)
  obtain ⟨m', news', h', tk', rfl, F', N', r⟩ := hl
  refine hR _ h' tk' news' r ⟨fun b o e => F'.keep b o (st b o e), fun p hp => ⟨(N' p hp).1, ?_⟩⟩
  cases q : h₀.get? p.1 with
  | none => rfl
  | some o => have := (N' p hp).2.2; rw [st _ _ q] at this; cases this

theorem useCode {h₀ : Heap} {L : Addr} {m : Str → Option Value} {s : Shared} {dp un : Nat} {gd : Option (List Code)} {fr : List Env} {R : Result → Shared → Prop}
    (C : Does K prog w k f vs own res) (F : Fr h₀ L s.heap m) (N : News h₀ L s.heap news) (G : Gd K h₀) (ho : ∀ p ∈ own, p ∈ news) (hr : ∀ p ∈ rest, p ∈ news) (hd : ∀ p ∈ own, ∀ q ∈ rest, p.1 ≠ q.1)
    (hdp : dp + k < recursionLimit) (hun : un + 20 * k < cLine)
    (h : ∀ v h' tk own', res v own' → Fr h₀ L h' m → News h₀ L h' (own' ++ rest) → (∀ p ∈ own', ∀ q ∈ rest, p.1 ≠ q.1) → R (.ok (.ret v)) { s with heap := h', toks := tk }) :
    codeAny (model prog w) (arT dp un gd fr) (.call (.ref f) ⟨vs, []⟩) R s := by
  obtain ⟨oL, es, ep, hL, hLd, hLk, hLf⟩ := F.ns
  have nL : L ∉ own.map (·.1) := fun q => by
    obtain ⟨p, hp, e⟩ := List.mem_map.mp q
    exact (N p (ho p hp)).2.1 e
  have hLg := hideAll_get (own.map (·.1)) hL nL
  have S0 : Sits h₀ s.heap own := ⟨F.keep, fun p hp => ⟨(N p (ho p hp)).1, (N p (ho p hp)).2.2⟩⟩
  have st := sits_hide S0
  have hrg : ∀ p ∈ rest, (hideAll s.heap (own.map (·.1))).get? p.1 = some p.2 := fun p hp => by
    refine hideAll_get _ (N p (hr p hp)).1 fun q => ?_
    obtain ⟨o, ho', e⟩ := List.mem_map.mp q
    exact hd o ho' p hp e
  refine C dp un gd fr (hideAll s.heap (own.map (·.1))) s R (G.keeps st) ⟨fun b o e => of_hideAll _ e, fun p hp => ⟨(N p (ho p hp)).1, hideAll_none _ (List.mem_map_of_mem hp)⟩⟩ hdp hun (fun v h' tk own' hv S' => ?_)
  refine h v h' tk own' hv ⟨⟨oL, es, ep, S'.keep L oL hLg, hLd, hLk, hLf⟩, fun b o e => S'.keep b o (st b o e), F.above⟩ (fun p hp => ?_) (fun p hp q hq e => ?_)
  · rcases List.mem_append.mp hp with hp | hp
    · refine ⟨(S'.own p hp).1, fun e => ?_, ?_⟩
      · have := (S'.own p hp).2; rw [e, hLg] at this; cases this
      · cases q : h₀.get? p.1 with
        | none => rfl
        | some o => have := (S'.own p hp).2; rw [st _ _ q] at this; cases this
    · exact ⟨S'.keep _ _ (hrg p hp), (N p (hr p hp)).2⟩
  · have := (S'.own p hp).2; rw [e, hrg q hq] at this; cases this

theorem use {h₀ : Heap} {L : Addr} {m : Str → Option Value} {s : Shared} {dp un : Nat} {gd : Option (List Code)} {fr : List Env} {Q E : Value → Shared → Prop}
    (C : Does K prog w k f vs own res) (F : Fr h₀ L s.heap m) (N : News h₀ L s.heap news) (G : Gd K h₀) (ho : ∀ p ∈ own, p ∈ news) (hr : ∀ p ∈ rest, p ∈ news) (hd : ∀ p ∈ own, ∀ q ∈ rest, p.1 ≠ q.1)
    (hdp : dp + k < recursionLimit) (hun : un + 20 * k < cLine)
    (h : ∀ v h' tk own', res v own' → Fr h₀ L h' m → News h₀ L h' (own' ++ rest) → (∀ p ∈ own', ∀ q ∈ rest, p.1 ≠ q.1) → Q v { s with heap := h', toks := tk }) :
    wpAny (model prog w) (arT dp un gd fr) (call (.ref f) vs) Q E s := wpAny_call (useCode C F N G ho hr hd hdp hun h)
end
end Mine

-- AMHead
namespace Mine
/-- the text's statements, by place -/
noncomputable def stOf (i : Nat) : Stmt := (PySem.Challenge.pw_xj0021_01.main.body[i]?).getD (.Pass ⟨0, 0, 0, 0⟩)
noncomputable def subOf (i j : Nat) : Stmt := match stOf i with
  | .ClassDef _ _ _ b _ _ _ _ _ _ _ => (b[j]?).getD (.Pass ⟨0, 0, 0, 0⟩)
  | s => s
/-- the function object that a def's statement makes -/
noncomputable def fnO (st : Stmt) (q : Str) (gl : Addr) (cl : List (Str × Addr)) (dV kV doc pm : Value) (an : Option Addr) (cdv ct : Value) (b : Addr) : Obj := match st with
  | .FunctionDef n ps body _ _ _ sc _ _ _ => ⟨.type "function", none, .func ⟨n, q, ps, .stmts body, sc, gl, cl, dV, kV, doc, pm, an, cdv, ct, b⟩, #[]⟩
  | _ => ⟨.none, none, .plain, #[]⟩
/-- what stands behind the top -/
noncomputable def KH : Params → Frag := fun P =>
    (nat_lit 2, Obj.mk Value.none none (Data.dict #[]) #[]) ::
    (nat_lit 3, Obj.mk (Value.type "dict") none (Data.dict #[DictEntry.mk (PyData.keyHash P (Str.ofString "__name__")) (Value.str (Str.ofString "__name__") 165) (Value.str (Str.ofString "law_xj0021_01") 397), DictEntry.mk (PyData.keyHash P (Str.ofString "__doc__")) (Value.str (Str.ofString "__doc__") 166) Value.none, DictEntry.mk (PyData.keyHash P (Str.ofString "__package__")) (Value.str (Str.ofString "__package__") 167) Value.none, DictEntry.mk (PyData.keyHash P (Str.ofString "__loader__")) (Value.str (Str.ofString "__loader__") 168) (Value.builtin "__main__.__loader__#opaque"), DictEntry.mk (PyData.keyHash P (Str.ofString "__spec__")) (Value.str (Str.ofString "__spec__") 169) Value.none, DictEntry.mk (PyData.keyHash P (Str.ofString "__annotations__")) (Value.str (Str.ofString "__annotations__") 170) (Value.ref 6), DictEntry.mk (PyData.keyHash P (Str.ofString "__builtins__")) (Value.str (Str.ofString "__builtins__") 171) (Value.ref 4), DictEntry.mk (PyData.keyHash P (Str.ofString "__file__")) (Value.str (Str.ofString "__file__") 173) (Value.str (Str.ofString "/claim/cut.py") 172), DictEntry.mk (PyData.keyHash P (Str.ofString "__cached__")) (Value.str (Str.ofString "__cached__") 174) Value.none, DictEntry.mk (PyData.keyHash P (Str.ofString "_wall")) (Value.str (Str.ofString "_wall") 193) (Value.ref 21), DictEntry.mk (PyData.keyHash P (Str.ofString "_netrclex")) (Value.str (Str.ofString "_netrclex") 253) (Value.ref 59), DictEntry.mk (PyData.keyHash P (Str.ofString "EMPTYSTRING")) (Value.str (Str.ofString "EMPTYSTRING") 257) (Value.str (Str.ofString "") 256), DictEntry.mk (PyData.keyHash P (Str.ofString "_Accumulator")) (Value.str (Str.ofString "_Accumulator") 352) (Value.ref 143), DictEntry.mk (PyData.keyHash P (Str.ofString "_raise_serialization_error")) (Value.str (Str.ofString "_raise_serialization_error") 361) (Value.ref 154), DictEntry.mk (PyData.keyHash P (Str.ofString "_escape_cdata")) (Value.str (Str.ofString "_escape_cdata") 368) (Value.ref 161), DictEntry.mk (PyData.keyHash P (Str.ofString "_escape_attrib")) (Value.str (Str.ofString "_escape_attrib") 375) (Value.ref 168), DictEntry.mk (PyData.keyHash P (Str.ofString "_escape_attrib_html")) (Value.str (Str.ofString "_escape_attrib_html") 382) (Value.ref 175), DictEntry.mk (PyData.keyHash P (Str.ofString "_escape_cdata_c14n")) (Value.str (Str.ofString "_escape_cdata_c14n") 389) (Value.ref 182), DictEntry.mk (PyData.keyHash P (Str.ofString "_escape_attrib_c14n")) (Value.str (Str.ofString "_escape_attrib_c14n") 396) (Value.ref 189), DictEntry.mk (PyData.keyHash P (Str.ofString "_law_heaps")) (Value.str (Str.ofString "_law_heaps") 407) (Value.ref 196), DictEntry.mk (PyData.keyHash P (Str.ofString "_law_words")) (Value.str (Str.ofString "_law_words") 417) (Value.ref 203), DictEntry.mk (PyData.keyHash P (Str.ofString "_law_text")) (Value.str (Str.ofString "_law_text") 423) (Value.ref 208), DictEntry.mk (PyData.keyHash P (Str.ofString "_law_lexer")) (Value.str (Str.ofString "_law_lexer") 432) (Value.ref 215), DictEntry.mk (PyData.keyHash P (Str.ofString "_law_hands")) (Value.str (Str.ofString "_law_hands") 438) (Value.ref 222), DictEntry.mk (PyData.keyHash P (Str.ofString "_law_mate")) (Value.str (Str.ofString "_law_mate") 444) (Value.ref 227), DictEntry.mk (PyData.keyHash P (Str.ofString "_law_turn")) (Value.str (Str.ofString "_law_turn") 458) (Value.ref 234), DictEntry.mk (PyData.keyHash P (Str.ofString "_law_due")) (Value.str (Str.ofString "_law_due") 477) (Value.ref 241), DictEntry.mk (PyData.keyHash P (Str.ofString "law")) (Value.str (Str.ofString "law") 483) (Value.ref 246)] 28) #[]) ::
    (nat_lit 15, Obj.mk (Value.type "tuple") none (Data.seq #[]) #[]) ::
    (nat_lit 17, Obj.mk (Value.type "tuple") none (Data.seq #[Value.str (Str.ofString "k") 190]) #[]) ::
    (nat_lit 18, Obj.mk (Value.type "tuple") none (Data.seq #[]) #[]) ::
    (nat_lit 20, Obj.mk (Value.type "code") none (Data.fields #[Value.str (Str.ofString "_wall") 187, Value.str (Str.ofString "_wall") 188, Value.str (Str.ofString "/claim/cut.py") 189, Value.int 1 0, Value.int 1 0, Value.int 0 0, Value.int 0 0, Value.int 3 0, Value.ref 15, Value.bool true, Value.int 181 0, Value.ref 16, Value.none, Value.ref 17, Value.ref 18, Value.ref 19, Value.int 191 0, Value.int 1 0, Value.str (Str.ofString "/claim/cut.py") 192]) #[]) ::
    (nat_lit 21, fnO (stOf 0) (Str.ofString "_wall") 3 [] Value.none Value.none Value.none (Value.str (Str.ofString "__main__") 164) none (Value.ref 20) Value.none 0) ::
    (nat_lit 29, Obj.mk (Value.type "tuple") none (Data.seq #[]) #[]) ::
    (nat_lit 31, Obj.mk (Value.type "tuple") none (Data.seq #[Value.str (Str.ofString "self") 211, Value.str (Str.ofString "fp") 212]) #[]) ::
    (nat_lit 32, Obj.mk (Value.type "tuple") none (Data.seq #[]) #[]) ::
    (nat_lit 34, Obj.mk (Value.type "code") none (Data.fields #[Value.str (Str.ofString "__init__") 208, Value.str (Str.ofString "_netrclex.__init__") 209, Value.str (Str.ofString "/claim/cut.py") 210, Value.int 7 0, Value.int 2 0, Value.int 0 0, Value.int 0 0, Value.int 3 0, Value.ref 29, Value.bool true, Value.int 181 0, Value.ref 30, Value.none, Value.ref 31, Value.ref 32, Value.ref 33, Value.int 213 0, Value.int 7 0, Value.str (Str.ofString "/claim/cut.py") 214]) #[]) ::
    (nat_lit 35, fnO (subOf 2 0) (Str.ofString "_netrclex.__init__") 3 [] Value.none Value.none Value.none (Value.str (Str.ofString "cpy313.netrc") 194) none (Value.ref 34) Value.none 0) ::
    (nat_lit 36, Obj.mk (Value.type "tuple") none (Data.seq #[]) #[]) ::
    (nat_lit 38, Obj.mk (Value.type "tuple") none (Data.seq #[Value.str (Str.ofString "self") 219, Value.str (Str.ofString "ch") 220]) #[]) ::
    (nat_lit 39, Obj.mk (Value.type "tuple") none (Data.seq #[]) #[]) ::
    (nat_lit 41, Obj.mk (Value.type "code") none (Data.fields #[Value.str (Str.ofString "_read_char") 216, Value.str (Str.ofString "_netrclex._read_char") 217, Value.str (Str.ofString "/claim/cut.py") 218, Value.int 13 0, Value.int 1 0, Value.int 0 0, Value.int 0 0, Value.int 3 0, Value.ref 36, Value.bool true, Value.int 181 0, Value.ref 37, Value.none, Value.ref 38, Value.ref 39, Value.ref 40, Value.int 221 0, Value.int 13 0, Value.str (Str.ofString "/claim/cut.py") 222]) #[]) ::
    (nat_lit 42, fnO (subOf 2 1) (Str.ofString "_netrclex._read_char") 3 [] Value.none Value.none Value.none (Value.str (Str.ofString "cpy313.netrc") 194) none (Value.ref 41) Value.none 0) ::
    (nat_lit 43, Obj.mk (Value.type "tuple") none (Data.seq #[]) #[]) ::
    (nat_lit 45, Obj.mk (Value.type "tuple") none (Data.seq #[Value.str (Str.ofString "self") 227, Value.str (Str.ofString "token") 228, Value.str (Str.ofString "fiter") 229, Value.str (Str.ofString "ch") 230]) #[]) ::
    (nat_lit 46, Obj.mk (Value.type "tuple") none (Data.seq #[]) #[]) ::
    (nat_lit 48, Obj.mk (Value.type "code") none (Data.fields #[Value.str (Str.ofString "get_token") 224, Value.str (Str.ofString "_netrclex.get_token") 225, Value.str (Str.ofString "/claim/cut.py") 226, Value.int 19 0, Value.int 1 0, Value.int 0 0, Value.int 0 0, Value.int 3 0, Value.ref 43, Value.bool true, Value.int 181 0, Value.ref 44, Value.none, Value.ref 45, Value.ref 46, Value.ref 47, Value.int 231 0, Value.int 19 0, Value.str (Str.ofString "/claim/cut.py") 232]) #[]) ::
    (nat_lit 49, fnO (subOf 2 2) (Str.ofString "_netrclex.get_token") 3 [] Value.none Value.none Value.none (Value.str (Str.ofString "cpy313.netrc") 194) none (Value.ref 48) Value.none 0) ::
    (nat_lit 50, Obj.mk (Value.type "tuple") none (Data.seq #[]) #[]) ::
    (nat_lit 52, Obj.mk (Value.type "tuple") none (Data.seq #[Value.str (Str.ofString "self") 237, Value.str (Str.ofString "token") 238]) #[]) ::
    (nat_lit 53, Obj.mk (Value.type "tuple") none (Data.seq #[]) #[]) ::
    (nat_lit 55, Obj.mk (Value.type "code") none (Data.fields #[Value.str (Str.ofString "push_token") 234, Value.str (Str.ofString "_netrclex.push_token") 235, Value.str (Str.ofString "/claim/cut.py") 236, Value.int 46 0, Value.int 2 0, Value.int 0 0, Value.int 0 0, Value.int 3 0, Value.ref 50, Value.bool true, Value.int 181 0, Value.ref 51, Value.none, Value.ref 52, Value.ref 53, Value.ref 54, Value.int 239 0, Value.int 46 0, Value.str (Str.ofString "/claim/cut.py") 240]) #[]) ::
    (nat_lit 56, fnO (subOf 2 3) (Str.ofString "_netrclex.push_token") 3 [] Value.none Value.none Value.none (Value.str (Str.ofString "cpy313.netrc") 194) none (Value.ref 55) Value.none 0) ::
    (nat_lit 57, Obj.mk (Value.type "tuple") none (Data.seq #[Value.str (Str.ofString "instream") 242, Value.str (Str.ofString "lineno") 243, Value.str (Str.ofString "pushback") 244, Value.str (Str.ofString "whitespace") 245]) #[]) ::
    (nat_lit 58, Obj.mk (Value.type "dict") none (Data.dict #[DictEntry.mk (PyData.keyHash P (Str.ofString "__module__")) (Value.str (Str.ofString "__module__") 203) (Value.str (Str.ofString "cpy313.netrc") 194), DictEntry.mk (PyData.keyHash P (Str.ofString "__firstlineno__")) (Value.str (Str.ofString "__firstlineno__") 207) (Value.int 5 206), DictEntry.mk (PyData.keyHash P (Str.ofString "__init__")) (Value.str (Str.ofString "__init__") 215) (Value.ref 35), DictEntry.mk (PyData.keyHash P (Str.ofString "_read_char")) (Value.str (Str.ofString "_read_char") 223) (Value.ref 42), DictEntry.mk (PyData.keyHash P (Str.ofString "get_token")) (Value.str (Str.ofString "get_token") 233) (Value.ref 49), DictEntry.mk (PyData.keyHash P (Str.ofString "push_token")) (Value.str (Str.ofString "push_token") 241) (Value.ref 56), DictEntry.mk (PyData.keyHash P (Str.ofString "__static_attributes__")) (Value.str (Str.ofString "__static_attributes__") 246) (Value.ref 57), DictEntry.mk (PyData.keyHash P (Str.ofString "__dict__")) (Value.str (Str.ofString "__dict__") 248) (Value.ref 60), DictEntry.mk (PyData.keyHash P (Str.ofString "__weakref__")) (Value.str (Str.ofString "__weakref__") 250) (Value.ref 61), DictEntry.mk (PyData.keyHash P (Str.ofString "__doc__")) (Value.str (Str.ofString "__doc__") 251) Value.none] 4) #[]) ::
    (nat_lit 59, Obj.mk (Value.type "type") none (Data.cls (ClassData.mk (Str.ofString "_netrclex") [Value.type "object"] [Value.ref 59, Value.type "object"] 58 (Str.ofString "_netrclex") true [] [] false none false)) #[none, none, some (Value.str (Str.ofString "_netrclex") 196), some (Value.str (Str.ofString "_netrclex") 204), some (Value.builtin "object.__new__"), some (Value.bool true)]) ::
    (nat_lit 60, Obj.mk (Value.type "getset_descriptor") none (Data.fields #[Value.str (Str.ofString "__dict__") 247, Value.ref 59, Value.builtin "function.__dict__", Value.builtin "function.__dict__#set"]) #[]) ::
    (nat_lit 61, Obj.mk (Value.type "getset_descriptor") none (Data.fields #[Value.str (Str.ofString "__weakref__") 249, Value.ref 59, Value.builtin "ExceptionGroup.__weakref__", Value.none]) #[]) ::
    (nat_lit 64, Obj.mk (Value.type "tuple") none (Data.seq #[Value.type "list"]) #[]) ::
    (nat_lit 67, Obj.mk (Value.type "cell") none (Data.cell (some (Value.ref 143))) #[]) ::
    (nat_lit 72, Obj.mk (Value.type "tuple") none (Data.seq #[Value.int 0 270]) #[]) ::
    (nat_lit 73, Obj.mk (Value.type "tuple") none (Data.seq #[Value.ref 67]) #[]) ::
    (nat_lit 74, Obj.mk (Value.type "tuple") none (Data.seq #[Value.str (Str.ofString "__class__") 274]) #[]) ::
    (nat_lit 76, Obj.mk (Value.type "tuple") none (Data.seq #[Value.str (Str.ofString "self") 275, Value.str (Str.ofString "initial_size") 276]) #[]) ::
    (nat_lit 77, Obj.mk (Value.type "tuple") none (Data.seq #[]) #[]) ::
    (nat_lit 79, Obj.mk (Value.type "code") none (Data.fields #[Value.str (Str.ofString "__init__") 271, Value.str (Str.ofString "_Accumulator.__init__") 272, Value.str (Str.ofString "/claim/cut.py") 273, Value.int 52 0, Value.int 2 0, Value.int 0 0, Value.int 0 0, Value.int 3 0, Value.ref 74, Value.bool true, Value.int 181 0, Value.ref 75, Value.none, Value.ref 76, Value.ref 77, Value.ref 78, Value.int 277 0, Value.int 52 0, Value.str (Str.ofString "/claim/cut.py") 278]) #[]) ::
    (nat_lit 80, fnO (subOf 5 0) (Str.ofString "_Accumulator.__init__") 3 [(Str.ofString "__class__", 67)] (Value.ref 72) Value.none Value.none (Value.str (Str.ofString "cpy313.email.header") 254) none (Value.ref 79) (Value.ref 73) 0) ::
    (nat_lit 81, Obj.mk (Value.type "tuple") none (Data.seq #[]) #[]) ::
    (nat_lit 83, Obj.mk (Value.type "tuple") none (Data.seq #[Value.str (Str.ofString "self") 283, Value.str (Str.ofString "fws") 284, Value.str (Str.ofString "string") 285]) #[]) ::
    (nat_lit 84, Obj.mk (Value.type "tuple") none (Data.seq #[]) #[]) ::
    (nat_lit 86, Obj.mk (Value.type "code") none (Data.fields #[Value.str (Str.ofString "push") 280, Value.str (Str.ofString "_Accumulator.push") 281, Value.str (Str.ofString "/claim/cut.py") 282, Value.int 56 0, Value.int 3 0, Value.int 0 0, Value.int 0 0, Value.int 3 0, Value.ref 81, Value.bool true, Value.int 181 0, Value.ref 82, Value.none, Value.ref 83, Value.ref 84, Value.ref 85, Value.int 286 0, Value.int 56 0, Value.str (Str.ofString "/claim/cut.py") 287]) #[]) ::
    (nat_lit 87, fnO (subOf 5 1) (Str.ofString "_Accumulator.push") 3 [] Value.none Value.none Value.none (Value.str (Str.ofString "cpy313.email.header") 254) none (Value.ref 86) Value.none 0) ::
    (nat_lit 88, Obj.mk (Value.type "tuple") none (Data.seq #[Value.int 0 289]) #[]) ::
    (nat_lit 89, Obj.mk (Value.type "tuple") none (Data.seq #[]) #[]) ::
    (nat_lit 91, Obj.mk (Value.type "tuple") none (Data.seq #[Value.str (Str.ofString "self") 293, Value.str (Str.ofString "i") 294]) #[]) ::
    (nat_lit 92, Obj.mk (Value.type "tuple") none (Data.seq #[]) #[]) ::
    (nat_lit 94, Obj.mk (Value.type "code") none (Data.fields #[Value.str (Str.ofString "pop_from") 290, Value.str (Str.ofString "_Accumulator.pop_from") 291, Value.str (Str.ofString "/claim/cut.py") 292, Value.int 59 0, Value.int 2 0, Value.int 0 0, Value.int 0 0, Value.int 3 0, Value.ref 89, Value.bool true, Value.int 181 0, Value.ref 90, Value.none, Value.ref 91, Value.ref 92, Value.ref 93, Value.int 295 0, Value.int 59 0, Value.str (Str.ofString "/claim/cut.py") 296]) #[]) ::
    (nat_lit 95, fnO (subOf 5 2) (Str.ofString "_Accumulator.pop_from") 3 [] (Value.ref 88) Value.none Value.none (Value.str (Str.ofString "cpy313.email.header") 254) none (Value.ref 94) Value.none 0) ::
    (nat_lit 96, Obj.mk (Value.type "tuple") none (Data.seq #[Value.ref 67]) #[]) ::
    (nat_lit 97, Obj.mk (Value.type "tuple") none (Data.seq #[Value.str (Str.ofString "__class__") 301]) #[]) ::
    (nat_lit 99, Obj.mk (Value.type "tuple") none (Data.seq #[Value.str (Str.ofString "self") 302]) #[]) ::
    (nat_lit 100, Obj.mk (Value.type "tuple") none (Data.seq #[]) #[]) ::
    (nat_lit 102, Obj.mk (Value.type "code") none (Data.fields #[Value.str (Str.ofString "pop") 298, Value.str (Str.ofString "_Accumulator.pop") 299, Value.str (Str.ofString "/claim/cut.py") 300, Value.int 62 0, Value.int 1 0, Value.int 0 0, Value.int 0 0, Value.int 3 0, Value.ref 97, Value.bool true, Value.int 181 0, Value.ref 98, Value.none, Value.ref 99, Value.ref 100, Value.ref 101, Value.int 303 0, Value.int 62 0, Value.str (Str.ofString "/claim/cut.py") 304]) #[]) ::
    (nat_lit 103, fnO (subOf 5 3) (Str.ofString "_Accumulator.pop") 3 [(Str.ofString "__class__", 67)] Value.none Value.none Value.none (Value.str (Str.ofString "cpy313.email.header") 254) none (Value.ref 102) (Value.ref 96) 0) ::
    (nat_lit 104, Obj.mk (Value.type "tuple") none (Data.seq #[]) #[]) ::
    (nat_lit 106, Obj.mk (Value.type "tuple") none (Data.seq #[Value.str (Str.ofString "self") 309]) #[]) ::
    (nat_lit 107, Obj.mk (Value.type "tuple") none (Data.seq #[]) #[]) ::
    (nat_lit 109, Obj.mk (Value.type "code") none (Data.fields #[Value.str (Str.ofString "__len__") 306, Value.str (Str.ofString "_Accumulator.__len__") 307, Value.str (Str.ofString "/claim/cut.py") 308, Value.int 67 0, Value.int 1 0, Value.int 0 0, Value.int 0 0, Value.int 3 0, Value.ref 104, Value.bool true, Value.int 181 0, Value.ref 105, Value.none, Value.ref 106, Value.ref 107, Value.ref 108, Value.int 310 0, Value.int 67 0, Value.str (Str.ofString "/claim/cut.py") 311]) #[]) ::
    (nat_lit 110, fnO (subOf 5 4) (Str.ofString "_Accumulator.__len__") 3 [] Value.none Value.none Value.none (Value.str (Str.ofString "cpy313.email.header") 254) none (Value.ref 109) Value.none 0) ::
    (nat_lit 111, Obj.mk (Value.type "tuple") none (Data.seq #[]) #[]) ::
    (nat_lit 113, Obj.mk (Value.type "tuple") none (Data.seq #[Value.str (Str.ofString "self") 316]) #[]) ::
    (nat_lit 114, Obj.mk (Value.type "tuple") none (Data.seq #[]) #[]) ::
    (nat_lit 116, Obj.mk (Value.type "code") none (Data.fields #[Value.str (Str.ofString "__str__") 313, Value.str (Str.ofString "_Accumulator.__str__") 314, Value.str (Str.ofString "/claim/cut.py") 315, Value.int 70 0, Value.int 1 0, Value.int 0 0, Value.int 0 0, Value.int 3 0, Value.ref 111, Value.bool true, Value.int 181 0, Value.ref 112, Value.none, Value.ref 113, Value.ref 114, Value.ref 115, Value.int 317 0, Value.int 70 0, Value.str (Str.ofString "/claim/cut.py") 318]) #[]) ::
    (nat_lit 117, fnO (subOf 5 5) (Str.ofString "_Accumulator.__str__") 3 [] Value.none Value.none Value.none (Value.str (Str.ofString "cpy313.email.header") 254) none (Value.ref 116) Value.none 0) ::
    (nat_lit 118, Obj.mk (Value.type "tuple") none (Data.seq #[Value.none]) #[]) ::
    (nat_lit 119, Obj.mk (Value.type "tuple") none (Data.seq #[]) #[]) ::
    (nat_lit 121, Obj.mk (Value.type "tuple") none (Data.seq #[Value.str (Str.ofString "self") 323, Value.str (Str.ofString "startval") 324]) #[]) ::
    (nat_lit 122, Obj.mk (Value.type "tuple") none (Data.seq #[]) #[]) ::
    (nat_lit 124, Obj.mk (Value.type "code") none (Data.fields #[Value.str (Str.ofString "reset") 320, Value.str (Str.ofString "_Accumulator.reset") 321, Value.str (Str.ofString "/claim/cut.py") 322, Value.int 73 0, Value.int 2 0, Value.int 0 0, Value.int 0 0, Value.int 3 0, Value.ref 119, Value.bool true, Value.int 181 0, Value.ref 120, Value.none, Value.ref 121, Value.ref 122, Value.ref 123, Value.int 325 0, Value.int 73 0, Value.str (Str.ofString "/claim/cut.py") 326]) #[]) ::
    (nat_lit 125, fnO (subOf 5 6) (Str.ofString "_Accumulator.reset") 3 [] (Value.ref 118) Value.none Value.none (Value.str (Str.ofString "cpy313.email.header") 254) none (Value.ref 124) Value.none 0) ::
    (nat_lit 126, Obj.mk (Value.type "tuple") none (Data.seq #[]) #[]) ::
    (nat_lit 128, Obj.mk (Value.type "tuple") none (Data.seq #[Value.str (Str.ofString "self") 331]) #[]) ::
    (nat_lit 129, Obj.mk (Value.type "tuple") none (Data.seq #[]) #[]) ::
    (nat_lit 131, Obj.mk (Value.type "code") none (Data.fields #[Value.str (Str.ofString "is_onlyws") 328, Value.str (Str.ofString "_Accumulator.is_onlyws") 329, Value.str (Str.ofString "/claim/cut.py") 330, Value.int 76 0, Value.int 1 0, Value.int 0 0, Value.int 0 0, Value.int 3 0, Value.ref 126, Value.bool true, Value.int 181 0, Value.ref 127, Value.none, Value.ref 128, Value.ref 129, Value.ref 130, Value.int 332 0, Value.int 76 0, Value.str (Str.ofString "/claim/cut.py") 333]) #[]) ::
    (nat_lit 132, fnO (subOf 5 7) (Str.ofString "_Accumulator.is_onlyws") 3 [] Value.none Value.none Value.none (Value.str (Str.ofString "cpy313.email.header") 254) none (Value.ref 131) Value.none 0) ::
    (nat_lit 133, Obj.mk (Value.type "tuple") none (Data.seq #[Value.ref 67]) #[]) ::
    (nat_lit 134, Obj.mk (Value.type "tuple") none (Data.seq #[Value.str (Str.ofString "__class__") 338]) #[]) ::
    (nat_lit 136, Obj.mk (Value.type "tuple") none (Data.seq #[Value.str (Str.ofString "self") 339]) #[]) ::
    (nat_lit 137, Obj.mk (Value.type "tuple") none (Data.seq #[]) #[]) ::
    (nat_lit 139, Obj.mk (Value.type "code") none (Data.fields #[Value.str (Str.ofString "part_count") 335, Value.str (Str.ofString "_Accumulator.part_count") 336, Value.str (Str.ofString "/claim/cut.py") 337, Value.int 79 0, Value.int 1 0, Value.int 0 0, Value.int 0 0, Value.int 3 0, Value.ref 134, Value.bool true, Value.int 181 0, Value.ref 135, Value.none, Value.ref 136, Value.ref 137, Value.ref 138, Value.int 340 0, Value.int 79 0, Value.str (Str.ofString "/claim/cut.py") 341]) #[]) ::
    (nat_lit 140, fnO (subOf 5 8) (Str.ofString "_Accumulator.part_count") 3 [(Str.ofString "__class__", 67)] Value.none Value.none Value.none (Value.str (Str.ofString "cpy313.email.header") 254) none (Value.ref 139) (Value.ref 133) 0) ::
    (nat_lit 141, Obj.mk (Value.type "tuple") none (Data.seq #[Value.str (Str.ofString "_initial_size") 343]) #[]) ::
    (nat_lit 142, Obj.mk (Value.type "dict") none (Data.dict #[DictEntry.mk (PyData.keyHash P (Str.ofString "__module__")) (Value.str (Str.ofString "__module__") 265) (Value.str (Str.ofString "cpy313.email.header") 254), DictEntry.mk (PyData.keyHash P (Str.ofString "__firstlineno__")) (Value.str (Str.ofString "__firstlineno__") 269) (Value.int 50 268), DictEntry.mk (PyData.keyHash P (Str.ofString "__init__")) (Value.str (Str.ofString "__init__") 279) (Value.ref 80), DictEntry.mk (PyData.keyHash P (Str.ofString "push")) (Value.str (Str.ofString "push") 288) (Value.ref 87), DictEntry.mk (PyData.keyHash P (Str.ofString "pop_from")) (Value.str (Str.ofString "pop_from") 297) (Value.ref 95), DictEntry.mk (PyData.keyHash P (Str.ofString "pop")) (Value.str (Str.ofString "pop") 305) (Value.ref 103), DictEntry.mk (PyData.keyHash P (Str.ofString "__len__")) (Value.str (Str.ofString "__len__") 312) (Value.ref 110), DictEntry.mk (PyData.keyHash P (Str.ofString "__str__")) (Value.str (Str.ofString "__str__") 319) (Value.ref 117), DictEntry.mk (PyData.keyHash P (Str.ofString "reset")) (Value.str (Str.ofString "reset") 327) (Value.ref 125), DictEntry.mk (PyData.keyHash P (Str.ofString "is_onlyws")) (Value.str (Str.ofString "is_onlyws") 334) (Value.ref 132), DictEntry.mk (PyData.keyHash P (Str.ofString "part_count")) (Value.str (Str.ofString "part_count") 342) (Value.ref 140), DictEntry.mk (PyData.keyHash P (Str.ofString "__static_attributes__")) (Value.str (Str.ofString "__static_attributes__") 344) (Value.ref 141), DictEntry.mk (PyData.keyHash P (Str.ofString "__dict__")) (Value.str (Str.ofString "__dict__") 347) (Value.ref 144), DictEntry.mk (PyData.keyHash P (Str.ofString "__weakref__")) (Value.str (Str.ofString "__weakref__") 349) (Value.ref 145), DictEntry.mk (PyData.keyHash P (Str.ofString "__doc__")) (Value.str (Str.ofString "__doc__") 350) Value.none] 5) #[]) ::
    (nat_lit 143, Obj.mk (Value.type "type") none (Data.cls (ClassData.mk (Str.ofString "_Accumulator") [Value.type "list"] [Value.ref 143, Value.type "list", Value.type "object"] 142 (Str.ofString "_Accumulator") true [] [] false none false)) #[some (Value.ref 64), none, some (Value.str (Str.ofString "_Accumulator") 258), some (Value.str (Str.ofString "_Accumulator") 266), some (Value.builtin "list.__new__"), some (Value.bool true)]) ::
    (nat_lit 144, Obj.mk (Value.type "getset_descriptor") none (Data.fields #[Value.str (Str.ofString "__dict__") 346, Value.ref 143, Value.builtin "function.__dict__", Value.builtin "function.__dict__#set"]) #[]) ::
    (nat_lit 145, Obj.mk (Value.type "getset_descriptor") none (Data.fields #[Value.str (Str.ofString "__weakref__") 348, Value.ref 143, Value.builtin "ExceptionGroup.__weakref__", Value.none]) #[]) ::
    (nat_lit 148, Obj.mk (Value.type "tuple") none (Data.seq #[]) #[]) ::
    (nat_lit 150, Obj.mk (Value.type "tuple") none (Data.seq #[Value.str (Str.ofString "text") 358]) #[]) ::
    (nat_lit 151, Obj.mk (Value.type "tuple") none (Data.seq #[]) #[]) ::
    (nat_lit 153, Obj.mk (Value.type "code") none (Data.fields #[Value.str (Str.ofString "_raise_serialization_error") 355, Value.str (Str.ofString "_raise_serialization_error") 356, Value.str (Str.ofString "/claim/cut.py") 357, Value.int 82 0, Value.int 1 0, Value.int 0 0, Value.int 0 0, Value.int 3 0, Value.ref 148, Value.bool true, Value.int 181 0, Value.ref 149, Value.none, Value.ref 150, Value.ref 151, Value.ref 152, Value.int 359 0, Value.int 82 0, Value.str (Str.ofString "/claim/cut.py") 360]) #[]) ::
    (nat_lit 154, fnO (stOf 7) (Str.ofString "_raise_serialization_error") 3 [] Value.none Value.none Value.none (Value.str (Str.ofString "cpy313.xml.etree.ElementTree") 353) none (Value.ref 153) Value.none 0) ::
    (nat_lit 155, Obj.mk (Value.type "tuple") none (Data.seq #[]) #[]) ::
    (nat_lit 157, Obj.mk (Value.type "tuple") none (Data.seq #[Value.str (Str.ofString "text") 365]) #[]) ::
    (nat_lit 158, Obj.mk (Value.type "tuple") none (Data.seq #[]) #[]) ::
    (nat_lit 160, Obj.mk (Value.type "code") none (Data.fields #[Value.str (Str.ofString "_escape_cdata") 362, Value.str (Str.ofString "_escape_cdata") 363, Value.str (Str.ofString "/claim/cut.py") 364, Value.int 84 0, Value.int 1 0, Value.int 0 0, Value.int 0 0, Value.int 3 0, Value.ref 155, Value.bool true, Value.int 181 0, Value.ref 156, Value.none, Value.ref 157, Value.ref 158, Value.ref 159, Value.int 366 0, Value.int 84 0, Value.str (Str.ofString "/claim/cut.py") 367]) #[]) ::
    (nat_lit 161, fnO (stOf 8) (Str.ofString "_escape_cdata") 3 [] Value.none Value.none Value.none (Value.str (Str.ofString "cpy313.xml.etree.ElementTree") 353) none (Value.ref 160) Value.none 0) ::
    (nat_lit 162, Obj.mk (Value.type "tuple") none (Data.seq #[]) #[]) ::
    (nat_lit 164, Obj.mk (Value.type "tuple") none (Data.seq #[Value.str (Str.ofString "text") 372]) #[]) ::
    (nat_lit 165, Obj.mk (Value.type "tuple") none (Data.seq #[]) #[]) ::
    (nat_lit 167, Obj.mk (Value.type "code") none (Data.fields #[Value.str (Str.ofString "_escape_attrib") 369, Value.str (Str.ofString "_escape_attrib") 370, Value.str (Str.ofString "/claim/cut.py") 371, Value.int 95 0, Value.int 1 0, Value.int 0 0, Value.int 0 0, Value.int 3 0, Value.ref 162, Value.bool true, Value.int 181 0, Value.ref 163, Value.none, Value.ref 164, Value.ref 165, Value.ref 166, Value.int 373 0, Value.int 95 0, Value.str (Str.ofString "/claim/cut.py") 374]) #[]) ::
    (nat_lit 168, fnO (stOf 9) (Str.ofString "_escape_attrib") 3 [] Value.none Value.none Value.none (Value.str (Str.ofString "cpy313.xml.etree.ElementTree") 353) none (Value.ref 167) Value.none 0) ::
    (nat_lit 169, Obj.mk (Value.type "tuple") none (Data.seq #[]) #[]) ::
    (nat_lit 171, Obj.mk (Value.type "tuple") none (Data.seq #[Value.str (Str.ofString "text") 379]) #[]) ::
    (nat_lit 172, Obj.mk (Value.type "tuple") none (Data.seq #[]) #[]) ::
    (nat_lit 174, Obj.mk (Value.type "code") none (Data.fields #[Value.str (Str.ofString "_escape_attrib_html") 376, Value.str (Str.ofString "_escape_attrib_html") 377, Value.str (Str.ofString "/claim/cut.py") 378, Value.int 114 0, Value.int 1 0, Value.int 0 0, Value.int 0 0, Value.int 3 0, Value.ref 169, Value.bool true, Value.int 181 0, Value.ref 170, Value.none, Value.ref 171, Value.ref 172, Value.ref 173, Value.int 380 0, Value.int 114 0, Value.str (Str.ofString "/claim/cut.py") 381]) #[]) ::
    (nat_lit 175, fnO (stOf 10) (Str.ofString "_escape_attrib_html") 3 [] Value.none Value.none Value.none (Value.str (Str.ofString "cpy313.xml.etree.ElementTree") 353) none (Value.ref 174) Value.none 0) ::
    (nat_lit 176, Obj.mk (Value.type "tuple") none (Data.seq #[]) #[]) ::
    (nat_lit 178, Obj.mk (Value.type "tuple") none (Data.seq #[Value.str (Str.ofString "text") 386]) #[]) ::
    (nat_lit 179, Obj.mk (Value.type "tuple") none (Data.seq #[]) #[]) ::
    (nat_lit 181, Obj.mk (Value.type "code") none (Data.fields #[Value.str (Str.ofString "_escape_cdata_c14n") 383, Value.str (Str.ofString "_escape_cdata_c14n") 384, Value.str (Str.ofString "/claim/cut.py") 385, Value.int 125 0, Value.int 1 0, Value.int 0 0, Value.int 0 0, Value.int 3 0, Value.ref 176, Value.bool true, Value.int 181 0, Value.ref 177, Value.none, Value.ref 178, Value.ref 179, Value.ref 180, Value.int 387 0, Value.int 125 0, Value.str (Str.ofString "/claim/cut.py") 388]) #[]) ::
    (nat_lit 182, fnO (stOf 11) (Str.ofString "_escape_cdata_c14n") 3 [] Value.none Value.none Value.none (Value.str (Str.ofString "cpy313.xml.etree.ElementTree") 353) none (Value.ref 181) Value.none 0) ::
    (nat_lit 183, Obj.mk (Value.type "tuple") none (Data.seq #[]) #[]) ::
    (nat_lit 185, Obj.mk (Value.type "tuple") none (Data.seq #[Value.str (Str.ofString "text") 393]) #[]) ::
    (nat_lit 186, Obj.mk (Value.type "tuple") none (Data.seq #[]) #[]) ::
    (nat_lit 188, Obj.mk (Value.type "code") none (Data.fields #[Value.str (Str.ofString "_escape_attrib_c14n") 390, Value.str (Str.ofString "_escape_attrib_c14n") 391, Value.str (Str.ofString "/claim/cut.py") 392, Value.int 138 0, Value.int 1 0, Value.int 0 0, Value.int 0 0, Value.int 3 0, Value.ref 183, Value.bool true, Value.int 181 0, Value.ref 184, Value.none, Value.ref 185, Value.ref 186, Value.ref 187, Value.int 394 0, Value.int 138 0, Value.str (Str.ofString "/claim/cut.py") 395]) #[]) ::
    (nat_lit 189, fnO (stOf 12) (Str.ofString "_escape_attrib_c14n") 3 [] Value.none Value.none Value.none (Value.str (Str.ofString "cpy313.xml.etree.ElementTree") 353) none (Value.ref 188) Value.none 0) ::
    (nat_lit 190, Obj.mk (Value.type "tuple") none (Data.seq #[]) #[]) ::
    (nat_lit 192, Obj.mk (Value.type "tuple") none (Data.seq #[Value.str (Str.ofString "script") 402, Value.str (Str.ofString "heaps") 403, Value.str (Str.ofString "k") 404]) #[]) ::
    (nat_lit 193, Obj.mk (Value.type "tuple") none (Data.seq #[]) #[]) ::
    (nat_lit 195, Obj.mk (Value.type "code") none (Data.fields #[Value.str (Str.ofString "_law_heaps") 399, Value.str (Str.ofString "_law_heaps") 400, Value.str (Str.ofString "/claim/cut.py") 401, Value.int 156 0, Value.int 1 0, Value.int 0 0, Value.int 0 0, Value.int 3 0, Value.ref 190, Value.bool true, Value.int 181 0, Value.ref 191, Value.none, Value.ref 192, Value.ref 193, Value.ref 194, Value.int 405 0, Value.int 156 0, Value.str (Str.ofString "/claim/cut.py") 406]) #[]) ::
    (nat_lit 196, fnO (stOf 14) (Str.ofString "_law_heaps") 3 [] Value.none Value.none Value.none (Value.str (Str.ofString "law_xj0021_01") 397) none (Value.ref 195) Value.none 0) ::
    (nat_lit 197, Obj.mk (Value.type "tuple") none (Data.seq #[]) #[]) ::
    (nat_lit 199, Obj.mk (Value.type "tuple") none (Data.seq #[Value.str (Str.ofString "heaps") 411, Value.str (Str.ofString "bag") 412, Value.str (Str.ofString "words") 413, Value.str (Str.ofString "heap") 414]) #[]) ::
    (nat_lit 200, Obj.mk (Value.type "tuple") none (Data.seq #[]) #[]) ::
    (nat_lit 202, Obj.mk (Value.type "code") none (Data.fields #[Value.str (Str.ofString "_law_words") 408, Value.str (Str.ofString "_law_words") 409, Value.str (Str.ofString "/claim/cut.py") 410, Value.int 161 0, Value.int 1 0, Value.int 0 0, Value.int 0 0, Value.int 3 0, Value.ref 197, Value.bool true, Value.int 181 0, Value.ref 198, Value.none, Value.ref 199, Value.ref 200, Value.ref 201, Value.int 415 0, Value.int 161 0, Value.str (Str.ofString "/claim/cut.py") 416]) #[]) ::
    (nat_lit 203, fnO (stOf 15) (Str.ofString "_law_words") 3 [] Value.none Value.none Value.none (Value.str (Str.ofString "law_xj0021_01") 397) none (Value.ref 202) Value.none 0) ::
    (nat_lit 204, Obj.mk (Value.type "tuple") none (Data.seq #[]) #[]) ::
    (nat_lit 207, Obj.mk (Value.type "code") none (Data.fields #[Value.str (Str.ofString "_law_text") 418, Value.str (Str.ofString "_law_text") 419, Value.str (Str.ofString "/claim/cut.py") 420, Value.int 170 0, Value.int 2 0, Value.int 0 0, Value.int 0 0, Value.int 3 0, Value.ref 204, Value.bool true, Value.int 181 0, Value.ref 205, Value.none, Value.none, Value.none, Value.ref 206, Value.int 421 0, Value.int 170 0, Value.str (Str.ofString "/claim/cut.py") 422]) #[]) ::
    (nat_lit 208, fnO (stOf 16) (Str.ofString "_law_text") 3 [] Value.none Value.none Value.none (Value.str (Str.ofString "law_xj0021_01") 397) none (Value.ref 207) Value.none 0) ::
    (nat_lit 209, Obj.mk (Value.type "tuple") none (Data.seq #[]) #[]) ::
    (nat_lit 211, Obj.mk (Value.type "tuple") none (Data.seq #[Value.str (Str.ofString "text") 427, Value.str (Str.ofString "stream") 428]) #[]) ::
    (nat_lit 212, Obj.mk (Value.type "tuple") none (Data.seq #[Value.str (Str.ofString "signs") 429]) #[]) ::
    (nat_lit 214, Obj.mk (Value.type "code") none (Data.fields #[Value.str (Str.ofString "_law_lexer") 424, Value.str (Str.ofString "_law_lexer") 425, Value.str (Str.ofString "/claim/cut.py") 426, Value.int 179 0, Value.int 1 0, Value.int 0 0, Value.int 0 0, Value.int 3 0, Value.ref 209, Value.bool true, Value.int 181 0, Value.ref 210, Value.none, Value.ref 211, Value.ref 212, Value.ref 213, Value.int 430 0, Value.int 179 0, Value.str (Str.ofString "/claim/cut.py") 431]) #[]) ::
    (nat_lit 215, fnO (stOf 17) (Str.ofString "_law_lexer") 3 [] Value.none Value.none Value.none (Value.str (Str.ofString "law_xj0021_01") 397) none (Value.ref 214) Value.none 0) ::
    (nat_lit 216, Obj.mk (Value.type "tuple") none (Data.seq #[]) #[]) ::
    (nat_lit 218, Obj.mk (Value.type "tuple") none (Data.seq #[]) #[]) ::
    (nat_lit 219, Obj.mk (Value.type "tuple") none (Data.seq #[]) #[]) ::
    (nat_lit 221, Obj.mk (Value.type "code") none (Data.fields #[Value.str (Str.ofString "_law_hands") 433, Value.str (Str.ofString "_law_hands") 434, Value.str (Str.ofString "/claim/cut.py") 435, Value.int 185 0, Value.int 0 0, Value.int 0 0, Value.int 0 0, Value.int 3 0, Value.ref 216, Value.bool true, Value.int 181 0, Value.ref 217, Value.none, Value.ref 218, Value.ref 219, Value.ref 220, Value.int 436 0, Value.int 185 0, Value.str (Str.ofString "/claim/cut.py") 437]) #[]) ::
    (nat_lit 222, fnO (stOf 18) (Str.ofString "_law_hands") 3 [] Value.none Value.none Value.none (Value.str (Str.ofString "law_xj0021_01") 397) none (Value.ref 221) Value.none 0) ::
    (nat_lit 223, Obj.mk (Value.type "tuple") none (Data.seq #[]) #[]) ::
    (nat_lit 226, Obj.mk (Value.type "code") none (Data.fields #[Value.str (Str.ofString "_law_mate") 439, Value.str (Str.ofString "_law_mate") 440, Value.str (Str.ofString "/claim/cut.py") 441, Value.int 187 0, Value.int 3 0, Value.int 0 0, Value.int 0 0, Value.int 3 0, Value.ref 223, Value.bool true, Value.int 181 0, Value.ref 224, Value.none, Value.none, Value.none, Value.ref 225, Value.int 442 0, Value.int 187 0, Value.str (Str.ofString "/claim/cut.py") 443]) #[]) ::
    (nat_lit 227, fnO (stOf 19) (Str.ofString "_law_mate") 3 [] Value.none Value.none Value.none (Value.str (Str.ofString "law_xj0021_01") 397) none (Value.ref 226) Value.none 0) ::
    (nat_lit 228, Obj.mk (Value.type "tuple") none (Data.seq #[]) #[]) ::
    (nat_lit 230, Obj.mk (Value.type "tuple") none (Data.seq #[Value.str (Str.ofString "lexer") 448, Value.str (Str.ofString "write") 449, Value.str (Str.ofString "pile") 450, Value.str (Str.ofString "log") 451, Value.str (Str.ofString "turn") 452, Value.str (Str.ofString "word") 453, Value.str (Str.ofString "blanks") 454, Value.str (Str.ofString "top") 455]) #[]) ::
    (nat_lit 231, Obj.mk (Value.type "tuple") none (Data.seq #[]) #[]) ::
    (nat_lit 233, Obj.mk (Value.type "code") none (Data.fields #[Value.str (Str.ofString "_law_turn") 445, Value.str (Str.ofString "_law_turn") 446, Value.str (Str.ofString "/claim/cut.py") 447, Value.int 191 0, Value.int 2 0, Value.int 0 0, Value.int 0 0, Value.int 3 0, Value.ref 228, Value.bool true, Value.int 181 0, Value.ref 229, Value.none, Value.ref 230, Value.ref 231, Value.ref 232, Value.int 456 0, Value.int 191 0, Value.str (Str.ofString "/claim/cut.py") 457]) #[]) ::
    (nat_lit 234, fnO (stOf 20) (Str.ofString "_law_turn") 3 [] Value.none Value.none Value.none (Value.str (Str.ofString "law_xj0021_01") 397) none (Value.ref 233) Value.none 0) ::
    (nat_lit 235, Obj.mk (Value.type "tuple") none (Data.seq #[]) #[]) ::
    (nat_lit 237, Obj.mk (Value.type "tuple") none (Data.seq #[Value.str (Str.ofString "place") 462, Value.str (Str.ofString "opens") 463, Value.str (Str.ofString "heights") 464, Value.str (Str.ofString "mates") 465, Value.str (Str.ofString "order") 466, Value.str (Str.ofString "texts") 467, Value.str (Str.ofString "rank") 468, Value.str (Str.ofString "due") 469, Value.str (Str.ofString "k") 470, Value.str (Str.ofString "one") 471, Value.str (Str.ofString "mate") 472, Value.str (Str.ofString "takes") 473, Value.str (Str.ofString "blanks") 474]) #[]) ::
    (nat_lit 238, Obj.mk (Value.type "tuple") none (Data.seq #[]) #[]) ::
    (nat_lit 240, Obj.mk (Value.type "code") none (Data.fields #[Value.str (Str.ofString "_law_due") 459, Value.str (Str.ofString "_law_due") 460, Value.str (Str.ofString "/claim/cut.py") 461, Value.int 207 0, Value.int 6 0, Value.int 0 0, Value.int 0 0, Value.int 3 0, Value.ref 235, Value.bool true, Value.int 181 0, Value.ref 236, Value.none, Value.ref 237, Value.ref 238, Value.ref 239, Value.int 475 0, Value.int 207 0, Value.str (Str.ofString "/claim/cut.py") 476]) #[]) ::
    (nat_lit 241, fnO (stOf 21) (Str.ofString "_law_due") 3 [] Value.none Value.none Value.none (Value.str (Str.ofString "law_xj0021_01") 397) none (Value.ref 240) Value.none 0) ::
    (nat_lit 242, Obj.mk (Value.type "tuple") none (Data.seq #[]) #[]) ::
    (nat_lit 245, Obj.mk (Value.type "code") none (Data.fields #[Value.str (Str.ofString "law") 478, Value.str (Str.ofString "law") 479, Value.str (Str.ofString "/claim/cut.py") 480, Value.int 221 0, Value.int 1 0, Value.int 0 0, Value.int 0 0, Value.int 3 0, Value.ref 242, Value.bool true, Value.int 181 0, Value.ref 243, Value.none, Value.none, Value.none, Value.ref 244, Value.int 481 0, Value.int 221 0, Value.str (Str.ofString "/claim/cut.py") 482]) #[]) ::
    (nat_lit 246, fnO (stOf 22) (Str.ofString "law") 3 [] Value.none Value.none Value.none (Value.str (Str.ofString "law_xj0021_01") 397) none (Value.ref 245) Value.none 0) :: []
noncomputable abbrev KAs : List Addr := [2, 3, 15, 17, 18, 20, 21, 29, 31, 32, 34, 35, 36, 38, 39, 41, 42, 43, 45, 46, 48, 49, 50, 52, 53, 55, 56, 57, 58, 59, 60, 61, 64, 67, 72, 73, 74, 76, 77, 79, 80, 81, 83, 84, 86, 87, 88, 89, 91, 92, 94, 95, 96, 97, 99, 100, 102, 103, 104, 106, 107, 109, 110, 111, 113, 114, 116, 117, 118, 119, 121, 122, 124, 125, 126, 128, 129, 131, 132, 133, 134, 136, 137, 139, 140, 141, 142, 143, 144, 145, 148, 150, 151, 153, 154, 155, 157, 158, 160, 161, 162, 164, 165, 167, 168, 169, 171, 172, 174, 175, 176, 178, 179, 181, 182, 183, 185, 186, 188, 189, 190, 192, 193, 195, 196, 197, 199, 200, 202, 203, 204, 207, 208, 209, 211, 212, 214, 215, 216, 218, 219, 221, 222, 223, 226, 227, 228, 230, 231, 233, 234, 235, 237, 238, 240, 241, 242, 245, 246]
noncomputable abbrev kHk : Hook := kmHook KH KAs (fun _ => by kernel_rfl) [210, 243]
noncomputable def view : Program := { PySem.Challenge.pw_xj0021_01 with main := { PySem.Challenge.pw_xj0021_01.main with body := [0, 2, 4, 5, 7, 8, 9, 10, 11, 12, 14, 15, 16, 17, 18, 19, 20, 21, 22].map stOf } }
noncomputable abbrev rwW := OpenRow.toRowW (OpenLaw.row PySem.Challenge.rw_xj0021_01)
theorem said : OpenLaw.wellSaid PySem.Challenge.rw_xj0021_01 = true := by kernel_rfl
theorem left : LeftO (RowW.prog rwW) view ["_Accumulator"] (fun s => xlAt view [] s && recOk (RowW.records rwW) s) (Hook.obs kHk) (Hook.val kHk) 2828 := fun w => by kernel_rfl
theorem fill : (PySem.Challenge.rw_xj0021_01, KH) = (PySem.Challenge.rw_xj0021_01, KH) := by k_fill; rfl
end Mine

-- AMLines
section
open PySem PySem.W PyProof.Rows PySem.Spec PySem.Calls Builtin Builtin.ObjectAttr
namespace Mine
/-- one-sign texts -/
inductive Chrs : List Value → List Nat → Prop
  | nil : Chrs [] []
  | cons {c : Nat} {t : Tok} {vs : List Value} {cs : List Nat} : Chrs vs cs → Chrs (Value.str ⟨#[c]⟩ t :: vs) (c :: cs)
theorem Chrs.length {vs : List Value} {cs : List Nat} (h : Chrs vs cs) : vs.length = cs.length := by
  induction h with
  | nil => rfl
  | cons _ ih => simp [ih]
theorem Chrs.append {vs ws : List Value} {cs ds : List Nat} (h : Chrs vs cs) (k : Chrs ws ds) : Chrs (vs ++ ws) (cs ++ ds) := by
  induction h with
  | nil => exact k
  | cons _ ih => exact .cons ih
theorem Chrs.reverse {vs : List Value} {cs : List Nat} (h : Chrs vs cs) : Chrs vs.reverse cs.reverse := by
  induction h with
  | nil => exact .nil
  | cons h ih => simp only [List.reverse_cons]; exact ih.append (.cons .nil)
theorem Chrs.snoc {vs : List Value} {cs : List Nat} {c : Nat} (h : Chrs vs (cs ++ [c])) : ∃ ws t, vs = ws ++ [Value.str ⟨#[c]⟩ t] ∧ Chrs ws cs := by
  have := h.reverse
  simp only [List.reverse_append, List.reverse_cons, List.reverse_nil, List.nil_append, List.singleton_append] at this
  generalize hv : vs.reverse = us at this
  cases this with
  | cons r =>
    rename_i t us
    refine ⟨us.reverse, t, ?_, by simpa using r.reverse⟩
    have : vs = (vs.reverse).reverse := by simp
    rw [this, hv]; simp
theorem chrs_of_items {xs : Array Value} : ∀ (cs : List Nat) (vs : List Value), vs.length = cs.length → (∀ (j : Nat) (v : Value), vs[j]? = some v → ∃ c u, cs[j]? = some c ∧ v = Value.str ⟨#[c]⟩ u) → Chrs vs cs
  | [], [], _, _ => .nil
  | [], _ :: _, h, _ => by simp at h
  | _ :: _, [], h, _ => by simp at h
  | c :: cs, v :: vs, hl, h => by
    obtain ⟨c', u, e, rfl⟩ := h 0 v rfl
    simp only [List.getElem?_cons_zero, Option.some.injEq] at e
    subst e
    exact .cons (chrs_of_items (xs := xs) cs vs (by simpa using hl) fun j v e => by simpa using h (j + 1) v (by simpa using e))

section
variable {prog : Program} {w : World} {A : Around} {E : Value → Shared → Prop} {s : Shared} {h₀ : Heap} {L : Addr} {m : Str → Option Value} {news news' : Cells} {Q : Value → Shared → Prop}
theorem list_strK {x : Str} {t : Tok} (hh : A.handled = none) (F : Fr h₀ L s.heap m) (N : News h₀ L s.heap news) (hn : x.cps.size ≤ sizeLine)
    (h : ∀ l h' tk ys c, Chrs ys x.cps.toList → Fr h₀ L h' m → News h₀ L h' ((l, W.listOf ys.toArray c) :: news) → (∀ p ∈ news, p.1 < l) → Q (.ref l) { s with heap := h', toks := tk }) :
    wpAny (model prog w) A (call (.type "list") [.str x t]) Q E s := by
  refine call_list_str hh x t (hn := hn) fun h' tk acc' c' hk hS' hacc => ?_
  obtain ⟨F', N', l'⟩ := ks_newsPush (s := s) (q := s.heap.objs.size) F N rfl hS' hk
  refine h _ h' tk acc'.toList c' (chrs_of_items (xs := acc') _ _ (by simpa using hacc.1) fun j v e => ?_) F' (by simpa using N') l'
  obtain ⟨c, u, hc, rfl⟩ := hacc.2 j v (by simpa using e)
  exact ⟨c, u, by simpa using hc, rfl⟩
theorem reverseK {D : Addr} {ys : List Value} {n : Nat} (F : Fr h₀ L s.heap m) (N : News h₀ L s.heap news) (U : Upd D (W.listOf ys.toArray n) (W.listOf ys.reverse.toArray n) news news') (hz : ys.length ≤ sizeLine)
    (h : ∀ h', Fr h₀ L h' m → News h₀ L h' news' → Q .none { s with heap := h' }) : wpAny (model prog w) A (call (.builtin "list.reverse") [.ref D]) Q E s :=
  kl_reverse F N rfl U hz h
end
theorem fn_slot_sa : Slot "function" "__setattr__" "object.__setattr__" := .of (owner := "object") (n := "__setattr__") (by rw [typeLookup_type, builtinLookup_eq_fast]; kernel_rfl) (by decide +kernel) (by decide +kernel) (by decide +kernel)
    (by first | exact .inl (by decide +kernel) | exact .inr (by decide +kernel)) (by rw [isSubtype_type]; kernel_rfl)
theorem fn_mro : mroOf (.type "function") = pure [.type "function", .type "object"] := by kernel_rfl
theorem fn_refuse (self : Value) : refuseLoop self "__setattr__" [.type "function", .type "object"] = pure () := by kernel_rfl
theorem fn_read : typeLookup (.type "function") "read" = pure none := by rw [typeLookup_type, builtinLookup_eq_fast]; kernel_rfl
theorem fn_hasDict : typeHasDict (.type "function") = true := by kernel_rfl
theorem fn_notAlone : finalisedInACycleAlone "function" = false := by kernel_rfl
noncomputable abbrev fnObj (d : Option Addr) (fd : FuncData) : Obj := ⟨.type "function", d, .func fd, #[]⟩
section
variable {prog : Program} {w : World} {A : Around} {E : Value → Shared → Prop} {s : Shared} {h₀ : Heap} {L f : Addr} {m : Str → Option Value} {news : Cells} {g : Obj → Cells} {fd : FuncData} {name : Str} {v : Value}
theorem setFn {Q : Unit → Shared → Prop} (hn : typeLookup (.type "function") name = pure none) (F : Fr h₀ L s.heap m) (N : News h₀ L s.heap news) (U : UpdF f (fnObj none fd) news g)
    (h : ∀ d h' tk t, Fr h₀ L h' m → News h₀ L h' ((d, dictOf [⟨PyData.keyHash w.params name, .str name t, v⟩] 1) :: g (fnObj (some d) fd)) → (∀ p ∈ news, p.1 < d) → Q () { s with heap := h', toks := tk }) :
    wpAny (model prog w) A (setAttr (.ref f) name v) Q E s := by
  obtain ⟨pre, post, rfl, hg, u1, u2⟩ := U.split
  have hf := (N (f, fnObj none fd) (List.mem_append_right _ (.head _))).1
  have ty : ∀ {hh : Heap}, hh.get? f = some (fnObj none fd) → Looks (model prog w) hh (typeOf (.ref f)) (.type "function") := fun e => (Looks.ld (part := some headPart) e).andThen .now
  have T0 := ty hf
  obtain ⟨hh, gg, dd, tt, os⟩ := s
  have sub : Looks (model prog w) hh (isInstance (.ref f) (.type "object")) true := T0.andThen (Looks.of_pure (by rw [isSubtype_type]; kernel_rfl))
  have SF := PySem.F.store_object
  have key : codeAny (model prog w) A (.call (.builtin "object.__setattr__") ⟨[.ref f, .str name tt, v], []⟩) (fun r s' => match r with | .ok (.ret _) => Q () s' | .ok _ => False | .error e => E e s') ⟨hh, gg, dd, tt + 1, os⟩ := by
    refine codeAny_call_builtin SF.slot.plain SF.entry (@check_slot (model prog w) _ _ _ "object.__setattr__" "object" "__setattr__" (.ref f) [.str name tt, v] [] _ SF.kind SF.split sub (SF.args (.ref f) (.str name tt) v) ?_)
    rw [osa_eq, refuse_eq]
    refine wpAny_bind (wpAny_bind (T0.at (wpAny_bind ((Looks.of_pure fn_mro).at ?_))))
    rw [fn_refuse]
    refine wpAny_pure (wpAny_bind (T0.at (wpAny_bind ((Looks.of_pure hn).at (wpAny_bind (wpAny_pure ?_))))))
    show wpAny _ _ (storeInOwnDict (.ref f) (.type "function") (.str name tt) name v false) _ _ _
    have D0 : (hh.push { cls := .type "dict", data := .dict #[] }).get? f = some (fnObj none fd) := Heap.get?_push_of_some _ hf
    have fne : f ≠ hh.objs.size := Nat.ne_of_lt (Heap.lt_size hf)
    refine wpAny_bind (wpAny_pure (wpAny_bind ?_))
    show wpAny _ _ (instanceDict f true) _ _ _
    unfold instanceDict
    refine wpAny_bind (wpAny_loadPart hf ?_)
    dsimp only
    rw [fn_hasDict]
    refine wpAny_bind (wpAny_alloc ?_)
    refine wpAny_bind (wpAny_update D0 ?_)
    have H2 : ((hh.push { cls := .type "dict", data := .dict #[] }).update f fun o => { cls := o.cls, dict := some hh.objs.size, data := o.data, slots := o.slots }).get? hh.objs.size = some (dictOf [] 0) :=
      (Heap.get?_update_ne _ _ _ _ fne.symm).trans (Heap.get?_push_at rfl rfl)
    have H3 : ((hh.push { cls := .type "dict", data := .dict #[] }).update f fun o => { cls := o.cls, dict := some hh.objs.size, data := o.data, slots := o.slots }).get? f = some (fnObj (some hh.objs.size) fd) :=
      Heap.get?_update_self _ D0 rfl
    have F1 : Fr h₀ L (hh.push { cls := .type "dict", data := .dict #[] }) m := F.push _
    have N1 : News h₀ L (hh.push { cls := .type "dict", data := .dict #[] }) ((hh.objs.size, dictOf [] 0) :: (pre ++ (f, fnObj none fd) :: post)) := N.push F _
    have lo : ∀ p ∈ pre ++ (f, fnObj none fd) :: post, p.1 < hh.objs.size := fun p hp => Heap.lt_size (N p hp).1
    obtain ⟨F2, N2⟩ := news_upd (pre := (hh.objs.size, dictOf [] 0) :: pre) (f := fun o => { cls := o.cls, dict := some hh.objs.size, data := o.data, slots := o.slots }) (o' := fnObj (some hh.objs.size) fd) F1 N1 (fun p hp => by
      rcases List.mem_cons.mp hp with rfl | hp
      · exact fne.symm
      · exact u1 p hp) u2 rfl rfl
    generalize (hh.push { cls := .type "dict", data := .dict #[] }).update f (fun o => { cls := o.cls, dict := some hh.objs.size, data := o.data, slots := o.slots }) = h3 at *
    unfold dictMade
    dsimp only
    rw [fn_notAlone]
    refine wpAny_bind (wpAny_pure (wpAny_pure ?_))
    show wpAny _ _ (storeInDict hh.objs.size (.str name tt) name v) _ _ _
    refine wpAny_bind (wpAny_pure (wpAny_bind ?_))
    unfold nsSet
    refine wpAny_bind (wpAny_bind (wpAny_askSetting (wpAny_pure (wpAny_bind (wpAny_mkText (wpAny_bind (wpAny_loadPart H2 ?_)))))))
    have PN : Obj.putName name (PyData.keyHash w.params name) (.str name (tt + 1)) v (dictOf [] 0) = dictOf [⟨PyData.keyHash w.params name, .str name (tt + 1), v⟩] 1 := putName_dict ..
    obtain ⟨F3, N3⟩ := news_upd (pre := []) (f := Obj.putName name (PyData.keyHash w.params name) (.str name (tt + 1)) v) F2 N2 (fun p hp => nomatch hp) (fun p hp => by
      rcases List.mem_append.mp hp with hp | hp
      · exact Nat.ne_of_lt (lo p (List.mem_append_left _ hp))
      · rcases List.mem_cons.mp hp with rfl | hp
        · exact fne
        · exact Nat.ne_of_lt (lo p (List.mem_append_right _ (.tail _ hp)))) PN rfl
    have H4 := (N3 (hh.objs.size, _) (.head _)).1
    dsimp only
    rw [show aRefKeyMayBeTheName name ([] : List DictEntry).toArray = false from by rw [aRefKeyMayBeTheName_at]; simp]
    refine wpAny_updatePart H2 ?_
    refine wpAny_bind (wpAny_lookBehind H4 (pastItsLine_dict (by rw [sizeLine_eq]; show 1 ≤ _; omega)) ?_)
    refine wpAny_pure ?_
    refine h hh.objs.size _ _ (tt + 1) F3 ?_ lo
    rw [hg]
    exact N3
  refine wpAny_bind (wpAny_mkText ?_)
  refine wpAny_bind (wpAny_bind (wpAny_bind (T0.at ((Looks.of_pure fn_slot_sa.lookup).at (wpAny_holding ?_)))))
  rw [fn_slot_sa.bind]
  refine wpAny_bind (wpAny_pure (wpAny_bind (wpAny_call (codeAny_mono key fun r s' z => ?_))))
  rcases r with e | (v | _ | _ | _) <;> first | exact z | exact wpAny_pure (wpAny_pure z)
end
theorem fn_slot_ga : Slot "function" "__getattribute__" "object.__getattribute__" := .of (owner := "object") (n := "__getattribute__") (by rw [typeLookup_type, builtinLookup_eq_fast]; kernel_rfl) (by decide +kernel) (by decide +kernel) (by decide +kernel)
    (by first | exact .inl (by decide +kernel) | exact .inr (by decide +kernel)) (by rw [isSubtype_type]; kernel_rfl)
theorem fn_getattr : typeLookup (.type "function") "__getattr__" = pure none := by rw [typeLookup_type, builtinLookup_eq_fast]; kernel_rfl
theorem entry_oga : entryFor table "object.__getattribute__" = some Builtin.«object.__getattribute__» := entryFor_of_tree (by kernel_rfl)
theorem args_oga (a b : Value) : argsOk "object.__getattribute__" ⟨[a, b], []⟩ := by unfold argsOk; kernel_rfl
section
variable {prog : Program} {w : World} {A : Around} {E : Value → Shared → Prop} {s : Shared} {h₀ : Heap} {L f d : Addr} {m : Str → Option Value} {news : Cells} {fd : FuncData} {name : Str} {v : Value} {es : List DictEntry} {n : Nat}
theorem getFn {Q : Value → Shared → Prop} {expr : Bool} (hn : typeLookup (.type "function") name = pure none) (N : News h₀ L s.heap news) (hm : (f, fnObj (some d) fd) ∈ news) (hd : (d, dictOf es n) ∈ news) (hl : getL name es = some (some v)) (hv : handedIn v = true)
    (h : Q v { s with toks := s.toks + 1 }) : wpAny (model prog w) A (getAttr (.ref f) name expr) Q E s := by
  obtain ⟨hh, gg, dd, tt, os⟩ := s
  have hf := (N _ hm).1
  have hdd := (N _ hd).1
  have T0 : Looks (model prog w) hh (typeOf (.ref f)) (.type "function") := (Looks.ld (part := some headPart) hf).andThen .now
  have L2 : Looks (model prog w) hh (nsGet d name) (some v) := (Looks.ld hdd).andThen (Looks.of_pure (nsLook_of (by rw [lookIn_dict]; exact hl)))
  have L3 : Looks (model prog w) hh (inOwnDict name (.ref f)) (some v) := by
    refine Looks.andThen (a := some d) ?_ L2
    refine (Looks.ld (part := some headPart) hf).andThen ?_
    exact (Looks.ld (part := some headPart) hf).andThen .now
  have L1 : Looks (model prog w) hh (find (.ref f) (.type "function") name) (.value v) := by
    refine (Looks.of_pure hn).andThen (Looks.now.andThen (Looks.now.andThen ?_))
    exact L3.andThen (Looks.tag .now)
  unfold getAttr getAttrBy
  refine wpAny_bind (wpAny_mkText (wpAny_holding (wpAny_bind (T0.at (wpAny_bind ((Looks.of_pure fn_slot_ga.lookup).at ?_))))))
  show wpAny _ _ (getAttrByItsOwn (.ref f) (.str name tt) (.type "function") (.builtin "object.__getattribute__") true expr) _ _ _
  unfold getAttrByItsOwn
  refine wpAny_bind (wpAny_pure (wpAny_bind (wpAny_attempt (wpAny_holding ?_))))
  have key : codeAny (model prog w) A (.call (.builtin "object.__getattribute__") ⟨[.ref f, .str name tt], []⟩) (fun r s' => match r with | .ok (.ret v) => wpAny (model prog w) A (handedOut v) Q E s' | .ok _ => False | .error e => False) ⟨hh, gg, dd, tt + 1, os⟩ := by
    refine codeAny_call_builtin fn_slot_ga.plain entry_oga (fn_slot_ga.check _ _ _ _ _ _ _ _ ⟨_, hf, rfl⟩ (args_oga _ _) ?_)
    refine wpAny_bind (wpAny_pure (wpAny_bind (wpAny_pure (wpAny_bind (T0.at (wpAny_bind (L1.at (wpAny_pure ?_))))))))
    show wpAny (model prog w) A (handedOut v) Q E _
    rw [handedOut_of hv]
    exact wpAny_pure h
  have ce : callGetattribute (.ref f) (.str name tt) (.builtin "object.__getattribute__") expr = boundAndCalled (.builtin "object.__getattribute__") (.ref f) (.str name tt) := by
    unfold callGetattribute; cases expr <;> rfl
  rw [ce]
  unfold boundAndCalled
  rw [fn_slot_ga.bind]
  refine wpAny_bind (wpAny_pure (wpAny_call (codeAny_mono key fun r s' z => ?_)))
  rcases r with e | (v | _ | _ | _) <;> first | exact z | exact z.elim
theorem methFn {Q : Value × List Value → Shared → Prop} {pl : Sem Bool} (hn : typeLookup (.type "function") name = pure none) (N : News h₀ L s.heap news) (hm : (f, fnObj (some d) fd) ∈ news) (hd : (d, dictOf es n) ∈ news) (hl : getL name es = some (some v)) (hv : handedIn v = true)
    (h : Q (v, []) { s with toks := s.toks + 1 }) : wpAny (model prog w) A (getMethod (.ref f) name pl) Q E s := by
  have hf := (N _ hm).1
  have T0 : Looks (model prog w) s.heap (typeOf (.ref f)) (.type "function") := (Looks.ld (part := some headPart) hf).andThen .now
  refine wpAny_bind (wpAny_bind (T0.here ((Looks.of_pure fn_slot_ga.lookup).here ?_)))
  show wpAny _ _ (if (Manifest.canonical "object.__getattribute__" != "object.__getattribute__") = true then _ else _) _ _ _
  rw [show (Manifest.canonical "object.__getattribute__" != "object.__getattribute__") = false from by decide +kernel]
  refine wpAny_bind (wpAny_bind (T0.here ((Looks.of_pure fn_getattr).here ?_)))
  refine wpAny_bind (wpAny_bind (T0.here ((Looks.of_pure hn).here ?_)))
  exact wpAny_bind (getFn hn N hm hd hl hv (wpAny_pure h))
end
theorem offNe {own rest : Cells} {a b : Addr} {oa ob : Obj} (h : ∀ p ∈ own, ∀ q ∈ rest, p.1 ≠ q.1) (ha : (a, oa) ∈ own) (hb : (b, ob) ∈ rest) : a ≠ b := h _ ha _ hb
/-- addresses apart -/
noncomputable def AllNe (a : Addr) : List Addr → Prop
  | [] => True
  | b :: l => a ≠ b ∧ AllNe a l
noncomputable def Apart : List Addr → Prop
  | [] => True
  | a :: l => AllNe a l ∧ Apart l
theorem AllNe.of {a : Addr} : ∀ {l : List Addr}, AllNe a l → ∀ b ∈ l, a ≠ b
  | _ :: _, h, _, .head _ => h.1
  | _ :: _, h, _, .tail _ hm => h.2.of _ hm
theorem AllNe.to {a : Addr} : ∀ {l : List Addr}, (∀ b ∈ l, a ≠ b) → AllNe a l
  | [], _ => trivial
  | _ :: _, h => ⟨h _ (.head _), AllNe.to fun b hb => h b (.tail _ hb)⟩
theorem under_make (dp un : Nat) (gd : Option (List Code)) (fr : List Env) (C : Addr) (pos : List Value) : (arT dp un gd fr).under (.builtin "type.__call__" ⟨.ref C :: pos, []⟩) = arT (dp + 1) (un + 1) gd fr := rfl
section
variable {prog : Program} {w : World} {K : Frag} {k : Nat} {E : Value → Shared → Prop} {s : Shared} {h₀ : Heap} {L : Addr} {m : Str → Option Value} {news own rest : Cells} {Q : Value → Shared → Prop} {dp un : Nat} {gd : Option (List Code)} {fr : List Env} {C fI : Addr} {pos : List Value}
/-- an object of a class of the text's, by its __init__'s contract -/
theorem useMake {res : Addr → Addr → Value → Cells → Prop} (D : ∀ x dx : Addr, x ≠ dx → (∀ p ∈ own, p.1 ≠ x ∧ p.1 ≠ dx) → Does K prog w k fI (.ref x :: pos) ((x, instObj C dx) :: (dx, dictOf [] 0) :: own) (res x dx)) (hnone : ∀ x dx v own', res x dx v own' → v = .none)
    (F : Fr h₀ L s.heap m) (N : News h₀ L s.heap news) (G : Gd K h₀) (ho : ∀ p ∈ own, p ∈ news) (hr : ∀ p ∈ rest, p ∈ news) (hd : ∀ p ∈ own, ∀ q ∈ rest, p.1 ≠ q.1)
    (hm : makesIn K C = true) (hi : findIn K (.ref C) "__init__" = some (some (.ref fI))) (hf : isFn K (.ref fI) = true) (hdp : dp + (k + 1) < recursionLimit) (hun : un + 20 * k + 1 < cLine)
    (h : ∀ x dx h' tk own', res x dx .none own' → Fr h₀ L h' m → News h₀ L h' (own' ++ rest) → (∀ p ∈ own', ∀ q ∈ rest, p.1 ≠ q.1) → Q (.ref x) { s with heap := h', toks := tk }) :
    wpAny (model prog w) (arT dp un gd fr) (call (.ref C) pos) Q E s := by
  refine call_cls F G.X N hm hi hf fun x dx h' F' N' lo hlt => ?_
  rw [under_make]
  have nx : ∀ p ∈ news, p.1 ≠ x ∧ p.1 ≠ dx := fun p hp => ⟨Nat.ne_of_lt (Nat.lt_trans (lo p hp) hlt), Nat.ne_of_lt (lo p hp)⟩
  refine useCode (own := (x, instObj C dx) :: (dx, dictOf [] 0) :: own) (rest := rest) (D x dx (Nat.ne_of_gt hlt) fun p hp => nx p (ho p hp)) F' N' G (fun p hp => ?_) (fun p hp => .tail _ (.tail _ (hr p hp))) (fun p hp q hq => ?_) (by omega) (by omega) (fun v h'' tk own' hv F'' N'' hd'' => ?_)
  · rcases List.mem_cons.mp hp with rfl | hp
    · exact .head _
    · rcases List.mem_cons.mp hp with rfl | hp
      · exact .tail _ (.head _)
      · exact .tail _ (.tail _ (ho p hp))
  · rcases List.mem_cons.mp hp with rfl | hp
    · exact fun e => (nx q (hr q hq)).1 e.symm
    · rcases List.mem_cons.mp hp with rfl | hp
      · exact fun e => (nx q (hr q hq)).2 e.symm
      · exact hd p hp q hq
  · obtain rfl := hnone _ _ _ _ hv
    exact ⟨rfl, h x dx h'' tk own' hv F'' N'' hd''⟩
end
section
variable {prog : Program} {w : World} {A : Around} {E : Value → Shared → Prop} {s : Shared} {h₀ : Heap} {L D : Addr} {m : Str → Option Value} {news news' : Cells} {n : Nat} {vs : List Value} {v : Value}
theorem popLastK {Q : Value → Shared → Prop} (F : Fr h₀ L s.heap m) (N : News h₀ L s.heap news) (U : Upd D (W.listOf (vs ++ [v]).toArray n) (W.listOf vs.toArray (n + 1)) news news') (hz : vs.length < 16000000)
    (h : ∀ h', Fr h₀ L h' m → News h₀ L h' news' → Q v { s with heap := h' }) : wpAny (model prog w) A (call (.builtin "list.pop") [.ref D]) Q E s := by
  refine kl_pop (p := vs) (y := v) F N ?_ U (by rw [sizeLine_eq]; simp; omega) h
  show kl_last (vs ++ [v]) = some (vs, v)
  clear U hz h
  induction vs with
  | nil => rfl
  | cons x r ih =>
    show kl_last (x :: (r ++ [v])) = _
    unfold kl_last
    rw [ih]
theorem popFirstK {u : Tok} {Q : Value → Shared → Prop} (F : Fr h₀ L s.heap m) (N : News h₀ L s.heap news) (U : Upd D (W.listOf (v :: vs).toArray n) (W.listOf vs.toArray (n + 1)) news news') (hz : vs.length < 16000000)
    (h : ∀ h', Fr h₀ L h' m → News h₀ L h' news' → Q v { s with heap := h' }) : wpAny (model prog w) A (call (.builtin "list.pop") [.ref D, .int 0 u]) Q E s :=
  kl_popAt (k := 0) (p := []) (q := vs) (y := v) F N rfl (by unfold seqIndex?; simp) rfl U (by rw [sizeLine_eq]; simp; omega) h
theorem truthyK {b : Bool} {its : Array Value} {Q : Bool → Shared → Prop} (N : News h₀ L s.heap news) (hm : (D, W.listOf its n) ∈ news) (hb : (!its.isEmpty) = b) (hz : its.size < 16000000)
    (h : Q b { s with toks := s.toks + 1 + 1 }) : wpAny (model prog w) A (truthy (.ref D)) Q E s := by
  subst hb
  exact wpAny_truthy_list ⟨_, (N _ hm).1, rfl, n, rfl⟩ (by omega) h
end
section
variable {prog : Program} {w : World} {A : Around} {E : Value → Shared → Prop} {s : Shared} {x y : Str} {t u : Tok} {b : Bool} {Q : Value → Shared → Prop}
theorem eqStrK (e : (x == y) = b) (h : Q (.bool b) s) : wpAny (model prog w) A (compareOp .Eq (.str x t) (.str y u)) Q E s := PyProof.Rows.eq_str (by rw [e]; exact h)
theorem inStrK (e : (!(Builtin.Str.occurrences x y 0 x.length 1).isEmpty) = b) (h : Q (.bool b) s) : wpAny (model prog w) A (compareOp .In (.str y u) (.str x t)) Q E s := PyProof.Rows.in_str (by rw [e]; exact h)
end
end Mine
end
open Mine
local macro_rules | `(tactic| walk_at "call type:list") => `(tactic| (k_here; (with_reducible show wpAny _ _ (call (Value.type "list") [Value.str _ _]) _ _ _); (refine Mine.list_strK rfl (by k_asm) (by k_asm) (by assumption) ?_); intro l' h' tk' ys' c' hc' F' N' l1; (try k_lt l1); (try k_sweep)))
local macro_rules | `(tactic| walk_at "call builtin:list.reverse") => `(tactic| (k_here; (with_reducible show wpAny _ _ (call (Value.builtin _) [Value.ref _]) _ _ _); k_dflt (refine' Mine.reverseK ?F ?N ?U ?z ?_; (case F => k_asm); (case N => k_asm); (case U => k_upd); (case z => first | assumption | (simp only [Mine.Chrs.length (by assumption), Array.length_toList]; assumption))); (intro h' F' N'; (try k_sweep))))
local macro_rules | `(tactic| walk_at "storeName") => `(tactic| (k_here; k_dflt ((refine' storeX_C ?F ?N ?c ?U ?d ?_ ?a ?b; (case a => rfl); (case b => rfl); (case F => k_asm); (case N => k_asm); (case c => rfl); (case U => k_updF); (case d => k_asm); k_whole; intro h' o' F' N' d'; (try simp only [List.append_eq, List.cons_append, List.nil_append] at N'); (try k_sweep)))))
local macro_rules | `(tactic| walk_at "setAttr ref") => `(tactic| (k_here; (with_reducible show wpAny _ _ (setAttr (Value.ref _) (Str.ofString "read") _) _ _ _); k_dflt (refine' Mine.setFn Mine.fn_read ?F ?N ?U ?_; (case F => k_asm); (case N => k_asm); (case U => k_updF); k_whole); intro d' h' tk' t' F' N' l1; (try simp only [List.append_eq, List.cons_append, List.nil_append] at N'); (try k_lt l1); (try k_sweep)))
local macro_rules | `(tactic| walk_at "getMethod ref") => `(tactic| (k_here; (with_reducible show wpAny _ _ (getMethod (Value.ref _) (Str.ofString "read") _) _ _ _); k_dflt (refine' Mine.methFn Mine.fn_read ?N ?m ?d ?l ?v ?_; (case N => k_asm); (case m => k_mem); (case d => k_mem); (case l => k_get); (case v => k_handed); k_whole)))
local macro_rules | `(tactic| walk_at "truthy ref") => `(tactic| (k_here; (with_reducible show wpAny _ _ (truthy (Value.ref _)) _ _ _); k_dflt (first
  | (refine' Mine.truthyK (b := true) ?N ?m ?b ?z ?_; (case N => k_asm); (case m => k_mem); (case b => simp; done); (case z => (simp; omega)); k_whole)
  | (refine' Mine.truthyK (b := false) ?N ?m ?b ?z ?_; (case N => k_asm); (case m => k_mem); (case b => first | rfl | (simp; done)); (case z => first | decide | (simp; omega)); k_whole))))
local macro_rules | `(tactic| walk_at "call builtin:list.pop") => `(tactic| (k_here; k_dflt (first
  | ((with_reducible show wpAny _ _ (call (Value.builtin _) [Value.ref _]) _ _ _); refine' Mine.popLastK ?F ?N ?U ?z ?_; (case F => k_asm); (case N => k_asm); (case U => k_upd); (case z => first | assumption | omega))
  | ((with_reducible show wpAny _ _ (call (Value.builtin _) [Value.ref _, Value.int _ _]) _ _ _); refine' Mine.popFirstK ?F ?N ?U ?z ?_; (case F => k_asm); (case N => k_asm); (case U => k_upd); (case z => first | assumption | omega))); (intro h' F' N'; (try k_sweep))))
local macro_rules | `(tactic| walk_at "compareOp Eq str str") => `(tactic| (k_here; (with_reducible refine Mine.eqStrK (by assumption) ?_)))
local macro_rules | `(tactic| walk_at "compareOp In str str") => `(tactic| (k_here; (with_reducible refine Mine.inStrK (by assumption) ?_)))
local macro_rules | `(tactic| k_ne) => `(tactic| first | assumption | exact Ne.symm (by assumption) | (refine neN ?_; (try dsimp only); omega))

-- AT9
namespace Mine
noncomputable abbrev lexD (w : World) (t1 t2 t3 t4 : Tok) (r1 r2 r3 r4 : Value) (n : Nat) : Obj :=
  dictOf [⟨PyData.keyHash w.params "lineno", .str "lineno" t1, r1⟩, ⟨PyData.keyHash w.params "instream", .str "instream" t2, r2⟩, ⟨PyData.keyHash w.params "whitespace", .str "whitespace" t3, r3⟩, ⟨PyData.keyHash w.params "pushback", .str "pushback" t4, r4⟩] n
theorem lexInit {prog : Program} {w : World} (x d : Addr) (io : Value) (n1 : x ≠ d) :
   Does (KH w.params) prog w 2 35 [.ref x, io] [(x, instObj 59 d), (d, dictOf [] 0)] (fun r own => r = .none ∧ ∃ P t1 t2 t3 t4 tl tw, Apart [P, x, d] ∧ own = [(P, W.listOf #[] 0), (x, instObj 59 d), (d, lexD w t1 t2 t3 t4 (.int 1 tl) io (.str "\n\t\r " tw) (.ref P) 4)]) := by
  refine enter (binds := [("self", .ref x), ("fp", io)]) (by k_is) (by k_is) (fun s X => BindsTo.of_eq rfl) (locs rfl) ?_
  intro dp un gd fr g L s PP hP G F N l0 hdp hun
  obtain ⟨X, ⟨p, loose, mean, mg, mb, T⟩, codeHd, codeHd2⟩ := G
  k_lt l0
  try k_fold
  k_steps
  exact hP _ _ (Fin.intro (by assumption) (by assumption) ⟨rfl, _, _, _, _, _, _, _, by (simp only [Apart, AllNe, and_true]; refine ⟨⟨by k_ne, by k_ne⟩, by k_ne⟩), rfl⟩)
end Mine

-- AT10
namespace Mine
noncomputable def Reader (prog : Program) (w : World) (rf : Addr) (rfO : Obj) (c2 : Addr) (oc2 : Obj) (cell : Addr) (oCell : Obj) (S : Addr) : Prop :=
  Apart [rf, c2, cell, S] →
  (∀ (vs : List Value) (v : Value) (k : Nat) (arg : Value), vs.length < 10000 → Does (KH w.params) prog w 2 rf [arg] [(rf, rfO), (c2, oc2), (cell, oCell), (S, W.listOf (vs ++ [v]).toArray k)] (fun r own => r = v ∧ ∃ k', own = [(rf, rfO), (c2, oc2), (cell, oCell), (S, W.listOf vs.toArray k')])) ∧
  (∀ (k : Nat) (arg : Value), Does (KH w.params) prog w 2 rf [arg] [(rf, rfO), (c2, oc2), (cell, oCell), (S, W.listOf #[] k)] (fun r own => (∃ t, r = .str "" t) ∧ own = [(rf, rfO), (c2, oc2), (cell, oCell), (S, W.listOf #[] k)]))
structure LX where
  (x d P io dio rf c2 cell S : Addr)
  (fdS fdR : FuncData) (oc2 oCell : Obj)
  (t1 t2 t3 t4 tw t5 : Tok)
noncomputable abbrev LX.cells (w : World) (l : LX) (ln : Int) (tl : Tok) (pb : List Value) (kp : Nat) (sg : List Value) (ks : Nat) : Cells :=
  [(l.x, instObj 59 l.d), (l.d, lexD w l.t1 l.t2 l.t3 l.t4 (.int ln tl) (.ref l.io) (.str "\n\t\r " l.tw) (.ref l.P) 4), (l.P, W.listOf pb.toArray kp), (l.io, fnObj (some l.dio) l.fdS),
   (l.dio, dictOf [⟨PyData.keyHash w.params "read", .str "read" l.t5, .ref l.rf⟩] 1), (l.rf, fnObj none l.fdR), (l.c2, l.oc2), (l.cell, l.oCell), (l.S, W.listOf sg.toArray ks)]
structure LX.Ok (prog : Program) (w : World) (l : LX) : Prop where
  ap : Apart [l.x, l.d, l.P, l.io, l.dio, l.rf, l.c2, l.cell, l.S]
  rd : Reader prog w l.rf (fnObj none l.fdR) l.c2 l.oc2 l.cell l.oCell l.S
noncomputable def CodeOf (o : Obj) (q : Str) : Prop := ∃ vs t, o.data = .fields vs ∧ vs[1]? = some (.str q t)
theorem lawLexer {prog : Program} {w : World} (tx : Str) (tt : Tok) (hsz : tx.cps.size ≤ sizeLine) :
   Does (KH w.params) prog w 4 215 [.str tx tt] [(210, tabObj #[])] (fun r own => ∃ (l : LX) (c1 : Addr) (oc1 : Obj) (tl : Tok) (ys : List Value) (ks : Nat), LX.Ok prog w l ∧ r = .ref l.x ∧ Chrs ys tx.cps.toList.reverse ∧ CodeOf l.oc2 "_law_lexer.<locals>.<lambda>" ∧ AllNe 210 [l.x, l.d, l.P, l.io, l.dio, l.rf, l.c2, l.cell, l.S] ∧ AllNe c1 [l.x, l.d, l.P, l.io, l.dio, l.rf, l.c2, l.cell, l.S] ∧ 210 ≠ c1 ∧
     own = l.cells w 1 tl [] 0 ys ks ++ [(c1, oc1), (210, tabObj #[rawInt 182, rawInt 13, .ref c1, rawInt 183, rawInt 18, .ref l.c2])]) := by
  refine enterC (binds := [("text", .str tx tt)]) (by k_is) (by k_is) (fun s X => BindsTo.of_eq rfl) (by rfl) (by decide +kernel) ?_
  intro dp un gd fr g L s cells PP hP G F N Y l0 hdp hun
  obtain ⟨X, ⟨p, loose, mean, mg, mb, T⟩, codeHd, codeHd2⟩ := id G
  obtain ⟨o1, rfl, d1⟩ := CellsAre.one Y
  simp only [List.cons_append, List.nil_append] at N
  k_lt l0
  clear Y
  have d1 : o1.data = .cell none := d1
  try k_fold
  k_steps
  rename_i S h6 tk3 ys kc hc l3 h5 oCell dC h4 io c1 oc1 vs1 t2 ct1 h3 tk2 e1 e2 l2 l21 h2 rf c2 oc2 vs2 tt1 ct2 h1 tk1 f1 f2 l11 l12 dio h0 tk0 t0 F0 N0 l0'
  refine useMake (own := []) (fun x dx n _ => lexInit x dx _ n) (fun x dx v own' h => h.1) F0 N0 G (fun p hp => nomatch hp) (fun p hp => hp) (fun p hp => nomatch hp) (by k_is) (by k_is) (by k_is) (by omega) (by omega) ?_
  rintro x dx h' tk own' ⟨_, P, t1, t2, t3, t4, tl, tw, hap, rfl⟩ F' N' hd'
  simp only [Apart, AllNe, and_true] at hap
  obtain ⟨⟨ap1, ap2⟩, ap3⟩ := hap
  refine hP _ _ ?_
  refine' Fin.intro (news' := LX.cells w ⟨x, dx, P, io, dio, rf, c2, L + 1, S, _, _, oc2, oCell, t1, t2, t3, t4, tw, t0⟩ 1 tl [] 0 ys.reverse kc ++ [(c1, oc1), (210, tabObj #[rawInt 182, rawInt 13, .ref c1, rawInt 183, rawInt 18, .ref c2])]) F' (cb_drop N' ?sub) ?res
  case sub =>
    dsimp only [LX.cells]
    simp only [List.cons_append, List.nil_append]
    exact List.forall_mem_cons.mpr ⟨.tail _ (.head _), List.forall_mem_cons.mpr ⟨.tail _ (.tail _ (.head _)), List.forall_mem_cons.mpr ⟨.head _, by
      repeat' (first | exact List.forall_mem_nil _ | refine List.forall_mem_cons.mpr ⟨by k_mem, ?_⟩)⟩⟩⟩
  refine ⟨_, c1, oc1, tl, _, kc, ⟨?_, ?_⟩, rfl, hc.reverse, ⟨_, _, f1, f2⟩, ?_, ?_, ?_, rfl⟩
  · simp only [Apart, AllNe, and_true]
    refine ⟨⟨?_, ?_, ?_, ?_, ?_, ?_, ?_, ?_⟩, ⟨?_, ?_, ?_, ?_, ?_, ?_, ?_⟩, ⟨?_, ?_, ?_, ?_, ?_, ?_⟩, ⟨?_, ?_, ?_, ?_, ?_⟩, ⟨?_, ?_, ?_, ?_⟩, ⟨?_, ?_, ?_⟩, ⟨?_, ?_⟩, ?_⟩ <;> (first | assumption | exact Ne.symm (by assumption) | k_ne | exact offNe hd' (by k_mem) (by k_mem) | exact (offNe hd' (by k_mem) (by k_mem)).symm)
  · clear N' F' N0 F0 hd'
    show Reader prog w rf _ c2 oc2 (L + 1) oCell S
    intro hap
    simp only [Apart, AllNe, and_true] at hap
    obtain ⟨⟨a1, a2, a3⟩, ⟨a4, a5⟩, a6⟩ := hap
    constructor
    · intro vs v k arg hl
      refine enterL (binds := [("size", arg)]) (.head _) (.tail _ (.head _)) f1 f2 rfl (locs rfl) ?_
      intro dp un gd fr g L' s PP hP G F N l0 hdp hun
      obtain ⟨X, ⟨p, loose, mean, mg, mb, T⟩, codeHd, codeHd2⟩ := id G
      k_lt l0
      try k_fold
      k_steps
      exact hP _ _ (Fin.intro (by k_asm) (by k_asm) ⟨rfl, _, rfl⟩)
    · intro k arg
      refine enterL (binds := [("size", arg)]) (.head _) (.tail _ (.head _)) f1 f2 rfl (locs rfl) ?_
      intro dp un gd fr g L' s PP hP G F N l0 hdp hun
      obtain ⟨X, ⟨p, loose, mean, mg, mb, T⟩, codeHd, codeHd2⟩ := id G
      k_lt l0
      try k_fold
      k_steps
      exact hP _ _ (Fin.intro (by k_asm) (by k_asm) ⟨⟨_, rfl⟩, rfl⟩)
  · simp only [AllNe, and_true]
    refine ⟨?_, ?_, ?_, ?_, ?_, ?_, ?_, ?_, ?_⟩ <;> (first | assumption | exact Ne.symm (by assumption) | k_ne | exact offNe hd' (by k_mem) (by k_mem) | exact (offNe hd' (by k_mem) (by k_mem)).symm)
  · simp only [AllNe, and_true]
    refine ⟨?_, ?_, ?_, ?_, ?_, ?_, ?_, ?_, ?_⟩ <;> (first | assumption | exact Ne.symm (by assumption) | k_ne | exact offNe hd' (by k_mem) (by k_mem) | exact (offNe hd' (by k_mem) (by k_mem)).symm)
  · k_ne
end Mine

-- AT11
namespace Mine
theorem readChar {prog : Program} {w : World} (l : LX) (hl : l.Ok prog w) (ln : Int) (tl : Tok) (pb : List Value) (kp : Nat) (vs : List Value) (c : Nat) (t : Tok) (ks : Nat) (hz : vs.length < 10000) (b : Bool) (hb : ((⟨#[c]⟩ : Str) == Str.ofString "\n") = b) :
   Does (KH w.params) prog w 4 42 [.ref l.x] (l.cells w ln tl pb kp (vs ++ [Value.str ⟨#[c]⟩ t]) ks) (fun r own => r = Value.str ⟨#[c]⟩ t ∧ ∃ tl' ks', own = l.cells w (cond b (ln + 1) ln) tl' pb kp vs ks') := by
  revert hb
  cases b
  all_goals (
  intro hb
  obtain ⟨hap, hrd⟩ := hl
  obtain ⟨x, d, P, io, dio, rf, c2, cell, S, fdS, fdR, oc2, oCell, t1, t2, t3, t4, tw, t5⟩ := l
  dsimp only at hap hrd ⊢
  dsimp only [LX.cells]
  simp only [Apart, AllNe, and_true] at hap
  obtain ⟨⟨_, _, _, _, _, _, _, _⟩, ⟨_, _, _, _, _, _, _⟩, ⟨_, _, _, _, _, _⟩, ⟨_, _, _, _, _⟩, ⟨_, _, _, _⟩, ⟨_, _, _⟩, ⟨_, _⟩, _⟩ := hap
  have hrd := hrd ⟨⟨by assumption, by assumption, by assumption, trivial⟩, ⟨by assumption, by assumption, trivial⟩, ⟨by assumption, trivial⟩, trivial, trivial⟩
  refine enter (binds := [("self", .ref x)]) (by k_is) (by k_is) (fun s X => BindsTo.of_eq rfl) (locs rfl) ?_
  intro dp un gd fr g L s PP hP G F N l0 hdp hun
  obtain ⟨X, ⟨p, loose, mean, mg, mb, T⟩, codeHd, codeHd2⟩ := id G
  k_lt l0
  try k_fold
  k_steps
  refine use (own := [(rf, fnObj none fdR), (c2, oc2), (cell, oCell), (S, W.listOf (vs ++ [Value.str ⟨#[c]⟩ t]).toArray ks)])
    (rest := [(x, instObj 59 d), (d, lexD w t1 t2 t3 t4 (.int ln tl) (.ref io) (.str "\n\t\r " tw) (.ref P) 4), (P, W.listOf pb.toArray kp), (io, fnObj (some dio) fdS), (dio, dictOf [⟨PyData.keyHash w.params "read", .str "read" t5, .ref rf⟩] 1)])
    (hrd.1 vs _ ks _ hz) (by k_asm) (by k_asm) G ?_ ?_ ?_ (by omega) (by omega) ?_
  · repeat' (first | exact List.forall_mem_nil _ | refine List.forall_mem_cons.mpr ⟨by k_mem, ?_⟩)
  · repeat' (first | exact List.forall_mem_nil _ | refine List.forall_mem_cons.mpr ⟨by k_mem, ?_⟩)
  · repeat' (first | exact List.forall_mem_nil _ | refine List.forall_mem_cons.mpr ⟨?_, ?_⟩ | assumption | exact Ne.symm (by assumption))
  rintro r h' tk own' ⟨rfl, k', rfl⟩ F' N' hd'
  simp only [List.cons_append, List.nil_append] at N'
  clear hd'
  k_sweep
  k_steps
  all_goals (show PP _ _; refine hP _ _ ?_; (refine' Fin.intro (by k_asm) (cb_drop (by k_asm) ?_) ⟨rfl, _, _, rfl⟩); rotate_left 2; (repeat' (first | exact List.forall_mem_nil _ | refine List.forall_mem_cons.mpr ⟨by k_mem, ?_⟩))))
theorem readCharE {prog : Program} {w : World} (l : LX) (hl : l.Ok prog w) (ln : Int) (tl : Tok) (pb : List Value) (kp : Nat) (ks : Nat) :
   Does (KH w.params) prog w 4 42 [.ref l.x] (l.cells w ln tl pb kp [] ks) (fun r own => (∃ t, r = Value.str "" t) ∧ own = l.cells w ln tl pb kp [] ks) := by
  obtain ⟨hap, hrd⟩ := hl
  obtain ⟨x, d, P, io, dio, rf, c2, cell, S, fdS, fdR, oc2, oCell, t1, t2, t3, t4, tw, t5⟩ := l
  dsimp only at hap hrd ⊢
  dsimp only [LX.cells]
  simp only [Apart, AllNe, and_true] at hap
  obtain ⟨⟨_, _, _, _, _, _, _, _⟩, ⟨_, _, _, _, _, _, _⟩, ⟨_, _, _, _, _, _⟩, ⟨_, _, _, _, _⟩, ⟨_, _, _, _⟩, ⟨_, _, _⟩, ⟨_, _⟩, _⟩ := hap
  have hrd := hrd ⟨⟨by assumption, by assumption, by assumption, trivial⟩, ⟨by assumption, by assumption, trivial⟩, ⟨by assumption, trivial⟩, trivial, trivial⟩
  refine enter (binds := [("self", .ref x)]) (by k_is) (by k_is) (fun s X => BindsTo.of_eq rfl) (locs rfl) ?_
  intro dp un gd fr g L s PP hP G F N l0 hdp hun
  obtain ⟨X, ⟨p, loose, mean, mg, mb, T⟩, codeHd, codeHd2⟩ := id G
  k_lt l0
  try k_fold
  k_steps
  refine use (own := [(rf, fnObj none fdR), (c2, oc2), (cell, oCell), (S, W.listOf #[] ks)])
    (rest := [(x, instObj 59 d), (d, lexD w t1 t2 t3 t4 (.int ln tl) (.ref io) (.str "\n\t\r " tw) (.ref P) 4), (P, W.listOf pb.toArray kp), (io, fnObj (some dio) fdS), (dio, dictOf [⟨PyData.keyHash w.params "read", .str "read" t5, .ref rf⟩] 1)])
    (hrd.2 ks _) (by k_asm) (by k_asm) G ?_ ?_ ?_ (by omega) (by omega) ?_
  · repeat' (first | exact List.forall_mem_nil _ | refine List.forall_mem_cons.mpr ⟨by k_mem, ?_⟩)
  · repeat' (first | exact List.forall_mem_nil _ | refine List.forall_mem_cons.mpr ⟨by k_mem, ?_⟩)
  · repeat' (first | exact List.forall_mem_nil _ | refine List.forall_mem_cons.mpr ⟨?_, ?_⟩ | assumption | exact Ne.symm (by assumption))
  rintro r h' tk own' ⟨⟨t, rfl⟩, rfl⟩ F' N' hd'
  simp only [List.cons_append, List.nil_append] at N'
  clear hd'
  k_sweep
  have hb : ((Str.ofString "") == Str.ofString "\n") = false := by decide +kernel
  k_steps
  show PP _ _
  refine hP _ _ ?_
  refine' Fin.intro (by k_asm) (cb_drop (by k_asm) ?_) ⟨⟨_, rfl⟩, rfl⟩
  repeat' (first | exact List.forall_mem_nil _ | refine List.forall_mem_cons.mpr ⟨by k_mem, ?_⟩)
end Mine

-- AT12
section
open PySem PySem.W PyProof.Rows PySem.Spec PySem.Calls Builtin
namespace Mine
theorem callBorrowed_eq (f : Value) (pos : List Value) : callBorrowed f pos = (call f pos []).keep [borrowed] := by
  unfold callBorrowed call runValue run
  show Sem.call _ _ _ _ _ = Sem.call _ _ _ _ _
  congr 1
  funext r
  rcases r with e | (_ | _ | _ | v) <;> rfl
theorem slot_ci_next : Slot "callable_iterator" "__next__" "callable_iterator.__next__" := .of (owner := "callable_iterator") (n := "__next__") (by rw [typeLookup_type, builtinLookup_eq_fast]; kernel_rfl) (by decide +kernel) (by decide +kernel) (by decide +kernel)
    (by first | exact .inl (by decide +kernel) | exact .inr (by decide +kernel)) (by rw [isSubtype_type]; kernel_rfl)
theorem slot_ci_iter : Slot "callable_iterator" "__iter__" "callable_iterator.__iter__" := .of (owner := "callable_iterator") (n := "__iter__") (by rw [typeLookup_type, builtinLookup_eq_fast]; kernel_rfl) (by decide +kernel) (by decide +kernel) (by decide +kernel)
    (by first | exact .inl (by decide +kernel) | exact .inr (by decide +kernel)) (by rw [isSubtype_type]; kernel_rfl)
theorem entry_ci_next : entryFor table "callable_iterator.__next__" = some Builtin.«callable_iterator.__next__» := entryFor_of_tree (by kernel_rfl)
theorem args_ci_next (a : Value) : argsOk "callable_iterator.__next__" ⟨[a], []⟩ := by unfold argsOk; kernel_rfl
theorem entry_iter : entryFor table "iter" = some Builtin.«iter» := entryFor_of_tree (by kernel_rfl)
theorem args_iter (a b : Value) : argsOk "iter" ⟨[a, b], []⟩ := by unfold argsOk; kernel_rfl
theorem entry_ci_iter : entryFor table "callable_iterator.__iter__" = some Builtin.«dict_keyiterator.__iter__» :=
  entryFor_alias (id' := "dict_keyiterator.__iter__") (by kernel_rfl) (by first | rfl | decide +kernel | (unfold String.splitOn; simp +decide [String.splitOnAux])) (by decide +kernel) (by kernel_rfl)
theorem args_ci_iter (a : Value) : argsOk "callable_iterator.__iter__" ⟨[a], []⟩ := by unfold argsOk; kernel_rfl
noncomputable abbrev itObj (a b : Value) (e : Bool) : Obj := { cls := .type "callable_iterator", data := .fields #[a, b, .bool e] }
section
variable {prog : Program} {w : World} {A : Around} {E : Value → Shared → Prop} {s : Shared} {fi mo f : Addr} {self : Value} {tk : Tok}
theorem pyIter_ci {a b : Value} {e : Bool} {Q : Value → Shared → Prop} (h1 : s.heap.get? fi = some (itObj a b e)) (h : Q (.ref fi) s) : wpAny (model prog w) A (pyIter (.ref fi)) Q E s := by
  have T : s.TypeIs (.ref fi) "callable_iterator" := ⟨_, h1, rfl⟩
  refine wpAny_pyIter_slot T slot_ci_iter (wpAny_call_entry slot_ci_iter T entry_ci_iter ?_ (args_ci_iter _))
  exact wpAny_bind (wpAny_pure (wpAny_pure ⟨_, rfl, "callable_iterator", _, T, slot_ci_next.lookup, h⟩))
/-- one more turn: the call gives a text that is not the empty one -/
theorem pyNext_ci {Q : Option Value → Shared → Prop} (h1 : s.heap.get? fi = some (itObj (.ref mo) (.str "" tk) false)) (h2 : s.heap.get? mo = some (methodObj (.ref f) self)) {fo : Obj} {fd : FuncData} (h3 : s.heap.get? f = some fo) (h3' : fo.data = .func fd)
    (h : codeAny (model prog w) A.in1 (.call (.ref f) ⟨[self], []⟩) (fun r s' => match r with
      | .ok (.ret (.str x t)) => s'.heap.get? fi = some (itObj (.ref mo) (.str "" tk) false) ∧ ((Str.empty : Str) == x) = false ∧ Q (some (.str x t)) s'
      | _ => False) s) : wpAny (model prog w) A (pyNext (.ref fi)) Q E s := by
  have T : s.TypeIs (.ref fi) "callable_iterator" := ⟨_, h1, rfl⟩
  unfold pyNext
  refine wpAny_bind (wpAny_attempt (wpAny_callSpecial?_slot (name := Str.ofString "__next__") T slot_ci_next (wpAny_call_entry slot_ci_next T entry_ci_next ?_ (args_ci_next _))))
  unfold Builtin.«callable_iterator.__next__»
  refine wpAny_bind (wpAny_pure ?_)
  refine wpAny_bind (wpAny_field h1 rfl (x := .bool false) rfl ?_)
  refine wpAny_bind (wpAny_field h1 rfl (x := .ref mo) rfl ?_)
  refine wpAny_bind (wpAny_attempt ?_)
  unfold callOutOfASlot
  have B : Looks (model prog w) s.heap (borrowsExactly (.ref mo)) true := by
    unfold borrowsExactly
    refine (Looks.ld (part := none) h2).andThen ?_
    refine (Looks.ld (part := none) h3).andThen ?_
    rw [h3']
    exact .now
  refine wpAny_bind (B.here ?_)
  show wpAny _ _ (callBorrowed (.ref mo) []) _ _ _
  rw [callBorrowed_eq]
  refine Calls.wpAny_keep (wpAny_call (method_call h2 (codeAny_mono h fun r s' z => ?_)))
  rcases r with e | (_ | _ | _ | v)
  · exact z.elim
  · exact z.elim
  · exact z.elim
  · exact z.elim
  · cases v <;> try exact z.elim
    rename_i x t
    obtain ⟨k1, k2, k3⟩ := z
    refine wpAny_bind (wpAny_field k1 rfl (x := .bool false) rfl ?_)
    refine wpAny_bind (wpAny_field k1 rfl (x := .str "" tk) rfl ?_)
    refine wpAny_bind (wpAny_holding (wpAny_eqBool_str ?_))
    rw [show decide ((Str.ofString "") = x) = false from by
      have : ((Str.ofString "") == x) = false := k2
      rw [decide_eq_false_iff_not]; exact fun e => by simp [e] at this]
    exact wpAny_pure ⟨_, rfl, wpAny_pure k3⟩
/-- StopIteration is raised and pyNext takes it -/
theorem stop_ci {α : Type} {A' : Around} {Q : Option Value → Shared → Prop} {X : α → Shared → Prop} (hh : A'.handled = none) (h : ∀ h', (∀ b o, s.heap.get? b = some o → h'.get? b = some o) → Q none { s with heap := h' }) :
    wpAny (model prog w) A' (SmallTypes.stopIteration : Sem α) X (fun e s' => wpAny (model prog w) A (do if ← isInstance e (.type "StopIteration") then pure none else throw e) Q E s') s := by
  unfold SmallTypes.stopIteration
  refine wpAny_bind ?_
  simp only [newExc, newTuple]
  refine wpAny_bind (wpAny_newObj_type ?_ (by size_fits))
  refine wpAny_bind (m := firstArgMember _ _) (wpAny_of_eq (a := Value.none) (by first | rfl | (simp only [firstArgMember]; rfl)) ?_)
  refine wpAny_newObj_type ?_ (by size_fits)
  simp only [raiseNew]
  refine wpAny_bind (wpAny_handled ?_)
  rw [hh]
  refine wpAny_bind (wpAny_pure (wpAny_throw ?_))
  refine wpAny_bind (wpAny_isInstance (T := "StopIteration") (b := true) ⟨_, Heap.get?_push_size _ rfl, rfl⟩ isSubtype_stop ?_)
  exact wpAny_pure (h _ fun b o e => Heap.get?_push_of_some _ (Heap.get?_push_of_some _ e))
theorem pyNext_ci_ended {a b : Value} {Q : Option Value → Shared → Prop} (hh : A.handled = none) (h1 : s.heap.get? fi = some (itObj a b true)) (h : ∀ h', (∀ b o, s.heap.get? b = some o → h'.get? b = some o) → Q none { s with heap := h' }) :
    wpAny (model prog w) A (pyNext (.ref fi)) Q E s := by
  have T : s.TypeIs (.ref fi) "callable_iterator" := ⟨_, h1, rfl⟩
  unfold pyNext
  refine wpAny_bind (wpAny_attempt (wpAny_callSpecial?_slot (name := Str.ofString "__next__") T slot_ci_next (wpAny_call_entry slot_ci_next T entry_ci_next ?_ (args_ci_next _))))
  unfold Builtin.«callable_iterator.__next__»
  refine wpAny_bind (wpAny_pure ?_)
  refine wpAny_bind (wpAny_field h1 rfl (x := .bool true) rfl ?_)
  refine wpAny_bind (wpAny_rule (wpAny_bind ?_))
  exact stop_ci (A' := A.in1) hh h
theorem pyNext_ci_end {Q : Option Value → Shared → Prop} (hh : A.handled = none) (h1 : s.heap.get? fi = some (itObj (.ref mo) (.str "" tk) false)) (h2 : s.heap.get? mo = some (methodObj (.ref f) self)) {fo : Obj} {fd : FuncData} (h3 : s.heap.get? f = some fo) (h3' : fo.data = .func fd)
    (h : codeAny (model prog w) A.in1 (.call (.ref f) ⟨[self], []⟩) (fun r s' => match r with
      | .ok (.ret (.str x t)) => x = "" ∧ s'.heap.get? fi = some (itObj (.ref mo) (.str "" tk) false) ∧ s'.heap.get? mo = some (methodObj (.ref f) self) ∧ s'.heap.get? f = some fo ∧ (∀ h', (∀ b o, (s'.heap.update fi fun _ => itObj .none .none true).get? b = some o → h'.get? b = some o) → Q none { s' with heap := h' })
      | _ => False) s) : wpAny (model prog w) A (pyNext (.ref fi)) Q E s := by
  have T : s.TypeIs (.ref fi) "callable_iterator" := ⟨_, h1, rfl⟩
  unfold pyNext
  refine wpAny_bind (wpAny_attempt (wpAny_callSpecial?_slot (name := Str.ofString "__next__") T slot_ci_next (wpAny_call_entry slot_ci_next T entry_ci_next ?_ (args_ci_next _))))
  unfold Builtin.«callable_iterator.__next__»
  refine wpAny_bind (wpAny_pure ?_)
  refine wpAny_bind (wpAny_field h1 rfl (x := .bool false) rfl ?_)
  refine wpAny_bind (wpAny_field h1 rfl (x := .ref mo) rfl ?_)
  refine wpAny_bind (wpAny_attempt ?_)
  unfold callOutOfASlot
  have B : ∀ hp : Heap, hp.get? mo = some (methodObj (.ref f) self) → hp.get? f = some fo → Looks (model prog w) hp (borrowsExactly (.ref mo)) true := by
    intro hp h2 h3
    unfold borrowsExactly
    refine (Looks.ld (part := none) h2).andThen ?_
    refine (Looks.ld (part := none) h3).andThen ?_
    rw [h3']
    exact .now
  refine wpAny_bind ((B _ h2 h3).here ?_)
  show wpAny _ _ (callBorrowed (.ref mo) []) _ _ _
  rw [callBorrowed_eq]
  refine Calls.wpAny_keep (wpAny_call (method_call h2 (codeAny_mono h fun r s' z => ?_)))
  rcases r with e | (_ | _ | _ | v)
  · exact z.elim
  · exact z.elim
  · exact z.elim
  · exact z.elim
  · cases v <;> try exact z.elim
    rename_i x t
    obtain ⟨rfl, k1, k2, k3, k4⟩ := z
    refine wpAny_bind (wpAny_field k1 rfl (x := .bool false) rfl ?_)
    refine wpAny_bind (wpAny_field k1 rfl (x := .str "" tk) rfl ?_)
    refine wpAny_bind (wpAny_holding (wpAny_eqBool_str ?_))
    rw [show decide ((Str.ofString "") = (Str.ofString "")) = true from by simp]
    refine wpAny_bind (wpAny_rule (wpAny_bind ?_))
    show wpAny _ _ (do
      slotLetsGo "callable_iterator.__next__" (← field (.ref fi) 0) (fun | .builtin "callable_iterator.__next__" x => x.pos.head? == some (.ref fi) | _ => false)
      setField (.ref fi) 0 .none; setField (.ref fi) 1 .none; setField (.ref fi) 2 (.bool true)) _ _ _
    refine wpAny_bind (wpAny_field k1 rfl (x := .ref mo) rfl ?_)
    refine wpAny_bind ?_
    unfold slotLetsGo
    refine wpAny_bind ((B _ k2 k3).here ?_)
    refine wpAny_pure ?_
    refine wpAny_bind (wpAny_setField_rec k1 (by simp) fun g1 e1 s1 => ?_)
    refine wpAny_bind (wpAny_setField_rec e1 (by simp) fun g2 e2 s2 => ?_)
    refine wpAny_setField_rec e2 (by simp) fun g3 e3 s3 => ?_
    refine stop_ci (A' := A.in1) hh fun h' hk => k4 h' fun b o e => hk b o ?_
    by_cases hb : b = fi
    · subst hb
      have : (s'.heap.update b fun _ => itObj .none .none true).get? b = some (itObj .none .none true) := Heap.get?_update_self _ k1 rfl
      rw [this] at e
      cases e
      exact e3
    · rw [s3.2 b hb, s2.2 b hb, s1.2 b hb]
      exact (Heap.get?_update_ne _ _ _ _ hb).symm.trans e
end
section
variable {prog : Program} {w : World} {A : Around} {E : Value → Shared → Prop} {s : Shared} {h₀ : Heap} {L mo : Addr} {m : Str → Option Value} {news : Cells} {f self sv : Value}
theorem kind_iter : builtinKind "iter" = none := by decide +kernel
theorem plain_iter : plainId "iter" = true := by decide +kernel
theorem method_callable : typeLookup (.type "method") "__call__" = pure (some (.builtin "method.__call__")) := by rw [typeLookup_type, builtinLookup_eq_fast]; kernel_rfl
theorem iterK {Q : Value → Shared → Prop} (F : Fr h₀ L s.heap m) (N : News h₀ L s.heap news) (hm : (mo, methodObj f self) ∈ news)
    (h : ∀ fi h', Fr h₀ L h' m → News h₀ L h' ((fi, itObj (.ref mo) sv false) :: news) → (∀ p ∈ news, p.1 < fi) → Q (.ref fi) { s with heap := h' }) :
    wpAny (model prog w) A (call (.builtin "iter") [.ref mo, sv]) Q E s := by
  have hmo := (N _ hm).1
  have T0 : Looks (model prog w) s.heap (typeOf (.ref mo)) (.type "method") := (Looks.ld (part := some headPart) hmo).andThen .now
  refine Calls.call_function_entry kind_iter plain_iter entry_iter (args_iter _ _) ?_
  unfold Builtin.«iter»
  refine wpAny_bind (wpAny_pure ?_)
  refine wpAny_bind (wpAny_bind (T0.here ((Looks.of_pure method_callable).here ?_)))
  refine wpAny_bind (wpAny_rule ?_)
  refine wpAny_bind (wpAny_newObj_type (wpAny_pure ⟨_, rfl, ?_⟩) (by size_fits))
  exact h _ _ (F.push _) (N.push F _) fun p hp => Heap.lt_size (N p hp).1
end
noncomputable def ForMark : Prop := True
noncomputable def Turn (n : Nat) (I : Nat → Shared → Prop) (s : Shared) : Prop := ∃ m, m < n ∧ I m s
noncomputable def ForAt (prog : Program) (w : World) (A : Around) (env : Env) (target : PySem.Expr) (body : List Stmt) (Q : Flow → Shared → Prop) (E : Value → Shared → Prop) (it : Value) (s : Shared) : Prop :=
  codeAny (model prog w) A (.forLoop target it body [] env) (fun r s' => match r with | .ok f => Q f s' | .error e => cameBackBy (model prog w) A env E e s') s
section
variable {prog : Program} {w : World} {A : Around} {E : Value → Shared → Prop} {s : Shared} {env : Env} {Q : Flow → Shared → Prop} {body : List Stmt}
theorem forOpen {target iter : PySem.Expr} {pos : Pos} (_ : ForMark) (h : wpAny (model prog w) A (eval iter env) (fun x s₁ => wpAny (model prog w) A (pyIter x) (fun it s₂ => ForAt prog w A env target body Q E it s₂) E s₁) E s)
    (hs : ∀ x, foldedSetIterable iter env x = pure x := by intro _; rfl) : wpAny (model prog w) A (exec (.For target iter body [] pos) env) Q E s := wpAny_For h hs
theorem forTurns {x : Str} {px : Pos} {it : Value} (I : Nat → Shared → Prop)
    (turn : ∀ n s, I n s → ∀ (Pn Pe : Shared → Prop) (Pr : Value → Shared → Prop), (∀ s', Turn n I s' → Pn s') → (∀ s', Q .next s' → Pe s') → (∀ v s', Q (.ret v) s' → Pr v s') → wpAny (model prog w) A (pyNext it) (fun r s₁ => match r with
      | none => Pe s₁
      | some v => wpAny (model prog w) A (storeName env x v) (fun _ s₂ => wpAny (model prog w) A (execs body env) (fun f s₃ => match f with
          | .next => Pn s₃
          | .cont => Pn s₃
          | .brk => Pe s₃
          | .ret v => Pr v s₃) (fun _ _ => False) s₂) (fun _ _ => False) s₁) (fun _ _ => False) s)
    (n : Nat) (h : I n s) : ForAt prog w A env (.Name x px) body Q E it s := by
  refine codeAny_forLoop I (fun n s hI => wpAny_mono (turn n s hI _ _ _ (fun _ x => x) (fun _ x => x) (fun _ _ x => x)) (fun r s₁ h₁ => ?_) fun _ _ z => z.elim) n h
  cases r with
  | none => exact wpAny_execs_nil h₁
  | some v =>
    refine wpAny_assign_Name (wpAny_mono h₁ (fun _ s₂ h₂ => wpAny_mono h₂ (fun f s₃ h₃ => ?_) fun _ _ z => z.elim) fun _ _ z => z.elim)
    cases f <;> exact h₃
end
section
variable {prog : Program} {w : World} {A : Around} {E : Value → Shared → Prop} {s : Shared} {h₀ : Heap} {L fi : Addr} {m : Str → Option Value} {news : Cells} {a b : Value} {e : Bool}
theorem pyIterK {Q : Value → Shared → Prop} (N : News h₀ L s.heap news) (hm : (fi, itObj a b e) ∈ news) (h : Q (.ref fi) s) : wpAny (model prog w) A (pyIter (.ref fi)) Q E s := pyIter_ci (N _ hm).1 h
end
end Mine
end
local macro_rules | `(tactic| walk_at "call builtin:iter") => `(tactic| (k_here; (with_reducible show wpAny _ _ (call (Value.builtin "iter") [Value.ref _, _]) _ _ _); k_dflt (refine' Mine.iterK ?F ?N ?m ?_; (case F => k_asm); (case N => k_asm); (case m => k_mem); k_whole); intro fi' h' F' N' l1; (try k_lt l1); (try k_sweep)))
local macro_rules | `(tactic| walk_at "exec For") => `(tactic| (k_here; k_dflt (refine Mine.forOpen (by assumption) ?_)))
local macro_rules | `(tactic| walk_at "exec For Name Name cons nil") => `(tactic| (k_here; k_dflt (refine Mine.forOpen (by assumption) ?_)))
local macro_rules | `(tactic| walk_at "pyIter ref") => `(tactic| (k_here; (with_reducible show wpAny _ _ (pyIter (Value.ref _)) _ _ _); k_dflt (refine' Mine.pyIterK ?N ?m ?_; (case N => k_asm); (case m => k_mem); k_whole)))

-- AMTok
namespace Mine
noncomputable def isWs (c : Nat) : Bool := c == 10 || c == 9 || c == 13 || c == 32
inductive Unq : List Nat → List Nat → List Nat → List Nat → Prop
  | eof {acc : List Nat} : Unq acc [] acc []
  | ws {acc r : List Nat} {c : Nat} : isWs c = true → Unq acc (c :: r) acc r
  | esc {acc r t R : List Nat} {d : Nat} : Unq (acc ++ [d]) r t R → Unq acc (92 :: d :: r) t R
  | ch {acc r t R : List Nat} {c : Nat} : isWs c = false → c ≠ 92 → Unq (acc ++ [c]) r t R → Unq acc (c :: r) t R
inductive Quo : List Nat → List Nat → List Nat → List Nat → Prop
  | done {acc r : List Nat} : Quo acc (34 :: r) acc r
  | esc {acc r t R : List Nat} {d : Nat} : Quo (acc ++ [d]) r t R → Quo acc (92 :: d :: r) t R
  | ch {acc r t R : List Nat} {c : Nat} : c ≠ 34 → c ≠ 92 → Quo (acc ++ [c]) r t R → Quo acc (c :: r) t R
inductive TokR : List Nat → List Nat → List Nat → Prop
  | eof : TokR [] [] []
  | ws {r t R : List Nat} {c : Nat} : isWs c = true → TokR r t R → TokR (c :: r) t R
  | quo {r t R : List Nat} : Quo [] r t R → TokR (34 :: r) t R
  | esc {r t R : List Nat} {d : Nat} : Unq [d] r t R → TokR (92 :: d :: r) t R
  | unq {r t R : List Nat} {c : Nat} : isWs c = false → c ≠ 34 → c ≠ 92 → Unq [c] r t R → TokR (c :: r) t R
/-- the line feeds -/
noncomputable def nl : List Nat → Int
  | [] => 0
  | c :: r => cond (c == 10) (nl r + 1) (nl r)
noncomputable abbrev chS (c : Nat) : Str := ⟨#[c]⟩
theorem chS_ws (c : Nat) : (!(Builtin.Str.occurrences (Str.ofString "\n\t\r ") ⟨#[c]⟩ 0 (Str.ofString "\n\t\r ").length 1).isEmpty) = isWs c := by
  rw [PySem.StrLaws.found_one]
  have e : (Str.ofString "\n\t\r ").cps.toList = [10, 9, 13, 32] := by decide +kernel
  rw [e, Bool.eq_iff_iff]
  simp [isWs, or_assoc]
theorem chS_eq (c d : Nat) : ((⟨#[c]⟩ : Str) == (⟨#[d]⟩ : Str)) = (c == d) := by
  rw [Bool.eq_iff_iff]; simp
theorem lit_nl : Str.ofString "\n" = ⟨#[10]⟩ := by decide +kernel
theorem lit_q : Str.ofString "\"" = ⟨#[34]⟩ := by decide +kernel
theorem lit_b : Str.ofString "\\" = ⟨#[92]⟩ := by decide +kernel
theorem chS_nl (c : Nat) : ((⟨#[c]⟩ : Str) == Str.ofString "\n") = (c == 10) := by rw [lit_nl, chS_eq]
theorem chS_q (c : Nat) : ((⟨#[c]⟩ : Str) == Str.ofString "\"") = (c == 34) := by rw [lit_q, chS_eq]
theorem chS_b (c : Nat) : ((⟨#[c]⟩ : Str) == Str.ofString "\\") = (c == 92) := by rw [lit_b, chS_eq]
theorem chS_ne (c : Nat) : ((Str.empty : Str) == (⟨#[c]⟩ : Str)) = false := by
  rw [beq_eq_false_iff_ne]
  intro e
  have := congrArg (fun s : Str => s.cps.size) e
  simp [Str.empty] at this

theorem Chrs.last {vs : List Value} {c : Nat} {r : List Nat} (h : Chrs vs (c :: r).reverse) : ∃ ws t, vs = ws ++ [Value.str ⟨#[c]⟩ t] ∧ Chrs ws r.reverse := by
  rw [List.reverse_cons] at h
  exact h.snoc

noncomputable abbrev LX.adr (l : LX) : List Addr := [l.x, l.d, l.P, l.io, l.dio, l.rf, l.c2, l.cell, l.S]
theorem LX.cells_adr {w : World} {l : LX} {ln : Int} {tl : Tok} {pb : List Value} {kp : Nat} {sg : List Value} {ks : Nat} : ∀ p ∈ l.cells w ln tl pb kp sg ks, p.1 ∈ l.adr := by
  intro p hp
  have : p.1 ∈ (l.cells w ln tl pb kp sg ks).map (·.1) := List.mem_map_of_mem hp
  exact this
noncomputable abbrev itF (mo : Addr) (ts : Tok) (ended : Bool) : Obj := cond ended (itObj .none .none true) (itObj (.ref mo) (.str "" ts) false)
section
variable {prog : Program} {w : World} {l : LX} {g h' : Heap} {L fi mo : Addr} {m : Str → Option Value} {ln : Int} {tl tk ts : Tok} {kp ks dp un : Nat} {sg : List Value} {gd : Option (List Code)} {fr : List Env} {s' : Shared} {c : Nat} {r : List Nat}
theorem off_lex {pb : List Value} (a1 : AllNe fi l.adr) (a2 : AllNe mo l.adr) (o1 o2 : Obj) : ∀ p ∈ l.cells w ln tl pb kp sg ks, ∀ q ∈ [(fi, o1), (mo, o2)], p.1 ≠ q.1 := by
  intro p hp q hq
  rcases List.mem_cons.mp hq with rfl | hq
  · exact fun e => a1.of _ (LX.cells_adr p hp) e.symm
  · rw [List.mem_singleton.mp hq]
    exact fun e => a2.of _ (LX.cells_adr p hp) e.symm
/-- a read of one sign, as it stands in the lexer's loops -/
theorem codeRead (hl : l.Ok prog w) (G : Gd (KH w.params) g) (a1 : AllNe fi l.adr) (a2 : AllNe mo l.adr) (o1 o2 : Obj) {R : Result → Shared → Prop} (hsg : Chrs sg (c :: r).reverse) (hz : r.length < 10000)
    (F : Fr g L s'.heap m) (N : News g L s'.heap ((fi, o1) :: (mo, o2) :: l.cells w ln tl [] kp sg ks)) (hdp : dp + 4 < recursionLimit) (hun : un + 80 < cLine)
    (h : ∀ t h'' tk' tl' sg' ks', Chrs sg' r.reverse → Fr g L h'' m → News g L h'' ((fi, o1) :: (mo, o2) :: l.cells w (cond (c == 10) (ln + 1) ln) tl' [] kp sg' ks') → R (.ok (.ret (.str ⟨#[c]⟩ t))) { s' with heap := h'', toks := tk' }) :
    codeAny (model prog w) (arT dp un gd fr) (.call (.ref 42) ⟨[.ref l.x], []⟩) R s' := by
  obtain ⟨ws, t, rfl, hws⟩ := hsg.last
  have hlen : ws.length < 10000 := by rw [hws.length, List.length_reverse]; exact hz
  refine useCode (own := l.cells w ln tl [] kp (ws ++ [Value.str ⟨#[c]⟩ t]) ks) (rest := [(fi, o1), (mo, o2)]) (readChar l hl ln tl [] kp ws c t ks hlen _ (chS_nl c)) F N G (fun p hp => .tail _ (.tail _ hp)) (fun p hp => ?_) (off_lex a1 a2 o1 o2) hdp hun ?_
  · rcases List.mem_cons.mp hp with rfl | hp
    · exact .head _
    · rw [List.mem_singleton.mp hp]; exact .tail _ (.head _)
  · rintro v h'' tk' own' ⟨rfl, tl', ks', rfl⟩ F' N' _
    refine h t h'' tk' tl' ws ks' hws F' (cb_drop N' fun p hp => ?_)
    rcases List.mem_cons.mp hp with rfl | hp
    · exact List.mem_append_right _ (.head _)
    · rcases List.mem_cons.mp hp with rfl | hp
      · exact List.mem_append_right _ (.tail _ (.head _))
      · exact List.mem_append_left _ hp
theorem fn126 {w : World} {h : Heap} (X : (KH w.params).In h) : ∃ fo fd, h.get? 42 = some fo ∧ fo.data = .func fd := by
  have e : fnIn (KH w.params) 42 = true := by rfl
  unfold fnIn at e
  split at e
  · rename_i q; exact ⟨_, _, X _ _ q, rfl⟩
  · cases e
theorem nextCh (hl : l.Ok prog w) (G : Gd (KH w.params) g) (a1 : AllNe fi l.adr) (a2 : AllNe mo l.adr) {Q : Option Value → Shared → Prop} {E : Value → Shared → Prop} (hsg : Chrs sg (c :: r).reverse) (hz : r.length < 10000)
    (F : Fr g L s'.heap m) (N : News g L s'.heap ((fi, itF mo ts false) :: (mo, methodObj (.ref 42) (.ref l.x)) :: l.cells w ln tl [] kp sg ks)) (hdp : dp + 4 < recursionLimit) (hun : un + 81 < cLine)
    (h : ∀ t h'' tk' tl' sg' ks', Chrs sg' r.reverse → Fr g L h'' m → News g L h'' ((fi, itF mo ts false) :: (mo, methodObj (.ref 42) (.ref l.x)) :: l.cells w (cond (c == 10) (ln + 1) ln) tl' [] kp sg' ks') → Q (some (.str ⟨#[c]⟩ t)) { s' with heap := h'', toks := tk' }) :
    wpAny (model prog w) (arT dp un gd fr) (pyNext (.ref fi)) Q E s' := by
  obtain ⟨fo, fd, f1, f2⟩ := fn126 (G.X.keeps F.keep)
  refine pyNext_ci (mo := mo) (f := 42) (self := .ref l.x) (tk := ts) (N _ (.head _)).1 (N _ (.tail _ (.head _))).1 f1 f2 ?_
  refine codeRead (un := un + 1) hl G a1 a2 _ _ hsg hz F N hdp (by omega) fun t h'' tk' tl' sg' ks' c1 F' N' => ?_
  exact ⟨(N' _ (.head _)).1, chS_ne c, h t h'' tk' tl' sg' ks' c1 F' N'⟩
theorem nextEnd (hl : l.Ok prog w) (G : Gd (KH w.params) g) (a1 : AllNe fi l.adr) (a2 : AllNe mo l.adr) (a3 : fi ≠ mo) {Q : Option Value → Shared → Prop} {E : Value → Shared → Prop}
    (F : Fr g L s'.heap m) (N : News g L s'.heap ((fi, itF mo ts false) :: (mo, methodObj (.ref 42) (.ref l.x)) :: l.cells w ln tl [] kp [] ks)) (hdp : dp + 4 < recursionLimit) (hun : un + 81 < cLine)
    (h : ∀ h'' tk', Fr g L h'' m → News g L h'' ((fi, itF mo ts true) :: (mo, methodObj (.ref 42) (.ref l.x)) :: l.cells w ln tl [] kp [] ks) → Q none { s' with heap := h'', toks := tk' }) :
    wpAny (model prog w) (arT dp un gd fr) (pyNext (.ref fi)) Q E s' := by
  obtain ⟨fo, fd, f1, f2⟩ := fn126 (G.X.keeps F.keep)
  obtain ⟨fo0, fd0, f10, f20⟩ := fn126 G.X
  have e0 : fo = fo0 := Option.some.inj (f1.symm.trans (F.keep _ _ f10))
  subst e0
  refine pyNext_ci_end (mo := mo) (f := 42) (self := .ref l.x) (tk := ts) rfl (N _ (.head _)).1 (N _ (.tail _ (.head _))).1 f1 f2 ?_
  refine useCode (un := un + 1) (own := l.cells w ln tl [] kp [] ks) (rest := [(fi, itF mo ts false), (mo, methodObj (.ref 42) (.ref l.x))]) (readCharE l hl ln tl [] kp ks) F N G (fun p hp => .tail _ (.tail _ hp)) (fun p hp => ?_) (off_lex a1 a2 _ _) hdp (by omega) ?_
  · rcases List.mem_cons.mp hp with rfl | hp
    · exact .head _
    · rw [List.mem_singleton.mp hp]; exact .tail _ (.head _)
  · rintro v h'' tk' own' ⟨⟨t, rfl⟩, rfl⟩ F' N' _
    have n1 := N' (fi, itF mo ts false) (List.mem_append_right _ (.head _))
    have n2 := N' (mo, methodObj (.ref 42) (.ref l.x)) (List.mem_append_right _ (.tail _ (.head _)))
    refine ⟨rfl, n1.1, n2.1, F'.keep _ _ f10, fun h3 k3 => ?_⟩
    have hne : ∀ b, b ≠ fi → (h''.update fi fun _ => itObj .none .none true).get? b = h''.get? b := fun b hb => Heap.get?_update_ne _ _ _ _ hb
    have hfi : (h''.update fi fun _ => itObj .none .none true).get? fi = some (itObj .none .none true) := Heap.get?_update_self _ n1.1 rfl
    have old : ∀ b o, b ≠ fi → h''.get? b = some o → h3.get? b = some o := fun b o hb e => k3 b o ((hne b hb).trans e)
    obtain ⟨oL, es, ep, hL, hLr⟩ := F'.ns
    refine h h3 tk' ⟨⟨oL, es, ep, old _ _ (Ne.symm n1.2.1) hL, hLr⟩, fun b o e => old b o (fun q => by rw [q, n1.2.2] at e; cases e) (F'.keep b o e), F'.above⟩ fun p hp => ?_
    rcases List.mem_cons.mp hp with rfl | hp
    · exact ⟨k3 _ _ hfi, n1.2⟩
    · rcases List.mem_cons.mp hp with rfl | hp
      · exact ⟨old _ _ (Ne.symm a3) n2.1, n2.2⟩
      · have n3 := N' p (List.mem_append_left _ hp)
        exact ⟨old _ _ (fun q => a1.of _ (LX.cells_adr p hp) q.symm) n3.1, n3.2⟩
theorem nextEnded {news : Cells} {Q : Option Value → Shared → Prop} {E : Value → Shared → Prop}
    (F : Fr g L s'.heap m) (N : News g L s'.heap ((fi, itF mo ts true) :: news))
    (h : ∀ h'', Fr g L h'' m → News g L h'' ((fi, itF mo ts true) :: news) → Q none { s' with heap := h'' }) :
    wpAny (model prog w) (arT dp un gd fr) (pyNext (.ref fi)) Q E s' :=
  pyNext_ci_ended rfl (N _ (.head _)).1 fun h'' k => h h'' (F.keeps k) (N.grown k)
theorem iaddCh {prog : Program} {w : World} {A : Around} {E : Value → Shared → Prop} {s : Shared} {a : List Nat} {c : Nat} {t u : Tok} {Q : Value → Shared → Prop} (hz : a.length < 10000000) (h : ∀ t' tk, Q (.str ⟨(a ++ [c]).toArray⟩ t') { s with toks := tk }) :
    wpAny (model prog w) A (inplaceOp .Add (.str ⟨a.toArray⟩ t) (.str ⟨#[c]⟩ u)) Q E s := by
  refine PyProof.Rows.iadd_str (fun t' tk => ?_) (by show a.toArray.size + 1 ≤ _; rw [sizeLine_eq, List.size_toArray]; omega)
  have e : (⟨a.toArray⟩ : Str) ++ (⟨#[c]⟩ : Str) = ⟨(a ++ [c]).toArray⟩ := by
    apply PySem.Str.ext'
    rw [PySem.Str.cps_append]
    simp
  rw [e]; exact h t' tk
end
noncomputable def tokM (x fi : Addr) (acc : List Nat) (t : Tok) (vch : Option Value) : Str → Option Value := fun y =>
  if y = Str.ofString "ch" then vch else if y = Str.ofString "token" then some (.str ⟨acc.toArray⟩ t) else if y = Str.ofString "fiter" then some (.ref fi) else if y = Str.ofString "self" then some (.ref x) else none
theorem frOf {g h : Heap} {L : Addr} {m m' : Str → Option Value} (F : Fr g L h m) (e : ∀ y, m y = m' y) : Fr g L h m' := by
  have : m = m' := funext e
  subst this; exact F
theorem nm_ct : (Str.ofString "ch" = Str.ofString "token") = False := by simp; decide
theorem nm_cf : (Str.ofString "ch" = Str.ofString "fiter") = False := by simp; decide
theorem nm_cs : (Str.ofString "ch" = Str.ofString "self") = False := by simp; decide
theorem nm_tc : (Str.ofString "token" = Str.ofString "ch") = False := by simp; decide
theorem nm_tf : (Str.ofString "token" = Str.ofString "fiter") = False := by simp; decide
theorem nm_ts : (Str.ofString "token" = Str.ofString "self") = False := by simp; decide
theorem nm_ft : (Str.ofString "fiter" = Str.ofString "token") = False := by simp; decide
theorem nm_fs : (Str.ofString "fiter" = Str.ofString "self") = False := by simp; decide
theorem nm_st : (Str.ofString "self" = Str.ofString "token") = False := by simp; decide
theorem nm_sf : (Str.ofString "self" = Str.ofString "fiter") = False := by simp; decide
theorem tokM_start {x fi : Addr} {t : Tok} (y : Str) : (if y = Str.ofString "fiter" then some (Value.ref fi) else if y = Str.ofString "token" then some (Value.str (Str.ofString "") t) else List.lookup y [(Str.ofString "self", Value.ref x)].reverse) = tokM x fi [] t none y := by
  have e0 : (Str.ofString "") = (⟨([] : List Nat).toArray⟩ : Str) := by decide +kernel
  unfold tokM
  by_cases h1 : y = Str.ofString "ch"
  · subst h1; simp only [nm_ct, nm_cf, if_false, if_true]; rfl
  · simp only [h1, if_false]
    by_cases h2 : y = Str.ofString "token"
    · subst h2; simp only [nm_tf, if_false, if_true, e0]
    · simp only [h2, if_false]
      by_cases h3 : y = Str.ofString "fiter"
      · simp only [h3, if_true]
      · simp only [h3, if_false]
        by_cases h4 : y = Str.ofString "self"
        · subst h4; simp
        · simp [h4, List.lookup, beq_eq_false_iff_ne.mpr h4]
theorem tokM_ch {x fi : Addr} {acc : List Nat} {t : Tok} {v : Value} {vch : Option Value} (y : Str) : (if y = Str.ofString "ch" then some v else tokM x fi acc t vch y) = tokM x fi acc t (some v) y := by
  unfold tokM
  by_cases h1 : y = Str.ofString "ch" <;> simp [h1]
theorem tokM_tok {x fi : Addr} {acc acc' : List Nat} {t t' : Tok} {vch : Option Value} (y : Str) : (if y = Str.ofString "token" then some (Value.str ⟨acc'.toArray⟩ t') else tokM x fi acc t vch y) = tokM x fi acc' t' vch y := by
  unfold tokM
  by_cases h1 : y = Str.ofString "token"
  · subst h1; simp only [nm_tc, if_true, if_false]
  · simp only [h1, if_false]
noncomputable def TokSt (w : World) (l : LX) (g : Heap) (L fi mo : Addr) (s : Shared) (ts : Tok) (tot : Int) (kp : Nat) (acc : List Nat) (ended : Bool) (cs : List Nat) (s' : Shared) : Prop :=
  ∃ h' tk t tl ln sg ks vch, s' = { s with heap := h', toks := tk } ∧ ln + nl cs = tot ∧ Chrs sg cs.reverse ∧ Fr g L h' (tokM l.x fi acc t vch) ∧
    News g L h' ((fi, itF mo ts ended) :: (mo, methodObj (.ref 42) (.ref l.x)) :: l.cells w ln tl [] kp sg ks)
theorem nl_cons (ln : Int) (c : Nat) (r : List Nat) : (cond (c == 10) (ln + 1) ln) + nl r = ln + nl (c :: r) := by
  show _ = ln + cond (c == 10) (nl r + 1) (nl r)
  cases c == 10 <;> simp <;> omega
theorem fin_tok {w : World} {l : LX} {g h' : Heap} {L fi mo : Addr} {m : Str → Option Value} {s : Shared} {tot ln' : Int} {tl' tt tk : Tok} {kp ks' : Nat} {sg' : List Value} {t R : List Nat} {o1 o2 : Obj} (F : Fr g L h' m) (N : News g L h' ((fi, o1) :: (mo, o2) :: l.cells w ln' tl' [] kp sg' ks')) (e : ln' + nl R = tot) (hsg : Chrs sg' R.reverse) :
    Fin g L s (fun r own => ∃ t' tl' sg' ks', r = .str ⟨t.toArray⟩ t' ∧ Chrs sg' R.reverse ∧ own = l.cells w (tot - nl R) tl' [] kp sg' ks') (.str ⟨t.toArray⟩ tt) { s with heap := h', toks := tk } := by
  have : ln' = tot - nl R := by omega
  subst this
  exact Fin.intro F (cb_drop N fun p hp => .tail _ (.tail _ hp)) ⟨tt, tl', sg', ks', rfl, hsg, rfl⟩
end Mine

-- AT13
section
local macro_rules | `(tactic| walk_at "inplaceOp Add str str") => `(tactic| (k_here; k_dflt (refine Mine.iaddCh (by omega) ?_); intro _ _))
namespace Mine
theorem getTok0 {prog : Program} {w : World} (l : LX) (hl : l.Ok prog w) (ln : Int) (tl : Tok) (kp : Nat) (sg : List Value) (ks : Nat) (cs t R : List Nat) (hsg : Chrs sg cs.reverse) (hz : cs.length < 10000) (htok : TokR cs t R) :
   Does (KH w.params) prog w 8 49 [.ref l.x] (l.cells w ln tl [] kp sg ks) (fun r own => ∃ t' tl' sg' ks', r = .str ⟨t.toArray⟩ t' ∧ Chrs sg' R.reverse ∧ own = l.cells w (ln + nl cs - nl R) tl' [] kp sg' ks') := by
  obtain ⟨x, d, P, io, dio, rf, c2, cell, S, fdS, fdR, oc2, oCell, t1, t2, t3, t4, tw, t5⟩ := l
  refine enter (binds := [("self", .ref x)]) (by k_is) (by k_is) (fun s X => BindsTo.of_eq rfl) (locs rfl) ?_
  intro dp un gd fr g L s PP hP G F N l0 hdp hun
  obtain ⟨X, ⟨p, loose, mean, mg, mb, T⟩, codeHd, codeHd2⟩ := id G
  dsimp only [LX.cells] at N l0
  k_lt l0
  have hMark : ForMark := trivial
  try k_fold
  k_steps
  rename_i tk0 h1 mo h2 l1 fi h3 l2 h4 F4 N4
  have a1 : AllNe fi [x, d, P, io, dio, rf, c2, cell, S] := by simp only [AllNe, and_true]; refine ⟨?_, ?_, ?_, ?_, ?_, ?_, ?_, ?_, ?_⟩ <;> k_ne
  have a2 : AllNe mo [x, d, P, io, dio, rf, c2, cell, S] := by simp only [AllNe, and_true]; refine ⟨?_, ?_, ?_, ?_, ?_, ?_, ?_, ?_, ?_⟩ <;> k_ne
  have a3 : fi ≠ mo := by k_ne
  have F5 := frOf F4 tokM_start
  clear l0 l1 l2 F4
  generalize hts : tk0 + 1 + 1 + 1 = ts at N4
  clear hts
  refine forTurns (fun n s' => (∃ cs', TokSt w ⟨x, d, P, io, dio, rf, c2, cell, S, fdS, fdR, oc2, oCell, t1, t2, t3, t4, tw, t5⟩ g L fi mo s ts (ln + nl cs) kp [] false cs' s' ∧ TokR cs' t R ∧ cs'.length < 10000 ∧ n = cs'.length + 1) ∨ (TokSt w ⟨x, d, P, io, dio, rf, c2, cell, S, fdS, fdR, oc2, oCell, t1, t2, t3, t4, tw, t5⟩ g L fi mo s ts (ln + nl cs) kp t true R s' ∧ R = [] ∧ n = 0)) ?_ (cs.length + 1)
    (.inl ⟨cs, ⟨_, _, _, tl, ln, sg, ks, none, rfl, rfl, hsg, F5, N4⟩, htok, hz, rfl⟩)
  clear F5 N4 htok hz hsg
  intro n s' hI Pn Pe Pr hn he hr
  rcases hI with (⟨cs', ⟨h', tk, tt, tl', ln', sg', ks', vch, rfl, htot, hsg, F, N⟩, htok, hz, rfl⟩ | ⟨⟨h', tk, tt, tl', ln', sg', ks', vch, rfl, htot, hsg, F, N⟩, hR, rfl⟩)
  · cases htok with
    | eof =>
      have e0 : sg' = [] := by cases hsg; rfl
      subst e0
      refine nextEnd hl G a1 a2 a3 F N (by omega) (by omega) fun h'' tk' F' N' => ?_
      clear F N
      dsimp only [LX.cells, itF, cond_false] at N'
      refine he _ ?_
      k_steps
      exact hP _ _ (fin_tok (l := ⟨x, d, P, io, dio, rf, c2, cell, S, fdS, fdR, oc2, oCell, t1, t2, t3, t4, tw, t5⟩) (by assumption) (by assumption) htot .nil)
    | ws hw htok =>
      refine nextCh hl G a1 a2 hsg (by simp only [List.length_cons] at hz ⊢; omega) F N (by omega) (by omega) fun t0 h'' tk' tl'' sg'' ks'' hsg' F' N' => ?_
      clear F N hsg
      rename_i r c
      have hws := (chS_ws c).trans (hw)
      dsimp only [LX.cells, itF, cond_false] at N'
      k_steps
      exact hn _ ⟨r.length + 1, by simp, .inl ⟨r, ⟨_, _, _, _, _, _, _, _, rfl, (nl_cons _ _ _).trans htot, hsg', frOf (by assumption) tokM_ch, by assumption⟩, htok, by simp only [List.length_cons] at hz ⊢; omega, rfl⟩⟩
    | quo hq0 =>
      refine nextCh hl G a1 a2 hsg (by simp only [List.length_cons] at hz ⊢; omega) F N (by omega) (by omega) fun t0 h'' tk' tl'' sg'' ks'' hsg' F' N' => ?_
      clear F N hsg
      rename_i r
      have hws := (chS_ws 34).trans (rfl)
      have hq := (chS_q 34).trans (rfl)
      dsimp only [LX.cells, itF, cond_false] at N'
      k_steps
      clear hws hq
      refine forTurns (fun n s' => ∃ acc cs', TokSt w ⟨x, d, P, io, dio, rf, c2, cell, S, fdS, fdR, oc2, oCell, t1, t2, t3, t4, tw, t5⟩ g L fi mo s ts (ln + nl cs) kp acc false cs' s' ∧ Quo acc cs' t R ∧ acc.length + cs'.length < 10000 ∧ n = cs'.length) ?_ _ ⟨[], _, ⟨_, _, _, _, _, _, _, _, rfl, (nl_cons _ _ _).trans htot, hsg', frOf (by assumption) (fun y => by first | exact tokM_ch y | exact tokM_tok y | (simp only [tokM_ch, tokM_tok]; done) | (simp only [tokM_ch, tokM_tok]; rfl)), by assumption⟩, hq0, by simp only [List.length_cons, List.length_append, List.length_nil] at hz ⊢; omega, rfl⟩
      intro n s' hI Pn' Pe' Pr' hn' he' hr'
      rcases hI with ⟨acc, cs', ⟨h', tk, tt, tl', ln', sg', ks', vch, rfl, htot, hsg, F, N⟩, hu, hz, rfl⟩
      cases hu with
      | done =>
        refine nextCh hl G a1 a2 hsg (by simp only [List.length_cons] at hz ⊢; omega) F N (by omega) (by omega) fun t0 h'' tk' tl'' sg'' ks'' hsg' F' N' => ?_
        clear F N hsg
        have hq := (chS_q 34).trans (rfl)
        dsimp only [LX.cells, itF, cond_false] at N'
        k_steps
        exact hr' _ _ (hr _ _ (hP _ _ (fin_tok (l := ⟨x, d, P, io, dio, rf, c2, cell, S, fdS, fdR, oc2, oCell, t1, t2, t3, t4, tw, t5⟩) (by assumption) (by assumption) ((nl_cons _ _ _).trans htot) hsg')))
      | esc hu =>
        refine nextCh hl G a1 a2 hsg (by simp only [List.length_cons] at hz ⊢; omega) F N (by omega) (by omega) fun t0 h'' tk' tl'' sg'' ks'' hsg' F' N' => ?_
        clear F N hsg
        rename_i r dd
        have hws := (chS_ws 92).trans (rfl)
        have hq := (chS_q 92).trans (rfl)
        have hb := (chS_b 92).trans (rfl)
        dsimp only [LX.cells, itF, cond_false] at N'
        k_steps
        refine wpAny_call (codeRead (l := ⟨x, d, P, io, dio, rf, c2, cell, S, fdS, fdR, oc2, oCell, t1, t2, t3, t4, tw, t5⟩) (fi := fi) (mo := mo) hl G a1 a2 _ _ hsg' (by simp only [List.length_cons] at hz ⊢; omega) (by assumption) (by assumption) (by omega) (by omega) fun t1' h3' tk3 tl3 sg3 ks3 hsg3 F3 N3 => ?_)
        clear hws hq hb
        dsimp only [LX.cells, itF, cond_false] at N3
        k_sweep
        have hlen : acc.length < 10000000 := by omega
        k_steps
        exact hn' _ ⟨r.length, by simp only [List.length_cons]; omega, ⟨acc ++ [dd], r, ⟨_, _, _, _, _, _, _, _, rfl, (nl_cons _ _ _).trans ((nl_cons _ _ _).trans htot), hsg3, frOf (by assumption) (fun y => by first | exact tokM_ch y | exact tokM_tok y | (simp only [tokM_ch, tokM_tok]; done) | (simp only [tokM_ch, tokM_tok]; rfl)), by assumption⟩, hu, by simp only [List.length_cons, List.length_append, List.length_nil] at hz ⊢; omega, rfl⟩⟩
      | ch hq1 hb0 hu =>
        refine nextCh hl G a1 a2 hsg (by simp only [List.length_cons] at hz ⊢; omega) F N (by omega) (by omega) fun t0 h'' tk' tl'' sg'' ks'' hsg' F' N' => ?_
        clear F N hsg
        rename_i r c
        have hq := (chS_q c).trans (beq_eq_false_iff_ne.mpr hq1)
        have hb := (chS_b c).trans (beq_eq_false_iff_ne.mpr hb0)
        dsimp only [LX.cells, itF, cond_false] at N'
        have hlen : acc.length < 10000000 := by omega
        k_steps
        exact hn' _ ⟨r.length, by simp only [List.length_cons]; omega, ⟨acc ++ [c], r, ⟨_, _, _, _, _, _, _, _, rfl, (nl_cons _ _ _).trans htot, hsg', frOf (by assumption) (fun y => by first | exact tokM_ch y | exact tokM_tok y | (simp only [tokM_ch, tokM_tok]; done) | (simp only [tokM_ch, tokM_tok]; rfl)), by assumption⟩, hu, by simp only [List.length_cons, List.length_append, List.length_nil] at hz ⊢; omega, rfl⟩⟩
    | esc hu =>
      refine nextCh hl G a1 a2 hsg (by simp only [List.length_cons] at hz ⊢; omega) F N (by omega) (by omega) fun t0 h'' tk' tl'' sg'' ks'' hsg' F' N' => ?_
      clear F N hsg
      rename_i r dd
      have hws := (chS_ws 92).trans (rfl)
      have hq := (chS_q 92).trans (rfl)
      have hb := (chS_b 92).trans (rfl)
      dsimp only [LX.cells, itF, cond_false] at N'
      k_steps
      refine wpAny_call (codeRead (l := ⟨x, d, P, io, dio, rf, c2, cell, S, fdS, fdR, oc2, oCell, t1, t2, t3, t4, tw, t5⟩) (fi := fi) (mo := mo) hl G a1 a2 _ _ hsg' (by simp only [List.length_cons] at hz ⊢; omega) (by assumption) (by assumption) (by omega) (by omega) fun t1' h3' tk3 tl3 sg3 ks3 hsg3 F3 N3 => ?_)
      clear hws hq hb
      dsimp only [LX.cells, itF, cond_false] at N3
      k_sweep
      have hlen : ([] : List Nat).length < 10000000 := by decide
      k_steps
      refine forTurns (fun n s' => ∃ acc cs', TokSt w ⟨x, d, P, io, dio, rf, c2, cell, S, fdS, fdR, oc2, oCell, t1, t2, t3, t4, tw, t5⟩ g L fi mo s ts (ln + nl cs) kp acc false cs' s' ∧ Unq acc cs' t R ∧ acc.length + cs'.length < 10000 ∧ n = cs'.length) ?_ _ ⟨[dd], r, ⟨_, _, _, _, _, _, _, _, rfl, (nl_cons _ _ _).trans ((nl_cons _ _ _).trans htot), hsg3, frOf (by assumption) (fun y => by first | exact tokM_ch y | exact tokM_tok y | (simp only [tokM_ch, tokM_tok]; done) | (simp only [tokM_ch, tokM_tok]; rfl)), by assumption⟩, hu, by simp only [List.length_cons, List.length_append, List.length_nil] at hz ⊢; omega, rfl⟩
      intro n s' hI Pn' Pe' Pr' hn' he' hr'
      rcases hI with ⟨acc, cs', ⟨h', tk, tt, tl', ln', sg', ks', vch, rfl, htot, hsg, F, N⟩, hu, hz, rfl⟩
      cases hu with
      | eof =>
        have e0 : sg' = [] := by cases hsg; rfl
        subst e0
        refine nextEnd hl G a1 a2 a3 F N (by omega) (by omega) fun h'' tk' F' N' => ?_
        clear F N
        refine he' _ ?_
        k_steps
        exact hn _ ⟨0, by simp, .inr ⟨⟨_, _, _, _, _, _, _, _, rfl, htot, .nil, F', N'⟩, rfl, rfl⟩⟩
      | ws hw =>
        refine nextCh hl G a1 a2 hsg (by simp only [List.length_cons] at hz ⊢; omega) F N (by omega) (by omega) fun t0 h'' tk' tl'' sg'' ks'' hsg' F' N' => ?_
        clear F N hsg
        rename_i c
        have hws := (chS_ws c).trans (hw)
        dsimp only [LX.cells, itF, cond_false] at N'
        k_steps
        exact hr' _ _ (hr _ _ (hP _ _ (fin_tok (l := ⟨x, d, P, io, dio, rf, c2, cell, S, fdS, fdR, oc2, oCell, t1, t2, t3, t4, tw, t5⟩) (by assumption) (by assumption) ((nl_cons _ _ _).trans htot) hsg')))
      | esc hu =>
        refine nextCh hl G a1 a2 hsg (by simp only [List.length_cons] at hz ⊢; omega) F N (by omega) (by omega) fun t0 h'' tk' tl'' sg'' ks'' hsg' F' N' => ?_
        clear F N hsg
        rename_i r dd
        have hws := (chS_ws 92).trans (rfl)
        have hq := (chS_q 92).trans (rfl)
        have hb := (chS_b 92).trans (rfl)
        dsimp only [LX.cells, itF, cond_false] at N'
        k_steps
        refine wpAny_call (codeRead (l := ⟨x, d, P, io, dio, rf, c2, cell, S, fdS, fdR, oc2, oCell, t1, t2, t3, t4, tw, t5⟩) (fi := fi) (mo := mo) hl G a1 a2 _ _ hsg' (by simp only [List.length_cons] at hz ⊢; omega) (by assumption) (by assumption) (by omega) (by omega) fun t1' h3' tk3 tl3 sg3 ks3 hsg3 F3 N3 => ?_)
        clear hws hq hb
        dsimp only [LX.cells, itF, cond_false] at N3
        k_sweep
        have hlen : acc.length < 10000000 := by omega
        k_steps
        exact hn' _ ⟨r.length, by simp only [List.length_cons]; omega, ⟨acc ++ [dd], r, ⟨_, _, _, _, _, _, _, _, rfl, (nl_cons _ _ _).trans ((nl_cons _ _ _).trans htot), hsg3, frOf (by assumption) (fun y => by first | exact tokM_ch y | exact tokM_tok y | (simp only [tokM_ch, tokM_tok]; done) | (simp only [tokM_ch, tokM_tok]; rfl)), by assumption⟩, hu, by simp only [List.length_cons, List.length_append, List.length_nil] at hz ⊢; omega, rfl⟩⟩
      | ch hw hb0 hu =>
        refine nextCh hl G a1 a2 hsg (by simp only [List.length_cons] at hz ⊢; omega) F N (by omega) (by omega) fun t0 h'' tk' tl'' sg'' ks'' hsg' F' N' => ?_
        clear F N hsg
        rename_i r c
        have hws := (chS_ws c).trans (hw)
        have hb := (chS_b c).trans (beq_eq_false_iff_ne.mpr hb0)
        dsimp only [LX.cells, itF, cond_false] at N'
        have hlen : acc.length < 10000000 := by omega
        k_steps
        exact hn' _ ⟨r.length, by simp only [List.length_cons]; omega, ⟨acc ++ [c], r, ⟨_, _, _, _, _, _, _, _, rfl, (nl_cons _ _ _).trans htot, hsg', frOf (by assumption) (fun y => by first | exact tokM_ch y | exact tokM_tok y | (simp only [tokM_ch, tokM_tok]; done) | (simp only [tokM_ch, tokM_tok]; rfl)), by assumption⟩, hu, by simp only [List.length_cons, List.length_append, List.length_nil] at hz ⊢; omega, rfl⟩⟩
    | unq hw hq1 hb0 hu =>
      refine nextCh hl G a1 a2 hsg (by simp only [List.length_cons] at hz ⊢; omega) F N (by omega) (by omega) fun t0 h'' tk' tl'' sg'' ks'' hsg' F' N' => ?_
      clear F N hsg
      rename_i r c
      have hws := (chS_ws c).trans (hw)
      have hq := (chS_q c).trans (beq_eq_false_iff_ne.mpr hq1)
      have hb := (chS_b c).trans (beq_eq_false_iff_ne.mpr hb0)
      dsimp only [LX.cells, itF, cond_false] at N'
      have hlen : ([] : List Nat).length < 10000000 := by decide
      k_steps
      clear hws hq hb
      refine forTurns (fun n s' => ∃ acc cs', TokSt w ⟨x, d, P, io, dio, rf, c2, cell, S, fdS, fdR, oc2, oCell, t1, t2, t3, t4, tw, t5⟩ g L fi mo s ts (ln + nl cs) kp acc false cs' s' ∧ Unq acc cs' t R ∧ acc.length + cs'.length < 10000 ∧ n = cs'.length) ?_ _ ⟨[c], r, ⟨_, _, _, _, _, _, _, _, rfl, (nl_cons _ _ _).trans htot, hsg', frOf (by assumption) (fun y => by first | exact tokM_ch y | exact tokM_tok y | (simp only [tokM_ch, tokM_tok]; done) | (simp only [tokM_ch, tokM_tok]; rfl)), by assumption⟩, hu, by simp only [List.length_cons, List.length_append, List.length_nil] at hz ⊢; omega, rfl⟩
      intro n s' hI Pn' Pe' Pr' hn' he' hr'
      rcases hI with ⟨acc, cs', ⟨h', tk, tt, tl', ln', sg', ks', vch, rfl, htot, hsg, F, N⟩, hu, hz, rfl⟩
      cases hu with
      | eof =>
        have e0 : sg' = [] := by cases hsg; rfl
        subst e0
        refine nextEnd hl G a1 a2 a3 F N (by omega) (by omega) fun h'' tk' F' N' => ?_
        clear F N
        refine he' _ ?_
        k_steps
        exact hn _ ⟨0, by simp, .inr ⟨⟨_, _, _, _, _, _, _, _, rfl, htot, .nil, F', N'⟩, rfl, rfl⟩⟩
      | ws hw =>
        refine nextCh hl G a1 a2 hsg (by simp only [List.length_cons] at hz ⊢; omega) F N (by omega) (by omega) fun t0 h'' tk' tl'' sg'' ks'' hsg' F' N' => ?_
        clear F N hsg
        rename_i c
        have hws := (chS_ws c).trans (hw)
        dsimp only [LX.cells, itF, cond_false] at N'
        k_steps
        exact hr' _ _ (hr _ _ (hP _ _ (fin_tok (l := ⟨x, d, P, io, dio, rf, c2, cell, S, fdS, fdR, oc2, oCell, t1, t2, t3, t4, tw, t5⟩) (by assumption) (by assumption) ((nl_cons _ _ _).trans htot) hsg')))
      | esc hu =>
        refine nextCh hl G a1 a2 hsg (by simp only [List.length_cons] at hz ⊢; omega) F N (by omega) (by omega) fun t0 h'' tk' tl'' sg'' ks'' hsg' F' N' => ?_
        clear F N hsg
        rename_i r dd
        have hws := (chS_ws 92).trans (rfl)
        have hq := (chS_q 92).trans (rfl)
        have hb := (chS_b 92).trans (rfl)
        dsimp only [LX.cells, itF, cond_false] at N'
        k_steps
        refine wpAny_call (codeRead (l := ⟨x, d, P, io, dio, rf, c2, cell, S, fdS, fdR, oc2, oCell, t1, t2, t3, t4, tw, t5⟩) (fi := fi) (mo := mo) hl G a1 a2 _ _ hsg' (by simp only [List.length_cons] at hz ⊢; omega) (by assumption) (by assumption) (by omega) (by omega) fun t1' h3' tk3 tl3 sg3 ks3 hsg3 F3 N3 => ?_)
        clear hws hq hb
        dsimp only [LX.cells, itF, cond_false] at N3
        k_sweep
        have hlen : acc.length < 10000000 := by omega
        k_steps
        exact hn' _ ⟨r.length, by simp only [List.length_cons]; omega, ⟨acc ++ [dd], r, ⟨_, _, _, _, _, _, _, _, rfl, (nl_cons _ _ _).trans ((nl_cons _ _ _).trans htot), hsg3, frOf (by assumption) (fun y => by first | exact tokM_ch y | exact tokM_tok y | (simp only [tokM_ch, tokM_tok]; done) | (simp only [tokM_ch, tokM_tok]; rfl)), by assumption⟩, hu, by simp only [List.length_cons, List.length_append, List.length_nil] at hz ⊢; omega, rfl⟩⟩
      | ch hw hb0 hu =>
        refine nextCh hl G a1 a2 hsg (by simp only [List.length_cons] at hz ⊢; omega) F N (by omega) (by omega) fun t0 h'' tk' tl'' sg'' ks'' hsg' F' N' => ?_
        clear F N hsg
        rename_i r c
        have hws := (chS_ws c).trans (hw)
        have hb := (chS_b c).trans (beq_eq_false_iff_ne.mpr hb0)
        dsimp only [LX.cells, itF, cond_false] at N'
        have hlen : acc.length < 10000000 := by omega
        k_steps
        exact hn' _ ⟨r.length, by simp only [List.length_cons]; omega, ⟨acc ++ [c], r, ⟨_, _, _, _, _, _, _, _, rfl, (nl_cons _ _ _).trans htot, hsg', frOf (by assumption) (fun y => by first | exact tokM_ch y | exact tokM_tok y | (simp only [tokM_ch, tokM_tok]; done) | (simp only [tokM_ch, tokM_tok]; rfl)), by assumption⟩, hu, by simp only [List.length_cons, List.length_append, List.length_nil] at hz ⊢; omega, rfl⟩⟩
  · subst hR
    refine nextEnded F N fun h'' F' N' => ?_
    clear F N
    dsimp only [LX.cells, itF, cond_false] at N'
    refine he _ ?_
    k_steps
    exact hP _ _ (fin_tok (l := ⟨x, d, P, io, dio, rf, c2, cell, S, fdS, fdR, oc2, oCell, t1, t2, t3, t4, tw, t5⟩) (by assumption) (by assumption) htot hsg)
end Mine
end

-- AT14
namespace Mine
/-- a hand's table: what is written for a sign -/
noncomputable def tabOf (tb : List (Nat × List Nat)) (c : Nat) : List Nat := (tb.lookup c).getD [c]
noncomputable def subL (tb : List (Nat × List Nat)) (xs : List Nat) : List Nat := xs.flatMap (tabOf tb)
noncomputable def subT (tb : List (Nat × List Nat)) (x : Str) : Str := ⟨(subL tb x.cps.toList).toArray⟩
theorem str_ext {x y : Str} (h : x.cps.toList = y.cps.toList) : x = y := by
  cases x; cases y; exact congrArg Str.mk (Array.toList_inj.mp h)
theorem rep1 (c : Nat) (z : List Nat) : ∀ xs : List Nat, rep [c] z 0 xs = xs.flatMap fun a => if a = c then z else [a]
  | [] => rfl
  | a :: xs => by
    have ih := rep1 c z xs
    by_cases h : a = c
    · subst h
      rw [rep_hit (y := [a]) (Nat.le_refl 1) (by simp), List.flatMap_cons, if_pos rfl]
      exact congrArg _ ih
    · rw [rep_miss (by simpa using h), ih, List.flatMap_cons, if_neg h]; rfl
theorem flat_id (c : Nat) (z : List Nat) : ∀ xs : List Nat, c ∉ xs → (xs.flatMap fun a => if a = c then z else [a]) = xs
  | [], _ => rfl
  | a :: xs, h => by
    have h1 : a ≠ c := fun e => h (e ▸ .head _)
    rw [List.flatMap_cons, if_neg h1, flat_id c z xs fun m => h (.tail _ m)]; rfl
theorem look_snoc (a c : Nat) (z : List Nat) : ∀ tb : List (Nat × List Nat), (tb ++ [(c, z)]).lookup a = ((tb.lookup a) <|> (if a = c then some z else none))
  | [] => by
    rw [List.nil_append, List.lookup_cons]
    by_cases h : a = c
    · subst h; simp
    · rw [if_neg h, show (a == c) = false from beq_eq_false_iff_ne.mpr h]; rfl
  | (b, y) :: tb => by
    have ih := look_snoc a c z tb
    rw [List.cons_append, List.lookup_cons, List.lookup_cons]
    cases h : a == b with
    | true => rfl
    | false => exact ih
theorem look_mem {a : Nat} {v : List Nat} : ∀ {tb : List (Nat × List Nat)}, tb.lookup a = some v → ∃ p ∈ tb, p.2 = v
  | (b, y) :: tb, h => by
    rw [List.lookup_cons] at h
    cases q : a == b with
    | true => rw [q] at h; exact ⟨_, .head _, Option.some.inj h⟩
    | false =>
      rw [q] at h
      obtain ⟨p, hp, e⟩ := look_mem h
      exact ⟨p, .tail _ hp, e⟩
theorem tab_step (tb : List (Nat × List Nat)) (c : Nat) (z : List Nat) (h : tb.all (fun p => !p.2.contains c) = true) (xs : List Nat) : (subL tb xs).flatMap (fun a => if a = c then z else [a]) = subL (tb ++ [(c, z)]) xs := by
  unfold subL
  rw [List.flatMap_assoc]
  congr 1
  funext a
  unfold tabOf
  rw [look_snoc]
  cases q : tb.lookup a with
  | some v =>
    obtain ⟨p, hp, rfl⟩ := look_mem q
    have := List.all_eq_true.mp h p hp
    refine flat_id c z _ fun m => ?_
    rw [List.contains_iff_mem.mpr (show c ∈ p.2 from m)] at this
    cases this
  | none =>
    show List.flatMap _ [a] = _
    by_cases e : a = c
    · subst e; simp
    · simp [e]
theorem subL_len (tb : List (Nat × List Nat)) (h : tb.all (fun p => p.2.length ≤ 6) = true) : ∀ xs : List Nat, (subL tb xs).length ≤ 6 * xs.length
  | [] => Nat.le_refl _
  | a :: xs => by
    have ih := subL_len tb h xs
    unfold subL at ih ⊢
    rw [List.flatMap_cons, List.length_append, List.length_cons]
    have e : (tabOf tb a).length ≤ 6 := by
      unfold tabOf
      cases q : tb.lookup a with
      | some v =>
        obtain ⟨p, hp, rfl⟩ := look_mem q
        have := List.all_eq_true.mp h p hp
        simpa using this
      | none => show 1 ≤ 6; decide
    omega
/-- one of the escape's steps, on the text -/
theorem replStep {x y cS zS : Str} {tb : List (Nat × List Nat)} {c : Nat} {z : List Nat} (hy : y.cps.toList = subL tb x.cps.toList) (hc : cS.cps.toList = [c]) (hz : zS.cps.toList = z) (h : tb.all (fun p => !p.2.contains c) = true) :
    (Txt.replace y cS zS).cps.toList = subL (tb ++ [(c, z)]) x.cps.toList := by
  have hl : 1 ≤ cS.length := by show 1 ≤ cS.cps.size; rw [← Array.length_toList, hc]; exact Nat.le_refl _
  rw [replace_rep _ _ _ hl, hc, hz, hy, rep1, tab_step tb c z h]
theorem skipStep {x y cS : Str} {tb : List (Nat × List Nat)} {c : Nat} {z : List Nat} (hy : y.cps.toList = subL tb x.cps.toList) (hc : cS = ⟨#[c]⟩) (hb : (!(Builtin.Str.occurrences y cS 0 y.length 1).isEmpty) = false) (h : tb.all (fun p => !p.2.contains c) = true) :
    y.cps.toList = subL (tb ++ [(c, z)]) x.cps.toList := by
  rw [hc, StrLaws.found_one] at hb
  have hn : c ∉ y.cps.toList := of_decide_eq_false hb
  rw [← tab_step tb c z h, ← hy, flat_id c z _ hn]
theorem fr_text {g h : Heap} {L : Addr} {v u : Option Value} (F : Fr g L h (fun n => if n = Str.ofString "text" then v else if n = Str.ofString "text" then u else none)) : Fr g L h (fun n => if n = Str.ofString "text" then v else none) :=
  frOf F fun n => by by_cases h : n = Str.ofString "text" <;> simp [h]
noncomputable def Writes1 (prog : Program) (w : World) (f : Addr) (tb : List (Nat × List Nat)) : Prop := ∀ (x : Str) (t : Tok), x.cps.size ≤ 100000 → Does (KH w.params) prog w 2 f [.str x t] [] (fun r own => ∃ t', r = .str (subT tb x) t' ∧ own = [])
end Mine
theorem Mine.genToks {prog : Program} {w : World} {A : Around} {E : Value → Shared → Prop} {α : Type} {t : Sem α} {Q : α → Shared → Prop} {s : Shared} {hh : Heap} {a : Nat} (k : ∀ tk : Nat, 1 ≤ tk → wpAny (model prog w) A t Q E { s with heap := hh, toks := tk }) : wpAny (model prog w) A t Q E { s with heap := hh, toks := a + 1 } := k _ (Nat.le_add_left _ _)
local macro_rules | `(tactic| walk_at "execs cons") => `(tactic| (k_here; (with_reducible refine Mine.genToks ?_); intro tk hk))
local macro_rules | `(tactic| walk_at "call builtin:str.replace") => `(tactic| (k_here; k_dflt (refine Mine.replaceT (by omega) (Nat.lt_succ_self _) (by decide) (by assumption) (by decide) ?_); intro _ _ hk'; (try dsimp only at hk')))
namespace Mine
section
variable {prog : Program} {w : World} {A : Around} {E : Value → Shared → Prop} {s : Shared} {env : Env}
theorem tryRet {body : List Stmt} {h₀ : ExceptHandler} {hs : List ExceptHandler} {pos : Pos} {Q : Flow → Shared → Prop}
    (h : ∀ Q' : Flow → Shared → Prop, (∀ v s', Q (.ret v) s' → Q' (.ret v) s') → wpAny (model prog w) A (execs body env) Q' (fun _ _ => False) s) :
    wpAny (model prog w) A (exec (.Try body (h₀ :: hs) [] [] pos) env) Q E s :=
  wpAny_Try_except (wpAny_mono (h (fun f s₁ => match f with | .next => wpAny (model prog w) A (execs [] env) Q E s₁ | f => Q f s₁) fun _ _ x => x) (fun _ _ x => x) fun _ _ x => x.elim)
end
theorem look1 {a y : Str} {v v' : Value} (e : v = v') : List.lookup y [(a, v)] = if y = a then some v' else none := by
  subst e
  rw [List.lookup_cons]
  by_cases h : y = a
  · subst h; simp
  · rw [if_neg h, show (y == a) = false from beq_eq_false_iff_ne.mpr h]; rfl
theorem lookU {a y : Str} {v v' u : Value} (e : v = v') : (if y = a then some v else List.lookup y [(a, u)]) = if y = a then some v' else none := by
  subst e
  by_cases h : y = a
  · simp [h]
  · simp [h]
noncomputable def tb0 : List (Nat × List Nat) := [(38, [38, 97, 109, 112, 59]), (60, [38, 108, 116, 59]), (62, [38, 103, 116, 59])]
noncomputable def tb1 : List (Nat × List Nat) := [(38, [38, 97, 109, 112, 59]), (60, [38, 108, 116, 59]), (62, [38, 103, 116, 59]), (34, [38, 113, 117, 111, 116, 59]), (13, [38, 35, 49, 51, 59]), (10, [38, 35, 49, 48, 59]), (9, [38, 35, 48, 57, 59])]
noncomputable def tb2 : List (Nat × List Nat) := [(38, [38, 97, 109, 112, 59]), (62, [38, 103, 116, 59]), (34, [38, 113, 117, 111, 116, 59])]
noncomputable def tb3 : List (Nat × List Nat) := [(38, [38, 97, 109, 112, 59]), (60, [38, 108, 116, 59]), (62, [38, 103, 116, 59]), (13, [38, 35, 120, 68, 59])]
noncomputable def tb4 : List (Nat × List Nat) := [(38, [38, 97, 109, 112, 59]), (60, [38, 108, 116, 59]), (34, [38, 113, 117, 111, 116, 59]), (9, [38, 35, 120, 57, 59]), (10, [38, 35, 120, 65, 59]), (13, [38, 35, 120, 68, 59])]
theorem esc161 {prog : Program} {w : World} : Writes1 prog w 161 tb0 := by
  intro x t hx
  refine enterT (binds := [("text", .str x t)]) (by k_is) (by k_is) (fun s X => BindsTo.of_eq rfl) (locs rfl) ?_
  intro dp un gd fr g L s PP hP G F N l0 hdp hun hT
  obtain ⟨X, ⟨p, loose, mean, mg, mb, T⟩, codeHd, codeHd2⟩ := id G
  simp only [List.length_cons, List.length_nil] at hT
  try k_fold
  k_steps
  refine tryRet fun Q hQ => ?_
  have F := frOf F (m' := fun y => if y = "text" then some (.str x t) else none) (fun y => look1 rfl)
  have h0 : x.cps.toList = subL [] x.cps.toList := by
    unfold subL tabOf
    show _ = x.cps.toList.flatMap fun a => [a]
    simp
  have ht0 : 0 < s.toks := by omega
  have hl0 : x.length ≤ 1048576 := by
    have := subL_len ([] : List (Nat × List Nat)) (by decide) x.cps.toList
    rw [← h0] at this
    have e1 := Array.length_toList (xs := x.cps)
    have e2 := Array.length_toList (xs := x.cps)
    show x.cps.size ≤ _
    omega
  refine wpAny_execs_cons (cutNext (fun s' => ∃ y t' h' k, s' = { s with heap := h', toks := k } ∧ y.cps.toList = subL (([] : List (Nat × List Nat)) ++ [(38, [38, 97, 109, 112, 59])]) x.cps.toList ∧ Fr g L h' (fun n => if n = "text" then some (.str y t') else none) ∧ News g L h' []) ?_ ?_)
  · intro Q' hQ'
    cases hb : (!(Builtin.Str.occurrences x (Str.ofString "&") 0 x.length 1).isEmpty) with
    | true =>
      k_steps
      refine hQ' _ ⟨_, _, _, _, rfl, replStep (c := 38) (z := [38, 97, 109, 112, 59]) h0 ?_ ?_ ?_, fr_text (by assumption), by assumption⟩
      · decide +kernel
      · decide +kernel
      · decide
    | false =>
      k_steps
      refine hQ' _ ⟨_, _, _, _, rfl, skipStep (c := 38) h0 ?_ hb ?_, by assumption, by assumption⟩
      · decide +kernel
      · decide
  clear F N
  rintro _ ⟨y0, u0, g0, k0, rfl, h1, F, N⟩
  have hl1 : y0.length ≤ 1048576 := by
    have := subL_len (([] : List (Nat × List Nat)) ++ [(38, [38, 97, 109, 112, 59])]) (by decide) x.cps.toList
    rw [← h1] at this
    have e1 := Array.length_toList (xs := y0.cps)
    have e2 := Array.length_toList (xs := x.cps)
    show y0.cps.size ≤ _
    omega
  refine wpAny_execs_cons (cutNext (fun s' => ∃ y t' h' k, s' = { s with heap := h', toks := k } ∧ y.cps.toList = subL ((([] : List (Nat × List Nat)) ++ [(38, [38, 97, 109, 112, 59])]) ++ [(60, [38, 108, 116, 59])]) x.cps.toList ∧ Fr g L h' (fun n => if n = "text" then some (.str y t') else none) ∧ News g L h' []) ?_ ?_)
  · intro Q' hQ'
    cases hb : (!(Builtin.Str.occurrences y0 (Str.ofString "<") 0 y0.length 1).isEmpty) with
    | true =>
      k_steps
      refine hQ' _ ⟨_, _, _, _, rfl, replStep (c := 60) (z := [38, 108, 116, 59]) h1 ?_ ?_ ?_, fr_text (by assumption), by assumption⟩
      · decide +kernel
      · decide +kernel
      · decide
    | false =>
      k_steps
      refine hQ' _ ⟨_, _, _, _, rfl, skipStep (c := 60) h1 ?_ hb ?_, by assumption, by assumption⟩
      · decide +kernel
      · decide
  clear F N
  rintro _ ⟨y1, u1, g1, k1, rfl, h2, F, N⟩
  have hl2 : y1.length ≤ 1048576 := by
    have := subL_len ((([] : List (Nat × List Nat)) ++ [(38, [38, 97, 109, 112, 59])]) ++ [(60, [38, 108, 116, 59])]) (by decide) x.cps.toList
    rw [← h2] at this
    have e1 := Array.length_toList (xs := y1.cps)
    have e2 := Array.length_toList (xs := x.cps)
    show y1.cps.size ≤ _
    omega
  refine wpAny_execs_cons (cutNext (fun s' => ∃ y t' h' k, s' = { s with heap := h', toks := k } ∧ y.cps.toList = subL (((([] : List (Nat × List Nat)) ++ [(38, [38, 97, 109, 112, 59])]) ++ [(60, [38, 108, 116, 59])]) ++ [(62, [38, 103, 116, 59])]) x.cps.toList ∧ Fr g L h' (fun n => if n = "text" then some (.str y t') else none) ∧ News g L h' []) ?_ ?_)
  · intro Q' hQ'
    cases hb : (!(Builtin.Str.occurrences y1 (Str.ofString ">") 0 y1.length 1).isEmpty) with
    | true =>
      k_steps
      refine hQ' _ ⟨_, _, _, _, rfl, replStep (c := 62) (z := [38, 103, 116, 59]) h2 ?_ ?_ ?_, fr_text (by assumption), by assumption⟩
      · decide +kernel
      · decide +kernel
      · decide
    | false =>
      k_steps
      refine hQ' _ ⟨_, _, _, _, rfl, skipStep (c := 62) h2 ?_ hb ?_, by assumption, by assumption⟩
      · decide +kernel
      · decide
  clear F N
  rintro _ ⟨y2, u2, g2, k2, rfl, h3, F, N⟩
  k_steps
  exact hQ _ _ (hP _ _ (Fin.intro (by assumption) (by assumption) ⟨_, congrArg (Value.str · _) (str_ext h3), rfl⟩))
theorem esc168 {prog : Program} {w : World} : Writes1 prog w 168 tb1 := by
  intro x t hx
  refine enterT (binds := [("text", .str x t)]) (by k_is) (by k_is) (fun s X => BindsTo.of_eq rfl) (locs rfl) ?_
  intro dp un gd fr g L s PP hP G F N l0 hdp hun hT
  obtain ⟨X, ⟨p, loose, mean, mg, mb, T⟩, codeHd, codeHd2⟩ := id G
  simp only [List.length_cons, List.length_nil] at hT
  try k_fold
  k_steps
  refine tryRet fun Q hQ => ?_
  have F := frOf F (m' := fun y => if y = "text" then some (.str x t) else none) (fun y => look1 rfl)
  have h0 : x.cps.toList = subL [] x.cps.toList := by
    unfold subL tabOf
    show _ = x.cps.toList.flatMap fun a => [a]
    simp
  have ht0 : 0 < s.toks := by omega
  have hl0 : x.length ≤ 1048576 := by
    have := subL_len ([] : List (Nat × List Nat)) (by decide) x.cps.toList
    rw [← h0] at this
    have e1 := Array.length_toList (xs := x.cps)
    have e2 := Array.length_toList (xs := x.cps)
    show x.cps.size ≤ _
    omega
  refine wpAny_execs_cons (cutNext (fun s' => ∃ y t' h' k, s' = { s with heap := h', toks := k } ∧ y.cps.toList = subL (([] : List (Nat × List Nat)) ++ [(38, [38, 97, 109, 112, 59])]) x.cps.toList ∧ Fr g L h' (fun n => if n = "text" then some (.str y t') else none) ∧ News g L h' []) ?_ ?_)
  · intro Q' hQ'
    cases hb : (!(Builtin.Str.occurrences x (Str.ofString "&") 0 x.length 1).isEmpty) with
    | true =>
      k_steps
      refine hQ' _ ⟨_, _, _, _, rfl, replStep (c := 38) (z := [38, 97, 109, 112, 59]) h0 ?_ ?_ ?_, fr_text (by assumption), by assumption⟩
      · decide +kernel
      · decide +kernel
      · decide
    | false =>
      k_steps
      refine hQ' _ ⟨_, _, _, _, rfl, skipStep (c := 38) h0 ?_ hb ?_, by assumption, by assumption⟩
      · decide +kernel
      · decide
  clear F N
  rintro _ ⟨y0, u0, g0, k0, rfl, h1, F, N⟩
  have hl1 : y0.length ≤ 1048576 := by
    have := subL_len (([] : List (Nat × List Nat)) ++ [(38, [38, 97, 109, 112, 59])]) (by decide) x.cps.toList
    rw [← h1] at this
    have e1 := Array.length_toList (xs := y0.cps)
    have e2 := Array.length_toList (xs := x.cps)
    show y0.cps.size ≤ _
    omega
  refine wpAny_execs_cons (cutNext (fun s' => ∃ y t' h' k, s' = { s with heap := h', toks := k } ∧ y.cps.toList = subL ((([] : List (Nat × List Nat)) ++ [(38, [38, 97, 109, 112, 59])]) ++ [(60, [38, 108, 116, 59])]) x.cps.toList ∧ Fr g L h' (fun n => if n = "text" then some (.str y t') else none) ∧ News g L h' []) ?_ ?_)
  · intro Q' hQ'
    cases hb : (!(Builtin.Str.occurrences y0 (Str.ofString "<") 0 y0.length 1).isEmpty) with
    | true =>
      k_steps
      refine hQ' _ ⟨_, _, _, _, rfl, replStep (c := 60) (z := [38, 108, 116, 59]) h1 ?_ ?_ ?_, fr_text (by assumption), by assumption⟩
      · decide +kernel
      · decide +kernel
      · decide
    | false =>
      k_steps
      refine hQ' _ ⟨_, _, _, _, rfl, skipStep (c := 60) h1 ?_ hb ?_, by assumption, by assumption⟩
      · decide +kernel
      · decide
  clear F N
  rintro _ ⟨y1, u1, g1, k1, rfl, h2, F, N⟩
  have hl2 : y1.length ≤ 1048576 := by
    have := subL_len ((([] : List (Nat × List Nat)) ++ [(38, [38, 97, 109, 112, 59])]) ++ [(60, [38, 108, 116, 59])]) (by decide) x.cps.toList
    rw [← h2] at this
    have e1 := Array.length_toList (xs := y1.cps)
    have e2 := Array.length_toList (xs := x.cps)
    show y1.cps.size ≤ _
    omega
  refine wpAny_execs_cons (cutNext (fun s' => ∃ y t' h' k, s' = { s with heap := h', toks := k } ∧ y.cps.toList = subL (((([] : List (Nat × List Nat)) ++ [(38, [38, 97, 109, 112, 59])]) ++ [(60, [38, 108, 116, 59])]) ++ [(62, [38, 103, 116, 59])]) x.cps.toList ∧ Fr g L h' (fun n => if n = "text" then some (.str y t') else none) ∧ News g L h' []) ?_ ?_)
  · intro Q' hQ'
    cases hb : (!(Builtin.Str.occurrences y1 (Str.ofString ">") 0 y1.length 1).isEmpty) with
    | true =>
      k_steps
      refine hQ' _ ⟨_, _, _, _, rfl, replStep (c := 62) (z := [38, 103, 116, 59]) h2 ?_ ?_ ?_, fr_text (by assumption), by assumption⟩
      · decide +kernel
      · decide +kernel
      · decide
    | false =>
      k_steps
      refine hQ' _ ⟨_, _, _, _, rfl, skipStep (c := 62) h2 ?_ hb ?_, by assumption, by assumption⟩
      · decide +kernel
      · decide
  clear F N
  rintro _ ⟨y2, u2, g2, k2, rfl, h3, F, N⟩
  have hl3 : y2.length ≤ 1048576 := by
    have := subL_len (((([] : List (Nat × List Nat)) ++ [(38, [38, 97, 109, 112, 59])]) ++ [(60, [38, 108, 116, 59])]) ++ [(62, [38, 103, 116, 59])]) (by decide) x.cps.toList
    rw [← h3] at this
    have e1 := Array.length_toList (xs := y2.cps)
    have e2 := Array.length_toList (xs := x.cps)
    show y2.cps.size ≤ _
    omega
  refine wpAny_execs_cons (cutNext (fun s' => ∃ y t' h' k, s' = { s with heap := h', toks := k } ∧ y.cps.toList = subL ((((([] : List (Nat × List Nat)) ++ [(38, [38, 97, 109, 112, 59])]) ++ [(60, [38, 108, 116, 59])]) ++ [(62, [38, 103, 116, 59])]) ++ [(34, [38, 113, 117, 111, 116, 59])]) x.cps.toList ∧ Fr g L h' (fun n => if n = "text" then some (.str y t') else none) ∧ News g L h' []) ?_ ?_)
  · intro Q' hQ'
    cases hb : (!(Builtin.Str.occurrences y2 (Str.ofString "\"") 0 y2.length 1).isEmpty) with
    | true =>
      k_steps
      refine hQ' _ ⟨_, _, _, _, rfl, replStep (c := 34) (z := [38, 113, 117, 111, 116, 59]) h3 ?_ ?_ ?_, fr_text (by assumption), by assumption⟩
      · decide +kernel
      · decide +kernel
      · decide
    | false =>
      k_steps
      refine hQ' _ ⟨_, _, _, _, rfl, skipStep (c := 34) h3 ?_ hb ?_, by assumption, by assumption⟩
      · decide +kernel
      · decide
  clear F N
  rintro _ ⟨y3, u3, g3, k3, rfl, h4, F, N⟩
  have hl4 : y3.length ≤ 1048576 := by
    have := subL_len ((((([] : List (Nat × List Nat)) ++ [(38, [38, 97, 109, 112, 59])]) ++ [(60, [38, 108, 116, 59])]) ++ [(62, [38, 103, 116, 59])]) ++ [(34, [38, 113, 117, 111, 116, 59])]) (by decide) x.cps.toList
    rw [← h4] at this
    have e1 := Array.length_toList (xs := y3.cps)
    have e2 := Array.length_toList (xs := x.cps)
    show y3.cps.size ≤ _
    omega
  refine wpAny_execs_cons (cutNext (fun s' => ∃ y t' h' k, s' = { s with heap := h', toks := k } ∧ y.cps.toList = subL (((((([] : List (Nat × List Nat)) ++ [(38, [38, 97, 109, 112, 59])]) ++ [(60, [38, 108, 116, 59])]) ++ [(62, [38, 103, 116, 59])]) ++ [(34, [38, 113, 117, 111, 116, 59])]) ++ [(13, [38, 35, 49, 51, 59])]) x.cps.toList ∧ Fr g L h' (fun n => if n = "text" then some (.str y t') else none) ∧ News g L h' []) ?_ ?_)
  · intro Q' hQ'
    cases hb : (!(Builtin.Str.occurrences y3 (Str.ofString "\r") 0 y3.length 1).isEmpty) with
    | true =>
      k_steps
      refine hQ' _ ⟨_, _, _, _, rfl, replStep (c := 13) (z := [38, 35, 49, 51, 59]) h4 ?_ ?_ ?_, fr_text (by assumption), by assumption⟩
      · decide +kernel
      · decide +kernel
      · decide
    | false =>
      k_steps
      refine hQ' _ ⟨_, _, _, _, rfl, skipStep (c := 13) h4 ?_ hb ?_, by assumption, by assumption⟩
      · decide +kernel
      · decide
  clear F N
  rintro _ ⟨y4, u4, g4, k4, rfl, h5, F, N⟩
  have hl5 : y4.length ≤ 1048576 := by
    have := subL_len (((((([] : List (Nat × List Nat)) ++ [(38, [38, 97, 109, 112, 59])]) ++ [(60, [38, 108, 116, 59])]) ++ [(62, [38, 103, 116, 59])]) ++ [(34, [38, 113, 117, 111, 116, 59])]) ++ [(13, [38, 35, 49, 51, 59])]) (by decide) x.cps.toList
    rw [← h5] at this
    have e1 := Array.length_toList (xs := y4.cps)
    have e2 := Array.length_toList (xs := x.cps)
    show y4.cps.size ≤ _
    omega
  refine wpAny_execs_cons (cutNext (fun s' => ∃ y t' h' k, s' = { s with heap := h', toks := k } ∧ y.cps.toList = subL ((((((([] : List (Nat × List Nat)) ++ [(38, [38, 97, 109, 112, 59])]) ++ [(60, [38, 108, 116, 59])]) ++ [(62, [38, 103, 116, 59])]) ++ [(34, [38, 113, 117, 111, 116, 59])]) ++ [(13, [38, 35, 49, 51, 59])]) ++ [(10, [38, 35, 49, 48, 59])]) x.cps.toList ∧ Fr g L h' (fun n => if n = "text" then some (.str y t') else none) ∧ News g L h' []) ?_ ?_)
  · intro Q' hQ'
    cases hb : (!(Builtin.Str.occurrences y4 (Str.ofString "\n") 0 y4.length 1).isEmpty) with
    | true =>
      k_steps
      refine hQ' _ ⟨_, _, _, _, rfl, replStep (c := 10) (z := [38, 35, 49, 48, 59]) h5 ?_ ?_ ?_, fr_text (by assumption), by assumption⟩
      · decide +kernel
      · decide +kernel
      · decide
    | false =>
      k_steps
      refine hQ' _ ⟨_, _, _, _, rfl, skipStep (c := 10) h5 ?_ hb ?_, by assumption, by assumption⟩
      · decide +kernel
      · decide
  clear F N
  rintro _ ⟨y5, u5, g5, k5, rfl, h6, F, N⟩
  have hl6 : y5.length ≤ 1048576 := by
    have := subL_len ((((((([] : List (Nat × List Nat)) ++ [(38, [38, 97, 109, 112, 59])]) ++ [(60, [38, 108, 116, 59])]) ++ [(62, [38, 103, 116, 59])]) ++ [(34, [38, 113, 117, 111, 116, 59])]) ++ [(13, [38, 35, 49, 51, 59])]) ++ [(10, [38, 35, 49, 48, 59])]) (by decide) x.cps.toList
    rw [← h6] at this
    have e1 := Array.length_toList (xs := y5.cps)
    have e2 := Array.length_toList (xs := x.cps)
    show y5.cps.size ≤ _
    omega
  refine wpAny_execs_cons (cutNext (fun s' => ∃ y t' h' k, s' = { s with heap := h', toks := k } ∧ y.cps.toList = subL (((((((([] : List (Nat × List Nat)) ++ [(38, [38, 97, 109, 112, 59])]) ++ [(60, [38, 108, 116, 59])]) ++ [(62, [38, 103, 116, 59])]) ++ [(34, [38, 113, 117, 111, 116, 59])]) ++ [(13, [38, 35, 49, 51, 59])]) ++ [(10, [38, 35, 49, 48, 59])]) ++ [(9, [38, 35, 48, 57, 59])]) x.cps.toList ∧ Fr g L h' (fun n => if n = "text" then some (.str y t') else none) ∧ News g L h' []) ?_ ?_)
  · intro Q' hQ'
    cases hb : (!(Builtin.Str.occurrences y5 (Str.ofString "\t") 0 y5.length 1).isEmpty) with
    | true =>
      k_steps
      refine hQ' _ ⟨_, _, _, _, rfl, replStep (c := 9) (z := [38, 35, 48, 57, 59]) h6 ?_ ?_ ?_, fr_text (by assumption), by assumption⟩
      · decide +kernel
      · decide +kernel
      · decide
    | false =>
      k_steps
      refine hQ' _ ⟨_, _, _, _, rfl, skipStep (c := 9) h6 ?_ hb ?_, by assumption, by assumption⟩
      · decide +kernel
      · decide
  clear F N
  rintro _ ⟨y6, u6, g6, k6, rfl, h7, F, N⟩
  k_steps
  exact hQ _ _ (hP _ _ (Fin.intro (by assumption) (by assumption) ⟨_, congrArg (Value.str · _) (str_ext h7), rfl⟩))
theorem esc175 {prog : Program} {w : World} : Writes1 prog w 175 tb2 := by
  intro x t hx
  refine enterT (binds := [("text", .str x t)]) (by k_is) (by k_is) (fun s X => BindsTo.of_eq rfl) (locs rfl) ?_
  intro dp un gd fr g L s PP hP G F N l0 hdp hun hT
  obtain ⟨X, ⟨p, loose, mean, mg, mb, T⟩, codeHd, codeHd2⟩ := id G
  simp only [List.length_cons, List.length_nil] at hT
  try k_fold
  k_steps
  refine tryRet fun Q hQ => ?_
  have F := frOf F (m' := fun y => if y = "text" then some (.str x t) else none) (fun y => look1 rfl)
  have h0 : x.cps.toList = subL [] x.cps.toList := by
    unfold subL tabOf
    show _ = x.cps.toList.flatMap fun a => [a]
    simp
  have ht0 : 0 < s.toks := by omega
  have hl0 : x.length ≤ 1048576 := by
    have := subL_len ([] : List (Nat × List Nat)) (by decide) x.cps.toList
    rw [← h0] at this
    have e1 := Array.length_toList (xs := x.cps)
    have e2 := Array.length_toList (xs := x.cps)
    show x.cps.size ≤ _
    omega
  refine wpAny_execs_cons (cutNext (fun s' => ∃ y t' h' k, s' = { s with heap := h', toks := k } ∧ y.cps.toList = subL (([] : List (Nat × List Nat)) ++ [(38, [38, 97, 109, 112, 59])]) x.cps.toList ∧ Fr g L h' (fun n => if n = "text" then some (.str y t') else none) ∧ News g L h' []) ?_ ?_)
  · intro Q' hQ'
    cases hb : (!(Builtin.Str.occurrences x (Str.ofString "&") 0 x.length 1).isEmpty) with
    | true =>
      k_steps
      refine hQ' _ ⟨_, _, _, _, rfl, replStep (c := 38) (z := [38, 97, 109, 112, 59]) h0 ?_ ?_ ?_, fr_text (by assumption), by assumption⟩
      · decide +kernel
      · decide +kernel
      · decide
    | false =>
      k_steps
      refine hQ' _ ⟨_, _, _, _, rfl, skipStep (c := 38) h0 ?_ hb ?_, by assumption, by assumption⟩
      · decide +kernel
      · decide
  clear F N
  rintro _ ⟨y0, u0, g0, k0, rfl, h1, F, N⟩
  have hl1 : y0.length ≤ 1048576 := by
    have := subL_len (([] : List (Nat × List Nat)) ++ [(38, [38, 97, 109, 112, 59])]) (by decide) x.cps.toList
    rw [← h1] at this
    have e1 := Array.length_toList (xs := y0.cps)
    have e2 := Array.length_toList (xs := x.cps)
    show y0.cps.size ≤ _
    omega
  refine wpAny_execs_cons (cutNext (fun s' => ∃ y t' h' k, s' = { s with heap := h', toks := k } ∧ y.cps.toList = subL ((([] : List (Nat × List Nat)) ++ [(38, [38, 97, 109, 112, 59])]) ++ [(62, [38, 103, 116, 59])]) x.cps.toList ∧ Fr g L h' (fun n => if n = "text" then some (.str y t') else none) ∧ News g L h' []) ?_ ?_)
  · intro Q' hQ'
    cases hb : (!(Builtin.Str.occurrences y0 (Str.ofString ">") 0 y0.length 1).isEmpty) with
    | true =>
      k_steps
      refine hQ' _ ⟨_, _, _, _, rfl, replStep (c := 62) (z := [38, 103, 116, 59]) h1 ?_ ?_ ?_, fr_text (by assumption), by assumption⟩
      · decide +kernel
      · decide +kernel
      · decide
    | false =>
      k_steps
      refine hQ' _ ⟨_, _, _, _, rfl, skipStep (c := 62) h1 ?_ hb ?_, by assumption, by assumption⟩
      · decide +kernel
      · decide
  clear F N
  rintro _ ⟨y1, u1, g1, k1, rfl, h2, F, N⟩
  have hl2 : y1.length ≤ 1048576 := by
    have := subL_len ((([] : List (Nat × List Nat)) ++ [(38, [38, 97, 109, 112, 59])]) ++ [(62, [38, 103, 116, 59])]) (by decide) x.cps.toList
    rw [← h2] at this
    have e1 := Array.length_toList (xs := y1.cps)
    have e2 := Array.length_toList (xs := x.cps)
    show y1.cps.size ≤ _
    omega
  refine wpAny_execs_cons (cutNext (fun s' => ∃ y t' h' k, s' = { s with heap := h', toks := k } ∧ y.cps.toList = subL (((([] : List (Nat × List Nat)) ++ [(38, [38, 97, 109, 112, 59])]) ++ [(62, [38, 103, 116, 59])]) ++ [(34, [38, 113, 117, 111, 116, 59])]) x.cps.toList ∧ Fr g L h' (fun n => if n = "text" then some (.str y t') else none) ∧ News g L h' []) ?_ ?_)
  · intro Q' hQ'
    cases hb : (!(Builtin.Str.occurrences y1 (Str.ofString "\"") 0 y1.length 1).isEmpty) with
    | true =>
      k_steps
      refine hQ' _ ⟨_, _, _, _, rfl, replStep (c := 34) (z := [38, 113, 117, 111, 116, 59]) h2 ?_ ?_ ?_, fr_text (by assumption), by assumption⟩
      · decide +kernel
      · decide +kernel
      · decide
    | false =>
      k_steps
      refine hQ' _ ⟨_, _, _, _, rfl, skipStep (c := 34) h2 ?_ hb ?_, by assumption, by assumption⟩
      · decide +kernel
      · decide
  clear F N
  rintro _ ⟨y2, u2, g2, k2, rfl, h3, F, N⟩
  k_steps
  exact hQ _ _ (hP _ _ (Fin.intro (by assumption) (by assumption) ⟨_, congrArg (Value.str · _) (str_ext h3), rfl⟩))
theorem esc182 {prog : Program} {w : World} : Writes1 prog w 182 tb3 := by
  intro x t hx
  refine enterT (binds := [("text", .str x t)]) (by k_is) (by k_is) (fun s X => BindsTo.of_eq rfl) (locs rfl) ?_
  intro dp un gd fr g L s PP hP G F N l0 hdp hun hT
  obtain ⟨X, ⟨p, loose, mean, mg, mb, T⟩, codeHd, codeHd2⟩ := id G
  simp only [List.length_cons, List.length_nil] at hT
  try k_fold
  k_steps
  refine tryRet fun Q hQ => ?_
  have F := frOf F (m' := fun y => if y = "text" then some (.str x t) else none) (fun y => look1 rfl)
  have h0 : x.cps.toList = subL [] x.cps.toList := by
    unfold subL tabOf
    show _ = x.cps.toList.flatMap fun a => [a]
    simp
  have ht0 : 0 < s.toks := by omega
  have hl0 : x.length ≤ 1048576 := by
    have := subL_len ([] : List (Nat × List Nat)) (by decide) x.cps.toList
    rw [← h0] at this
    have e1 := Array.length_toList (xs := x.cps)
    have e2 := Array.length_toList (xs := x.cps)
    show x.cps.size ≤ _
    omega
  refine wpAny_execs_cons (cutNext (fun s' => ∃ y t' h' k, s' = { s with heap := h', toks := k } ∧ y.cps.toList = subL (([] : List (Nat × List Nat)) ++ [(38, [38, 97, 109, 112, 59])]) x.cps.toList ∧ Fr g L h' (fun n => if n = "text" then some (.str y t') else none) ∧ News g L h' []) ?_ ?_)
  · intro Q' hQ'
    cases hb : (!(Builtin.Str.occurrences x (Str.ofString "&") 0 x.length 1).isEmpty) with
    | true =>
      k_steps
      refine hQ' _ ⟨_, _, _, _, rfl, replStep (c := 38) (z := [38, 97, 109, 112, 59]) h0 ?_ ?_ ?_, fr_text (by assumption), by assumption⟩
      · decide +kernel
      · decide +kernel
      · decide
    | false =>
      k_steps
      refine hQ' _ ⟨_, _, _, _, rfl, skipStep (c := 38) h0 ?_ hb ?_, by assumption, by assumption⟩
      · decide +kernel
      · decide
  clear F N
  rintro _ ⟨y0, u0, g0, k0, rfl, h1, F, N⟩
  have hl1 : y0.length ≤ 1048576 := by
    have := subL_len (([] : List (Nat × List Nat)) ++ [(38, [38, 97, 109, 112, 59])]) (by decide) x.cps.toList
    rw [← h1] at this
    have e1 := Array.length_toList (xs := y0.cps)
    have e2 := Array.length_toList (xs := x.cps)
    show y0.cps.size ≤ _
    omega
  refine wpAny_execs_cons (cutNext (fun s' => ∃ y t' h' k, s' = { s with heap := h', toks := k } ∧ y.cps.toList = subL ((([] : List (Nat × List Nat)) ++ [(38, [38, 97, 109, 112, 59])]) ++ [(60, [38, 108, 116, 59])]) x.cps.toList ∧ Fr g L h' (fun n => if n = "text" then some (.str y t') else none) ∧ News g L h' []) ?_ ?_)
  · intro Q' hQ'
    cases hb : (!(Builtin.Str.occurrences y0 (Str.ofString "<") 0 y0.length 1).isEmpty) with
    | true =>
      k_steps
      refine hQ' _ ⟨_, _, _, _, rfl, replStep (c := 60) (z := [38, 108, 116, 59]) h1 ?_ ?_ ?_, fr_text (by assumption), by assumption⟩
      · decide +kernel
      · decide +kernel
      · decide
    | false =>
      k_steps
      refine hQ' _ ⟨_, _, _, _, rfl, skipStep (c := 60) h1 ?_ hb ?_, by assumption, by assumption⟩
      · decide +kernel
      · decide
  clear F N
  rintro _ ⟨y1, u1, g1, k1, rfl, h2, F, N⟩
  have hl2 : y1.length ≤ 1048576 := by
    have := subL_len ((([] : List (Nat × List Nat)) ++ [(38, [38, 97, 109, 112, 59])]) ++ [(60, [38, 108, 116, 59])]) (by decide) x.cps.toList
    rw [← h2] at this
    have e1 := Array.length_toList (xs := y1.cps)
    have e2 := Array.length_toList (xs := x.cps)
    show y1.cps.size ≤ _
    omega
  refine wpAny_execs_cons (cutNext (fun s' => ∃ y t' h' k, s' = { s with heap := h', toks := k } ∧ y.cps.toList = subL (((([] : List (Nat × List Nat)) ++ [(38, [38, 97, 109, 112, 59])]) ++ [(60, [38, 108, 116, 59])]) ++ [(62, [38, 103, 116, 59])]) x.cps.toList ∧ Fr g L h' (fun n => if n = "text" then some (.str y t') else none) ∧ News g L h' []) ?_ ?_)
  · intro Q' hQ'
    cases hb : (!(Builtin.Str.occurrences y1 (Str.ofString ">") 0 y1.length 1).isEmpty) with
    | true =>
      k_steps
      refine hQ' _ ⟨_, _, _, _, rfl, replStep (c := 62) (z := [38, 103, 116, 59]) h2 ?_ ?_ ?_, fr_text (by assumption), by assumption⟩
      · decide +kernel
      · decide +kernel
      · decide
    | false =>
      k_steps
      refine hQ' _ ⟨_, _, _, _, rfl, skipStep (c := 62) h2 ?_ hb ?_, by assumption, by assumption⟩
      · decide +kernel
      · decide
  clear F N
  rintro _ ⟨y2, u2, g2, k2, rfl, h3, F, N⟩
  have hl3 : y2.length ≤ 1048576 := by
    have := subL_len (((([] : List (Nat × List Nat)) ++ [(38, [38, 97, 109, 112, 59])]) ++ [(60, [38, 108, 116, 59])]) ++ [(62, [38, 103, 116, 59])]) (by decide) x.cps.toList
    rw [← h3] at this
    have e1 := Array.length_toList (xs := y2.cps)
    have e2 := Array.length_toList (xs := x.cps)
    show y2.cps.size ≤ _
    omega
  refine wpAny_execs_cons (cutNext (fun s' => ∃ y t' h' k, s' = { s with heap := h', toks := k } ∧ y.cps.toList = subL ((((([] : List (Nat × List Nat)) ++ [(38, [38, 97, 109, 112, 59])]) ++ [(60, [38, 108, 116, 59])]) ++ [(62, [38, 103, 116, 59])]) ++ [(13, [38, 35, 120, 68, 59])]) x.cps.toList ∧ Fr g L h' (fun n => if n = "text" then some (.str y t') else none) ∧ News g L h' []) ?_ ?_)
  · intro Q' hQ'
    cases hb : (!(Builtin.Str.occurrences y2 (Str.ofString "\r") 0 y2.length 1).isEmpty) with
    | true =>
      k_steps
      refine hQ' _ ⟨_, _, _, _, rfl, replStep (c := 13) (z := [38, 35, 120, 68, 59]) h3 ?_ ?_ ?_, fr_text (by assumption), by assumption⟩
      · decide +kernel
      · decide +kernel
      · decide
    | false =>
      k_steps
      refine hQ' _ ⟨_, _, _, _, rfl, skipStep (c := 13) h3 ?_ hb ?_, by assumption, by assumption⟩
      · decide +kernel
      · decide
  clear F N
  rintro _ ⟨y3, u3, g3, k3, rfl, h4, F, N⟩
  k_steps
  exact hQ _ _ (hP _ _ (Fin.intro (by assumption) (by assumption) ⟨_, congrArg (Value.str · _) (str_ext h4), rfl⟩))
theorem esc189 {prog : Program} {w : World} : Writes1 prog w 189 tb4 := by
  intro x t hx
  refine enterT (binds := [("text", .str x t)]) (by k_is) (by k_is) (fun s X => BindsTo.of_eq rfl) (locs rfl) ?_
  intro dp un gd fr g L s PP hP G F N l0 hdp hun hT
  obtain ⟨X, ⟨p, loose, mean, mg, mb, T⟩, codeHd, codeHd2⟩ := id G
  simp only [List.length_cons, List.length_nil] at hT
  try k_fold
  k_steps
  refine tryRet fun Q hQ => ?_
  have F := frOf F (m' := fun y => if y = "text" then some (.str x t) else none) (fun y => look1 rfl)
  have h0 : x.cps.toList = subL [] x.cps.toList := by
    unfold subL tabOf
    show _ = x.cps.toList.flatMap fun a => [a]
    simp
  have ht0 : 0 < s.toks := by omega
  have hl0 : x.length ≤ 1048576 := by
    have := subL_len ([] : List (Nat × List Nat)) (by decide) x.cps.toList
    rw [← h0] at this
    have e1 := Array.length_toList (xs := x.cps)
    have e2 := Array.length_toList (xs := x.cps)
    show x.cps.size ≤ _
    omega
  refine wpAny_execs_cons (cutNext (fun s' => ∃ y t' h' k, s' = { s with heap := h', toks := k } ∧ y.cps.toList = subL (([] : List (Nat × List Nat)) ++ [(38, [38, 97, 109, 112, 59])]) x.cps.toList ∧ Fr g L h' (fun n => if n = "text" then some (.str y t') else none) ∧ News g L h' []) ?_ ?_)
  · intro Q' hQ'
    cases hb : (!(Builtin.Str.occurrences x (Str.ofString "&") 0 x.length 1).isEmpty) with
    | true =>
      k_steps
      refine hQ' _ ⟨_, _, _, _, rfl, replStep (c := 38) (z := [38, 97, 109, 112, 59]) h0 ?_ ?_ ?_, fr_text (by assumption), by assumption⟩
      · decide +kernel
      · decide +kernel
      · decide
    | false =>
      k_steps
      refine hQ' _ ⟨_, _, _, _, rfl, skipStep (c := 38) h0 ?_ hb ?_, by assumption, by assumption⟩
      · decide +kernel
      · decide
  clear F N
  rintro _ ⟨y0, u0, g0, k0, rfl, h1, F, N⟩
  have hl1 : y0.length ≤ 1048576 := by
    have := subL_len (([] : List (Nat × List Nat)) ++ [(38, [38, 97, 109, 112, 59])]) (by decide) x.cps.toList
    rw [← h1] at this
    have e1 := Array.length_toList (xs := y0.cps)
    have e2 := Array.length_toList (xs := x.cps)
    show y0.cps.size ≤ _
    omega
  refine wpAny_execs_cons (cutNext (fun s' => ∃ y t' h' k, s' = { s with heap := h', toks := k } ∧ y.cps.toList = subL ((([] : List (Nat × List Nat)) ++ [(38, [38, 97, 109, 112, 59])]) ++ [(60, [38, 108, 116, 59])]) x.cps.toList ∧ Fr g L h' (fun n => if n = "text" then some (.str y t') else none) ∧ News g L h' []) ?_ ?_)
  · intro Q' hQ'
    cases hb : (!(Builtin.Str.occurrences y0 (Str.ofString "<") 0 y0.length 1).isEmpty) with
    | true =>
      k_steps
      refine hQ' _ ⟨_, _, _, _, rfl, replStep (c := 60) (z := [38, 108, 116, 59]) h1 ?_ ?_ ?_, fr_text (by assumption), by assumption⟩
      · decide +kernel
      · decide +kernel
      · decide
    | false =>
      k_steps
      refine hQ' _ ⟨_, _, _, _, rfl, skipStep (c := 60) h1 ?_ hb ?_, by assumption, by assumption⟩
      · decide +kernel
      · decide
  clear F N
  rintro _ ⟨y1, u1, g1, k1, rfl, h2, F, N⟩
  have hl2 : y1.length ≤ 1048576 := by
    have := subL_len ((([] : List (Nat × List Nat)) ++ [(38, [38, 97, 109, 112, 59])]) ++ [(60, [38, 108, 116, 59])]) (by decide) x.cps.toList
    rw [← h2] at this
    have e1 := Array.length_toList (xs := y1.cps)
    have e2 := Array.length_toList (xs := x.cps)
    show y1.cps.size ≤ _
    omega
  refine wpAny_execs_cons (cutNext (fun s' => ∃ y t' h' k, s' = { s with heap := h', toks := k } ∧ y.cps.toList = subL (((([] : List (Nat × List Nat)) ++ [(38, [38, 97, 109, 112, 59])]) ++ [(60, [38, 108, 116, 59])]) ++ [(34, [38, 113, 117, 111, 116, 59])]) x.cps.toList ∧ Fr g L h' (fun n => if n = "text" then some (.str y t') else none) ∧ News g L h' []) ?_ ?_)
  · intro Q' hQ'
    cases hb : (!(Builtin.Str.occurrences y1 (Str.ofString "\"") 0 y1.length 1).isEmpty) with
    | true =>
      k_steps
      refine hQ' _ ⟨_, _, _, _, rfl, replStep (c := 34) (z := [38, 113, 117, 111, 116, 59]) h2 ?_ ?_ ?_, fr_text (by assumption), by assumption⟩
      · decide +kernel
      · decide +kernel
      · decide
    | false =>
      k_steps
      refine hQ' _ ⟨_, _, _, _, rfl, skipStep (c := 34) h2 ?_ hb ?_, by assumption, by assumption⟩
      · decide +kernel
      · decide
  clear F N
  rintro _ ⟨y2, u2, g2, k2, rfl, h3, F, N⟩
  have hl3 : y2.length ≤ 1048576 := by
    have := subL_len (((([] : List (Nat × List Nat)) ++ [(38, [38, 97, 109, 112, 59])]) ++ [(60, [38, 108, 116, 59])]) ++ [(34, [38, 113, 117, 111, 116, 59])]) (by decide) x.cps.toList
    rw [← h3] at this
    have e1 := Array.length_toList (xs := y2.cps)
    have e2 := Array.length_toList (xs := x.cps)
    show y2.cps.size ≤ _
    omega
  refine wpAny_execs_cons (cutNext (fun s' => ∃ y t' h' k, s' = { s with heap := h', toks := k } ∧ y.cps.toList = subL ((((([] : List (Nat × List Nat)) ++ [(38, [38, 97, 109, 112, 59])]) ++ [(60, [38, 108, 116, 59])]) ++ [(34, [38, 113, 117, 111, 116, 59])]) ++ [(9, [38, 35, 120, 57, 59])]) x.cps.toList ∧ Fr g L h' (fun n => if n = "text" then some (.str y t') else none) ∧ News g L h' []) ?_ ?_)
  · intro Q' hQ'
    cases hb : (!(Builtin.Str.occurrences y2 (Str.ofString "\t") 0 y2.length 1).isEmpty) with
    | true =>
      k_steps
      refine hQ' _ ⟨_, _, _, _, rfl, replStep (c := 9) (z := [38, 35, 120, 57, 59]) h3 ?_ ?_ ?_, fr_text (by assumption), by assumption⟩
      · decide +kernel
      · decide +kernel
      · decide
    | false =>
      k_steps
      refine hQ' _ ⟨_, _, _, _, rfl, skipStep (c := 9) h3 ?_ hb ?_, by assumption, by assumption⟩
      · decide +kernel
      · decide
  clear F N
  rintro _ ⟨y3, u3, g3, k3, rfl, h4, F, N⟩
  have hl4 : y3.length ≤ 1048576 := by
    have := subL_len ((((([] : List (Nat × List Nat)) ++ [(38, [38, 97, 109, 112, 59])]) ++ [(60, [38, 108, 116, 59])]) ++ [(34, [38, 113, 117, 111, 116, 59])]) ++ [(9, [38, 35, 120, 57, 59])]) (by decide) x.cps.toList
    rw [← h4] at this
    have e1 := Array.length_toList (xs := y3.cps)
    have e2 := Array.length_toList (xs := x.cps)
    show y3.cps.size ≤ _
    omega
  refine wpAny_execs_cons (cutNext (fun s' => ∃ y t' h' k, s' = { s with heap := h', toks := k } ∧ y.cps.toList = subL (((((([] : List (Nat × List Nat)) ++ [(38, [38, 97, 109, 112, 59])]) ++ [(60, [38, 108, 116, 59])]) ++ [(34, [38, 113, 117, 111, 116, 59])]) ++ [(9, [38, 35, 120, 57, 59])]) ++ [(10, [38, 35, 120, 65, 59])]) x.cps.toList ∧ Fr g L h' (fun n => if n = "text" then some (.str y t') else none) ∧ News g L h' []) ?_ ?_)
  · intro Q' hQ'
    cases hb : (!(Builtin.Str.occurrences y3 (Str.ofString "\n") 0 y3.length 1).isEmpty) with
    | true =>
      k_steps
      refine hQ' _ ⟨_, _, _, _, rfl, replStep (c := 10) (z := [38, 35, 120, 65, 59]) h4 ?_ ?_ ?_, fr_text (by assumption), by assumption⟩
      · decide +kernel
      · decide +kernel
      · decide
    | false =>
      k_steps
      refine hQ' _ ⟨_, _, _, _, rfl, skipStep (c := 10) h4 ?_ hb ?_, by assumption, by assumption⟩
      · decide +kernel
      · decide
  clear F N
  rintro _ ⟨y4, u4, g4, k4, rfl, h5, F, N⟩
  have hl5 : y4.length ≤ 1048576 := by
    have := subL_len (((((([] : List (Nat × List Nat)) ++ [(38, [38, 97, 109, 112, 59])]) ++ [(60, [38, 108, 116, 59])]) ++ [(34, [38, 113, 117, 111, 116, 59])]) ++ [(9, [38, 35, 120, 57, 59])]) ++ [(10, [38, 35, 120, 65, 59])]) (by decide) x.cps.toList
    rw [← h5] at this
    have e1 := Array.length_toList (xs := y4.cps)
    have e2 := Array.length_toList (xs := x.cps)
    show y4.cps.size ≤ _
    omega
  refine wpAny_execs_cons (cutNext (fun s' => ∃ y t' h' k, s' = { s with heap := h', toks := k } ∧ y.cps.toList = subL ((((((([] : List (Nat × List Nat)) ++ [(38, [38, 97, 109, 112, 59])]) ++ [(60, [38, 108, 116, 59])]) ++ [(34, [38, 113, 117, 111, 116, 59])]) ++ [(9, [38, 35, 120, 57, 59])]) ++ [(10, [38, 35, 120, 65, 59])]) ++ [(13, [38, 35, 120, 68, 59])]) x.cps.toList ∧ Fr g L h' (fun n => if n = "text" then some (.str y t') else none) ∧ News g L h' []) ?_ ?_)
  · intro Q' hQ'
    cases hb : (!(Builtin.Str.occurrences y4 (Str.ofString "\r") 0 y4.length 1).isEmpty) with
    | true =>
      k_steps
      refine hQ' _ ⟨_, _, _, _, rfl, replStep (c := 13) (z := [38, 35, 120, 68, 59]) h5 ?_ ?_ ?_, fr_text (by assumption), by assumption⟩
      · decide +kernel
      · decide +kernel
      · decide
    | false =>
      k_steps
      refine hQ' _ ⟨_, _, _, _, rfl, skipStep (c := 13) h5 ?_ hb ?_, by assumption, by assumption⟩
      · decide +kernel
      · decide
  clear F N
  rintro _ ⟨y5, u5, g5, k5, rfl, h6, F, N⟩
  k_steps
  exact hQ _ _ (hP _ _ (Fin.intro (by assumption) (by assumption) ⟨_, congrArg (Value.str · _) (str_ext h6), rfl⟩))
end Mine

-- AMIter
namespace Mine
section
variable {prog : Program} {w : World} {A : Around} {E : Value → Shared → Prop} {s : Shared} {env : Env} {h₀ : Heap} {x : Str} {body : List Stmt} {Q : Flow → Shared → Prop}
/-- a loop over a list of the ledger, by an invariant -/
theorem listInv {I : Addr} {lp : Addr × Obj} (Inv : List Value → (Str → Option Value) → Cells → Prop)
    (step : ∀ v r m news, Inv (v :: r) m news → ∀ (it : Obj) h tk, Fr h₀ env.locals h (fun y => if y = x then some v else m y) → News h₀ env.locals h ((I, it) :: news) → ∀ Q' : Flow → Shared → Prop,
      (∀ h' tk' m' news', Inv r m' news' → Fr h₀ env.locals h' m' → News h₀ env.locals h' ((I, it) :: news') → (∀ p ∈ news', p.1 ≠ I) → lp ∈ news' → Q' .next { s with heap := h', toks := tk' }) → (∀ v s', Q (.ret v) s' → Q' (.ret v) s') →
      wpAny (model prog w) A (execs body env) Q' E { s with heap := h, toks := tk })
    (fin : ∀ m news h tk, Inv [] m news → Fr h₀ env.locals h m → News h₀ env.locals h news → Q .next { s with heap := h, toks := tk }) :
    ∀ l m news, Inv l m news → ListRest prog w A E h₀ env x body Q s I lp l m news
  | [], m, news, hI => ListRest.zero fun h tk F N => fin m news h tk hI F N
  | v :: r, m, news, hI => ListRest.succ fun it h tk _ F N => step v r m news hI it h tk F N _
      (fun h' tk' m' news' hI' F' N' off hm => ⟨h', tk', m', news', rfl, F', N', off, hm, listInv Inv step fin r m' news' hI'⟩) (fun _ _ z => z)
/-- a loop over a range, by an invariant -/
theorem rangeInv {I : Addr} {a : Int} {n : Nat} (Inv : Nat → (Str → Option Value) → Cells → Prop)
    (step : ∀ i t m news, i < n → Inv i m news → ∀ (it : Obj) h tk, Fr h₀ env.locals h (fun y => if y = x then some (.int (a + (i : Int)) t) else m y) → News h₀ env.locals h ((I, it) :: news) → ∀ Q' : Flow → Shared → Prop,
      (∀ h' tk' m' news', Inv (i + 1) m' news' → Fr h₀ env.locals h' m' → News h₀ env.locals h' ((I, it) :: news') → (∀ p ∈ news', p.1 ≠ I) → Q' .next { s with heap := h', toks := tk' }) → (∀ v s', Q (.ret v) s' → Q' (.ret v) s') →
      wpAny (model prog w) A (execs body env) Q' E { s with heap := h, toks := tk })
    (fin : ∀ m news h tk, Inv n m news → Fr h₀ env.locals h m → News h₀ env.locals h news → Q .next { s with heap := h, toks := tk }) :
    ∀ k i m news, i + k = n → Inv i m news → RangeRest prog w A E h₀ env x body Q s I a n k i m news
  | 0, i, m, news, e, hI => RangeRest.zero fun h tk F N => fin m news h tk (by rw [← e]; exact hI) F N
  | k + 1, i, m, news, e, hI => RangeRest.succ fun t h tk F N => step i t m news (by omega) hI _ h tk F N _
      (fun h' tk' m' news' hI' F' N' off => ⟨h', tk', m', news', rfl, F', N', off, rangeInv Inv step fin k (i + 1) m' news' (by omega) hI'⟩) (fun _ _ z => z)
end
section
variable {prog : Program} {w : World} {A : Around} {E : Value → Shared → Prop} {s : Shared} {h₀ : Heap} {L D : Addr} {m : Str → Option Value} {news : Cells} {n : Nat} {vs : List Value} {v : Value}
theorem itemK {k : Int} {t : Tok} {Q : Value → Shared → Prop} (N : News h₀ L s.heap news) (hm : (D, W.listOf vs.toArray n) ∈ news) (h0 : 0 ≤ k) (hf : k < 2 ^ 63) (hx : vs[k.toNat]? = some v) (h : Q v s) :
    wpAny (model prog w) A (getItem (.ref D) (.int k t)) Q E s := wpAny_getItem_list (N.isList hm) h0 hf (by simpa using hx) h
end
noncomputable def VMark : Prop := True
/-- a loop, its source made: the walk stops here -/
noncomputable def IterV (prog : Program) (w : World) (A : Around) (h₀ : Heap) (env : Env) (x : Str) (body : List Stmt) (Q : Flow → Shared → Prop) (E : Value → Shared → Prop) (xv : Value) (s : Shared) : Prop :=
  wpAny (model prog w) A (pyIter xv) (fun it s₂ => LoopAtV prog w A h₀ env x body Q E it s₂) E s
section
variable {prog : Program} {w : World} {A : Around} {s : Shared} {env : Env} {h₀ : Heap} {x : Str} {body : List Stmt} {Q : Flow → Shared → Prop} {m : Str → Option Value}
theorem execsForV {px pos : Pos} {iter : PySem.Expr} {rest : List Stmt} (_ : VMark) (F : Fr h₀ env.locals s.heap m) (hx : env.kindOf x = some .local) (hp : (env.scope.kind == .class || (env.scope.kind == .module && env.locals != env.globals)) = false)
    (h : ∀ Q' : Flow → Shared → Prop, (∀ s', wpAny (model prog w) A (execs rest env) Q (fun _ _ => False) s' → Q' .next s') → (∀ v s', Q (.ret v) s' → Q' (.ret v) s') → wpAny (model prog w) A (eval iter env) (fun xv s₁ => IterV prog w A h₀ env x body Q' (fun _ _ => False) xv s₁) (fun _ _ => False) s)
    (hs : ∀ x, foldedSetIterable iter env x = pure x := by intro _; rfl) :
    wpAny (model prog w) A (execs (.For (.Name x px) iter body [] pos :: rest) env) Q (fun _ _ => False) s :=
  wpAny_execs_cons (For_invVF F hx hp (h (fun f s' => match f with | .next => wpAny (model prog w) A (execs rest env) Q (fun _ _ => False) s' | f => Q f s') (fun _ z => z) (fun _ _ z => z)) hs (by passes_own))
end
section
variable {prog : Program} {w : World} {A : Around} {s : Shared} {E : Value → Shared → Prop} {env : Env} {h₀ : Heap} {x : Str} {body : List Stmt} {Q : Flow → Shared → Prop} {m₀ : Str → Option Value} {h : Heap} {tk : Nat} {news : Cells}
/-- a loop over a list of the ledger -/
theorem listFor {ax : Addr} {vs : List Value} {n : Nat} (hh : A.handled = none) (F : Fr h₀ env.locals h m₀) (N : News h₀ env.locals h news) (hm : (ax, W.listOf vs.toArray n) ∈ news) (Inv : List Value → (Str → Option Value) → Cells → Prop) (hI : Inv vs m₀ news)
    (step : ∀ I : Addr, (∀ p ∈ news, p.1 < I) → ∀ v r m news, Inv (v :: r) m news → ∀ (it : Obj) h tk, Fr h₀ env.locals h (fun y => if y = x then some v else m y) → News h₀ env.locals h ((I, it) :: news) → ∀ Q' : Flow → Shared → Prop,
      (∀ h' tk' m' news', Inv r m' news' → Fr h₀ env.locals h' m' → News h₀ env.locals h' ((I, it) :: news') → (∀ p ∈ news', p.1 ≠ I) → (ax, W.listOf vs.toArray n) ∈ news' → Q' .next { s with heap := h', toks := tk' }) → (∀ v s', Q (.ret v) s' → Q' (.ret v) s') →
      wpAny (model prog w) A (execs body env) Q' E { s with heap := h, toks := tk })
    (fin : ∀ m news h tk, Inv [] m news → Fr h₀ env.locals h m → News h₀ env.locals h news → Q .next { s with heap := h, toks := tk }) :
    IterV prog w A h₀ env x body Q E (.ref ax) { s with heap := h, toks := tk } :=
  iter_listUnr (s := { s with heap := h, toks := tk }) hh F N hm rfl rfl fun I hlt => listInv (s := { s with heap := h, toks := tk }) Inv (fun v r m news i it h tk F N Q' q r' => step I hlt v r m news i it h tk F N Q' q r') (fun m news h tk i F N => fin m news h tk i F N) vs m₀ news hI
/-- a loop over a range of the ledger -/
theorem rangeFor {ra : Addr} {a b : Int} {t u v : Tok} {n : Nat} (hh : A.handled = none) (F : Fr h₀ env.locals h m₀) (N : News h₀ env.locals h news) (hr : IsRange h ra a b 1 t u v) (hs : Builtin.Range.small a b 1 = true) (hn : Builtin.Range.rangeSize a b 1 = (n : Int)) (Inv : Nat → (Str → Option Value) → Cells → Prop) (hI : Inv 0 m₀ news)
    (step : ∀ I : Addr, (∀ p ∈ news, p.1 < I) → ∀ i t m news, i < n → Inv i m news → ∀ (it : Obj) h tk, Fr h₀ env.locals h (fun y => if y = x then some (.int (a + (i : Int)) t) else m y) → News h₀ env.locals h ((I, it) :: news) → ∀ Q' : Flow → Shared → Prop,
      (∀ h' tk' m' news', Inv (i + 1) m' news' → Fr h₀ env.locals h' m' → News h₀ env.locals h' ((I, it) :: news') → (∀ p ∈ news', p.1 ≠ I) → Q' .next { s with heap := h', toks := tk' }) → (∀ v s', Q (.ret v) s' → Q' (.ret v) s') →
      wpAny (model prog w) A (execs body env) Q' E { s with heap := h, toks := tk })
    (fin : ∀ m news h tk, Inv n m news → Fr h₀ env.locals h m → News h₀ env.locals h news → Q .next { s with heap := h, toks := tk }) :
    IterV prog w A h₀ env x body Q E (.ref ra) { s with heap := h, toks := tk } :=
  iter_rangeUnr (s := { s with heap := h, toks := tk }) hh hr hs hn F N fun I hlt => rangeInv (s := { s with heap := h, toks := tk }) Inv (fun i t m news hi j it h tk F N Q' q r' => step I hlt i t m news hi j it h tk F N Q' q r') (fun m news h tk i F N => fin m news h tk i F N) n 0 m₀ news (Nat.zero_add n) hI
theorem ints_cons {vs : List Value} {is : List Int} {n : Nat} (h : IntsAre vs is) (e : is.length = n + 1) : ∃ i u vs' is', vs = Value.int i u :: vs' ∧ is = i :: is' ∧ IntsAre vs' is' ∧ is'.length = n := by
  cases h with
  | nil => cases e
  | cons i u r => exact ⟨i, u, _, _, rfl, rfl, r, Nat.succ.inj e⟩
theorem ints_nil {vs : List Value} {is : List Int} (h : IntsAre vs is) (e : is.length = 0) : vs = [] ∧ is = [] := by
  cases h with
  | nil => exact ⟨rfl, rfl⟩
  | cons i u r => cases e
end
end Mine
local macro_rules | `(tactic| walk_at "execs cons") => `(tactic| (k_here; (with_reducible show wpAny _ _ (execs (Stmt.For _ _ _ _ _ :: _) _) _ _ _); k_dflt (refine Mine.execsForV (by with_reducible assumption) (by k_asm) (by rfl) (by rfl) ?_); intro Q' hn' hr'))

-- AMAcc
section
open PySem PySem.W PyProof.Rows PySem.Spec PySem.Calls Builtin Builtin.ObjectAttr
namespace Mine
structure MakesL (M : Model) (h : Heap) (C : Addr) : Prop where
  obj : ∃ oc od cd sl, h.get? C = some ⟨oc, od, .cls cd, sl⟩ ∧ cd.abstract = false ∧ cd.hasDel = false ∧ cd.mro.isEmpty = false
  made : Looks M h (Bind.madeBy (.ref C)) (some "list.__new__")
  base : Looks M h (Bind.staticBase (.ref C)) (.ref C)
  self : Looks M h (isSubtype (.ref C) (.ref C)) true
  top : Looks M h (isSubtype (.ref C) (.type "list")) true
  call : Looks M h (specialOf (.ref C) "__call__") (some (.builtin "type.__call__"))
  typ : Looks M h (isInstance (.ref C) (.type "type")) true
theorem makesL_of {K : Frag} {M : Model} {h : Heap} (X : K.In h) {C : Addr} {oc : Value} {od : Option Addr} {cd : ClassData} {sl : Array (Option Value)} (ho : K.lookup C = some ⟨oc, od, .cls cd, sl⟩) (e1 : cd.abstract = false) (e2 : cd.hasDel = false)
    (e3 : (sl.toList[4]?).join = some (.builtin "list.__new__")) (e4 : cd.mro.isEmpty = false) (e5 : cd.mro.contains (.ref C) = true) (e6 : cd.mro.contains (.type "list") = true) (e7 : specialIn K (.ref C) "__call__" = some (some (.builtin "type.__call__")))
    (e8 : instIn K (.ref C) (.type "type") = some true) : MakesL M h C := by
  have hc : clsIn K C = some cd := by unfold clsIn; rw [ho]
  have hm : Looks M h (mroOf (.ref C)) cd.mro := (looks_clsIn X hc).andThen .now
  obtain ⟨c, l, hl⟩ : ∃ c l, cd.mro = c :: l := by cases q : cd.mro with | nil => rw [q] at e4; cases e4 | cons c l => exact ⟨c, l, rfl⟩
  have made : Looks M h (Bind.madeBy (.ref C)) (some "list.__new__") := by
    intro A Q E s k q
    unfold Bind.madeBy
    refine wpAny_bind (hm A _ E s k ?_)
    rw [hl, List.forIn_cons]
    refine wpAny_bind (wpAny_bind (wpAny_bind (wpAny_bind (wpAny_loadPart (k _ _ (X _ _ ho)) (wpAny_pure ?_)))))
    dsimp only
    rw [← Array.getElem?_toList, e3]
    exact wpAny_pure (wpAny_pure (wpAny_pure q))
  refine ⟨⟨oc, od, cd, sl, X _ _ ho, e1, e2, e4⟩, made, ?_, looks_mroIn X ?_, looks_mroIn X ?_, looks_specialIn X e7, looks_instIn X e8⟩
  · intro A Q E s k q
    unfold Bind.staticBase
    refine wpAny_bind (hm A _ E s k ?_)
    rw [hl, List.forIn_cons]
    exact wpAny_bind (wpAny_bind (wpAny_bind (made A _ E s k (wpAny_pure (wpAny_pure (wpAny_pure q))))))
  · unfold mroIn; rw [hc, Option.bind_some, if_neg (by rw [e4]; decide), e5]
  · unfold mroIn; rw [hc, Option.bind_some, if_neg (by rw [e4]; decide), e6]
noncomputable abbrev accObj (C dx : Addr) (its : List Value) (n : Nat) : Obj := { cls := .ref C, dict := some dx, data := .seq its.toArray n }
section
variable {prog : Program} {w : World} {A : Around} {K : Frag} {C : Addr} {R : Result → Shared → Prop} {h : Heap} {g : Array GenState} {d : Drawn} {t : Nat} {os : OsState}
theorem newL (Y : MakesL (model prog w) h C)
    (hq : R (.ok (.ret (.ref (h.objs.size + 1)))) ⟨(h.push emptyDict).push (accObj C h.objs.size [] 0), g, d, t, os⟩) :
    codeAny (model prog w) A (.call (.builtin "list.__new__") ⟨[.ref C], []⟩) R ⟨h, g, d, t, os⟩ := by
  obtain ⟨⟨oc, od, cd, sl, hC, e1, e2, e4⟩, made, base, self, top, call, typ⟩ := Y
  refine codeAny_call_builtin_code (Code.quiet_builtin _ (by decide +kernel)) ?_
  have here : Looks (model prog w) h (Bind.madeHere "list.__new__" (.ref C)) () := base.andThen (made.andThen (Looks.of_pure (by simp only [Option.map_some, bne_self_eq_false, Bool.false_eq_true, if_false])))
  have kind : builtinKind "list.__new__" = some .builtinFn := by decide +kernel
  have split : splitId "list.__new__" = some ("list", "__new__") := by decide +kernel
  simp only [checkBuiltinCall, kind, split]
  have args : argsOk "list.__new__" ⟨[.ref C], []⟩ := by unfold argsOk; kernel_rfl
  unfold argsOk at args
  repeat (first | simp only [bne_self_eq_false, Bool.false_eq_true, if_false, beq_self_eq_true, if_true, Bool.not_true] | lk)
  refine codeAny_builtin_stack PySem.F.entry_list_new rfl fun p st => ?_
  have hown := owner_list_new
  simp only [hown]
  have hC' := Heap.get?_push_of_some (accObj C h.objs.size [] 0) (Heap.get?_push_of_some emptyDict hC)
  repeat (first | simp only [bne_self_eq_false, Bool.false_eq_true, if_false, beq_self_eq_true, if_true, Bool.not_true] | lk)
  rw [e2]
  simp only [Bool.false_eq_true, if_false]
  refine wpAny_pure (wpAny_pure ?_)
  show R _ _
  rw [Heap.size_push]
  exact hq
theorem makeL {init : Value} (Y : MakesL (model prog w) h C) (hi : Looks (model prog w) h (typeLookup (.ref C) "__init__") (some init))
    (hb : ∀ self, Looks (model prog w) h (bindSpecial init self) (init, [self]))
    (hq : codeAny (model prog w) (A.under (.builtin "type.__call__" ⟨[.ref C], []⟩)) (.call init ⟨[.ref (h.objs.size + 1)], []⟩) (InitBack (h.objs.size + 1) R) ⟨(h.push emptyDict).push (accObj C h.objs.size [] 0), g, d, t, os⟩) :
    codeAny (model prog w) A (.call (.ref C) ⟨[], []⟩) R ⟨h, g, d, t, os⟩ := by
  have Y' := Y
  obtain ⟨⟨oc, od, cd, sl, hC, e1, e2, e4⟩, made, base, self, top, call, typ⟩ := Y
  refine codeAny_of_tree ?_
  show wpAny _ _ (callAny (.ref C) _) _ _ _
  refine nd_load hC ?_
  show wpAny _ _ (callAny.viaDunder (.ref C) _) _ _ _
  unfold callAny.viaDunder
  refine wpAny_bind (call.at ?_)
  dsimp only
  rw [tc_bind]
  refine wpAny_bind (wpAny_pure (wpAny_bind (wpAny_pure ?_)))
  refine wpAny_pure (a := Fin.again (.call (.builtin "type.__call__") ⟨[.ref C], []⟩)) (And.intro rfl ?_)
  refine codeAny_call_builtin_at (Code.quiet_builtin _ (by decide +kernel)) entry_typeCall (check_slot tc_kind tc_split typ (tc_args _ _ _) ?_)
  unfold Builtin.«type.__call__»
  have hm : Looks (model prog w) h (mroOf (.ref C)) cd.mro := ((Looks.ld (part := none) hC).andThen .now).andThen .now
  repeat (first | simp only [e4, Bool.false_eq_true, if_false] | with_reducible refine wpAny_call ?_ | lk)
  refine newL Y' ?_
  have k : ∀ b o, h.get? b = some o → ((h.push emptyDict).push (accObj C h.objs.size [] 0)).get? b = some o := fun b o e => Heap.get?_push_of_some _ (Heap.get?_push_of_some _ e)
  have hx : ((h.push emptyDict).push (accObj C h.objs.size [] 0)).get? (h.objs.size + 1) = some (accObj C h.objs.size [] 0) := by heap_get
  have t1 : Looks (model prog w) ((h.push emptyDict).push (accObj C h.objs.size [] 0)) (typeOf (.ref (h.objs.size + 1))) (.ref C) := (Looks.ld hx).andThen .now
  have s1 := self.keeps k
  have i1 := hi.keeps k
  have b1 := (hb (.ref (h.objs.size + 1))).keeps k
  unfold isInstance callSpecial? specialOf
  repeat (first | with_reducible refine wpAny_call ?_ | lk)
  refine codeAny_mono hq fun r s' z => ?_
  rcases r with e | (v | _ | _ | _) <;> first | exact z | exact z.elim | skip
  obtain ⟨rfl, z⟩ := z
  exact wpAny_pure (wpAny_pure z)
end
end Mine
namespace Mine
section
variable {prog : Program} {w : World} {A : Around} {E : Value → Shared → Prop} {s : Shared} {h₀ : Heap} {L : Addr} {m : Str → Option Value} {news : Cells} {K : Frag} {Q : Value → Shared → Prop} {C : Addr}
/-- an object of a list subclass of the text's, no arguments -/
theorem call_clsL {fI : Addr} (F : Fr h₀ L s.heap m) (X : K.In h₀) (N : News h₀ L s.heap news) (Y : ∀ h, K.In h → MakesL (model prog w) h C) (hi : findIn K (.ref C) "__init__" = some (some (.ref fI))) (hf : isFn K (.ref fI) = true)
    (h : ∀ x dx h', Fr h₀ L h' m → News h₀ L h' ((x, accObj C dx [] 0) :: (dx, dictOf [] 0) :: news) → (∀ p ∈ news, p.1 < dx) → dx < x →
      codeAny (model prog w) (A.under (.builtin "type.__call__" ⟨[.ref C], []⟩)) (.call (.ref fI) ⟨[.ref x], []⟩) (InitBack x fun r s' => match r with | .ok (.ret v) => Q v s' | .ok _ => False | .error e => E e s') { s with heap := h' }) :
    wpAny (model prog w) A (call (.ref C) []) Q E s := by
  obtain ⟨hh, g, d, t, os⟩ := s
  have X' : K.In hh := X.keeps F.keep
  refine wpAny_call (makeL (Y hh X') (looks_findIn X' hi) (fun self => bind_fn X' self (beq_iff_eq.mp hf)) (h _ hh.objs.size _ ((F.push _).push _) ?_ (fun p hp => Heap.lt_size (N p hp).1) (Nat.lt_succ_self _)))
  have := (N.push F emptyDict).push (F.push _) (accObj C hh.objs.size [] 0)
  rwa [Heap.size_push] at this
end
end Mine

end
-- AT19
namespace Mine
section
variable {prog : Program} {w : World} {A : Around} {E : Value → Shared → Prop} {s : Shared} {h₀ : Heap} {L x dx C : Addr} {m : Str → Option Value} {news : Cells} {K : Frag} {name : Str} {f : String} {es : List DictEntry} {e : Nat} {its : List Value} {n : Nat}
theorem methL {Q : Value × List Value → Shared → Prop} {pl : Sem Bool} (F : Fr h₀ L s.heap m) (X : K.In h₀) (N : News h₀ L s.heap news) (hx : (x, accObj C dx its n) ∈ news) (hd : (dx, dictOf es e) ∈ news)
    (h1 : findIn K (.ref C) "__getattribute__" = some (some (.builtin "list.__getattribute__"))) (h2 : findIn K (.ref C) "__getattr__" = some none) (h3 : findIn K (.ref C) name = some (some (.builtin f))) (ht : typeOf (.builtin f) = pure (.type "method_descriptor")) (hl : getL name es = some none)
    (h : Q (.builtin f, [.ref x]) s) : wpAny (model prog w) A (getMethod (.ref x) name pl) Q E s := by
  have X' := X.keeps F.keep
  have ex := (N _ hx).1
  have ed := (N _ hd).1
  have T0 : Looks (model prog w) s.heap (typeOf (.ref x)) (.ref C) := (Looks.ld (part := some headPart) ex).andThen .now
  refine wpAny_bind (wpAny_bind (T0.here ((looks_findIn X' h1).here ?_)))
  show wpAny _ _ (if (Manifest.canonical "list.__getattribute__" != "object.__getattribute__") = true then _ else _) _ _ s
  rw [show (Manifest.canonical "list.__getattribute__" != "object.__getattribute__") = false from by decide +kernel]
  refine wpAny_bind (wpAny_bind (T0.here ((looks_findIn X' h2).here ?_)))
  refine wpAny_bind (wpAny_bind (T0.here ((looks_findIn X' h3).here ?_)))
  dsimp only
  rw [ht]
  refine wpAny_bind (wpAny_pure ?_)
  refine wpAny_bind (wpAny_loadPart ex ?_)
  dsimp only
  refine wpAny_bind ((show Looks (model prog w) s.heap (nsGet dx name) none from (Looks.ld ed).andThen (Looks.of_pure (nsLook_of (by rw [lookIn_dict]; exact hl)))).here ?_)
  exact wpAny_bind (wpAny_rule (wpAny_pure h))
end
end Mine

-- AT20
namespace Mine
section
variable {prog : Program} {w : World} {A : Around} {E : Value → Shared → Prop} {s : Shared} {h₀ : Heap} {L x dx C : Addr} {m : Str → Option Value} {news news' : Cells} {K : Frag} {its : List Value} {n : Nat} {v : Value}
theorem check_meth {M : Model} {i owner nm : String} {self : Value} {rest : List Value} {Q : Unit → Shared → Prop}
    (hk : builtinKind i = some .method) (hs : splitId i = some (owner, nm)) (hi : Looks M s.heap (isInstance self (.type owner)) true) (ha : argsOk i ⟨self :: rest, []⟩) (q : Q () s) :
    wpAny M A (checkBuiltinCall i ⟨self :: rest, []⟩) Q E s := by
  simp only [checkBuiltinCall, hk, hs]
  refine wpAny_bind (hi.here ?_)
  simp only [Bool.not_true, Bool.false_eq_true, if_false]
  cases hsig : Manifest.signature? i with
  | none => exact wpAny_pure q
  | some sig =>
    simp only [argsOk, hsig] at ha
    have h2 : Bind.checkArgs i sig ⟨self :: rest, []⟩ = pure () := ha
    show wpAny M A (Bind.checkArgs i sig ⟨self :: rest, []⟩) Q E s
    rw [h2]; exact wpAny_pure q
theorem appendL {Q : Value → Shared → Prop} (F : Fr h₀ L s.heap m) (X : K.In h₀) (N : News h₀ L s.heap news) (hi : subIn K (.ref C) (.type "list") = some true) (U : UpdF x (accObj C dx its n) news g) (hz : its.length < 16000000)
    (h : ∀ h', Fr h₀ L h' m → News h₀ L h' (g (accObj C dx (its ++ [v]) (n + 1))) → Q .none { s with heap := h' }) : wpAny (model prog w) A (call (.builtin "list.append") [.ref x, v]) Q E s := by
  obtain ⟨pre, post, rfl, hg, u1, u2⟩ := U.split
  have ex := (N (x, accObj C dx its n) (List.mem_append_right _ (.head _))).1
  have T0 : Looks (model prog w) s.heap (typeOf (.ref x)) (.ref C) := (Looks.ld (part := some headPart) ex).andThen .now
  have I0 : Looks (model prog w) s.heap (isInstance (.ref x) (.type "list")) true := T0.andThen (looks_subIn (X.keeps F.keep) hi)
  have hd : (accObj C dx its n).data = .seq its.toArray n := rfl
  refine wpAny_call (codeAny_call_builtin (by decide +kernel) entry_list_append (check_meth (owner := "list") (nm := "append") (by decide +kernel) (by decide +kernel) I0 (args_list_append _ _) ?_))
  show wpAny _ _ (updateSeq x (·.push v) >>= fun _ => ret .none) _ _ s
  refine wpAny_bind (wpAny_updateSeq ex hd (wpAny_pure ?_) (by simp; rw [sizeLine_eq]; omega))
  have E1 : Obj.mapSeq (·.push v) (accObj C dx its n) = accObj C dx (its ++ [v]) (n + 1) := by
    simp [Obj.mapSeq]
  obtain ⟨F1, N1⟩ := news_upd (pre := pre) (f := Obj.mapSeq (·.push v)) F N u1 u2 E1 rfl
  refine h _ F1 ?_
  rw [hg]
  exact N1
end
end Mine

-- AT21
namespace Mine
theorem push {prog : Program} {w : World} (x dx : Addr) (its : List Value) (n e : Nat) (es : List DictEntry) (a b : Str) (ta tb : Tok) (hne : x ≠ dx) (hl : getL "append" es = some none) (hz : its.length < 16000000) :
   Does (KH w.params) prog w 4 87 [.ref x, .str a ta, .str b tb] [(x, accObj 143 dx its n), (dx, dictOf es e)] (fun r own => r = .none ∧ ∃ tp, tp ≠ x ∧ own = [(x, accObj 143 dx (its ++ [.ref tp]) (n+1)), (dx, dictOf es e), (tp, ({ cls := .type "tuple", data := .seq #[.str a ta, .str b tb] } : Obj))]) := by
  refine enter (binds := [("self", .ref x), ("fws", .str a ta), ("string", .str b tb)]) (by k_is) (by k_is) (fun s X => BindsTo.of_eq rfl) (locs rfl) ?_
  intro dp un gd fr g L s PP hP G F N l0 hdp hun
  obtain ⟨X, ⟨p, loose, mean, mg, mb, T⟩, codeHd, codeHd2⟩ := id G
  k_lt l0
  try k_fold
  iterate 4 walk1
  refine methL F X N (.head _) (.tail _ (.head _)) (by k_is) (by k_is) (by k_is) rfl hl ?_
  iterate 10 walk1
  refine appendL (C := 143) (dx := dx) (its := its) (n := n) (by assumption) X (by assumption) (by k_is) (by k_updF) hz ?_
  intro h' F' N'
  iterate 2 walk1
  exact hP _ _ (Fin.intro F' (cb_drop N' (by repeat' (first | exact List.forall_mem_nil _ | refine List.forall_mem_cons.mpr ⟨by k_mem, ?_⟩))) ⟨rfl, _, by k_ne, rfl⟩)
end Mine

-- AT22
namespace Mine
theorem wd_slot : Slot "wrapper_descriptor" "__get__" "wrapper_descriptor.__get__" := .of (owner := "wrapper_descriptor") (n := "__get__") (by rw [typeLookup_type, builtinLookup_eq_fast]; kernel_rfl) (by decide +kernel) (by decide +kernel) (by decide +kernel)
  (by first | exact .inl (by decide +kernel) | exact .inr (by decide +kernel)) (by rw [isSubtype_type]; kernel_rfl)
theorem wd_entry : entryFor table "wrapper_descriptor.__get__" = some Builtin.«wrapper_descriptor.__get__» := entryFor_of_tree (by kernel_rfl)
theorem wd_args (a b c : Value) : argsOk "wrapper_descriptor.__get__" ⟨[a, b, c], []⟩ := by unfold argsOk; kernel_rfl
theorem wd_type : typeOf (.builtin "list.__init__") = pure (.type "wrapper_descriptor") := by kernel_rfl
theorem wd_inst : isInstance (.builtin "list.__init__") (.type "wrapper_descriptor") = pure true := by unfold isInstance; rw [wd_type]; show isSubtype _ _ = _; rw [isSubtype_type]; kernel_rfl
section
variable {prog : Program} {w : World} {A : Around} {E : Value → Shared → Prop} {s : Shared} {h₀ : Heap} {L x dx C D so : Addr} {m : Str → Option Value} {news : Cells} {K : Frag} {its : List Value} {n : Nat}
theorem wd_kind : builtinKind "wrapper_descriptor.__get__" = some .slot := by decide +kernel
theorem wd_split : splitId "wrapper_descriptor.__get__" = some ("wrapper_descriptor", "__get__") := by decide +kernel
theorem wd_check {M : Model} {a b : Value} {Q : Unit → Shared → Prop} (h : Q () s) : wpAny M A (checkBuiltinCall "wrapper_descriptor.__get__" ⟨[.builtin "list.__init__", a, b], []⟩) Q E s := by
  have hi : Looks M s.heap (isInstance (.builtin "list.__init__") (.type "wrapper_descriptor")) true := Looks.of_pure wd_inst
  have ha := wd_args (.builtin "list.__init__") a b
  exact @check_slot M A E s "wrapper_descriptor.__get__" "wrapper_descriptor" "__get__" (.builtin "list.__init__") [a, b] [] Q wd_kind wd_split hi ha h
noncomputable abbrev mwObj (x : Addr) : Obj := { cls := .type "method-wrapper", data := .fields #[.builtin "list.__init__", .ref x] }
theorem wd_get {M : Model} {Q : PySem.Fin → Shared → Prop} (hi : Looks M s.heap (isInstance (.ref x) (.type "list")) true) (h : Q (.done (.ret (.ref s.heap.objs.size))) { s with heap := s.heap.push (mwObj x) }) :
    wpAny M A (Builtin.«wrapper_descriptor.__get__» ⟨[.builtin "list.__init__", .ref x, .ref C], []⟩) Q E s := by
  obtain ⟨hh, g, d, t, os⟩ := s
  unfold Builtin.«wrapper_descriptor.__get__»
  have e0 : ".".intercalate ("list.__init__".cutAt '.').dropLast = "list" := by decide +kernel
  repeat (first | (rw [e0]; with_reducible refine Looks.at hi ?_) | wp_step | dsimp only)
  all_goals exact h
theorem superGetG {nm : Str} {v : Value} {dt gn : String} {bf : Builtin} {mw : Obj} {pl : Sem Bool} {Q : Value × List Value → Shared → Prop} (hmw : mw.isFreed = false) (hnc : (nm == "__class__") = false) (hty : typeOf v = pure (.type dt)) (slot : Slot dt "__get__" gn) (hent : entryFor table gn = some bf)
    (hchk : ∀ (A : Around) (E : Value → Shared → Prop) (s : Shared) (Q : Unit → Shared → Prop), Q () s → wpAny (model prog w) A (checkBuiltinCall gn ⟨[v, .ref x, .ref C], []⟩) Q E s)
    (hget : ∀ (A : Around) (E : Value → Shared → Prop) (s : Shared) (Q : PySem.Fin → Shared → Prop), Looks (model prog w) s.heap (isInstance (.ref x) (.type "list")) true → Q (.done (.ret (.ref s.heap.objs.size))) { s with heap := s.heap.push mw } → wpAny (model prog w) A (bf ⟨[v, .ref x, .ref C], []⟩) Q E s)
    (FF : Fr h₀ L s.heap m) (X₀ : K.In h₀) (N : News h₀ L s.heap news) (hso : (so, ks_superObj D x C) ∈ news) (hx : (x, accObj C dx its n) ∈ news) (ho : nsIn K cStatics "thirdparty.any" = some none)
    (hm : ks_superIn K C D nm = some (some v)) (hs : subIn K (.ref C) (.type "list") = some true) (hxC : x ≠ C)
    (h : ∀ q h', Fr h₀ L h' m → News h₀ L h' ((q, mw) :: news) → (∀ p ∈ news, p.1 < q) → Q (.ref q, []) { s with heap := h', toks := s.toks + 1 }) : wpAny (model prog w) A (getMethod (.ref so) nm pl) Q E s := by
  have X : K.In s.heap := X₀.keeps FF.keep
  obtain ⟨hh, g, d, t, os⟩ := s
  have hsoG := (N _ hso).1
  have hxG := (N _ hx).1
  have hT : ∀ t', (⟨hh, g, d, t', os⟩ : Shared).TypeIs (.ref so) "super" := fun _ => ⟨_, hsoG, rfl⟩
  have T0 : Looks (model prog w) hh (typeOf (.ref x)) (.ref C) := (Looks.ld (part := some headPart) hxG).andThen .now
  have I0 : Looks (model prog w) hh (isInstance (.ref x) (.type "list")) true := T0.andThen (looks_subIn X hs)
  cases hc : clsIn K C with
  | none => unfold ks_superIn at hm; rw [hc] at hm; cases hm
  | some cd =>
    unfold ks_superIn at hm
    rw [hc, Option.bind_some] at hm
    have hC : Looks (model prog w) hh (mroOf (.ref C)) cd.mro := fun A Q E s k q => wpAny_bind ((looks_clsIn X hc) A _ E s k (wpAny_pure q))
    have hno := looks_opaque (M := model prog w) (C := C) X ho
    unfold getMethod
    refine wpAny_bind (wpAny_specialOf (hT _) PySem.F.ks_slot_super_ga.lookup ?_)
    show wpAny _ _ (if (Manifest.canonical "super.__getattribute__" != "object.__getattribute__") = true then _ else _) _ _ _
    rw [if_pos PySem.F.ks_canon_super_ga]
    unfold getAttr getAttrBy
    refine wpAny_bind (wpAny_bind (wpAny_mkText (wpAny_holding (wpAny_bind (wpAny_typeOf (hT _) (wpAny_bind (wpAny_of_eq PySem.F.ks_slot_super_ga.lookup ?_)))))))
    show wpAny _ _ (getAttrByItsOwn (.ref so) (.str _ t) (.type "super") (.builtin "super.__getattribute__") true false) _ _ _
    unfold getAttrByItsOwn hookBefore callGetattribute boundAndCalled
    refine wpAny_bind (wpAny_of_eq (show (if onTheHeap (.type "super") then typeLookup (.type "super") "__getattr__" else pure none) = pure none from rfl) ?_)
    refine wpAny_bind (wpAny_attempt (wpAny_holding ?_))
    show wpAny _ _ (bindSpecial (.builtin "super.__getattribute__") (.ref so) >>= _) _ _ _
    refine wpAny_bind (wpAny_of_eq (PySem.F.ks_slot_super_ga.bind _) ?_)
    refine wpAny_mono (Q := fun v s' => v = .ref hh.objs.size ∧ s' = ⟨hh.push mw, g, d, t + 1, os⟩) (E := fun _ _ => False)
      (wpAny_call_entry PySem.F.ks_slot_super_ga (hT _) PySem.F.ks_entry_super_ga ?_ (PySem.F.ks_gaArgs_super _ _)) (fun v s' hv => ?_) fun _ _ z => z.elim
    · have hne : (Value.ref x == Value.ref C) = false := by simp [hxC]
      have hdt : (ks_superObj D x C).data = .fields #[.ref D, .ref x, .ref C] := rfl
      clear h FF N hso hx X₀ hs hT T0
      unfold Builtin.«super.__getattribute__»
      repeat (first
        | (with_reducible refine wpAny_field hsoG hdt (show (#[.ref D, .ref x, .ref C] : Array Value)[0]? = some (.ref D) from rfl) ?_) | (with_reducible refine wpAny_field hsoG hdt (show (#[.ref D, .ref x, .ref C] : Array Value)[1]? = some (.ref x) from rfl) ?_) | (with_reducible refine wpAny_field hsoG hdt (show (#[.ref D, .ref x, .ref C] : Array Value)[2]? = some (.ref C) from rfl) ?_)
        | (with_reducible refine ks_wpAny_notOpaque hno ?_)
        | (with_reducible refine Looks.at hC ?_)
        | (refine ks_forIn_along X (fun _ _ => rfl) rfl ?_ hm)
        | (with_reducible refine wpAny_of_eq hty ?_)
        | (with_reducible refine wpAny_of_eq slot.lookup ?_)
        | (simp only [hne, hnc, Bool.false_eq_true, if_false])
        | wp_step
        | dsimp only)
      refine codeAny_call_builtin slot.plain hent (hchk _ _ _ _ ?_)
      exact hget _ _ ⟨hh, g, d, t + 1, os⟩ _ I0 (wpAny_pure (wpAny_pure ⟨_, rfl, rfl, rfl⟩))
    · obtain ⟨rfl, rfl⟩ := hv
      obtain ⟨F', N', l'⟩ := ks_newsPush (s := ⟨hh, g, d, t, os⟩) (o := mw) FF N rfl (Heap.get?_push_at rfl hmw) (fun b o e => Heap.get?_push_of_some _ e)
      exact wpAny_pure (wpAny_pure (h _ _ F' N' l'))
theorem superGet {pl : Sem Bool} {Q : Value × List Value → Shared → Prop} (FF : Fr h₀ L s.heap m) (X₀ : K.In h₀) (N : News h₀ L s.heap news) (hso : (so, ks_superObj D x C) ∈ news) (hx : (x, accObj C dx its n) ∈ news) (ho : nsIn K cStatics "thirdparty.any" = some none)
    (hm : ks_superIn K C D "__init__" = some (some (.builtin "list.__init__"))) (hs : subIn K (.ref C) (.type "list") = some true) (hxC : x ≠ C)
    (h : ∀ q h', Fr h₀ L h' m → News h₀ L h' ((q, mwObj x) :: news) → (∀ p ∈ news, p.1 < q) → Q (.ref q, []) { s with heap := h', toks := s.toks + 1 }) : wpAny (model prog w) A (getMethod (.ref so) "__init__" pl) Q E s :=
  superGetG rfl (by decide +kernel) wd_type wd_slot wd_entry (fun _ _ _ _ h => wd_check h) (fun _ _ _ _ hi h => wd_get hi h) FF X₀ N hso hx ho hm hs hxC h
end
end Mine

-- AT23
section
open PySem PySem.W PyProof.Rows PySem.Spec PySem.Calls Builtin Builtin.ObjectAttr
namespace Mine
section
variable {K : Frag} {prog : Program} {w : World} {k : Nat} {f : Addr} {vs : List Value} {own rest news : Cells} {res : Value → Cells → Prop}
  {oc : Value} {od an : Option Addr} {osl : Array (Option Value)} {name qual : Str} {params : Arguments} {body : List Stmt} {scope : Scope} {cl : List (Str × Addr)} {dV kV doc pm cdv ct : Value} {binds : List (Str × Value)}
theorem enterA (ho : K.lookup f = some ⟨oc, od, .func (fnX name qual params body scope cl dV kV doc pm an cdv ct), osl⟩) (hcd : codeIn K cdv qual = true)
    (hbind : ∀ s : Shared, K.In s.heap → BindsTo s (fnX name qual params body scope cl dV kV doc pm an cdv ct) ⟨vs, []⟩ binds) (hloc : ∀ y ∈ binds, scope.names.lookup y.1 = some .local)
    (h : ∀ (dp un : Nat) (gd : Option (List Code)) (fr : List Env) (g : Heap) (L : Addr) (s : Shared) (P : Value → Shared → Prop), (∀ v s', Fin g L s res v s' → P v s') → Gd K g → Fr g L s.heap (fun y => binds.reverse.lookup y) → News g L s.heap own → (∀ p ∈ own, p.1 < L) →
      dp + k < recursionLimit → un + 20 * k < cLine → binds.length ≤ s.toks →
      _root_.PySem.wpAt (model prog w) (arT (dp + 1) (un + 3) gd (envX qual scope L f cdv cl :: fr)) (.func body (envX qual scope L f cdv cl)) (execs body (envX qual scope L f cdv cl)) (fun fl s' => P (match fl with | .ret v => v | _ => .none) s') (fun _ _ => False) s)
    (hcell : ∀ x ∈ scope.names, x.2 ≠ .cell := by decide) (hco : scope.isCoroutine = false := by rfl) (hgen : scope.isGenerator = false := by rfl) (hk : scope.kind = .function := by rfl) (hk0 : 0 < k := by decide) :
    Does K prog w k f vs own res := by
  intro dp un gd fr h₀ s R G S hd hu hR
  have X : K.In s.heap := G.X.keeps S.keep
  refine ks_codeAny_call_defAt (fd := fnX name qual params body scope cl dV kV doc pm an cdv ct) (body := body) (binds := binds) (by show dp < recursionLimit; omega) (X _ _ ho) rfl (G.nolimit.keeps S.keep) (codeRec_of X hcd) rfl (hbind s X) hcell hloc (fun h₁ hns hk₁ => ?_) hco hgen hk
  have st := sits_hide S
  refine ks_wpAt_mono (h dp un gd fr (hideAll s.heap (own.map (·.1))) s.heap.objs.size { s with heap := h₁, toks := s.toks + binds.length } _ (fun _ _ x => x) (G.keeps st) ⟨hns, fun b o e => hk₁ b o (of_hideAll _ e), Nat.le_of_eq (hideAll_size _ _)⟩
    (fun p hp => ⟨hk₁ _ _ (S.own p hp).1, Nat.ne_of_lt (Heap.lt_size (S.own p hp).1), hideAll_none _ (List.mem_map_of_mem hp)⟩) (fun p hp => Heap.lt_size (S.own p hp).1) hd hu (Nat.le_add_left _ _)) (fun fl s' hl => ?_) fun _ _ y => y.elim
  obtain ⟨m', news', h', tk, rfl, F', N', r⟩ := hl
  refine hR _ h' tk news' r ⟨fun b o e => F'.keep b o (st b o e), fun p hp => ⟨(N' p hp).1, ?_⟩⟩
  cases q : h₀.get? p.1 with
  | none => rfl
  | some o => have := (N' p hp).2.2; rw [st _ _ q] at this; cases this

end

section
variable {prog : Program} {w : World} {A : Around} {E : Value → Shared → Prop} {h₀ : Heap} {L x dx C : Addr} {m : Str → Option Value} {news : Cells} {K : Frag} {its : List Value} {n : Nat}
theorem osaL {s : Shared} {name : Str} {v : Value} {cd : ClassData} {tk : Tok} {R : Result → Shared → Prop} (FF : Fr h₀ L s.heap m) (X₀ : K.In h₀) (N : News h₀ L s.heap news) (hx : (x, accObj C dx its n) ∈ news) (hdx : (dx, dictOf [] 0) ∈ news)
    (hc : clsIn K C = some cd) (hmro : cd.mro = [.ref C, .type "list", .type "object"]) (hdic : cd.hasDict = true) (ha : findIn K (.ref C) name = some none)
    (U : UpdF dx (dictOf [] 0) news g) (h : ∀ h', Fr h₀ L h' m → News h₀ L h' (g (dictOf [⟨PyData.keyHash w.params name, .str name s.toks, v⟩] 1)) → R (.ok (.ret .none)) { s with heap := h', toks := s.toks + 1 }) :
    codeAny (model prog w) A (.call (.builtin "object.__setattr__") ⟨[.ref x, .str name tk, v], []⟩) R s := by
  have X := X₀.keeps FF.keep
  obtain ⟨pre, post, rfl, hg, u1, u2⟩ := U.split
  have ex := (N _ hx).1
  have I : InstAt s.heap x (accObj C dx its n) C (some (dictOf [] 0)) := ⟨ex, rfl, rfl, (N _ hdx).1⟩
  have SF := PySem.F.store_object
  have hm : Looks (model prog w) s.heap (mroOf (.ref C)) cd.mro := (looks_clsIn X hc).andThen .now
  have sub : Looks (model prog w) s.heap (isInstance (.ref x) (.type "object")) true := I.type.andThen (looks_mroIn X (by unfold mroIn; rw [hc, Option.bind_some, if_neg (by rw [hmro]; simp), hmro]; simp))
  refine codeAny_call_builtin SF.slot.plain SF.entry (@check_slot (model prog w) _ _ s "object.__setattr__" "object" "__setattr__" (.ref x) [.str name tk, v] [] _ SF.kind SF.split sub (SF.args (.ref x) (.str name tk) v) ?_)
  rw [osa_eq, refuse_eq]
  refine wpAny_bind (wpAny_bind (I.type.here (wpAny_bind (hm.here ?_))))
  rw [hmro, refuseLoop_ref, show refuseLoop (.ref x) "__setattr__" [.type "list", .type "object"] = pure () by kernel_rfl]
  refine wpAny_pure (wpAny_bind (I.type.here (wpAny_bind ((looks_findIn X ha).here (wpAny_bind ((show Looks (model prog w) s.heap (storeTaker? none) none from .now).here ?_))))))
  obtain ⟨U1, U2⟩ := news_upd (pre := pre) (f := Obj.putName name (PyData.keyHash w.params name) (.str name s.toks) v) (o' := dictOf [⟨PyData.keyHash w.params name, .str name s.toks, v⟩] 1) FF N u1 u2 (putName_dict ..) rfl
  have D := (N (dx, dictOf [] 0) (by simp)).1
  have D2 := (U2 _ (List.mem_append_right _ (.head _))).1
  refine wpAny_bind (wpAny_pure (wpAny_bind (wpAny_bind (wpAny_loadPart ex (wpAny_bind ((looks_clsIn X hc).here ?_))))))
  rw [hdic]
  refine wpAny_pure (a := some dx) (wpAny_bind (wpAny_pure (wpAny_bind ?_)))
  unfold nsSet
  refine wpAny_bind (wpAny_bind (wpAny_askSetting (wpAny_pure (wpAny_bind (wpAny_mkText (wpAny_bind (wpAny_loadPart D ?_)))))))
  dsimp only
  rw [show aRefKeyMayBeTheName name ([] : List DictEntry).toArray = false from by rw [aRefKeyMayBeTheName_at]; simp]
  refine wpAny_updatePart D ?_
  refine wpAny_bind (wpAny_lookBehind D2 (pastItsLine_dict (by rw [sizeLine_eq]; show 1 ≤ _; omega)) ?_)
  refine wpAny_pure (h _ U1 ?_)
  rw [hg]; exact U2
theorem setL {s : Shared} {name : Str} {v : Value} {cd : ClassData} {Q : Unit → Shared → Prop} (FF : Fr h₀ L s.heap m) (X₀ : K.In h₀) (N : News h₀ L s.heap news) (hx : (x, accObj C dx its n) ∈ news) (hdx : (dx, dictOf [] 0) ∈ news)
    (hc : clsIn K C = some cd) (hmro : cd.mro = [.ref C, .type "list", .type "object"]) (hdic : cd.hasDict = true) (hs : findIn K (.ref C) "__setattr__" = some (some (.builtin "object.__setattr__"))) (ha : findIn K (.ref C) name = some none)
    (U : UpdF dx (dictOf [] 0) news g) (h : ∀ h' t, Fr h₀ L h' m → News h₀ L h' (g (dictOf [⟨PyData.keyHash w.params name, .str name t, v⟩] 1)) → Q () { s with heap := h', toks := s.toks + 2 }) :
    wpAny (model prog w) A (setAttr (.ref x) name v) Q E s :=
  set_plain (X₀.keeps FF.keep) (show InstAt s.heap x (accObj C dx its n) C (some (dictOf [] 0)) from ⟨(N _ hx).1, rfl, rfl, (N _ hdx).1⟩) hs (osaL (s := { s with toks := s.toks + 1 }) FF X₀ N hx hdx hc hmro hdic ha U fun h' F' N' => h h' _ F' N')
end
end Mine

end
-- AT24
section
open PySem PySem.W PyProof.Rows PySem.Spec PySem.Calls Builtin
namespace Mine
theorem li_entry : entryFor table "list.__init__" = some Builtin.«list.__init__» := entryFor_of_tree (by kernel_rfl)
theorem li_check (a : Value) : checkBoundCall "list.__init__" ⟨[a], []⟩ = pure () := by kernel_rfl
theorem li_quiet (a : Args) : (Code.builtin "list.__init__" a).quiet = true := Code.quiet_builtin _ (by decide +kernel)
section
variable {prog : Program} {w : World} {A : Around} {E : Value → Shared → Prop} {h₀ : Heap} {L x dx C q : Addr} {m : Str → Option Value} {news : Cells} {K : Frag} {its : List Value} {n : Nat}
theorem initCall {s : Shared} {Q : Value → Shared → Prop} (FF : Fr h₀ L s.heap m) (N : News h₀ L s.heap news) (hq : (q, mwObj x) ∈ news) (U : UpdF x (accObj C dx [] 0) news g)
    (h : ∀ h', Fr h₀ L h' m → News h₀ L h' (g (accObj C dx [] 0)) → Q .none { s with heap := h' }) : wpAny (model prog w) A (call (.ref q) []) Q E s := by
  obtain ⟨pre, post, rfl, hg, u1, u2⟩ := U.split
  have eq := (N _ hq).1
  have ex := (N _ (List.mem_append_right pre (.head post))).1
  obtain ⟨F1, N1⟩ := news_upd (pre := pre) (o := accObj C dx [] 0) (o' := accObj C dx [] 0) (f := Obj.mapSeq fun _ => #[]) FF N u1 u2 rfl rfl
  have h := h _ F1 (by rw [hg]; exact N1)
  clear N1 F1 hg u1 u2 hq N FF
  obtain ⟨hh, gg, d, t, os⟩ := s
  refine wpAny_call (codeAny_of_tree ?_)
  show wpAny _ A.in1 (callAny (.ref q) _) _ _ _
  unfold callAny
  refine wpAny_bind (wpAny_load eq ?_)
  show wpAny _ _ (checkBoundCall "list.__init__" ⟨[.ref x], []⟩ >>= fun _ => again (.builtin "list.__init__" ⟨[.ref x], []⟩)) _ _ _
  rw [li_check]
  refine wpAny_bind (wpAny_pure (wpAny_pure ⟨li_quiet _, codeAny_builtin li_entry ?_⟩))
  unfold Builtin.«list.__init__»
  have hd : (accObj C dx [] 0).data = .seq #[] 0 := rfl
  refine wpAny_bind (wpAny_bind (wpAny_seqItems ex hd (wpAny_pure ?_)))
  refine wpAny_bind (wpAny_updateSeq ex hd (wpAny_bind (wpAny_pure (wpAny_pure ?_))))
  exact h
end
theorem accInit {prog : Program} {w : World} (hpf : ((prog.main.file : Str) == ("/claim/cut.py" : Str)) = true) (hps : (prog.main.scope.names.lookup ("super" : Str)).isSome = false) (x dx : Addr) (hne : x ≠ dx) (hxC : x ≠ 143) :
   Does (KH w.params) prog w 4 80 [.ref x] [(x, accObj 143 dx [] 0), (dx, dictOf [] 0)] (fun r own => r = .none ∧ ∃ t u, own = [(x, accObj 143 dx [] 0), (dx, dictOf [⟨PyData.keyHash w.params "_initial_size", .str "_initial_size" t, .int 0 u⟩] 1)]) := by
  refine enterA (binds := [("self", .ref x), ("initial_size", .int 0 _)]) (by k_is) (by k_is) (fun s X => by refine' binds_K X ?hd ?ho ?hs ?h1 ?h2; (case hd => exact rfl); (case ho => k_is); (case hs => exact rfl); (case h1 => exact rfl); (case h2 => exact rfl)) (locs rfl) ?_
  intro dp un gd fr g L s PP hP G F N l0 hdp hun hT
  obtain ⟨X, ⟨p, loose, mean, mg, mb, T⟩, codeHd, codeHd2⟩ := id G
  k_lt l0
  try k_fold
  iterate 5 walk1
  refine setL F X N (.head _) (.tail _ (.head _)) (by rfl) (by rfl) (by rfl) (by k_is) (by k_is) (by k_updF) ?_
  intro h' t F' N'
  dsimp only
  refine ks_wpAt_execs_cons (ks_wpAt_Expr_any (ks_wpAt_MethodCall ?_))
  have I : W.InstAt h' x (accObj 143 dx [] 0) 143 (some (dictOf [⟨PyData.keyHash w.params "_initial_size", .str "_initial_size" t, .int 0 270⟩] 1)) := ⟨(N' _ (.head _)).1, rfl, rfl, (N' _ (.tail _ (.head _))).1⟩
  refine ks_node F' X N' T (by k_is) (by rfl) (by rfl) I (by k_is) (by rfl) hpf (by k_is) (by k_is) (by k_is) (by k_is) (by decide) (by rfl) (by rfl) (by rfl) (by rfl) hps (by first | boot_by_name | rfl | kernel_rfl) ?_
  intro so h2 F2 N2 l2
  k_lt l2
  refine superGet F2 X N2 (.head _) (.tail _ (.head _)) (by k_is) (by ks_is) (by k_is) hxC ?_
  intro q h3 F3 N3 l3
  k_lt l3
  refine callWith_of (P := fun h => h.get? q = some (mwObj x)) rfl (fun h e => ⟨.machine, .inr (.inl rfl), (Looks.ld (part := none) e).andThen .now⟩) (evalArgs_nil3 ⟨(N3 _ (.head _)).1, ?_⟩)
  refine initCall F3 N3 (.head _) (by k_updF) fun h4 F4 N4 => ?_
  iterate 3 walk1

  exact hP _ _ (Fin.intro F4 (cb_drop N4 (by repeat' (first | exact List.forall_mem_nil _ | refine List.forall_mem_cons.mpr ⟨by k_mem, ?_⟩))) ⟨rfl, _, _, rfl⟩)
end Mine

end
-- AT26
namespace Mine
noncomputable abbrev tab2 (c1 c2 : Addr) : Obj := tabObj #[rawInt 182, rawInt 13, .ref c1, rawInt 183, rawInt 18, .ref c2]
theorem lawLexer2 {prog : Program} {w : World} (tx : Str) (tt : Tok) (hsz : tx.cps.size ≤ sizeLine) (c1 c2 : Addr) (oc1 oc2 : Obj) (hcode : CodeOf oc2 "_law_lexer.<locals>.<lambda>") (n1 : c1 ≠ c2) (n2 : c1 ≠ 210) (n3 : c2 ≠ 210) :
   Does (KH w.params) prog w 4 215 [.str tx tt] [(210, tab2 c1 c2), (c1, oc1), (c2, oc2)] (fun r own => ∃ (l : LX) (tl : Tok) (ys : List Value) (ks : Nat), LX.Ok prog w l ∧ r = .ref l.x ∧ Chrs ys tx.cps.toList.reverse ∧ l.c2 = c2 ∧ l.oc2 = oc2 ∧ AllNe 210 l.adr ∧ AllNe c1 l.adr ∧
     own = l.cells w 1 tl [] 0 ys ks ++ [(c1, oc1), (210, tab2 c1 c2)]) := by
  obtain ⟨vs2, tt1, f1, f2⟩ := hcode
  refine enterC (binds := [("text", .str tx tt)]) (by k_is) (by k_is) (fun s X => BindsTo.of_eq rfl) (by rfl) (by decide +kernel) ?_
  intro dp un gd fr g L s cells PP hP G F N Y l0 hdp hun
  obtain ⟨X, ⟨p, loose, mean, mg, mb, T⟩, codeHd, codeHd2⟩ := id G
  obtain ⟨o1, rfl, d1⟩ := CellsAre.one Y
  simp only [List.cons_append, List.nil_append] at N
  k_lt l0
  clear Y
  have d1 : o1.data = .cell none := d1
  try k_fold
  iterate 37 walk1
  rename_i S h6 tk3 ys kc hc l3 h5 oCell dC h4 io ct1 h3 tk2 l2 h2 tkx hkx rf ct2 h1 tk1 l11 dio h0 tk0 t0 F0 N0 l0'
  refine useMake (own := []) (fun x dx n _ => lexInit x dx _ n) (fun x dx v own' h => h.1) F0 N0 G (fun p hp => nomatch hp) (fun p hp => hp) (fun p hp => nomatch hp) (by k_is) (by k_is) (by k_is) (by omega) (by omega) ?_
  rintro x dx h' tk own' ⟨_, P, t1, t2, t3, t4, tl, tw, hap, rfl⟩ F' N' hd'
  simp only [Apart, AllNe, and_true] at hap
  obtain ⟨⟨ap1, ap2⟩, ap3⟩ := hap
  refine hP _ _ ?_
  refine' Fin.intro (news' := LX.cells w ⟨x, dx, P, io, dio, rf, c2, L + 1, S, _, _, oc2, oCell, t1, t2, t3, t4, tw, t0⟩ 1 tl [] 0 ys.reverse kc ++ [(c1, oc1), (210, tab2 c1 c2)]) F' (cb_drop N' ?sub) ?res
  case sub =>
    dsimp only [LX.cells]
    simp only [List.cons_append, List.nil_append]
    exact List.forall_mem_cons.mpr ⟨.tail _ (.head _), List.forall_mem_cons.mpr ⟨.tail _ (.tail _ (.head _)), List.forall_mem_cons.mpr ⟨.head _, by
      repeat' (first | exact List.forall_mem_nil _ | refine List.forall_mem_cons.mpr ⟨by k_mem, ?_⟩)⟩⟩⟩
  refine ⟨_, tl, _, kc, ⟨?_, ?_⟩, rfl, hc.reverse, rfl, rfl, ?_, ?_, rfl⟩
  · simp only [Apart, AllNe, and_true]
    refine ⟨⟨?_, ?_, ?_, ?_, ?_, ?_, ?_, ?_⟩, ⟨?_, ?_, ?_, ?_, ?_, ?_, ?_⟩, ⟨?_, ?_, ?_, ?_, ?_, ?_⟩, ⟨?_, ?_, ?_, ?_, ?_⟩, ⟨?_, ?_, ?_, ?_⟩, ⟨?_, ?_, ?_⟩, ⟨?_, ?_⟩, ?_⟩ <;> (first | assumption | exact Ne.symm (by assumption) | k_ne | exact offNe hd' (by k_mem) (by k_mem) | exact (offNe hd' (by k_mem) (by k_mem)).symm)
  · clear N' F' N0 F0 hd'
    show Reader prog w rf _ c2 oc2 (L + 1) oCell S
    intro hap
    simp only [Apart, AllNe, and_true] at hap
    obtain ⟨⟨a1, a2, a3⟩, ⟨a4, a5⟩, a6⟩ := hap
    constructor
    · intro vs v k arg hl
      refine enterL (binds := [("size", arg)]) (.head _) (.tail _ (.head _)) f1 f2 rfl (locs rfl) ?_
      intro dp un gd fr g L' s PP hP G F N l0 hdp hun
      obtain ⟨X, ⟨p, loose, mean, mg, mb, T⟩, codeHd, codeHd2⟩ := id G
      k_lt l0
      try k_fold
      iterate 10 walk1
      exact hP _ _ (Fin.intro (by k_asm) (by k_asm) ⟨rfl, _, rfl⟩)
    · intro k arg
      refine enterL (binds := [("size", arg)]) (.head _) (.tail _ (.head _)) f1 f2 rfl (locs rfl) ?_
      intro dp un gd fr g L' s PP hP G F N l0 hdp hun
      obtain ⟨X, ⟨p, loose, mean, mg, mb, T⟩, codeHd, codeHd2⟩ := id G
      k_lt l0
      try k_fold
      iterate 6 walk1
      exact hP _ _ (Fin.intro (by k_asm) (by k_asm) ⟨⟨_, rfl⟩, rfl⟩)
  · simp only [AllNe, and_true]
    refine ⟨?_, ?_, ?_, ?_, ?_, ?_, ?_, ?_, ?_⟩ <;> (first | assumption | exact Ne.symm (by assumption) | k_ne | exact offNe hd' (by k_mem) (by k_mem) | exact (offNe hd' (by k_mem) (by k_mem)).symm)
  · simp only [AllNe, and_true]
    refine ⟨?_, ?_, ?_, ?_, ?_, ?_, ?_, ?_, ?_⟩ <;> (first | assumption | exact Ne.symm (by assumption) | k_ne | exact offNe hd' (by k_mem) (by k_mem) | exact (offNe hd' (by k_mem) (by k_mem)).symm)
end Mine

-- AT27
namespace Mine
theorem pushT {prog : Program} {w : World} (l : LX) (hl : l.Ok prog w) (ln : Int) (tl : Tok) (pb : List Value) (kp : Nat) (sg : List Value) (ks : Nat) (v : Value) (hz : pb.length < 1000) :
   Does (KH w.params) prog w 2 56 [.ref l.x, v] (l.cells w ln tl pb kp sg ks) (fun r own => r = .none ∧ ∃ kp', own = l.cells w ln tl (pb ++ [v]) kp' sg ks) := by
  obtain ⟨ap, -⟩ := hl
  obtain ⟨x, d, P, io, dio, rf, c2, cell, S, fdS, fdR, oc2, oCell, t1, t2, t3, t4, tw, t5⟩ := l
  refine enter (binds := [("self", .ref x), ("token", v)]) (by k_is) (by k_is) (fun s X => BindsTo.of_eq rfl) (locs rfl) ?_
  intro dp un gd fr g L s PP hP G F N l0 hdp hun
  obtain ⟨X, ⟨p, loose, mean, mg, mb, T⟩, codeHd, codeHd2⟩ := id G
  dsimp only [LX.cells] at N l0
  simp only [Apart, AllNe, and_true] at ap
  obtain ⟨⟨a1, a2, a3, a4, a5, a6, a7, a8⟩, ⟨b1, b2, b3, b4, b5, b6, b7⟩, ⟨d1, d2, d3, d4, d5, d6⟩, -⟩ := ap
  k_lt l0
  try k_fold
  iterate 14 walk1
  rename_i F1 N1
  rw [show pb.toArray.push v = (pb ++ [v]).toArray by simp] at N1
  exact hP _ _ (Fin.intro F1 N1 ⟨rfl, _, rfl⟩)
theorem getP {prog : Program} {w : World} (l : LX) (hl : l.Ok prog w) (ln : Int) (tl : Tok) (pb : List Value) (kp : Nat) (sg : List Value) (ks : Nat) (v : Value) (hz : pb.length < 1000) :
   Does (KH w.params) prog w 8 49 [.ref l.x] (l.cells w ln tl (v :: pb) kp sg ks) (fun r own => r = v ∧ ∃ kp', own = l.cells w ln tl pb kp' sg ks) := by
  obtain ⟨ap, -⟩ := hl
  obtain ⟨x, d, P, io, dio, rf, c2, cell, S, fdS, fdR, oc2, oCell, t1, t2, t3, t4, tw, t5⟩ := l
  refine enter (binds := [("self", .ref x)]) (by k_is) (by k_is) (fun s X => BindsTo.of_eq rfl) (locs rfl) ?_
  intro dp un gd fr g L s PP hP G F N l0 hdp hun
  obtain ⟨X, ⟨p, loose, mean, mg, mb, T⟩, codeHd, codeHd2⟩ := id G
  dsimp only [LX.cells] at N l0
  simp only [Apart, AllNe, and_true] at ap
  obtain ⟨⟨a1, a2, a3, a4, a5, a6, a7, a8⟩, ⟨b1, b2, b3, b4, b5, b6, b7⟩, ⟨d1, d2, d3, d4, d5, d6⟩, -⟩ := ap
  k_lt l0
  try k_fold
  iterate 21 walk1
  rename_i F1 N1
  exact hP _ _ (Fin.intro F1 N1 ⟨rfl, _, rfl⟩)
/-- a lexer: what was pushed back, what is still to be read -/
noncomputable def LexS (prog : Program) (w : World) (x c2 : Addr) (oc2 : Obj) (tot : Int) (own : Cells) (pb : List Str) (cs : List Nat) : Prop :=
  ∃ (l : LX) (vs : List Value) (kp : Nat) (sg : List Value) (ks : Nat) (tl : Tok), l.Ok prog w ∧ l.x = x ∧ l.c2 = c2 ∧ l.oc2 = oc2 ∧ StrsAre vs pb ∧ Chrs sg cs.reverse ∧ own = l.cells w (tot - nl cs) tl vs kp sg ks
theorem Does.post {K : Frag} {prog : Program} {w : World} {k : Nat} {f : Addr} {vs : List Value} {own : Cells} {r1 r2 : Value → Cells → Prop} (h : Does K prog w k f vs own r1) (i : ∀ v o, r1 v o → r2 v o) : Does K prog w k f vs own r2 :=
  fun dp un gd fr h₀ s R G S a b c => h dp un gd fr h₀ s R G S a b fun v h' tk own' q => c v h' tk own' (i _ _ q)
section
variable {prog : Program} {w : World} {x c2 : Addr} {oc2 : Obj} {tot : Int} {own : Cells} {pb : List Str} {cs : List Nat}
theorem pushS (h : LexS prog w x c2 oc2 tot own pb cs) (hz : pb.length < 1000) (p : Str) (t : Tok) : Does (KH w.params) prog w 2 56 [.ref x, .str p t] own (fun r own' => r = .none ∧ LexS prog w x c2 oc2 tot own' (pb ++ [p]) cs) := by
  obtain ⟨l, vs, kp, sg, ks, tl, hl, rfl, rfl, rfl, hv, hs, rfl⟩ := h
  refine (pushT l hl _ tl vs kp sg ks (.str p t) (by rw [hv.length]; exact hz)).post ?_
  rintro v o ⟨rfl, kp', rfl⟩
  exact ⟨rfl, l, _, kp', sg, ks, tl, hl, rfl, rfl, rfl, hv.append' (.cons p t .nil), hs, rfl⟩
theorem getS {p : Str} (h : LexS prog w x c2 oc2 tot own (p :: pb) cs) (hz : pb.length < 1000) : Does (KH w.params) prog w 8 49 [.ref x] own (fun r own' => ∃ t, r = .str p t ∧ LexS prog w x c2 oc2 tot own' pb cs) := by
  obtain ⟨l, vs, kp, sg, ks, tl, hl, rfl, rfl, rfl, hv, hs, rfl⟩ := h
  cases hv with
  | cons _ t hv =>
    refine (getP l hl _ tl _ kp sg ks (.str p t) (by rw [hv.length]; exact hz)).post ?_
    rintro v o ⟨rfl, kp', rfl⟩
    exact ⟨t, rfl, l, _, kp', sg, ks, tl, hl, rfl, rfl, rfl, hv, hs, rfl⟩
theorem getR {t R : List Nat} (h : LexS prog w x c2 oc2 tot own [] cs) (hz : cs.length < 10000) (ht : TokR cs t R) : Does (KH w.params) prog w 8 49 [.ref x] own (fun r own' => ∃ t', r = .str ⟨t.toArray⟩ t' ∧ LexS prog w x c2 oc2 tot own' [] R) := by
  obtain ⟨l, vs, kp, sg, ks, tl, hl, rfl, rfl, rfl, hv, hs, rfl⟩ := h
  cases hv
  refine (getTok0 l hl _ tl kp sg ks cs t R hs hz ht).post ?_
  rintro v o ⟨t', tl', sg', ks', rfl, hs', rfl⟩
  refine ⟨t', rfl, l, [], kp, sg', ks', tl', hl, rfl, rfl, rfl, .nil, hs', ?_⟩
  rw [show tot - nl cs + nl cs - nl R = tot - nl R by omega]
/-- the words to come: those pushed back, or the word of the text alone; R stays behind -/
noncomputable def LexA (prog : Program) (w : World) (x c2 : Addr) (oc2 : Obj) (tot : Int) (R : List Nat) (own : Cells) (q : List Str) : Prop :=
  LexS prog w x c2 oc2 tot own q R ∨ ∃ p cs, q = [p] ∧ cs.length < 10000 ∧ TokR cs p.cps.toList R ∧ LexS prog w x c2 oc2 tot own [] cs
theorem getA {R : List Nat} {p : Str} (h : LexA prog w x c2 oc2 tot R own (p :: pb)) (hz : pb.length < 1000) : Does (KH w.params) prog w 8 49 [.ref x] own (fun r own' => ∃ t, r = .str p t ∧ LexS prog w x c2 oc2 tot own' pb R) := by
  rcases h with h | ⟨q, cs, e, hc, ht, h⟩
  · exact getS h hz
  · cases e
    exact getR h hc ht
end
end Mine

-- AU1
namespace Mine
/-- a contract that leans on what the base holds -/
noncomputable def DoesP (P : Heap → Prop) (K : Frag) (prog : Program) (w : World) (k : Nat) (f : Addr) (vs : List Value) (res : Value → Cells → Prop) : Prop :=
  ∀ (dp un : Nat) (gd : Option (List Code)) (fr : List Env) (h₀ : Heap) (s : Shared) (R : Result → Shared → Prop),
    Gd K h₀ → P h₀ → (∀ b o, h₀.get? b = some o → s.heap.get? b = some o) → dp + k < recursionLimit → un + 20 * k < cLine →
    (∀ v h' tk own', res v own' → Sits h₀ h' own' → R (.ok (.ret v)) { s with heap := h', toks := tk }) →
    codeAny (model prog w) (arT dp un gd fr) (.call (.ref f) ⟨vs, []⟩) R s
section
variable {P : Heap → Prop} {K : Frag} {prog : Program} {w : World} {k : Nat} {f : Addr} {vs : List Value} {news : Cells} {res : Value → Cells → Prop}
  {oc : Value} {od an : Option Addr} {osl : Array (Option Value)} {name qual : Str} {params : Arguments} {body : List Stmt} {scope : Scope} {cl : List (Str × Addr)} {dV kV doc pm cdv ct : Value} {binds : List (Str × Value)}
theorem enterP (ho : K.lookup f = some ⟨oc, od, .func (fnX name qual params body scope cl dV kV doc pm an cdv ct), osl⟩) (hcd : codeIn K cdv qual = true)
    (hbind : ∀ s : Shared, K.In s.heap → BindsTo s (fnX name qual params body scope cl dV kV doc pm an cdv ct) ⟨vs, []⟩ binds) (hloc : ∀ y ∈ binds, scope.names.lookup y.1 = some .local)
    (h : ∀ (dp un : Nat) (gd : Option (List Code)) (fr : List Env) (g : Heap) (L : Addr) (s : Shared) (PP : Value → Shared → Prop), (∀ v s', Fin g L s res v s' → PP v s') → Gd K g → P g → Fr g L s.heap (fun y => binds.reverse.lookup y) → News g L s.heap [] →
      dp + k < recursionLimit → un + 20 * k < cLine →
      wpAny (model prog w) (arT (dp + 1) (un + 3) gd (envX qual scope L f cdv cl :: fr)) (execs body (envX qual scope L f cdv cl)) (fun fl s' => PP (match fl with | .ret v => v | _ => .none) s') (fun _ _ => False) s)
    (hP : ∀ h h' : Heap, (∀ b o, h.get? b = some o → h'.get? b = some o) → P h → P h') (hcell : ∀ x ∈ scope.names, x.2 ≠ .cell := by decide) (hco : scope.isCoroutine = false := by rfl) (hgen : scope.isGenerator = false := by rfl) (hk : scope.kind = .function := by rfl) (hk0 : 0 < k := by decide) :
    DoesP P K prog w k f vs res := by
  intro dp un gd fr h₀ s R G HP st hd hu hR
  have X : K.In s.heap := G.X.keeps st
  refine codeAny_call_def (fd := fnX name qual params body scope cl dV kV doc pm an cdv ct) (body := body) (binds := binds) (by show dp < recursionLimit; omega) (X _ _ ho) rfl (G.nolimit.keeps st) (codeRec_of X hcd) rfl (hbind s X) hcell hloc (fun h₁ hns hk₁ => ?_) hco hgen hk
  refine wpAny_mono (h dp un gd fr s.heap s.heap.objs.size { s with heap := h₁, toks := s.toks + binds.length } _ (fun _ _ x => x) (G.keeps st) (hP _ _ st HP) ⟨hns, fun b o e => hk₁ b o e, Nat.le_refl _⟩
    (fun p hp => nomatch hp) hd hu) (fun fl s' hl => ?_) fun _ _ y => y.elim
  obtain ⟨m', news', h', tk, rfl, F', N', r⟩ := hl
  refine hR _ h' tk news' r ⟨fun b o e => F'.keep b o (st b o e), fun p hp => ⟨(N' p hp).1, ?_⟩⟩
  cases q : h₀.get? p.1 with
  | none => rfl
  | some o => have := (N' p hp).2.2; rw [st _ _ q] at this; cases this
theorem useP {h₀ : Heap} {L : Addr} {m : Str → Option Value} {s : Shared} {dp un : Nat} {gd : Option (List Code)} {fr : List Env} {Q E : Value → Shared → Prop}
    (C : DoesP P K prog w k f vs res) (hP : P h₀) (hK : ∀ h h' : Heap, (∀ b o, h.get? b = some o → h'.get? b = some o) → P h → P h') (F : Fr h₀ L s.heap m) (N : News h₀ L s.heap news) (G : Gd K h₀) (hdp : dp + k < recursionLimit) (hun : un + 20 * k < cLine)
    (h : ∀ v h' tk own', res v own' → Fr h₀ L h' m → News h₀ L h' (own' ++ news) → (∀ p ∈ own', ∀ q ∈ news, p.1 ≠ q.1) → Q v { s with heap := h', toks := tk }) :
    wpAny (model prog w) (arT dp un gd fr) (call (.ref f) vs) Q E s := by
  obtain ⟨oL, es, ep, hL, hLd, hLk, hLf⟩ := F.ns
  refine wpAny_call (C dp un gd fr s.heap s _ (G.keeps F.keep) (hK _ _ F.keep hP) (fun b o e => e) hdp hun (fun v h' tk own' hv S' => ?_))
  refine h v h' tk own' hv ⟨⟨oL, es, ep, S'.keep L oL hL, hLd, hLk, hLf⟩, fun b o e => S'.keep b o (F.keep b o e), F.above⟩ (fun p hp => ?_) (fun p hp q hq e => ?_)
  · rcases List.mem_append.mp hp with hp | hp
    · refine ⟨(S'.own p hp).1, fun e => ?_, ?_⟩
      · have := (S'.own p hp).2; rw [e, hL] at this; cases this
      · cases q : h₀.get? p.1 with
        | none => rfl
        | some o => have := (S'.own p hp).2; rw [F.keep _ _ q] at this; cases this
    · exact ⟨S'.keep _ _ (N p hp).1, (N p hp).2⟩
  · have := (S'.own p hp).2; rw [e, (N q hq).1] at this; cases this
end
theorem IntsAre.put {vs : List Value} {is : List Int} (h : IntsAre vs is) (k : Nat) (x : Int) (t : Tok) : IntsAre (vs.set k (.int x t)) (is.set k x) := by
  induction h generalizing k with
  | nil => exact .nil
  | cons i u r ih => cases k with
    | zero => exact .cons x t r
    | succ k => exact .cons i u (ih k)
theorem heapsW {prog : Program} {w : World} (a : Addr) (items : List Value) (ns : List Int) (hI : IntsAre items ns) (hn : ns.length ≤ 63) :
    DoesP (fun h => h.IsList a items.toArray) (KH w.params) prog w 2 196 [.ref a] (fun r own => ∃ (l : Addr) (vs : List Value) (is : List Int) (n : Nat), r = .ref l ∧ own = [(l, W.listOf vs.toArray n)] ∧ IntsAre vs is ∧ is.length = 9) := by
  refine enterP (binds := [("script", .ref a)]) (by k_is) (by k_is) (fun s X => BindsTo.of_eq rfl) (locs rfl) ?_ (fun h h' k e => e.at (k a))
  intro dp un gd fr g L s PP hP G HL F N hdp hun
  obtain ⟨X, ⟨p, loose, mean, mg, mb, T⟩, codeHd, codeHd2⟩ := id G
  have hV : VMark := trivial
  refine wpAny_execs_cons ?_
  iterate 23 walk1
  dsimp only
  k_steps
  rename_i l h1 l1 h2 F1 N1 Q2 hq2 hr2 h3 tk3 t3 u3 v3 hR F3 N3 hk3
  dsimp only at hR ⊢
  have hn' : (ns.length : Int) ≤ 63 := by omega
  have hsm : Builtin.Range.small 0 (ns.length : Int) 1 = true ∧ Builtin.Range.rangeSize 0 (ns.length : Int) 1 = ((ns.length : Nat) : Int) := ⟨small_one (by omega) (by omega) (by omega) (by omega), by rw [rangeSize_nat]; omega⟩
  refine rangeFor rfl F3 N3 hR hsm.1 hsm.2 (fun i m news => ∃ (o : Option Value) (vs : List Value) (is : List Int) (n : Nat), m = (fun y : Str => if y = "k" then o else if y = "heaps" then some (.ref l) else if y = "script" then some (.ref a) else none) ∧ IntsAre vs is ∧ is.length = 9 ∧ news = [(l, W.listOf vs.toArray n)]) ?_ ?_ ?_
  · refine ⟨none, _, _, 0, funext fun y => ?_, .cons 31 _ (.cons 5 _ (.cons 118 _ (.cons 7 _ (.cons 64 _ (.cons 3 _ (.cons 110 _ (.cons 9 _ (.cons 2 _ .nil)))))))), rfl, rfl⟩
    have d1 : (Str.ofString "heaps" = Str.ofString "k") = False := by simp; decide
    have d2 : (Str.ofString "k" = Str.ofString "script") = False := by simp; decide
    have d3 : (Str.ofString "k" = Str.ofString "heaps") = False := by simp; decide
    by_cases h1 : y = Str.ofString "heaps"
    · subst h1; simp only [d1, if_true, if_false]
    · by_cases h2 : y = Str.ofString "k"
      · subst h2; simp only [d3, if_true, if_false]; rfl
      · simp only [h1, h2, if_false]; exact look1 rfl
  · intro I hI i t m news hi
    rintro ⟨o, vs, is, n, rfl, hv, hl, rfl⟩ it h4 tk4 F4 N4 Q3 hq3 hr3
    have nI : @Ne Nat l I := Nat.ne_of_lt (hI (l, _) (.head _))
    k_steps
    rename_i F5 N5 l5 l6 l7
    have hb1 := Int.fmod_nonneg_of_pos (0 + (i : Int)) (b := 9) (by omega)
    have hb2 := Int.fmod_lt_of_pos (0 + (i : Int)) (b := 9) (by omega)
    refine hq3 _ _ _ _ ⟨some (.int (0 + (i : Int)) t), _, _, n, rfl, IntsAre.put hv _ _ _, ?_, rfl⟩ (frOf F5 fun y => by by_cases h : y = Str.ofString "k" <;> simp [h]) N5 (fun p hp => by rw [List.mem_singleton.mp hp]; exact nI)
    rw [List.length_set]; exact hl
  · rintro m news h5 tk5 ⟨o, vs, is, n, rfl, hv, hl, rfl⟩ F5 N5
    refine hq2 _ ?_
    k_steps
    exact hP _ _ (Fin.intro F5 N5 ⟨l, vs, is, n, rfl, rfl, hv, hl⟩)
end Mine

-- AMix
namespace Mine
/-- the rings' kinds: an opening is true -/
noncomputable def arrsN : Nat → Nat → List (List Bool)
  | 0, 0 => [[]]
  | 0, _ + 1 => []
  | n + 1, 0 => (arrsN n 0).map (false :: ·)
  | n + 1, k + 1 => (arrsN n k).map (true :: ·) ++ (arrsN n (k + 1)).map (false :: ·)
theorem arrs_mem : ∀ (l : List Bool), l ∈ arrsN l.length (l.count true)
  | [] => .head _
  | true :: l => by
    have := arrs_mem l
    rw [List.length_cons, List.count_cons_self]
    exact List.mem_append_left _ (List.mem_map_of_mem this)
  | false :: l => by
    have := arrs_mem l
    have e : (false :: l).count true = l.count true := by simp
    rw [List.length_cons, e]
    cases h : l.count true with
    | zero => rw [h] at this; exact List.mem_map_of_mem this
    | succ k => rw [h] at this; exact List.mem_append_right _ (List.mem_map_of_mem this)
noncomputable def opn (a : List Bool) (k : Nat) : Bool := a.getD k false
noncomputable def hgt (a : List Bool) (k : Nat) : Int := 2 * ((a.take k).count true : Nat) - k
noncomputable def hgts (a : List Bool) : List Int := (List.range 9).map (hgt a)
/-- where a word's mate stands -/
noncomputable def mat (a : List Bool) (p : Nat) : Nat :=
  let e := hgt a p + (if opn a p then 1 else -1)
  let ah := ((List.range 8).map fun i : Nat => (p : Int) - 8 + (i : Int)).filter fun k => hgt a (k.fmod 9).toNat + k.fdiv 9 == e
  match ah.getLast? with | some k => (k.fmod 9).toNat | none => p
noncomputable def leK (a : List Bool) (i j : Nat) : Bool := if hgt a i = hgt a j then decide (j ≤ i) else decide (hgt a i ≤ hgt a j)
noncomputable def insK (a : List Bool) (i : Nat) : List Nat → List Nat
  | [] => [i]
  | j :: r => if leK a i j then i :: j :: r else j :: insK a i r
noncomputable def ord (a : List Bool) : List Nat := ((List.range 9).filter (opn a)).foldr (insK a) []
noncomputable def due (a : List Bool) (p : Nat) : List (Nat × Nat × Nat) :=
  let rank := (ord a).idxOf p
  (List.range 8).filterMap fun i =>
    let k := p + 1 + i
    let one := k % 9
    let m := mat a one
    if (if opn a one then decide ((ord a).idxOf one < rank) else decide (rank < (ord a).idxOf m)) then some ((hgt a one + (k / 9 : Nat) - hgt a p - 1).natAbs, m, one) else none
/-- a turn: the pile, what is told, what is put back and whether it was written -/
structure TS (α : Type) where
  (pile : List (Nat × α))
  (log : List (Nat × α × α))
  (out : List (α × Bool))
noncomputable def stepT {α : Type} (cl : α → Bool) (s : TS α) (x : α) : TS α :=
  match s.pile.getLast? with
  | none => ⟨[(1, x)], s.log, s.out ++ [(x, false)]⟩
  | some (n, t) => if cl t != cl x then ⟨s.pile.dropLast, s.log ++ [(n, t, x)], s.out ++ [(x, !cl x)]⟩ else ⟨s.pile ++ [(n + 1, x)], s.log, s.out ++ [(x, false)]⟩
noncomputable def ringF (p : Nat) : List Nat := (List.range 8).map fun i => (p + 1 + i) % 9
noncomputable def turnI (a : List Bool) (p : Nat) : TS Nat := (ringF p).foldl (stepT fun i => !opn a i) ⟨[], [], []⟩
noncomputable def Good1 (a : List Bool) : Bool := (List.range 9).all fun p => !opn a p ||
  ((turnI a p).log == due a p && (turnI a p).out == (ringF p).map fun i => (i, ((ord a).take ((ord a).idxOf p)).contains i))
theorem arrs_len : (arrsN 9 5).length = 126 := by decide +kernel
/- the same, each number brought to a figure once: half the kernel's work -/
noncomputable def fN {β : Type} (n : Nat) (f : Nat → β) : β := Nat.rec (f 0) (fun m _ => f (Nat.succ m)) n
theorem fN_eq {β : Type} (n : Nat) (f : Nat → β) : fN n f = f n := by cases n <;> rfl
noncomputable def fL {β : Type} (l : List Nat) (f : List Nat → β) : β := List.rec (motive := fun _ => (List Nat → β) → β) (fun k => k []) (fun x _ ih k => fN x fun y => ih fun r => k (y :: r)) l f
theorem fL_eq {β : Type} (l : List Nat) (f : List Nat → β) : fL l f = f l := by
  induction l generalizing f with
  | nil => rfl
  | cons x l ih => show fN x (fun y => fL l fun r => f (y :: r)) = _; rw [fN_eq, ih]
noncomputable def due2 (a : List Bool) (o : List Nat) (p : Nat) : List (Nat × Nat × Nat) :=
  fN (o.idxOf p) fun rank =>
  (List.range 8).filterMap fun i =>
    let k := p + 1 + i
    fN (k % 9) fun one =>
    fN (mat a one) fun m =>
    if (if opn a one then decide (o.idxOf one < rank) else decide (rank < o.idxOf m)) then some ((hgt a one + (k / 9 : Nat) - hgt a p - 1).natAbs, m, one) else none
theorem due2_eq (a : List Bool) (p : Nat) : due2 a (ord a) p = due a p := by
  unfold due2 due; simp only [fN_eq]
noncomputable def Good3 (a : List Bool) : Bool := fL (ord a) fun o => (List.range 9).all fun p => !opn a p ||
  ((turnI a p).log == due2 a o p && (turnI a p).out == (ringF p).map fun i => (i, (o.take (o.idxOf p)).contains i))
theorem good3_eq (a : List Bool) : Good3 a = Good1 a := by
  unfold Good3 Good1; rw [fL_eq]; simp only [due2_eq]
theorem arrs_good3 : (arrsN 9 5).all Good3 = true := by decide +kernel
theorem arrs_good : (arrsN 9 5).all Good1 = true := (show Good3 = Good1 from funext good3_eq) ▸ arrs_good3
end Mine

-- AW0
namespace Mine
/-- a word of the ring: an opening does not begin with a full stop -/
noncomputable def OkW (b : Bool) (x : Str) : Prop := ∃ c r, x.cps.toList = c :: r ∧ r.length ≤ 2 ∧ (c == 46) = !b ∧ ∀ d ∈ c :: r, d < 0x110000
inductive OkWs : List Bool → List Str → Prop
  | nil : OkWs [] []
  | cons {b : Bool} {x : Str} {a : List Bool} {ws : List Str} : OkW b x → OkWs a ws → OkWs (b :: a) (x :: ws)
theorem OkWs.snoc {a : List Bool} {ws : List Str} {b : Bool} {x : Str} (h : OkWs a ws) (k : OkW b x) : OkWs (a ++ [b]) (ws ++ [x]) := by
  induction h with
  | nil => exact .cons k .nil
  | cons q _ ih => exact .cons q ih
theorem OkWs.length {a : List Bool} {ws : List Str} (h : OkWs a ws) : ws.length = a.length := by
  induction h with
  | nil => rfl
  | cons q _ ih => simp [ih]
theorem ints_len {vs : List Value} {is : List Int} (h : IntsAre vs is) : vs.length = is.length := by
  induction h with
  | nil => rfl
  | cons i u r ih => simp [ih]
theorem kl_cut_at : ∀ (p q : List Value) (y : Value), kl_cut (p ++ y :: q) p.length = some (p, y, q)
  | [], q, y => rfl
  | x :: p, q, y => by
    show (match kl_cut (p ++ y :: q) p.length with | some (p, y, q) => some (x :: p, y, q) | none => none) = _
    rw [kl_cut_at p q y]
theorem popBool {prog : Program} {w : World} {A : Around} {E : Value → Shared → Prop} {s : Shared} {h₀ : Heap} {L D : Addr} {m : Str → Option Value} {news news' : Cells} {bp bq : List Bool} {b : Bool} {n : Nat} {i : Int} {u : Tok} {Q : Value → Shared → Prop} (F : Fr h₀ L s.heap m) (N : News h₀ L s.heap news)
    (hi : i = (bp.length : Int)) (hz : bp.length + bq.length < 1000) (U : Upd D (W.listOf ((bp ++ b :: bq).map Value.bool).toArray n) (W.listOf ((bp ++ bq).map Value.bool).toArray (n + 1)) news news')
    (h : ∀ h', Fr h₀ L h' m → News h₀ L h' news' → Q (.bool b) { s with heap := h' }) : wpAny (model prog w) A (call (.builtin "list.pop") [.ref D, .int i u]) Q E s := by
  subst hi
  rw [List.map_append, List.map_cons, List.map_append] at U
  refine kl_popAt (k := bp.length) (p := bp.map Value.bool) (q := bq.map Value.bool) (y := .bool b) F N ?_ ?_ ?_ U ?_ h
  · unfold Builtin.List.listFitsIndex; simp only [Bool.and_eq_true, decide_eq_true_eq]; omega
  · unfold seqIndex?
    simp
    omega
  · have := kl_cut_at (bp.map Value.bool) (bq.map Value.bool) (.bool b)
    rw [List.length_map] at this
    simpa using this
  · rw [sizeLine_eq]; simp; omega
noncomputable def oC : List Nat := [34, 60, 9, 62, 92, 32, 35, 13, 39, 10]
theorem oItem (x : Int) : ∃ c, Txt.item (Str.ofString "\"<\t>\\ #\r'\n") (x.fmod 10) = ⟨#[c]⟩ ∧ c ∈ oC := by
  have b1 := Int.fmod_nonneg_of_pos x (b := 10) (by omega)
  have b2 := Int.fmod_lt_of_pos x (b := 10) (by omega)
  generalize x.fmod 10 = y at b1 b2
  have : y = 0 ∨ y = 1 ∨ y = 2 ∨ y = 3 ∨ y = 4 ∨ y = 5 ∨ y = 6 ∨ y = 7 ∨ y = 8 ∨ y = 9 := by omega
  rcases this with rfl | rfl | rfl | rfl | rfl | rfl | rfl | rfl | rfl | rfl
  all_goals first
    | exact ⟨34, by decide +kernel, by decide⟩
    | exact ⟨60, by decide +kernel, by decide⟩
    | exact ⟨9, by decide +kernel, by decide⟩
    | exact ⟨62, by decide +kernel, by decide⟩
    | exact ⟨92, by decide +kernel, by decide⟩
    | exact ⟨32, by decide +kernel, by decide⟩
    | exact ⟨35, by decide +kernel, by decide⟩
    | exact ⟨13, by decide +kernel, by decide⟩
    | exact ⟨39, by decide +kernel, by decide⟩
    | exact ⟨10, by decide +kernel, by decide⟩
noncomputable def cC : List Nat := [97, 98, 99, 100, 101, 102, 103, 104, 105]
theorem cItem (x : Int) : ∃ c, Txt.item (Str.ofString "abcdefghi") (x.fmod 9) = ⟨#[c]⟩ ∧ c ∈ cC := by
  have b1 := Int.fmod_nonneg_of_pos x (b := 9) (by omega)
  have b2 := Int.fmod_lt_of_pos x (b := 9) (by omega)
  generalize x.fmod 9 = y at b1 b2
  have : y = 0 ∨ y = 1 ∨ y = 2 ∨ y = 3 ∨ y = 4 ∨ y = 5 ∨ y = 6 ∨ y = 7 ∨ y = 8 := by omega
  rcases this with rfl | rfl | rfl | rfl | rfl | rfl | rfl | rfl | rfl
  all_goals first
    | exact ⟨97, by decide +kernel, by decide⟩
    | exact ⟨98, by decide +kernel, by decide⟩
    | exact ⟨99, by decide +kernel, by decide⟩
    | exact ⟨100, by decide +kernel, by decide⟩
    | exact ⟨101, by decide +kernel, by decide⟩
    | exact ⟨102, by decide +kernel, by decide⟩
    | exact ⟨103, by decide +kernel, by decide⟩
    | exact ⟨104, by decide +kernel, by decide⟩
    | exact ⟨105, by decide +kernel, by decide⟩
theorem okOpen {c : Nat} (hc : c ∈ oC) {x : Int} (h0 : 0 ≤ x) (h1 : x < 2) : OkW true (Txt.mul ⟨#[c]⟩ (1 + x) ++ Str.ofString "&") := by
  have lt : ∀ d ∈ oC, d < 0x110000 ∧ d ≠ 46 := by decide
  obtain ⟨a, b⟩ := lt c hc
  have e : (Str.ofString "&").cps.toList = [38] := by decide +kernel
  have hd : (c == 46) = false := beq_eq_false_iff_ne.mpr b
  have : x = 0 ∨ x = 1 := by omega
  rcases this with rfl | rfl
  · refine ⟨c, [38], ?_, (show 1 ≤ 2 by decide), hd, ?_⟩
    · rw [Str.cps_append, Array.toList_append, e]; rfl
    · intro d hd; simp only [List.mem_cons, List.not_mem_nil, or_false] at hd; rcases hd with rfl | rfl; exact a; decide
  · refine ⟨c, [c, 38], ?_, (show 2 ≤ 2 by decide), hd, ?_⟩
    · rw [Str.cps_append, Array.toList_append, e]; rfl
    · intro d hd; simp only [List.mem_cons, List.not_mem_nil, or_false] at hd; rcases hd with rfl | rfl | rfl; exact a; exact a; decide
theorem okClose {c : Nat} (hc : c ∈ cC) : OkW false (Str.ofString "." ++ ⟨#[c]⟩) := by
  have lt : ∀ d ∈ cC, d < 0x110000 := by decide
  have e : (Str.ofString ".").cps.toList = [46] := by decide +kernel
  refine ⟨46, [c], ?_, (show 1 ≤ 2 by decide), rfl, ?_⟩
  · rw [Str.cps_append, Array.toList_append, e]; rfl
  · intro d hd; simp only [List.mem_cons, List.not_mem_nil, or_false] at hd; rcases hd with rfl | rfl; decide; exact lt _ hc
theorem wOpen (e : Int) : OkW true (Txt.mul (Txt.item (Str.ofString "\"<\t>\\ #\r'\n") ((e.fdiv 9).fmod 10)) (1 + (e.fdiv 90).fmod 2) ++ Str.ofString "&") := by
  obtain ⟨c1, ce1, cm1⟩ := oItem (e.fdiv 9)
  have hx1 := Int.fmod_nonneg_of_pos (e.fdiv 90) (b := 2) (by omega)
  have hx2 := Int.fmod_lt_of_pos (e.fdiv 90) (b := 2) (by omega)
  rw [ce1]; exact okOpen cm1 hx1 hx2
theorem wClose (e : Int) : OkW false (Str.ofString "." ++ Txt.item (Str.ofString "abcdefghi") ((e.fdiv 9).fmod 9)) := by
  obtain ⟨c2, ce2, cm2⟩ := cItem (e.fdiv 9)
  rw [ce2]; exact okClose cm2
theorem mulLo (e : Int) : -(2 ^ 63 : Int) ≤ 1 + (e.fdiv 90).fmod 2 := by
  have hx1 := Int.fmod_nonneg_of_pos (e.fdiv 90) (b := 2) (by omega)
  omega
theorem mulHi (e : Int) : 1 + (e.fdiv 90).fmod 2 ≤ ((1048576 : Nat) : Int) := by
  have hx2 := Int.fmod_lt_of_pos (e.fdiv 90) (b := 2) (by omega)
  omega
theorem mulLen {e : Int} {x : Str} (h : 0 ≤ 1 + (e.fdiv 90).fmod 2 → ((Txt.mul x (1 + (e.fdiv 90).fmod 2)).length : Int) = ((1 : Nat) : Int) * (1 + (e.fdiv 90).fmod 2)) : (Txt.mul x (1 + (e.fdiv 90).fmod 2)).length ≤ 2 := by
  have hx1 := Int.fmod_nonneg_of_pos (e.fdiv 90) (b := 2) (by omega)
  have hx2 := Int.fmod_lt_of_pos (e.fdiv 90) (b := 2) (by omega)
  have := h (by omega)
  omega
end Mine

-- AW1
namespace Mine
theorem strsSnoc {vs : List Value} {ss : List Str} {x : Str} {t : Tok} (h : StrsAre vs ss) : StrsAre (vs ++ [Value.str x t]) (ss ++ [x]) := by
  induction h with
  | nil => exact .cons _ _ .nil
  | cons _ _ _ ih => exact .cons _ _ ih
theorem over_same (x : Str) (v : Value) (o : Option Value) (m : Str → Option Value) (y : Str) : (if y = x then some v else (fun y : Str => if y = x then o else m y) y) = if y = x then some v else m y := by
  by_cases h : y = x <;> simp [h]
theorem neAll {a b c I : Addr} {x y z : Obj} (h1 : @Ne Nat a I) (h2 : @Ne Nat b I) (h3 : @Ne Nat c I) : ∀ p ∈ [(a, x), (b, y), (c, z)], p.1 ≠ I :=
  List.forall_mem_cons.mpr ⟨h1, List.forall_mem_cons.mpr ⟨h2, List.forall_mem_cons.mpr ⟨h3, List.forall_mem_nil _⟩⟩⟩
theorem wordsW {prog : Program} {w : World} (l : Addr) (vs : List Value) (n : Nat) (is : List Int) (hi : IntsAre vs is) (hl : is.length = 9) :
   Does (KH w.params) prog w 2 203 [.ref l] [(l, W.listOf vs.toArray n)] (fun r own => ∃ (q : Addr) (wv : List Value) (k : Nat) (a : List Bool) (ws : List Str), r = .ref q ∧ StrsAre wv ws ∧ OkWs a ws ∧ a.length = 9 ∧ a.count true = 5 ∧ @Ne Nat q l ∧ own = [(q, W.listOf wv.toArray k), (l, W.listOf vs.toArray n)]) := by
  refine enterT (binds := [("heaps", .ref l)]) (by k_is) (by k_is) (fun s X => BindsTo.of_eq rfl) (locs rfl) ?_
  intro dp un gd fr g L s PP hP' G F N l0 hdp hun hT
  obtain ⟨X, ⟨p, loose, mean, mg, mb, T⟩, codeHd, codeHd2⟩ := id G
  have hV : VMark := trivial
  refine wpAny_execs_cons ?_
  iterate 28 walk1
  rename_i A1 g1 q1 A2 g2 q2 A3 g3 q3 A4 g4 q4 B g5 q5 g6 Q g7 q7 g8 F3 N3 Q2 hq2 hr2
  obtain ⟨q71, -, -, -, -, q72⟩ := q7
  obtain ⟨-, -, -, -, q51⟩ := q5
  have N3 := cb_drop (news := [(Q, W.listOf #[] 0), (B, W.listOf #[Value.bool true, Value.bool true, Value.bool true, Value.bool true, Value.bool true, Value.bool false, Value.bool false, Value.bool false, Value.bool false] 0), (l, W.listOf vs.toArray n)]) N3 (by repeat' (first | exact List.forall_mem_nil _ | refine List.forall_mem_cons.mpr ⟨by k_mem, ?_⟩))
  have hlb : @Ne Nat l B := Nat.ne_of_lt q51
  have hbq : @Ne Nat B Q := Nat.ne_of_lt q71
  have hlq : @Ne Nat l Q := Nat.ne_of_lt q72
  clear q1 q2 q3 q4 q71 q72 q51
  dsimp only
  refine listFor rfl F3 N3 (.tail _ (.tail _ (.head _))) (fun r m news => ∃ (is' : List Int) (bs a : List Bool) (ws : List Str) (wv : List Value) (kb kw : Nat) (o : Option Value), IntsAre r is' ∧ a.length + r.length = 9 ∧ bs.length = r.length ∧ a.count true + bs.count true = 5 ∧ StrsAre wv ws ∧ OkWs a ws ∧
      m = (fun y : Str => if y = "heap" then o else if y = "words" then some (.ref Q) else if y = "bag" then some (.ref B) else if y = "heaps" then some (.ref l) else none) ∧
      news = [(Q, W.listOf wv.toArray kw), (B, W.listOf (bs.map Value.bool).toArray kb), (l, W.listOf vs.toArray n)]) ?_ ?_ ?_
  · refine ⟨is, [true, true, true, true, true, false, false, false, false], [], [], [], 0, 0, none, hi, ?_, ?_, by decide, .nil, .nil, funext fun y => ?_, rfl⟩
    · rw [ints_len hi, hl]; rfl
    · rw [ints_len hi, hl]; rfl
    · by_cases h1 : y = Str.ofString "heap"
      · subst h1; kernel_rfl
      · simp only [h1, if_false]
        by_cases h2 : y = Str.ofString "words"
        · simp only [h2, if_true]
        · simp only [h2, if_false]
          by_cases h3 : y = Str.ofString "bag"
          · simp only [h3, if_true]
          · simp only [h3, if_false]; exact look1 rfl
  · clear F3 N3 hq2 hr2
    intro I hI
    have n1 : @Ne Nat Q I := Nat.ne_of_lt (hI _ (.head _))
    have n2 : @Ne Nat B I := Nat.ne_of_lt (hI _ (.tail _ (.head _)))
    have n3 : @Ne Nat l I := Nat.ne_of_lt (hI _ (.tail _ (.tail _ (.head _))))
    clear hI
    rintro v r m news ⟨is', bs, a, ws, wv, kb, kw, o, his, hal, hbl, hct, hwv, hok, rfl, rfl⟩ it h tk F N Q3 hn3 hr3
    cases his with
    | cons e u his =>
    simp only [List.length_cons] at hal hbl
    iterate 16 walk1
    refine len_list (N.isList (.tail _ (.tail _ (.head _)))) (by simp; omega) ?_
    have hbs : (bs.map Value.bool).toArray.size = r.length + 1 := by simp [hbl]
    rw [hbs]
    have hm1 := Int.fmod_nonneg_of_pos e (b := ((r.length + 1 : Nat) : Int)) (by omega)
    have hm2 := Int.fmod_lt_of_pos e (b := ((r.length + 1 : Nat) : Int)) (by omega)
    iterate 2 walk1
    obtain ⟨k, hk⟩ : ∃ k : Nat, e.fmod ((r.length + 1 : Nat) : Int) = k := ⟨_, (Int.toNat_of_nonneg hm1).symm⟩
    rw [hk] at hm2 ⊢
    have hkb : k < bs.length := by omega
    obtain ⟨bp, b, bq, hbs2, hbk⟩ : ∃ bp b bq, bs = bp ++ b :: bq ∧ bp.length = k := ⟨bs.take k, bs[k], bs.drop (k + 1), by rw [← List.drop_eq_getElem_cons hkb, List.take_append_drop], by rw [List.length_take]; omega⟩
    subst hbs2
    simp only [List.length_append, List.length_cons] at hbl
    refine popBool (bp := bp) (bq := bq) (b := b) (D := B) (n := kb) F N (congrArg Int.ofNat hbk.symm) (by omega) (by k_upd) ?_
    intro h2 F2 N2
    have hct2 : a.count true + (if b then 1 else 0) + (bp ++ bq).count true = 5 := by
      rw [List.count_append, List.count_cons] at hct
      rw [List.count_append]
      cases b <;> simp at hct ⊢ <;> omega
    clear F N
    have hwl : wv.length ≤ 9 := by rw [hwv.length, hok.length]; omega
    have hal2 : a.length + 1 + r.length = 9 := by omega
    cases b with
    | true =>
      iterate 32 walk1
      rename_i tkz hkz kxi
      have hok2 := hok.snoc (wOpen e)
      dsimp only
      refine KXi.mul (n := 1) kxi (by decide) (mulLo e) (mulHi e) ?_
      clear kxi
      intro t9 k9 m1 m2
      have hml2 := mulLen m2
      clear m1 m2
      iterate 7 walk1
      rename_i F5 N5
      rw [List.push_toArray] at N5
      refine hn3 _ _ _ _ ⟨_, bp ++ bq, a ++ [true], _, _, _, _, some (.int e u), his, ?_, ?_, ?_, strsSnoc hwv, hok2, funext fun y => ?_, rfl⟩ F5 N5 ?_ ?_
      · simp only [List.length_append, List.length_cons, List.length_nil]; clear hml2; omega
      · simp only [List.length_append]; clear hml2; omega
      · rw [List.count_append]; exact hct2
      · by_cases h1 : y = Str.ofString "heap" <;> simp only [h1, if_true, if_false]
      · exact neAll n1 n2 n3
      · exact .tail _ (.tail _ (.head _))
    | false =>
      have hok2 := hok.snoc (wClose e)
      iterate 28 walk1
      rename_i F5 N5
      rw [List.push_toArray] at N5
      refine hn3 _ _ _ _ ⟨_, bp ++ bq, a ++ [false], _, _, _, _, some (.int e u), his, ?_, ?_, ?_, strsSnoc hwv, hok2, funext fun y => ?_, rfl⟩ F5 N5 ?_ ?_
      · simp only [List.length_append, List.length_cons, List.length_nil]; omega
      · simp only [List.length_append]; omega
      · rw [List.count_append]; exact hct2
      · by_cases h1 : y = Str.ofString "heap" <;> simp only [h1, if_true, if_false]
      · exact neAll n1 n2 n3
      · exact .tail _ (.tail _ (.head _))
  · rintro m news h tk ⟨is', bs, a, ws, wv, kb, kw, o, his, hal, hbl, hct, hwv, hok, rfl, rfl⟩ F N
    cases his
    cases bs with
    | cons _ _ => cases hbl
    | nil =>
    refine hq2 _ ?_
    iterate 3 walk1
    dsimp only
    have N9 := cb_drop (news := [(Q, W.listOf wv.toArray kw), (l, W.listOf vs.toArray n)]) N (by repeat' (first | exact List.forall_mem_nil _ | refine List.forall_mem_cons.mpr ⟨by k_mem, ?_⟩))
    exact hP' _ _ (Fin.intro F N9 ⟨Q, wv, kw, a, ws, rfl, hwv, hok, hal, by rw [List.count_nil] at hct; exact hct, fun e => hlq e.symm, rfl⟩)
end Mine

-- AMTokW
namespace Mine
noncomputable def tabQ : List (Nat × List Nat) := [(92, [92, 92]), (34, [92, 34])]
/-- a written word in the text -/
inductive Inn (x : List Nat) : List Nat → Prop
  | quo : Inn x (34 :: (subL tabQ x ++ [34]))
  | esc : Inn x (x.flatMap fun c => [92, c])
theorem quoR (R : List Nat) : ∀ (xs acc : List Nat), Quo acc (subL tabQ xs ++ (34 :: R)) (acc ++ xs) R
  | [], acc => by rw [List.append_nil]; exact .done
  | c :: xs, acc => by
    have ih := quoR R xs (acc ++ [c])
    rw [List.append_assoc] at ih
    have e : subL tabQ (c :: xs) = tabOf tabQ c ++ subL tabQ xs := rfl
    rw [e]
    by_cases h1 : c = 92
    · subst h1; exact .esc ih
    · by_cases h2 : c = 34
      · subst h2; exact .esc ih
      · have e2 : tabOf tabQ c = [c] := by
          unfold tabOf tabQ
          rw [List.lookup_cons, show (c == 92) = false from beq_eq_false_iff_ne.mpr h1]
          show Option.getD (List.lookup c [(34, [92, 34])]) [c] = [c]
          rw [List.lookup_cons, show (c == 34) = false from beq_eq_false_iff_ne.mpr h2]; rfl
        rw [e2]; exact .ch h2 h1 ih
theorem escR (R : List Nat) : ∀ (xs acc : List Nat) (b : Nat), isWs b = true → Unq acc ((xs.flatMap fun c => [92, c]) ++ (b :: R)) (acc ++ xs) R
  | [], acc, b, h => by rw [List.append_nil]; exact .ws h
  | c :: xs, acc, b, h => by
    have ih := escR R xs (acc ++ [c]) b h
    rw [List.append_assoc] at ih
    rw [List.flatMap_cons]
    exact .esc ih
theorem ws_of {b : Nat} (h : b ∈ [32, 9, 13, 10]) : isWs b = true := by
  simp only [List.mem_cons, List.not_mem_nil, or_false] at h
  rcases h with rfl | rfl | rfl | rfl <;> rfl
theorem tokZ : TokR [122] [122] [] := .unq rfl (by decide) (by decide) .eof
/-- the written words, one behind the other -/
inductive TxtOf : List (List Nat) → List Nat → Prop
  | nil : TxtOf [] []
  | cons {ws : List (List Nat)} {x i y : List Nat} {b : Nat} : Inn x i → b ∈ [32, 9, 13, 10] → TxtOf ws y → TxtOf (x :: ws) (i ++ (b :: y))
theorem TxtOf.snoc {ws : List (List Nat)} {y x i : List Nat} {b : Nat} (h : TxtOf ws y) (hi : Inn x i) (hb : b ∈ [32, 9, 13, 10]) : TxtOf (ws ++ [x]) (y ++ (i ++ [b])) := by
  induction h with
  | nil => exact .cons hi hb .nil
  | @cons ws x' i' y b' k1 k2 _ ih =>
    rw [List.append_assoc, List.cons_append]
    exact .cons k1 k2 ih
/-- what the lexer gives from a text -/
inductive Toks : List Nat → List (List Nat) → List Nat → Prop
  | nil {cs : List Nat} : Toks cs [] cs
  | cons {cs R R' x : List Nat} {ws : List (List Nat)} : TokR cs x R → Toks R ws R' → Toks cs (x :: ws) R'
theorem innTok {x i : List Nat} {b : Nat} {rest : List Nat} (hi : Inn x i) (hb : b ∈ [32, 9, 13, 10]) (hx : x ≠ []) : TokR (i ++ (b :: rest)) x (b :: rest) ∨ TokR (i ++ (b :: rest)) x rest := by
  cases hi with
  | quo =>
    refine .inl ?_
    rw [List.cons_append, List.append_assoc, List.cons_append, List.nil_append]
    exact .quo (quoR _ x [])
  | esc =>
    refine .inr ?_
    cases x with
    | nil => exact absurd rfl hx
    | cons c x =>
      rw [List.flatMap_cons, List.append_assoc, List.cons_append, List.cons_append, List.nil_append]
      exact .esc (escR rest x [c] b (ws_of hb))
theorem toksOf {ws : List (List Nat)} {y : List Nat} (h : TxtOf ws y) (hx : ∀ x ∈ ws, x ≠ []) : Toks (y ++ [122]) (ws ++ [[122], []]) [] ∧ ∀ b ∈ [32, 9, 13, 10], Toks (b :: (y ++ [122])) (ws ++ [[122], []]) [] := by
  induction h with
  | nil => exact ⟨.cons tokZ (.cons .eof .nil), fun b hb => .cons (.ws (ws_of hb) tokZ) (.cons .eof .nil)⟩
  | @cons ws x i y b hi hb _ ih =>
    obtain ⟨i1, i2⟩ := ih fun a ha => hx a (.tail _ ha)
    rw [List.append_assoc, List.cons_append, List.cons_append]
    rcases innTok (rest := y ++ [122]) hi hb (hx x (.head _)) with k | k
    · exact ⟨.cons k (i2 b hb), fun c hc => .cons (.ws (ws_of hc) k) (i2 b hb)⟩
    · exact ⟨.cons k i1, fun c hc => .cons (.ws (ws_of hc) k) i1⟩
theorem inn_len {x i : List Nat} (h : Inn x i) : i.length ≤ 2 + 6 * x.length := by
  cases h with
  | quo =>
    have := subL_len tabQ (by decide) x
    simp only [List.length_cons, List.length_append, List.length_nil]
    omega
  | esc =>
    have : ∀ x : List Nat, (x.flatMap fun c => [92, c]).length ≤ 6 * x.length := by
      intro x
      induction x with
      | nil => exact Nat.le_refl 0
      | cons c x ih => rw [List.flatMap_cons, List.length_append]; simp only [List.length_cons, List.length_nil]; omega
    have := this x
    omega
theorem txt_len {ws : List (List Nat)} {y : List Nat} (h : TxtOf ws y) (hl : ∀ x ∈ ws, x.length ≤ 3) : y.length ≤ 21 * ws.length := by
  induction h with
  | nil => exact Nat.le_refl 0
  | @cons ws x i y b hi hb _ ih =>
    have h1 := ih fun a ha => hl a (.tail _ ha)
    have h2 := inn_len hi
    have h3 := hl x (.head _)
    simp only [List.length_append, List.length_cons]
    omega
theorem quo_len {acc r t R : List Nat} (h : Quo acc r t R) : R.length ≤ r.length := by
  induction h with
  | done => simp
  | esc _ ih => simp only [List.length_cons]; omega
  | ch _ _ _ ih => simp only [List.length_cons]; omega
theorem unq_len {acc r t R : List Nat} (h : Unq acc r t R) : R.length ≤ r.length := by
  induction h with
  | eof => exact Nat.le_refl 0
  | ws _ => simp
  | esc _ ih => simp only [List.length_cons]; omega
  | ch _ _ _ ih => simp only [List.length_cons]; omega
theorem tok_len {r t R : List Nat} (h : TokR r t R) : R.length ≤ r.length := by
  induction h with
  | eof => exact Nat.le_refl 0
  | ws _ _ ih => simp only [List.length_cons]; omega
  | quo q => have := quo_len q; simp only [List.length_cons]; omega
  | esc q => have := unq_len q; simp only [List.length_cons]; omega
  | unq _ _ _ q => have := unq_len q; simp only [List.length_cons]; omega
end Mine

-- AT22b
namespace Mine
theorem wd_typeQ : typeOf (.builtin "list.__len__") = pure (.type "wrapper_descriptor") := by kernel_rfl
theorem wd_instQ : isInstance (.builtin "list.__len__") (.type "wrapper_descriptor") = pure true := by unfold isInstance; rw [wd_typeQ]; show isSubtype _ _ = _; rw [isSubtype_type]; kernel_rfl
section
variable {prog : Program} {w : World} {A : Around} {E : Value → Shared → Prop} {s : Shared} {h₀ : Heap} {L x dx C D so : Addr} {m : Str → Option Value} {news : Cells} {K : Frag} {its : List Value} {n : Nat}
theorem wd_checkQ {M : Model} {a b : Value} {Q : Unit → Shared → Prop} (h : Q () s) : wpAny M A (checkBuiltinCall "wrapper_descriptor.__get__" ⟨[.builtin "list.__len__", a, b], []⟩) Q E s := by
  have hi : Looks M s.heap (isInstance (.builtin "list.__len__") (.type "wrapper_descriptor")) true := Looks.of_pure wd_instQ
  have ha := wd_args (.builtin "list.__len__") a b
  exact @check_slot M A E s "wrapper_descriptor.__get__" "wrapper_descriptor" "__get__" (.builtin "list.__len__") [a, b] [] Q wd_kind wd_split hi ha h
noncomputable abbrev mwObjQ (x : Addr) : Obj := { cls := .type "method-wrapper", data := .fields #[.builtin "list.__len__", .ref x] }
theorem wd_getQ {M : Model} {Q : PySem.Fin → Shared → Prop} (hi : Looks M s.heap (isInstance (.ref x) (.type "list")) true) (h : Q (.done (.ret (.ref s.heap.objs.size))) { s with heap := s.heap.push (mwObjQ x) }) :
    wpAny M A (Builtin.«wrapper_descriptor.__get__» ⟨[.builtin "list.__len__", .ref x, .ref C], []⟩) Q E s := by
  obtain ⟨hh, g, d, t, os⟩ := s
  unfold Builtin.«wrapper_descriptor.__get__»
  have e0 : ".".intercalate ("list.__len__".cutAt '.').dropLast = "list" := by decide +kernel
  repeat (first | (rw [e0]; with_reducible refine Looks.at hi ?_) | wp_step | dsimp only)
  all_goals exact h
theorem superGetQ {pl : Sem Bool} {Q : Value × List Value → Shared → Prop} (FF : Fr h₀ L s.heap m) (X₀ : K.In h₀) (N : News h₀ L s.heap news) (hso : (so, ks_superObj D x C) ∈ news) (hx : (x, accObj C dx its n) ∈ news) (ho : nsIn K cStatics "thirdparty.any" = some none)
    (hm : ks_superIn K C D "__len__" = some (some (.builtin "list.__len__"))) (hs : subIn K (.ref C) (.type "list") = some true) (hxC : x ≠ C)
    (h : ∀ q h', Fr h₀ L h' m → News h₀ L h' ((q, mwObjQ x) :: news) → (∀ p ∈ news, p.1 < q) → Q (.ref q, []) { s with heap := h', toks := s.toks + 1 }) : wpAny (model prog w) A (getMethod (.ref so) "__len__" pl) Q E s :=
  superGetG rfl (by decide +kernel) wd_typeQ wd_slot wd_entry (fun _ _ _ _ h => wd_checkQ h) (fun _ _ _ _ hi h => wd_getQ hi h) FF X₀ N hso hx ho hm hs hxC h
end
theorem wd_slotP : Slot "method_descriptor" "__get__" "method_descriptor.__get__" := .of (owner := "method_descriptor") (n := "__get__") (by rw [typeLookup_type, builtinLookup_eq_fast]; kernel_rfl) (by decide +kernel) (by decide +kernel) (by decide +kernel)
  (by first | exact .inl (by decide +kernel) | exact .inr (by decide +kernel)) (by rw [isSubtype_type]; kernel_rfl)
theorem wd_entryP : entryFor table "method_descriptor.__get__" = some Builtin.«method_descriptor.__get__» := entryFor_of_tree (by kernel_rfl)
theorem wd_argsP (a b c : Value) : argsOk "method_descriptor.__get__" ⟨[a, b, c], []⟩ := by unfold argsOk; kernel_rfl
theorem wd_typeP : typeOf (.builtin "list.pop") = pure (.type "method_descriptor") := by kernel_rfl
theorem wd_instP : isInstance (.builtin "list.pop") (.type "method_descriptor") = pure true := by unfold isInstance; rw [wd_typeP]; show isSubtype _ _ = _; rw [isSubtype_type]; kernel_rfl
section
variable {prog : Program} {w : World} {A : Around} {E : Value → Shared → Prop} {s : Shared} {h₀ : Heap} {L x dx C D so : Addr} {m : Str → Option Value} {news : Cells} {K : Frag} {its : List Value} {n : Nat}
theorem wd_kindP : builtinKind "method_descriptor.__get__" = some .slot := by decide +kernel
theorem wd_splitP : splitId "method_descriptor.__get__" = some ("method_descriptor", "__get__") := by decide +kernel
theorem wd_checkP {M : Model} {a b : Value} {Q : Unit → Shared → Prop} (h : Q () s) : wpAny M A (checkBuiltinCall "method_descriptor.__get__" ⟨[.builtin "list.pop", a, b], []⟩) Q E s := by
  have hi : Looks M s.heap (isInstance (.builtin "list.pop") (.type "method_descriptor")) true := Looks.of_pure wd_instP
  have ha := wd_argsP (.builtin "list.pop") a b
  exact @check_slot M A E s "method_descriptor.__get__" "method_descriptor" "__get__" (.builtin "list.pop") [a, b] [] Q wd_kindP wd_splitP hi ha h
noncomputable abbrev mwObjP (x : Addr) : Obj := { cls := .type "builtin_function_or_method", data := .fields #[.builtin "list.pop", .ref x] }
theorem wd_getP {M : Model} {Q : PySem.Fin → Shared → Prop} (hi : Looks M s.heap (isInstance (.ref x) (.type "list")) true) (h : Q (.done (.ret (.ref s.heap.objs.size))) { s with heap := s.heap.push (mwObjP x) }) :
    wpAny M A (Builtin.«method_descriptor.__get__» ⟨[.builtin "list.pop", .ref x, .ref C], []⟩) Q E s := by
  obtain ⟨hh, g, d, t, os⟩ := s
  unfold Builtin.«method_descriptor.__get__»
  have e0 : ".".intercalate ("list.pop".cutAt '.').dropLast = "list" := by decide +kernel
  repeat (first | (rw [e0]; with_reducible refine Looks.at hi ?_) | wp_step | dsimp only)
  all_goals exact h
theorem superGetP {pl : Sem Bool} {Q : Value × List Value → Shared → Prop} (FF : Fr h₀ L s.heap m) (X₀ : K.In h₀) (N : News h₀ L s.heap news) (hso : (so, ks_superObj D x C) ∈ news) (hx : (x, accObj C dx its n) ∈ news) (ho : nsIn K cStatics "thirdparty.any" = some none)
    (hm : ks_superIn K C D "pop" = some (some (.builtin "list.pop"))) (hs : subIn K (.ref C) (.type "list") = some true) (hxC : x ≠ C)
    (h : ∀ q h', Fr h₀ L h' m → News h₀ L h' ((q, mwObjP x) :: news) → (∀ p ∈ news, p.1 < q) → Q (.ref q, []) { s with heap := h', toks := s.toks + 1 }) : wpAny (model prog w) A (getMethod (.ref so) "pop" pl) Q E s :=
  superGetG rfl (by decide +kernel) wd_typeP wd_slotP wd_entryP (fun _ _ _ _ h => wd_checkP h) (fun _ _ _ _ hi h => wd_getP hi h) FF X₀ N hso hx ho hm hs hxC h
end
end Mine

-- AMTxt
namespace Mine
theorem wsItem (x : Int) : ∃ c, Txt.item (Str.ofString " \t\r\n") (x.fmod 4) = ⟨#[c]⟩ ∧ c ∈ [32, 9, 13, 10] := by
  have b1 := Int.fmod_nonneg_of_pos x (b := 4) (by omega)
  have b2 := Int.fmod_lt_of_pos x (b := 4) (by omega)
  generalize x.fmod 4 = y at b1 b2
  have : y = 0 ∨ y = 1 ∨ y = 2 ∨ y = 3 := by omega
  rcases this with rfl | rfl | rfl | rfl
  · exact ⟨32, by decide +kernel, by decide⟩
  · exact ⟨9, by decide +kernel, by decide⟩
  · exact ⟨13, by decide +kernel, by decide⟩
  · exact ⟨10, by decide +kernel, by decide⟩
theorem esc_len : ∀ l : List Nat, (l.flatMap fun c => [92, c]).length = 2 * l.length
  | [] => rfl
  | c :: l => by
    have := esc_len l
    simp only [List.flatMap_cons, List.length_append, List.length_cons, List.length_nil, this]; omega
theorem esc_join : ∀ l : List Str, (∀ a ∈ l, a.length = 1) → (Str.join Str.empty (l.map fun a => (⟨#[92]⟩ : Str) ++ a)).cps.toList = (l.flatMap fun a => a.cps.toList).flatMap fun c => [92, c]
  | [], _ => rfl
  | [a], h => by
    obtain ⟨c, hc⟩ : ∃ c, a.cps.toList = [c] := List.length_eq_one_iff.mp (by rw [Array.length_toList]; exact h a (.head _))
    show ((⟨#[92]⟩ : Str) ++ a).cps.toList = _
    rw [Str.cps_append, Array.toList_append, hc]
    simp [hc]
  | a :: b :: l, h => by
    have ih := esc_join (b :: l) (fun x hx => h x (.tail _ hx))
    obtain ⟨c, hc⟩ : ∃ c, a.cps.toList = [c] := List.length_eq_one_iff.mp (by rw [Array.length_toList]; exact h a (.head _))
    have e : Str.join Str.empty ((a :: b :: l).map fun a => (⟨#[92]⟩ : Str) ++ a) = ((⟨#[92]⟩ : Str) ++ a) ++ Str.empty ++ Str.join Str.empty ((b :: l).map fun a => (⟨#[92]⟩ : Str) ++ a) := rfl
    rw [e, Str.cps_append, Str.cps_append, Str.cps_append, Array.toList_append, Array.toList_append, Array.toList_append, ih, hc, List.flatMap_cons (xs := b :: l), hc]
    rfl
theorem flat_signs : ∀ l : List Nat, ((l.map fun n => (⟨#[n]⟩ : Str)).flatMap fun a => a.cps.toList) = l
  | [] => rfl
  | c :: l => by
    rw [List.map_cons, List.flatMap_cons, flat_signs l]; rfl
theorem esc_signs (x : Str) : (Txt.join Str.empty ((signs x).map fun a => (⟨#[92]⟩ : Str) ++ a)).cps.toList = x.cps.toList.flatMap fun c => [92, c] := by
  have e : Txt.join Str.empty ((signs x).map fun a => (⟨#[92]⟩ : Str) ++ a) = Str.join Str.empty ((signs x).map fun a => (⟨#[92]⟩ : Str) ++ a) := StrLaws.glued_eq_join ..
  rw [e, esc_join _ fun a ha => ?_]
  · unfold signs
    rw [flat_signs]
  · unfold signs at ha
    obtain ⟨n, _, rfl⟩ := List.mem_map.mp ha
    rfl
theorem esc_sum (x : Str) : ∀ l : List Str, (∀ a ∈ l, a.length = 1) → ((l.map fun a => (⟨#[92]⟩ : Str) ++ a).map (·.length)).sum = 2 * l.length
  | [], _ => rfl
  | a :: l, h => by
    have ih := esc_sum x l fun b hb => h b (.tail _ hb)
    have ha := h a (.head _)
    simp only [List.map_cons, List.sum_cons, List.length_cons, ih, Str.length_append, ha]
    show 1 + 1 + _ = _
    omega
section
variable {prog : Program} {w : World} {A : Around} {E : Value → Shared → Prop} {s₁ : Shared} {h₀ : Heap} {L : Addr} {m : Str → Option Value} {news : Cells} {env : Env} {elt : PySem.Expr} {z : Str} {scope : Scope} {Q : Value → Shared → Prop} {y : Str} {t : Tok} {d : Str → PyData}
/-- a list made of a text's signs: the item is known to be one sign -/
theorem compSigns (hh : A.handled = none) (F : Fr h₀ L s₁.heap m) (N : News h₀ L s₁.heap news)
    (g : ∀ C (c : Nat) u s₂ m₂ E', s₂.heap.Ns (compEnv scope C env).locals m₂ → m₂ z = some (.str ⟨#[c]⟩ u) → wpAny (model prog w) A (eval elt (compEnv scope C env)) (fun r s₃ => Carried r (d ⟨#[c]⟩) ∧ Keeps s₂ s₃) E' s₂)
    (e : ∀ D (ys : List Value) h' tk, Fr h₀ L h' m → News h₀ L h' news → h'.IsList D ys.toArray → CarriedAll ys ((signs y).map d) → Q (.ref D) { s₁ with heap := h', toks := tk }) (hsz : y.length ≤ sizeLine) :
    wpAny (model prog w) A (pyIter (.str y t)) (CompPost prog w A env scope z [] elt Q) E s₁ := by
  unfold CompPost
  refine wpAny_pyIter_str fun o St W hst => ?_
  have up : ∀ (h' : Heap), (∀ b o', b ∉ [s₁.heap.objs.size] → (s₁.heap.push o).get? b = some o' → h'.get? b = some o') → ∀ b o', s₁.heap.get? b = some o' → h'.get? b = some o' :=
    fun h' hk b o' e => hk b o' (old_not_new e) (Heap.get?_push_of_some _ e)
  refine ⟨ItemKind.str.lift fun _ => true, fun v r => ∃ a, ItemKind.str.is a v ∧ Carried r (d a), s₁.heap.objs.size, [s₁.heap.objs.size], [s₁.heap.objs.size], y.cps.size, SignAt y, St, rfl, W A hh, hsz, hst, fun b hb => ?_, ⟨?_, ?_⟩, ?_⟩
  · show b < (s₁.heap.push o).objs.size
    rw [Heap.size_push, List.mem_singleton.mp hb]
    exact Nat.lt_succ_self _
  · rintro C i v s₃ m₃ E' ⟨c, u, _, rfl⟩ hn hm _ htk
    have ha : ItemKind.str.is ⟨#[c]⟩ (.str ⟨#[c]⟩ u) := ⟨u, rfl⟩
    rw [ItemKind.lift_is ha]
    exact wpAny_pure ⟨rfl, _, _, rfl, fun _ _ e => e⟩
  · rintro C i v s₃ m₃ E' ⟨c, u, _, rfl⟩ _ hn hm _ htk
    exact wpAny_mono (g C c u s₃ m₃ E' hn hm) (fun r s₄ h₄ => ⟨⟨_, ⟨u, rfl⟩, h₄.1⟩, h₄.2⟩) fun _ _ e => e
  · intro D h' tk ys vs hnew hlD hplD hlen hP hF hk
    have hc := (areOf_signs hlen hP).paired (fun _ => true) d _ hF
    rw [List.filter_eq_self.mpr fun _ _ => rfl] at hc
    exact e D ys.toList h' tk (F.keeps (up h' hk)) (N.grown (up h' hk)) (by rw [Array.toArray_toList]; exact hlD) hc
end
end Mine

-- AW2
namespace Mine
theorem look1h {a b y : Str} {v v' u : Value} (e : v = v') (h : ¬ y = b) : List.lookup y [(b, u), (a, v)] = if y = a then some v' else none := by
  rw [List.lookup_cons, show (y == b) = false from beq_eq_false_iff_ne.mpr h]; exact look1 e
theorem quoText (x : Str) (h : x.length ≤ 3) : (Txt.replace x (Str.ofString "\\") (Str.ofString "\\\\")).length ≤ 1048576 ∧
    (Txt.replace (Txt.replace x (Str.ofString "\\") (Str.ofString "\\\\")) (Str.ofString "\"") (Str.ofString "\\\"")).cps.toList = subL tabQ x.cps.toList ∧
    (Txt.replace (Txt.replace x (Str.ofString "\\") (Str.ofString "\\\\")) (Str.ofString "\"") (Str.ofString "\\\"")).length ≤ 18 := by
  have h0 : x.cps.toList = subL [] x.cps.toList := by
    unfold subL tabOf
    show _ = x.cps.toList.flatMap fun a => [a]
    simp
  have h1 := replStep (cS := Str.ofString "\\") (zS := Str.ofString "\\\\") (c := 92) (z := [92, 92]) h0 (by decide +kernel) (by decide +kernel) (by decide)
  have h2 := replStep (cS := Str.ofString "\"") (zS := Str.ofString "\\\"") (c := 34) (z := [92, 34]) h1 (by decide +kernel) (by decide +kernel) (by decide)
  have l1 := subL_len ([] ++ [(92, [92, 92])]) (by decide) x.cps.toList
  have l2 := subL_len (([] ++ [(92, [92, 92])]) ++ [(34, [92, 34])]) (by decide) x.cps.toList
  have hx : x.cps.toList.length ≤ 3 := by rw [Array.length_toList]; exact h
  rw [← h1, Array.length_toList] at l1
  rw [← h2, Array.length_toList] at l2
  refine ⟨?_, h2, ?_⟩
  · show Array.size _ ≤ _; omega
  · show Array.size _ ≤ _; omega
theorem wordAt {ws : List Str} {i : Nat} (hl : ws.length = 9) (hi : i < 9) (h3 : ∀ x ∈ ws, x.length ≤ 3) : (ws.getD (0 + (i : Int)).toNat Str.empty).length ≤ 3 ∧ ws.take (i + 1) = ws.take i ++ [ws.getD (0 + (i : Int)).toNat Str.empty] := by
  have e : (0 + (i : Int)).toNat = i := by omega
  rw [e]
  have hi' : i < ws.length := by omega
  have e2 : ws.getD i Str.empty = ws[i] := by rw [List.getD_eq_getElem?_getD, List.getElem?_eq_getElem hi']; rfl
  rw [e2]
  exact ⟨h3 _ (List.getElem_mem hi'), by rw [List.take_succ, List.getElem?_eq_getElem hi']; rfl⟩
theorem shadow3 (x k y : Str) (V K o T r : Option Value) : (if y = x then V else if y = k then K else (if y = k then o else if y = x then T else r)) = (if y = x then V else if y = k then K else r) := by
  by_cases h : y = x <;> by_cases h2 : y = k <;> simp [h, h2]
theorem shadow4 (x k y : Str) (V U K r : Option Value) (hne : x ≠ k) : (if y = x then V else if y = x then U else if y = k then K else r) = (if y = k then K else if y = x then V else r) := by
  by_cases h : y = x
  · subst h; simp [hne]
  · by_cases h2 : y = k
    · subst h2; simp [h]
    · simp [h, h2]
theorem neTK : Str.ofString "text" ≠ Str.ofString "k" := by decide +kernel
theorem textW {prog : Program} {w : World} (wl hl : Addr) (wv hv : List Value) (k n : Nat) (ws : List Str) (is : List Int) (hw : StrsAre wv ws) (hi : IntsAre hv is) (hwl : ws.length = 9) (hil : is.length = 9) (h3 : ∀ x ∈ ws, x.length ≤ 3) (hne : @Ne Nat wl hl) :
   Does (KH w.params) prog w 2 208 [.ref wl, .ref hl] [(wl, W.listOf wv.toArray k), (hl, W.listOf hv.toArray n)] (fun r own => ∃ (tx : Str) (t : Tok), r = .str tx t ∧ TxtOf (ws.map (·.cps.toList)) tx.cps.toList ∧ own = [(wl, W.listOf wv.toArray k), (hl, W.listOf hv.toArray n)]) := by
  refine enterT (binds := [("words", .ref wl), ("heaps", .ref hl)]) (by k_is) (by k_is) (fun s X => BindsTo.of_eq rfl) (locs rfl) ?_
  intro dp un gd fr g L s PP hP' G F N l0 hdp hun hT
  obtain ⟨X, ⟨p, loose, mean, mg, mb, T⟩, codeHd, codeHd2⟩ := id G
  have hV : VMark := trivial
  refine wpAny_execs_cons ?_
  iterate 11 walk1
  rename_i Q2 hq2 hr2 h3a tk3 t1 u1 v1 hR F3 N3 hk3
  refine rangeFor rfl F3 N3 hR (by decide) (n := 9) (by decide) (fun i m news => ∃ (o : Option Value) (tx : Str) (t : Tok), m = (fun y : Str => if y = "k" then o else if y = "text" then some (.str tx t) else if y = "heaps" then some (.ref hl) else if y = "words" then some (.ref wl) else none) ∧
      TxtOf ((ws.take i).map (·.cps.toList)) tx.cps.toList ∧ news = [(wl, W.listOf wv.toArray k), (hl, W.listOf hv.toArray n)]) ?_ ?_ ?_
  · refine ⟨none, Str.ofString "", s.toks, funext fun y => ?_, .nil, rfl⟩
    have d1 : (Str.ofString "text" = Str.ofString "k") = False := by simp; decide
    by_cases h1 : y = Str.ofString "text"
    · subst h1; simp only [d1, if_true, if_false]
    · by_cases h2 : y = Str.ofString "k"
      · subst h2; kernel_rfl
      · simp only [h1, h2, if_false]
        by_cases h4 : y = Str.ofString "heaps"
        · subst h4; kernel_rfl
        · simp only [h4, if_false]; exact look1h rfl h4
  · intro I hI i t m news hi9
    rintro ⟨o, tx, tt, rfl, htx, rfl⟩ it h4 tk4 F4 N4 Q3 hq3 hr3
    have n1 : @Ne Nat wl I := Nat.ne_of_lt (hI _ (.head _))
    have n2 : @Ne Nat hl I := Nat.ne_of_lt (hI _ (.tail _ (.head _)))
    obtain ⟨hx3, htk⟩ := wordAt hwl hi9 h3
    obtain ⟨q1, q2, q3⟩ := quoText _ hx3
    have htl : tx.length ≤ 200 := by
      have := txt_len htx (by
        intro y hy
        obtain ⟨z, hz, rfl⟩ := List.mem_map.mp hy
        rw [Array.length_toList]; exact h3 z (List.mem_of_mem_take hz))
      rw [Array.length_toList, List.length_map, List.length_take] at this
      show tx.cps.size ≤ _
      omega
    clear h3
    have hx0 : (ws.getD (0 + (i : Int)).toNat Str.empty).length ≤ 1048576 := by omega
    refine wpAny_execs_cons ?_
    refine cutNext (fun s' => ∃ z t' h' k', s' = { s with heap := h', toks := k' } ∧ Inn (ws.getD (0 + (i : Int)).toNat Str.empty).cps.toList z.cps.toList ∧ z.length ≤ 20 ∧ Fr g L h' (fun y : Str => if y = "text" then some (.str (tx ++ z) t') else if y = "k" then some (.int (0 + (i : Int)) t) else if y = "heaps" then some (.ref hl) else if y = "words" then some (.ref wl) else none) ∧ News g L h' [(I, it), (wl, W.listOf wv.toArray k), (hl, W.listOf hv.toArray n)]) ?_ ?_
    · intro Q' hQ
      iterate 52 walk1
      · dsimp only
        refine hQ _ ⟨Str.ofString "\"" ++ Txt.replace (Txt.replace (ws.getD (0 + (i : Int)).toNat Str.empty) (Str.ofString "\\") (Str.ofString "\\\\")) (Str.ofString "\"") (Str.ofString "\\\"") ++ Str.ofString "\"", ?t1, _, _, rfl, ?_, ?_, frOf (by assumption) (fun y => ?_), by assumption⟩
        rotate_left 3
        · exact shadow3 _ _ _ _ _ _ _ _
        · rw [Str.cps_append, Str.cps_append, Array.toList_append, Array.toList_append, q2]
          exact .quo
        · rw [Str.length_append, Str.length_append]
          show 1 + _ + 1 ≤ _
          clear q1
          omega
      · clear q1 q2 q3
        iterate 14 walk1
        refine compSigns (d := fun a => PyData.str ((⟨#[92]⟩ : Str) ++ a)) (by rfl) (by k_asm) (by k_asm) ?_ ?_ (by rw [sizeLine_eq]; show Str.length _ ≤ _; omega)
        · intro C c u1 s₂ m₂ E' hn hm
          iterate 5 walk1
          · exact Carried.str _ _
          · exact ⟨_, _, rfl, fun _ _ e => e⟩
        · intro D ys h' tk F' N' hl2 hc
          have hs := CarriedAll.strsOf (f := fun a => (⟨#[92]⟩ : Str) ++ a) hc
          have h1 : ∀ a ∈ signs (ws.getD (0 + (i : Int)).toNat Str.empty), a.length = 1 := fun a ha => by
            unfold signs at ha
            obtain ⟨n, _, rfl⟩ := List.mem_map.mp ha
            rfl
          have h2 := esc_sum (ws.getD (0 + (i : Int)).toNat Str.empty) _ h1
          have h3 := signs_length (ws.getD (0 + (i : Int)).toNat Str.empty)
          have h4 := esc_signs (ws.getD (0 + (i : Int)).toNat Str.empty)
          clear hc
          iterate 1 walk1
          refine join_listW (ys := (signs (ws.getD (0 + (i : Int)).toNat Str.empty)).map fun a => (⟨#[92]⟩ : Str) ++ a) (by exact hl2) (by simpa using hs) (by decide) (by rw [h2, List.length_map, h3]; omega) fun t' k => ?_
          change (Txt.join (Str.ofString "") ((signs (ws.getD (0 + (i : Int)).toNat Str.empty)).map fun a => (⟨#[92]⟩ : Str) ++ a)).cps.toList = _ at h4
          generalize Txt.join (Str.ofString "") ((signs (ws.getD (0 + (i : Int)).toNat Str.empty)).map fun a => (⟨#[92]⟩ : Str) ++ a) = J at h4 ⊢
          have hJ : J.length ≤ 6 := by
            show J.cps.size ≤ _
            rw [← Array.length_toList, h4, esc_len, Array.length_toList]
            show 2 * Str.length _ ≤ _
            omega
          iterate 4 walk1
          dsimp only
          refine hQ _ ⟨J, ?t2, _, _, rfl, ?_, ?_, frOf (by assumption) (fun y => ?_), by assumption⟩
          rotate_left 3
          · exact shadow3 _ _ _ _ _ _ _ _
          · rw [h4]; exact .esc
          · omega
    · rintro _ ⟨z, t', h', k', rfl, hI2, hz, F', N'⟩
      clear F4 N4 q1 q2 q3
      iterate 19 walk1
      rename_i F5 N5
      obtain ⟨b, e1, m1⟩ := wsItem ((is.getD (0 + (i : Int)).toNat 0).fdiv 4)
      refine hq3 _ _ _ _ ⟨some (.int (0 + (i : Int)) t), tx ++ z ++ Txt.item (Str.ofString " \t\r\n") (((is.getD (0 + (i : Int)).toNat 0).fdiv 4).fmod 4), ?t3, rfl, ?_, rfl⟩ (frOf F5 fun y => ?_) N5 ?_
      rotate_left 2
      · exact shadow4 _ _ _ _ _ _ _ neTK
      rotate_left 1
      · rw [e1, htk, List.map_append, Str.cps_append, Str.cps_append, Array.toList_append, Array.toList_append, List.append_assoc]
        exact htx.snoc hI2 m1
      · exact List.forall_mem_cons.mpr ⟨n1, List.forall_mem_cons.mpr ⟨n2, List.forall_mem_nil _⟩⟩
  · rintro m news h5 tk5 ⟨o, tx, tt, rfl, htx, rfl⟩ F5 N5
    refine hq2 _ ?_
    iterate 3 walk1
    dsimp only
    rw [List.take_of_length_le (Nat.le_of_eq hwl)] at htx
    exact hP' _ _ (Fin.intro F5 N5 ⟨tx, tt, rfl, htx, rfl⟩)
end Mine

-- AT28
namespace Mine
noncomputable def TabOwn (own : Cells) : Prop := own = [(210, tabObj #[])] ∨ ∃ (c1 c2 : Addr) (oc1 oc2 : Obj), CodeOf oc2 "_law_lexer.<locals>.<lambda>" ∧ c1 ≠ c2 ∧ c1 ≠ 210 ∧ c2 ≠ 210 ∧ own = [(210, tab2 c1 c2), (c1, oc1), (c2, oc2)]
theorem lexNew {prog : Program} {w : World} {own : Cells} (h : TabOwn own) (tx : Str) (tt : Tok) (hsz : tx.cps.size ≤ sizeLine) :
    Does (KH w.params) prog w 4 215 [.str tx tt] own (fun r own' => ∃ (x c1 c2 : Addr) (oc1 oc2 : Obj) (o1 : Cells), r = .ref x ∧ LexS prog w x c2 oc2 (1 + nl tx.cps.toList) o1 [] tx.cps.toList ∧ CodeOf oc2 "_law_lexer.<locals>.<lambda>" ∧ c1 ≠ 210 ∧ (∀ p ∈ o1, p.1 ≠ c1 ∧ p.1 ≠ 210) ∧ own' = o1 ++ [(c1, oc1), (210, tab2 c1 c2)]) := by
  rcases h with rfl | ⟨c1, c2, oc1, oc2, hc, n1, n2, n3, rfl⟩
  · refine (lawLexer tx tt hsz).post ?_
    rintro v o ⟨l, c1, oc1, tl, ys, ks, hl, rfl, hy, hcd, a1, a2, n1, rfl⟩
    refine ⟨l.x, c1, l.c2, oc1, l.oc2, l.cells w 1 tl [] 0 ys ks, rfl, ⟨l, [], 0, ys, ks, tl, hl, rfl, rfl, rfl, .nil, hy, ?_⟩, hcd, n1.symm, fun p hp => ?_, rfl⟩
    · rw [show 1 + nl tx.cps.toList - nl tx.cps.toList = 1 by omega]
    · have hm : p.1 ∈ l.adr := LX.cells_adr p hp
      exact ⟨fun e => AllNe.of a2 _ hm e.symm, fun e => AllNe.of a1 _ hm e.symm⟩
  · refine (lawLexer2 tx tt hsz c1 c2 oc1 oc2 hc n1 n2 n3).post ?_
    rintro v o ⟨l, tl, ys, ks, hl, rfl, hy, rfl, rfl, a1, a2, rfl⟩
    refine ⟨l.x, c1, l.c2, oc1, l.oc2, l.cells w 1 tl [] 0 ys ks, rfl, ⟨l, [], 0, ys, ks, tl, hl, rfl, rfl, rfl, .nil, hy, ?_⟩, hc, n2, fun p hp => ?_, rfl⟩
    · rw [show 1 + nl tx.cps.toList - nl tx.cps.toList = 1 by omega]
    · have hm : p.1 ∈ l.adr := LX.cells_adr p hp
      exact ⟨fun e => AllNe.of a2 _ hm e.symm, fun e => AllNe.of a1 _ hm e.symm⟩
theorem LexS.code {prog : Program} {w : World} {x c2 : Addr} {oc2 : Obj} {tot : Int} {own : Cells} {pb : List Str} {cs : List Nat} (h : LexS prog w x c2 oc2 tot own pb cs) : (c2, oc2) ∈ own := by
  obtain ⟨l, vs, kp, sg, ks, tl, hl, rfl, rfl, rfl, hv, hs, rfl⟩ := h
  dsimp only [LX.cells]
  k_mem
/-- the making of an accumulator -/
theorem accNew {prog : Program} {w : World} (hpf : ((prog.main.file : Str) == ("/claim/cut.py" : Str)) = true) (hps : (prog.main.scope.names.lookup ("super" : Str)).isSome = false) {E : Value → Shared → Prop} {s : Shared} {h₀ : Heap} {L : Addr} {m : Str → Option Value} {news : Cells} {Q : Value → Shared → Prop} {dp un : Nat} {gd : Option (List Code)} {fr : List Env}
    (F : Fr h₀ L s.heap m) (N : News h₀ L s.heap news) (G : Gd (KH w.params) h₀) (hdp : dp + 5 < recursionLimit) (hun : un + 81 < cLine)
    (h : ∀ x dx h' tk t u, Fr h₀ L h' m → News h₀ L h' ((x, accObj 143 dx [] 0) :: (dx, dictOf [⟨PyData.keyHash w.params "_initial_size", .str "_initial_size" t, .int 0 u⟩] 1) :: news) → x ≠ 143 → (∀ p ∈ news, p.1 < dx) → dx < x → Q (.ref x) { s with heap := h', toks := tk }) :
    wpAny (model prog w) (arT dp un gd fr) (call (.ref 143) []) Q E s := by
  refine call_clsL F G.X N (fun h X => makesL_of X (by k_is) (by rfl) (by rfl) (by rfl) (by rfl) (by rfl) (by rfl) (by k_is) (by k_is)) (fI := 80) (by k_is) (by k_is) fun x dx h' F' N' lo hlt => ?_
  have nx : ∀ p ∈ news, p.1 ≠ x ∧ p.1 ≠ dx := fun p hp => ⟨Nat.ne_of_lt (Nat.lt_trans (lo p hp) hlt), Nat.ne_of_lt (lo p hp)⟩
  have hxC : x ≠ 143 := fun e => by
    have := (N' _ (.head _)).2.2
    have k := G.X 143 _ (show (KH w.params).lookup 143 = some _ by k_is)
    rw [e, k] at this; cases this
  show codeAny _ (arT (dp + 1) (un + 1) gd fr) _ _ _
  refine useCode (rest := news) (accInit hpf hps x dx (Nat.ne_of_gt hlt) hxC) F' N' G (fun p hp => ?_) (fun p hp => .tail _ (.tail _ hp)) (fun p hp q hq => ?_) (by omega) (by omega) (fun v h'' tk own' hv F'' N'' hd'' => ?_)
  · rcases List.mem_cons.mp hp with rfl | hp
    · exact .head _
    · rcases List.mem_cons.mp hp with rfl | hp
      · exact .tail _ (.head _)
      · cases hp
  · rcases List.mem_cons.mp hp with rfl | hp
    · exact fun e => (nx q hq).1 e.symm
    · rcases List.mem_cons.mp hp with rfl | hp
      · exact fun e => (nx q hq).2 e.symm
      · cases hp
  · obtain ⟨rfl, t, u, rfl⟩ := hv
    exact ⟨rfl, h x dx h'' tk t u F'' N'' hxC lo hlt⟩
section
variable {prog : Program} {w : World} {A : Around} {E : Value → Shared → Prop} {s : Shared} {h₀ : Heap} {L x dx C : Addr} {m : Str → Option Value} {news : Cells} {K : Frag} {name : Str} {f : Addr} {es : List DictEntry} {e : Nat} {its : List Value} {n : Nat}
/-- a method of the text's on a list subclass -/
theorem methO {Q : Value × List Value → Shared → Prop} {pl : Sem Bool} (F : Fr h₀ L s.heap m) (X : K.In h₀) (N : News h₀ L s.heap news) (hx : (x, accObj C dx its n) ∈ news) (hd : (dx, dictOf es e) ∈ news)
    (h1 : findIn K (.ref C) "__getattribute__" = some (some (.builtin "list.__getattribute__"))) (h2 : findIn K (.ref C) "__getattr__" = some none) (h3 : findIn K (.ref C) name = some (some (.ref f))) (ht : isFn K (.ref f) = true) (hl : getL name es = some none)
    (h : Q (.ref f, [.ref x]) s) : wpAny (model prog w) A (getMethod (.ref x) name pl) Q E s := by
  have X' := X.keeps F.keep
  have ex := (N _ hx).1
  have ed := (N _ hd).1
  have T0 : Looks (model prog w) s.heap (typeOf (.ref x)) (.ref C) := (Looks.ld (part := some headPart) ex).andThen .now
  have T1 : Looks (model prog w) s.heap (typeOf (.ref f)) (.type "function") := looks_typeIn X' (beq_iff_eq.mp ht)
  refine wpAny_bind (wpAny_bind (T0.here ((looks_findIn X' h1).here ?_)))
  show wpAny _ _ (if (Manifest.canonical "list.__getattribute__" != "object.__getattribute__") = true then _ else _) _ _ s
  rw [show (Manifest.canonical "list.__getattribute__" != "object.__getattribute__") = false from by decide +kernel]
  refine wpAny_bind (wpAny_bind (T0.here ((looks_findIn X' h2).here ?_)))
  refine wpAny_bind (wpAny_bind (T0.here ((looks_findIn X' h3).here ?_)))
  dsimp only
  refine wpAny_bind (T1.here ?_)
  refine wpAny_bind (wpAny_loadPart ex ?_)
  dsimp only
  refine wpAny_bind ((show Looks (model prog w) s.heap (nsGet dx name) none from (Looks.ld ed).andThen (Looks.of_pure (nsLook_of (by rw [lookIn_dict]; exact hl)))).here ?_)
  exact wpAny_bind (wpAny_rule (wpAny_pure h))
theorem off1 {a : Addr} {oa : Obj} {r : Cells} (h : ∀ q ∈ r, q.1 ≠ a) : ∀ p ∈ [(a, oa)], ∀ q ∈ r, p.1 ≠ q.1 := fun p hp q hq => by
  rw [List.mem_singleton.mp hp]; exact (h q hq).symm
theorem off2 {a b : Addr} {oa ob : Obj} {r : Cells} (h : ∀ q ∈ r, q.1 ≠ a) (k : ∀ q ∈ r, q.1 ≠ b) : ∀ p ∈ [(a, oa), (b, ob)], ∀ q ∈ r, p.1 ≠ q.1 := fun p hp q hq => by
  rcases List.mem_cons.mp hp with rfl | hp
  · exact (h q hq).symm
  · rw [List.mem_singleton.mp hp]; exact (k q hq).symm
theorem offL {d : Addr} {o : Cells} (h : AllLt d o) : ∀ p ∈ o, p.1 ≠ d := by
  induction o with
  | nil => intro p hp; cases hp
  | cons a r ih =>
    intro p hp
    rcases List.mem_cons.mp hp with rfl | hp
    · exact Nat.ne_of_lt h.1
    · exact ih h.2 p hp
theorem allLt_at {d : Addr} {o : Cells} (h : AllLt d o) {p : Addr × Obj} (hp : p ∈ o) : p.1 < d := by
  induction o with
  | nil => cases hp
  | cons a r ih =>
    rcases List.mem_cons.mp hp with rfl | hp
    · exact h.1
    · exact ih h.2 hp
theorem subC {a b : Cells} (h : a.Sublist b) : ∀ p ∈ a, p ∈ b := fun _ hp => h.subset hp
end
end Mine

-- AT29
section
open PySem PySem.W PyProof.Rows PySem.Spec PySem.Calls Builtin
namespace Mine
theorem ln_entry : entryFor table "list.__len__" = some Builtin.«list.__len__» := entryFor_of_tree (by kernel_rfl)
theorem ln_check (a : Value) : checkBoundCall "list.__len__" ⟨[a], []⟩ = pure () := by kernel_rfl
theorem ln_quiet (a : Args) : (Code.builtin "list.__len__" a).quiet = true := Code.quiet_builtin _ (by decide +kernel)
theorem lp_entry : entryFor table "list.pop" = some Builtin.«list.pop» := entryFor_of_tree (by kernel_rfl)
theorem lp_args (x : Addr) : (match Manifest.signature? "list.pop" with | some sig => Bind.checkArgs "list.pop" { sig with full := toString "_Accumulator" ++ toString "." ++ toString (Bind.lastOf "list.pop") } ⟨[.ref x], []⟩ | none => pure ()) = pure () := by
  rw [PySem.signature?_of (id := "list.pop") (n := ['p', 'o', 'p']) (o := ['t', 's', 'i', 'l']) (by kernel_rfl) PySem.F.owner_list]; kernel_rfl
theorem lp_quiet (a : Args) : (Code.builtin "list.pop" a).quiet = true := Code.quiet_builtin _ (by decide +kernel)
section
variable {prog : Program} {w : World} {A : Around} {E : Value → Shared → Prop} {h₀ : Heap} {L x dx C q : Addr} {m : Str → Option Value} {news : Cells} {K : Frag} {its : List Value} {n : Nat} {v : Value}
theorem lenCall {s : Shared} {Q : Value → Shared → Prop} (N : News h₀ L s.heap news) (hq : (q, mwObjQ x) ∈ news) (hx : (x, accObj C dx its n) ∈ news)
    (h : Q (.int (its.length : Int) s.toks) { s with toks := s.toks + 1 }) : wpAny (model prog w) A (call (.ref q) []) Q E s := by
  have eq := (N _ hq).1
  have ex := (N _ hx).1
  clear hq hx N
  obtain ⟨hh, gg, d, t, os⟩ := s
  refine wpAny_call (codeAny_of_tree ?_)
  show wpAny _ A.in1 (callAny (.ref q) _) _ _ _
  unfold callAny
  refine wpAny_bind (wpAny_load eq ?_)
  show wpAny _ _ (checkBoundCall "list.__len__" ⟨[.ref x], []⟩ >>= fun _ => again (.builtin "list.__len__" ⟨[.ref x], []⟩)) _ _ _
  rw [ln_check]
  refine wpAny_bind (wpAny_pure (wpAny_pure ⟨ln_quiet _, codeAny_builtin ln_entry ?_⟩))
  unfold Builtin.«list.__len__»
  have hd : (accObj C dx its n).data = .seq its.toArray n := rfl
  refine wpAny_bind (wpAny_pure ?_)
  dsimp only
  refine wpAny_bind (wpAny_bind (wpAny_loadPart ex ?_))
  dsimp only
  refine wpAny_pure ?_
  refine wpAny_bind (wpAny_mkInt (wpAny_pure ?_))
  rw [List.size_toArray]
  exact h
theorem popCheck {s : Shared} {Q : Unit → Shared → Prop} {cd : ClassData} (X : K.In s.heap) (ex : s.heap.get? x = some (accObj C dx its n)) (hc : clsIn K C = some cd) (hm : subIn K (.ref C) (.type "module") = some false) (ht : typeIn K (.ref C) = some (.type "type")) (hq : cd.qualname.toString = "_Accumulator") (h : Q () s) :
    wpAny (model prog w) A (checkBoundCall "list.pop" ⟨[.ref x], []⟩) Q E s := by
  have T0 : Looks (model prog w) s.heap (typeOf (.ref x)) (.ref C) := (Looks.ld (part := some headPart) ex).andThen .now
  have I0 : Looks (model prog w) s.heap (isInstance (.ref x) (.type "module")) false := T0.andThen (looks_subIn X hm)
  have hk : builtinKind "list.pop" = some .method := by decide +kernel
  have hv : Manifest.varargsMethods.contains "list.pop" = false := by decide +kernel
  have ha := lp_args
  unfold checkBoundCall
  cases hs : Manifest.signature? "list.pop" with
  | none => exact wpAny_pure h
  | some sig =>
    rw [hs] at ha
    dsimp only at ha
    simp only [hk, hv, Bool.false_or]
    refine wpAny_bind (I0.here ?_)
    simp only [Bool.false_eq_true, if_false]
    refine wpAny_bind (wpAny_bind (wpAny_loadPart ex (wpAny_pure ?_)))
    dsimp only
    simp only [Bool.false_eq_true, if_false]
    refine wpAny_bind (T0.here ?_)
    dsimp only
    refine wpAny_bind ((looks_clsIn X hc).here ?_)
    refine wpAny_bind ((looks_typeIn X ht).here ?_)
    rw [hq, if_pos (show (Value.type "type" == Value.type "type") = true by decide)]
    rw [ha]
    exact wpAny_pure h
theorem popCall {s : Shared} {Q : Value → Shared → Prop} (FF : Fr h₀ L s.heap m) (N : News h₀ L s.heap news) (hq : (q, mwObjP x) ∈ news) (U : UpdF x (accObj C dx (its ++ [v]) n) news g) (hz : its.length < 1000) {cd : ClassData} (X₀ : K.In h₀) (hc : clsIn K C = some cd) (hmo : subIn K (.ref C) (.type "module") = some false) (hty : typeIn K (.ref C) = some (.type "type")) (hqn : cd.qualname.toString = "_Accumulator")
    (h : ∀ h', Fr h₀ L h' m → News h₀ L h' (g (accObj C dx its (n + 1))) → Q v { s with heap := h' }) : wpAny (model prog w) A (call (.ref q) []) Q E s := by
  obtain ⟨pre, post, rfl, hg, u1, u2⟩ := U.split
  have eq := (N _ hq).1
  have ex := (N _ (List.mem_append_right pre (.head post))).1
  have hm : Obj.mapSeq (fun xs => xs.eraseIdxIfInBounds its.length) (accObj C dx (its ++ [v]) n) = accObj C dx its (n + 1) := by
    have e : ((its ++ [v]).toArray).eraseIdxIfInBounds its.length = its.toArray := by
      have := kl_erase its [] v
      simpa using this
    show ({ cls := .ref C, dict := some dx, data := .seq (((its ++ [v]).toArray).eraseIdxIfInBounds its.length) _ } : Obj) = _
    rw [e]
    have e2 : ((((its ++ [v]).toArray).eraseIdxIfInBounds its.length).size == (its ++ [v]).toArray.size) = false := by rw [e]; simp
    show ({ cls := .ref C, dict := some dx, data := .seq its.toArray (if ((((its ++ [v]).toArray).eraseIdxIfInBounds its.length).size == (its ++ [v]).toArray.size) = true then n else n + 1) } : Obj) = _
    rw [e2]; rfl
  obtain ⟨F1, N1⟩ := news_upd (pre := pre) (o := accObj C dx (its ++ [v]) n) (o' := accObj C dx its (n + 1)) (f := Obj.mapSeq fun xs => xs.eraseIdxIfInBounds its.length) FF N u1 u2 hm rfl
  have h := h _ F1 (by rw [hg]; exact N1)
  have X := X₀.keeps FF.keep
  clear N1 F1 hg u1 u2 hq N FF
  obtain ⟨hh, gg, d, t, os⟩ := s
  refine wpAny_call (codeAny_of_tree ?_)
  show wpAny _ A.in1 (callAny (.ref q) _) _ _ _
  unfold callAny
  refine wpAny_bind (wpAny_load eq ?_)
  show wpAny _ _ (checkBoundCall "list.pop" ⟨[.ref x], []⟩ >>= fun _ => again (.builtin "list.pop" ⟨[.ref x], []⟩)) _ _ _
  refine wpAny_bind (popCheck X ex hc hmo hty hqn (wpAny_pure ⟨lp_quiet _, codeAny_builtin lp_entry ?_⟩))
  unfold Builtin.«list.pop»
  have hd : (accObj C dx (its ++ [v]) n).data = .seq (its ++ [v]).toArray n := rfl
  have hk : seqIndex? (-1) (its ++ [v]).toArray.size = some its.length := by
    rw [seqIndex_neg (by decide) (by simp; omega)]; simp; omega
  have hv : (its ++ [v]).toArray[its.length]? = some v := by simp
  have hem : (its ++ [v]).toArray.isEmpty = false := by simp
  refine wpAny_bind (wpAny_pure ?_)
  refine wpAny_bind (wpAny_pure ?_)
  dsimp only
  rw [if_neg (by decide)]
  refine wpAny_bind (listItems_at ex hd ?_)
  rw [hem, if_neg (by decide), hk]
  simp only [Option.bind_some, hv, Option.map_some]
  refine wpAny_bind (listUpdate_at ex hd ?_ (by rw [sizeLine_eq]; simp; omega) (by
    have e : ((its ++ [v]).toArray).eraseIdxIfInBounds its.length = its.toArray := by simpa using kl_erase its [] v
    show (((its ++ [v]).toArray).eraseIdxIfInBounds its.length).size ≤ _
    rw [e, List.size_toArray, sizeLine_eq]; omega))
  exact wpAny_pure h
end
theorem partCount {prog : Program} {w : World} (hpf : ((prog.main.file : Str) == ("/claim/cut.py" : Str)) = true) (hps : (prog.main.scope.names.lookup ("super" : Str)).isSome = false) (x dx : Addr) (hxC : x ≠ 143) (its : List Value) (n e : Nat) (es : List DictEntry) :
   Does (KH w.params) prog w 4 140 [.ref x] [(x, accObj 143 dx its n), (dx, dictOf es e)] (fun r own => (∃ t, r = .int (its.length : Int) t) ∧ own = [(x, accObj 143 dx its n), (dx, dictOf es e)]) := by
  refine enterA (binds := [("self", .ref x)]) (by k_is) (by k_is) (fun s X => BindsTo.of_eq rfl) (locs rfl) ?_
  intro dp un gd fr g L s PP hP G F N l0 hdp hun hT
  obtain ⟨X, ⟨p, loose, mean, mg, mb, T⟩, codeHd, codeHd2⟩ := id G
  k_lt l0
  try k_fold
  refine ks_wpAt_execs_cons (ks_wpAt_Return_some (ks_wpAt_MethodCall ?_))
  have I : W.InstAt s.heap x (accObj 143 dx its n) 143 (some (dictOf es e)) := ⟨(N _ (.head _)).1, rfl, rfl, (N _ (.tail _ (.head _))).1⟩
  refine ks_node F X N T (by k_is) (by rfl) (by rfl) I (by k_is) (by rfl) hpf (by k_is) (by k_is) (by k_is) (by k_is) (by decide) (by rfl) (by rfl) (by rfl) (by rfl) hps (by first | boot_by_name | rfl | kernel_rfl) ?_
  intro so h2 F2 N2 l2
  k_lt l2
  refine superGetQ F2 X N2 (.head _) (.tail _ (.head _)) (by k_is) (by ks_is) (by k_is) hxC ?_
  intro q h3 F3 N3 l3
  k_lt l3
  refine callWith_of (P := fun h => h.get? q = some (mwObjQ x)) rfl (fun h e => ⟨.machine, .inr (.inl rfl), (Looks.ld (part := none) e).andThen .now⟩) (evalArgs_nil3 ⟨(N3 _ (.head _)).1, ?_⟩)
  refine lenCall N3 (.head _) (.tail _ (.tail _ (.head _))) ?_
  dsimp only
  exact hP _ _ (Fin.intro F3 (cb_drop N3 (by repeat' (first | exact List.forall_mem_nil _ | refine List.forall_mem_cons.mpr ⟨by k_mem, ?_⟩))) ⟨⟨_, rfl⟩, rfl⟩)
end Mine

end
-- AT30
section
open PySem PySem.W PyProof.Rows PySem.Spec PySem.Calls Builtin
namespace Mine
noncomputable def PopR (x dx : Addr) (its : List Value) (n e : Nat) (es : List DictEntry) (r : Value) (own : Cells) : Prop :=
  (its = [] ∧ ∃ (tp : Addr) (t u : Tok), r = .ref tp ∧ own = [(tp, ({ cls := .type "tuple", data := .seq #[.str "" t, .str "" u] } : Obj)), (x, accObj 143 dx its n), (dx, dictOf es e)]) ∨
  (∃ (vs : List Value) (v : Value), its = vs ++ [v] ∧ r = v ∧ own = [(x, accObj 143 dx vs (n + 1)), (dx, dictOf es e)])
theorem accPop {prog : Program} {w : World} (hpf : ((prog.main.file : Str) == ("/claim/cut.py" : Str)) = true) (hps : (prog.main.scope.names.lookup ("super" : Str)).isSome = false) (x dx : Addr) (hne : x ≠ dx) (hxC : x ≠ 143) (its : List Value) (hz : its.length < 1000) (n e : Nat) (es : List DictEntry) (hl : getL "part_count" es = some none) :
   Does (KH w.params) prog w 8 103 [.ref x] [(x, accObj 143 dx its n), (dx, dictOf es e)] (PopR x dx its n e es) := by
  refine enterA (binds := [("self", .ref x)]) (by k_is) (by k_is) (fun s X => BindsTo.of_eq rfl) (locs rfl) ?_
  intro dp un gd fr g L s PP hP G F N l0 hdp hun hT
  obtain ⟨X, ⟨p, loose, mean, mg, mb, T⟩, codeHd, codeHd2⟩ := id G
  k_lt l0
  try k_fold
  refine ks_wpAt_execs_cons (ks_wpAt_If (PySem.wpAt_of_wpAny ?_))
  iterate 3 walk1
  refine methO F X N (.head _) (.tail _ (.head _)) (by k_is) (by k_is) (by k_is) (by k_is) hl ?_
  walk1
  refine use (own := [(x, accObj 143 dx its n), (dx, dictOf es e)]) (rest := []) (partCount hpf hps x dx hxC its n e es) F N G (fun _ h => h) (fun _ h => nomatch h) (fun _ _ _ h => nomatch h) (by omega) (by omega) ?_
  rintro v h2 tk2 own2 ⟨⟨t2, rfl⟩, rfl⟩ F2 N2 -
  rw [List.append_nil] at N2
  clear F N
  iterate 3 walk1
  rcases List.eq_nil_or_concat its with rfl | ⟨vs, v, hvs⟩
  · rw [if_pos (show (((List.length ([] : List Value) : Nat) : Int) == 0) = true from rfl)]
    refine PySem.wpAt_of_wpAny ?_
    iterate 10 walk1
    rename_i D h3 F3 N3 l3
    exact hP _ _ (Fin.intro F3 N3 (.inl ⟨rfl, D, _, _, rfl, rfl⟩))
  · rw [List.concat_eq_append] at hvs
    subst hvs
    rw [if_neg (show ¬ ((((vs ++ [v]).length : Nat) : Int) == 0) = true by simp; omega)]
    refine PySem.wpAt_of_wpAny ?_
    iterate 2 walk1
    dsimp only
    refine ks_wpAt_execs_cons (ks_wpAt_Return_some (ks_wpAt_MethodCall ?_))
    have I : W.InstAt h2 x (accObj 143 dx (vs ++ [v]) n) 143 (some (dictOf es e)) := ⟨(N2 _ (.head _)).1, rfl, rfl, (N2 _ (.tail _ (.head _))).1⟩
    refine ks_node F2 X N2 T (by k_is) (by rfl) (by rfl) I (by k_is) (by rfl) hpf (by k_is) (by k_is) (by k_is) (by k_is) (by decide) (by rfl) (by rfl) (by rfl) (by rfl) hps (by first | boot_by_name | rfl | kernel_rfl) ?_
    intro so h3 F3 N3 l3
    k_lt l3
    refine superGetP F3 X N3 (.head _) (.tail _ (.head _)) (by k_is) (by ks_is) (by k_is) hxC ?_
    intro q h4 F4 N4 l4
    k_lt l4
    refine callWith_of (P := fun h => h.get? q = some (mwObjP x)) rfl (fun h e => ⟨.machine, .inr (.inl rfl), (Looks.ld (part := none) e).andThen .now⟩) (evalArgs_nil3 ⟨(N4 _ (.head _)).1, ?_⟩)
    refine popCall F4 N4 (.head _) (by k_updF) (by simp at hz; omega) X (by k_is) (by k_is) (by k_is) (by kernel_rfl) fun h5 F5 N5 => ?_
    dsimp only
    exact hP _ _ (Fin.intro F5 (cb_drop N5 (by repeat' (first | exact List.forall_mem_nil _ | refine List.forall_mem_cons.mpr ⟨by k_mem, ?_⟩))) (.inr ⟨vs, v, rfl, rfl, rfl⟩))
end Mine

end
-- AW3
namespace Mine
noncomputable def handsE : List PySem.Expr := match stOf 18 with | .FunctionDef _ _ (.Return (some (.List es _)) _ :: _) _ _ _ _ _ _ _ => es | _ => []
noncomputable def handsSc : Scope := match stOf 18 with | .FunctionDef _ _ _ _ _ _ sc _ _ _ => sc | _ => ⟨.module, [], false, false, []⟩
noncomputable def tupE (i : Nat) : PySem.Expr := handsE.getD i (.Constant .none default default)
noncomputable abbrev envH (L : Addr) : Env := envX "_law_hands" handsSc L 222 (.ref 221) []
noncomputable def tabK (tb : List (Nat × List Nat)) (ts : List Tok) : List (Str × Value) := (tb.zip ts).map fun p => (⟨#[p.1.1]⟩, .str ⟨p.1.2.toArray⟩ p.2)
noncomputable def TabIs (prog : Program) (w : World) (o : Obj) (tb : List (Nat × List Nat)) : Prop := ∃ ts : List Tok, ts.length = tb.length ∧ o.IsDictOf (PySem.strKind prog w) (tabK tb ts)
noncomputable def tokOf : Value → Tok
  | .str _ t => t
  | _ => 0
theorem TabIs.mk {prog : Program} {w : World} {o : Obj} {tb : List (Nat × List Nat)} {kvs : List (Str × Value)} (h : o.IsDictOf (PySem.strKind prog w) kvs) (e : kvs = tabK tb (kvs.map fun p => tokOf p.2)) (hl : kvs.length = tb.length) : TabIs prog w o tb := ⟨kvs.map fun p => tokOf p.2, (List.length_map ..).trans hl, by rw [← e]; exact h⟩
noncomputable abbrev tupF (f d : Addr) : Obj := { cls := .type "tuple", data := .seq #[.ref f, .ref d] }
section
variable {prog : Program} {w : World} {g : Heap} {L : Addr} {dp un : Nat} {gd : Option (List Code)} {fr : List Env} {E : Value → Shared → Prop} {s : Shared} {m : Str → Option Value} {news : Cells} {Q : Value → Shared → Prop}
theorem handT0 (G : Gd (KH w.params) g) (F : Fr g L s.heap m) (N : News g L s.heap news)
    (hQ : ∀ T d o h' tk, Fr g L h' m → News g L h' ((T, tupF 161 d) :: (d, o) :: news) → TabIs prog w o tb0 → (d == sysModules) = false → (∀ p ∈ news, p.1 < d) → @LT.lt Nat _ d T → Q (.ref T) { s with heap := h', toks := tk }) :
    wpAny (model prog w) (arT dp un gd fr) (eval (tupE 0) (envH L)) Q E s := by
  obtain ⟨X, ⟨p, loose, mean, mg, mb, T⟩, codeHd, codeHd2⟩ := id G
  conv => arg 3; arg 1; whnf
  unfold envH
  conv in (occs := *) handsSc => all_goals whnf
  iterate 18 walk1
  rename_i o1 l1 lo1 hd1 fl1 ap1 D1 h2 F2 N2 l2
  exact hQ D1 _ _ _ _ F2 N2 (TabIs.mk hd1 (by kernel_rfl) (by kernel_rfl)) lo1 l1 l2.1
theorem handT1 (G : Gd (KH w.params) g) (F : Fr g L s.heap m) (N : News g L s.heap news)
    (hQ : ∀ T d o h' tk, Fr g L h' m → News g L h' ((T, tupF 168 d) :: (d, o) :: news) → TabIs prog w o tb1 → (d == sysModules) = false → (∀ p ∈ news, p.1 < d) → @LT.lt Nat _ d T → Q (.ref T) { s with heap := h', toks := tk }) :
    wpAny (model prog w) (arT dp un gd fr) (eval (tupE 1) (envH L)) Q E s := by
  obtain ⟨X, ⟨p, loose, mean, mg, mb, T⟩, codeHd, codeHd2⟩ := id G
  conv => arg 3; arg 1; whnf
  unfold envH
  conv in (occs := *) handsSc => all_goals whnf
  iterate 30 walk1
  rename_i o1 l1 lo1 hd1 fl1 ap1 D1 h2 F2 N2 l2
  exact hQ D1 _ _ _ _ F2 N2 (TabIs.mk hd1 (by kernel_rfl) (by kernel_rfl)) lo1 l1 l2.1
theorem handT2 (G : Gd (KH w.params) g) (F : Fr g L s.heap m) (N : News g L s.heap news)
    (hQ : ∀ T d o h' tk, Fr g L h' m → News g L h' ((T, tupF 175 d) :: (d, o) :: news) → TabIs prog w o tb2 → (d == sysModules) = false → (∀ p ∈ news, p.1 < d) → @LT.lt Nat _ d T → Q (.ref T) { s with heap := h', toks := tk }) :
    wpAny (model prog w) (arT dp un gd fr) (eval (tupE 2) (envH L)) Q E s := by
  obtain ⟨X, ⟨p, loose, mean, mg, mb, T⟩, codeHd, codeHd2⟩ := id G
  conv => arg 3; arg 1; whnf
  unfold envH
  conv in (occs := *) handsSc => all_goals whnf
  iterate 18 walk1
  rename_i o1 l1 lo1 hd1 fl1 ap1 D1 h2 F2 N2 l2
  exact hQ D1 _ _ _ _ F2 N2 (TabIs.mk hd1 (by kernel_rfl) (by kernel_rfl)) lo1 l1 l2.1
theorem handT3 (G : Gd (KH w.params) g) (F : Fr g L s.heap m) (N : News g L s.heap news)
    (hQ : ∀ T d o h' tk, Fr g L h' m → News g L h' ((T, tupF 182 d) :: (d, o) :: news) → TabIs prog w o tb3 → (d == sysModules) = false → (∀ p ∈ news, p.1 < d) → @LT.lt Nat _ d T → Q (.ref T) { s with heap := h', toks := tk }) :
    wpAny (model prog w) (arT dp un gd fr) (eval (tupE 3) (envH L)) Q E s := by
  obtain ⟨X, ⟨p, loose, mean, mg, mb, T⟩, codeHd, codeHd2⟩ := id G
  conv => arg 3; arg 1; whnf
  unfold envH
  conv in (occs := *) handsSc => all_goals whnf
  iterate 21 walk1
  rename_i o1 l1 lo1 hd1 fl1 ap1 D1 h2 F2 N2 l2
  exact hQ D1 _ _ _ _ F2 N2 (TabIs.mk hd1 (by kernel_rfl) (by kernel_rfl)) lo1 l1 l2.1
theorem handT4 (G : Gd (KH w.params) g) (F : Fr g L s.heap m) (N : News g L s.heap news)
    (hQ : ∀ T d o h' tk, Fr g L h' m → News g L h' ((T, tupF 189 d) :: (d, o) :: news) → TabIs prog w o tb4 → (d == sysModules) = false → (∀ p ∈ news, p.1 < d) → @LT.lt Nat _ d T → Q (.ref T) { s with heap := h', toks := tk }) :
    wpAny (model prog w) (arT dp un gd fr) (eval (tupE 4) (envH L)) Q E s := by
  obtain ⟨X, ⟨p, loose, mean, mg, mb, T⟩, codeHd, codeHd2⟩ := id G
  conv => arg 3; arg 1; whnf
  unfold envH
  conv in (occs := *) handsSc => all_goals whnf
  iterate 27 walk1
  rename_i o1 l1 lo1 hd1 fl1 ap1 D1 h2 F2 N2 l2
  exact hQ D1 _ _ _ _ F2 N2 (TabIs.mk hd1 (by kernel_rfl) (by kernel_rfl)) lo1 l1 l2.1
end
noncomputable def handFn : List (Addr × List (Nat × List Nat)) := [(161, tb0), (168, tb1), (175, tb2), (182, tb3), (189, tb4)]
/-- the hands: tuples of a function and its table -/
noncomputable def HandsIn (prog : Program) (w : World) (o : Cells) (hv : List Value) : Prop :=
  hv.length = 5 ∧ ∀ j, j < 5 → ∃ (T f d : Addr) (ob : Obj) (tb : List (Nat × List Nat)), handFn[j]? = some (f, tb) ∧ hv[j]? = some (.ref T) ∧ (T, tupF f d) ∈ o ∧ (d, ob) ∈ o ∧ TabIs prog w ob tb ∧ (d == sysModules) = false
theorem HandsIn.mono {prog : Program} {w : World} {o o' : Cells} {hv : List Value} (hs : ∀ p ∈ o, p ∈ o') (h : HandsIn prog w o hv) : HandsIn prog w o' hv := ⟨h.1, fun j hj => by
  obtain ⟨T, f, d, ob, tb, a, b, c, e, k⟩ := h.2 j hj
  exact ⟨T, f, d, ob, tb, a, b, hs _ c, hs _ e, k⟩⟩
theorem handsW {prog : Program} {w : World} :
   Does (KH w.params) prog w 2 222 [] [] (fun r own => ∃ l hv o, r = .ref l ∧ own = (l, W.listOf hv.toArray 0) :: o ∧ HandsIn prog w o hv) := by
  refine enterT (binds := []) (by k_is) (by k_is) (fun s X => BindsTo.of_eq rfl) (locs rfl) ?_
  intro dp un gd fr g L s PP hP' G F N l0 hdp hun hT
  obtain ⟨X, ⟨p, loose, mean, mg, mb, T⟩, codeHd, codeHd2⟩ := id G
  refine wpAny_execs_cons ?_
  iterate 3 walk1
  refine handT0 G F N ?_
  intro T0 d0 o0 h0 tk0 F0 N0 b0 z0 l00 l01
  walk1
  refine handT1 G F0 N0 ?_
  intro T1 d1 o1 h1 tk1 F1 N1 b1 z1 l10 l11
  walk1
  refine handT2 G F1 N1 ?_
  intro T2 d2 o2 h2 tk2 F2 N2 b2 z2 l20 l21
  walk1
  refine handT3 G F2 N2 ?_
  intro T3 d3 o3 h3 tk3 F3 N3 b3 z3 l30 l31
  walk1
  refine handT4 G F3 N3 ?_
  intro T4 d4 o4 h4 tk4 F4 N4 b4 z4 l40 l41
  iterate 2 walk1
  rename_i l h5 F5 N5 l5
  refine hP' _ _ (Fin.intro F5 N5 ⟨l, [.ref T0, .ref T1, .ref T2, .ref T3, .ref T4], _, rfl, rfl, rfl, fun j hj => ?_⟩)
  have : j = 0 ∨ j = 1 ∨ j = 2 ∨ j = 3 ∨ j = 4 := by omega
  rcases this with rfl | rfl | rfl | rfl | rfl
  · exact ⟨T0, 161, d0, o0, tb0, rfl, rfl, by k_mem, by k_mem, b0, z0⟩
  · exact ⟨T1, 168, d1, o1, tb1, rfl, rfl, by k_mem, by k_mem, b1, z1⟩
  · exact ⟨T2, 175, d2, o2, tb2, rfl, rfl, by k_mem, by k_mem, b2, z2⟩
  · exact ⟨T3, 182, d3, o3, tb3, rfl, rfl, by k_mem, by k_mem, b3, z3⟩
  · exact ⟨T4, 189, d4, o4, tb4, rfl, rfl, by k_mem, by k_mem, b4, z4⟩
end Mine

-- AV1
namespace Mine
/-- blanks -/
noncomputable def blk (n : Nat) : Str := ⟨(List.replicate n 32).toArray⟩
theorem blk0 : blk 0 = Str.ofString "" := by decide +kernel
theorem blkS (n : Nat) : blk n ++ Str.ofString " " = blk (n + 1) := by
  have e : (Str.ofString " ").cps.toList = [32] := by decide +kernel
  refine str_ext ?_
  rw [Str.cps_append, Array.toList_append, e]
  show List.replicate n 32 ++ [32] = List.replicate (n + 1) 32
  rw [List.replicate_succ']
theorem blk_len (n : Nat) : (blk n).length = n := by
  show ((List.replicate n 32).toArray).size = n
  simp
/-- a closing -/
noncomputable def clS (x : Str) : Bool := x.cps.toList.head? == some 46
noncomputable def NE (x : Str) : Prop := x.cps.toList ≠ []
theorem NE.cons {x : Str} (h : NE x) : ∃ c r, x.cps.toList = c :: r := by
  unfold NE at h
  cases e : x.cps.toList with
  | nil => exact absurd e h
  | cons c r => exact ⟨c, r, rfl⟩
theorem NE.ne {x : Str} (h : NE x) : (x == Str.ofString "") = false := by
  refine beq_eq_false_iff_ne.mpr fun e => h ?_
  rw [e]; decide +kernel
theorem NE.bne {x : Str} (h : NE x) : (x != Str.ofString "") = true := by
  show (!(x == Str.ofString "")) = true
  rw [h.ne]; rfl
theorem NE.item {x : Str} (h : NE x) : (Txt.item x 0 == Str.ofString ".") = clS x := by
  obtain ⟨c, r, e⟩ := h.cons
  have e2 : (Txt.item x 0).cps.toList = [c] := by
    have hx : x = ⟨(c :: r).toArray⟩ := str_ext (by rw [e])
    rw [hx]
    show [((seqIndex? 0 ((c :: r).toArray).size).bind (((c :: r).toArray)[·]?)).getD 0] = [c]
    rw [show seqIndex? 0 ((c :: r).toArray).size = some 0 by unfold seqIndex?; simp]
    simp
  have e3 : (Str.ofString ".").cps.toList = [46] := by decide +kernel
  unfold clS
  rw [e]
  by_cases h : c = 46
  · subst h
    rw [show Txt.item x 0 = Str.ofString "." from str_ext (by rw [e2, e3])]
    simp
  · have h1 : Txt.item x 0 ≠ Str.ofString "." := fun q => h (by
      have := congrArg (fun z : Str => z.cps.toList) q
      simp only [e2, e3] at this
      exact List.cons.inj this |>.1)
    rw [beq_eq_false_iff_ne.mpr h1]
    simp [h]
noncomputable def mapTS {α β : Type} (f : α → β) (s : TS α) : TS β := ⟨s.pile.map fun q => (q.1, f q.2), s.log.map fun q => (q.1, f q.2.1, f q.2.2), s.out.map fun q => (f q.1, q.2)⟩
theorem stepT_map {α β : Type} {cl : α → Bool} {cl' : β → Bool} {f : α → β} (h : ∀ x, cl' (f x) = cl x) (s : TS α) (x : α) : stepT cl' (mapTS f s) (f x) = mapTS f (stepT cl s x) := by
  unfold stepT mapTS
  rw [List.getLast?_map]
  cases s.pile.getLast? with
  | none => simp
  | some q =>
    obtain ⟨n, t⟩ := q
    simp only [Option.map_some, h]
    cases cl t != cl x <;> simp [List.map_dropLast]
theorem fold_map {α β : Type} {cl : α → Bool} {cl' : β → Bool} {f : α → β} (h : ∀ x, cl' (f x) = cl x) : ∀ (l : List α) (s : TS α), (l.map f).foldl (stepT cl') (mapTS f s) = mapTS f (l.foldl (stepT cl) s)
  | [], _ => rfl
  | x :: l, s => by
    rw [List.map_cons, List.foldl_cons, List.foldl_cons, stepT_map h]
    exact fold_map h l _
noncomputable def ts0 {α : Type} : TS α := ⟨[], [], []⟩
/-- what a turn keeps -/
structure TOk (k : Nat) (s : TS Str) : Prop where
  pl : s.pile.length ≤ k
  ll : s.log.length ≤ k
  pn : ∀ q ∈ s.pile, q.1 ≤ k ∧ NE q.2
  ln : ∀ q ∈ s.log, q.1 ≤ k
theorem TOk.zero : TOk 0 (ts0 : TS Str) := ⟨Nat.le_refl _, Nat.le_refl _, fun _ h => (nomatch h), fun _ h => (nomatch h)⟩
theorem TOk.step {k : Nat} {s : TS Str} (h : TOk k s) {x : Str} (hx : NE x) : TOk (k + 1) (stepT clS s x) := by
  obtain ⟨h1, h2, h3, h4⟩ := h
  unfold stepT
  cases e : s.pile.getLast? with
  | none =>
    refine ⟨by simp, by simp; omega, fun q hq => ?_, fun q hq => Nat.le_succ_of_le (h4 q hq)⟩
    rw [List.mem_singleton.mp hq]; exact ⟨by simp, hx⟩
  | some q =>
    obtain ⟨n, t⟩ := q
    have hm : (n, t) ∈ s.pile := List.mem_of_getLast? e
    dsimp only
    cases clS t != clS x with
    | true =>
      simp only [if_true]
      refine ⟨?_, ?_, fun q hq => ?_, fun q hq => ?_⟩
      · show s.pile.dropLast.length ≤ _; rw [List.length_dropLast]; omega
      · show (s.log ++ [(n, t, x)]).length ≤ _; rw [List.length_append]; simp; omega
      · have := h3 q (List.mem_of_mem_take (List.dropLast_eq_take ▸ hq)); exact ⟨by omega, this.2⟩
      · rcases List.mem_append.mp hq with hq | hq
        · exact Nat.le_succ_of_le (h4 q hq)
        · rw [List.mem_singleton.mp hq]; have := (h3 _ hm).1; exact Nat.le_succ_of_le this
    | false =>
      simp only [Bool.false_eq_true, if_false]
      refine ⟨?_, by show s.log.length ≤ _; omega, fun q hq => ?_, fun q hq => Nat.le_succ_of_le (h4 q hq)⟩
      · show (s.pile ++ [(n + 1, x)]).length ≤ _; rw [List.length_append]; simp; omega
      · rcases List.mem_append.mp hq with hq | hq
        · have := h3 q hq; exact ⟨by omega, this.2⟩
        · rw [List.mem_singleton.mp hq]; have := (h3 _ hm).1; exact ⟨Nat.succ_le_succ this, hx⟩
theorem TOk.fold : ∀ (l : List Str) (k : Nat) (s : TS Str), TOk k s → (∀ x ∈ l, NE x) → TOk (k + l.length) (l.foldl (stepT clS) s)
  | [], k, s, h, _ => h
  | x :: l, k, s, h, hl => by
    rw [List.foldl_cons]
    have := TOk.fold l (k + 1) _ (h.step (hl x (.head _))) fun y hy => hl y (.tail _ hy)
    rw [List.length_cons, show k + (l.length + 1) = k + 1 + l.length by omega]
    exact this
end Mine

-- AM30
local macro_rules | `(tactic| k_all) => `(tactic| assumption)
namespace Mine
theorem memL {α : Type} {x : α} {a b : List α} (h : x ∈ a) : x ∈ a ++ b := List.mem_append_left b h
theorem memR {α : Type} {x : α} {a b : List α} (h : x ∈ b) : x ∈ a ++ b := List.mem_append_right a h
theorem memT {α : Type} {x y : α} {b : List α} (h : x ∈ b) : x ∈ y :: b := .tail _ h
theorem memH {α : Type} {x : α} {b : List α} : x ∈ x :: b := .head _
theorem allN {α : Type} {P : α → Prop} : ∀ x ∈ ([] : List α), P x := fun _ h => nomatch h
theorem allC {α : Type} {P : α → Prop} {a : α} {l : List α} (h : P a) (k : ∀ x ∈ l, P x) : ∀ x ∈ a :: l, P x := List.forall_mem_cons.mpr ⟨h, k⟩
theorem allA {α : Type} {P : α → Prop} {l r : List α} (h : ∀ x ∈ l, P x) (k : ∀ x ∈ r, P x) : ∀ x ∈ l ++ r, P x := List.forall_mem_append.mpr ⟨h, k⟩
end Mine
local macro_rules | `(tactic| lcg_src) => `(tactic| ((try dsimp only [List.cons_append, List.nil_append]); repeat (first | with_reducible assumption | with_reducible exact Mine.memL (by assumption) | with_reducible exact Mine.memH | with_reducible exact Mine.memL (Mine.memL (by assumption)) | with_reducible exact Mine.memL (Mine.memR (by assumption)) | with_reducible refine Mine.memT ?_ | with_reducible refine Mine.memR ?_)); done)
local macro_rules | `(tactic| lcg_sub) => `(tactic| ((try dsimp only [List.cons_append, List.nil_append]); repeat' (first | with_reducible exact Mine.allN | with_reducible refine Mine.allC ?_ ?_ | with_reducible refine Mine.allA ?_ ?_ | (refine fun p' hp' => ?_; lcg_src) | lcg_src)); done)
namespace Mine
theorem offApp {a b : Cells} {d : Addr} (h : ∀ p ∈ a, p.1 ≠ d) (k : ∀ p ∈ b, p.1 ≠ d) : ∀ p ∈ a ++ b, p.1 ≠ d := List.forall_mem_append.mpr ⟨h, k⟩
section
variable {prog : Program} {w : World} {A : Around} {E : Value → Shared → Prop} {s : Shared} {h₀ : Heap} {L x c2 : Addr} {oc2 : Obj} {tot : Int} {m : Str → Option Value} {news own : Cells} {q : List Str} {cs R : List Nat}
theorem LexA.cells (h : LexA prog w x c2 oc2 tot R own q) : ∃ pb cs, LexS prog w x c2 oc2 tot own pb cs := by
  rcases h with h | ⟨p, cs, -, -, -, h⟩
  · exact ⟨_, _, h⟩
  · exact ⟨_, _, h⟩
theorem methGet {pl : Sem Bool} {Q : Value × List Value → Shared → Prop} {pb : List Str} (h : LexS prog w x c2 oc2 tot own pb cs) (F : Fr h₀ L s.heap m) (X : (KH w.params).In h₀) (N : News h₀ L s.heap news) (hin : ∀ p ∈ own, p ∈ news) (hq : Q (.ref 49, [.ref x]) s) :
    wpAny (model prog w) A (getMethod (.ref x) "get_token" pl) Q E s := by
  obtain ⟨l, vs, kp, sg, ks, tl, hl, rfl, rfl, rfl, hv, hs, rfl⟩ := h
  refine method_inst (es := [_, _, _, _]) (n := 4) F X (InstAt.of_news (C := 59) (dx := l.d) N (hin _ (.head _)) (hin _ (.tail _ (.head _)))) (by k_is) (by k_is) (by k_is) (by k_get) hq
theorem methPush {pl : Sem Bool} {Q : Value × List Value → Shared → Prop} {pb : List Str} (h : LexS prog w x c2 oc2 tot own pb cs) (F : Fr h₀ L s.heap m) (X : (KH w.params).In h₀) (N : News h₀ L s.heap news) (hin : ∀ p ∈ own, p ∈ news) (hq : Q (.ref 56, [.ref x]) s) :
    wpAny (model prog w) A (getMethod (.ref x) "push_token" pl) Q E s := by
  obtain ⟨l, vs, kp, sg, ks, tl, hl, rfl, rfl, rfl, hv, hs, rfl⟩ := h
  refine method_inst (es := [_, _, _, _]) (n := 4) F X (InstAt.of_news (C := 59) (dx := l.d) N (hin _ (.head _)) (hin _ (.tail _ (.head _)))) (by k_is) (by k_is) (by k_is) (by k_get) hq
end
theorem offMap {o r r' : Cells} (h : ∀ p ∈ o, ∀ q ∈ r, p.1 ≠ q.1) (e : r'.map (·.1) = r.map (·.1)) : ∀ p ∈ o, ∀ q ∈ r', p.1 ≠ q.1 := fun p hp q hq => by
  obtain ⟨z, hz, ez⟩ := List.mem_map.mp (e ▸ List.mem_map_of_mem (f := (·.1)) hq : q.1 ∈ r.map (·.1))
  rw [← ez]; exact h p hp z hz
theorem offAt {o r : Cells} (h : ∀ p ∈ o, ∀ q ∈ r, p.1 ≠ q.1) {a : Addr} {oa : Obj} (ha : (a, oa) ∈ r) : ∀ p ∈ o, p.1 ≠ a := fun p hp => h p hp _ ha
section
variable {prog : Program} {w : World} {A : Around} {s : Shared} {E : Value → Shared → Prop} {env : Env} {h₀ : Heap} {x : Str} {body : List Stmt} {Q : Flow → Shared → Prop} {m₀ : Str → Option Value} {h : Heap} {tk : Nat} {news : Cells}
/-- as rangeFor, the word knows the iterator's place -/
theorem rangeForI {ra : Addr} {a b : Int} {t u v : Tok} {n : Nat} (hh : A.handled = none) (F : Fr h₀ env.locals h m₀) (N : News h₀ env.locals h news) (hr : IsRange h ra a b 1 t u v) (hs : Builtin.Range.small a b 1 = true) (hn : Builtin.Range.rangeSize a b 1 = (n : Int)) (Inv : Addr → Nat → (Str → Option Value) → Cells → Prop) (hI : ∀ I : Addr, (∀ p ∈ news, p.1 < I) → Inv I 0 m₀ news)
    (step : ∀ I : Addr, ∀ i t m news, i < n → Inv I i m news → ∀ (it : Obj) h tk, Fr h₀ env.locals h (fun y => if y = x then some (.int (a + (i : Int)) t) else m y) → News h₀ env.locals h ((I, it) :: news) → ∀ Q' : Flow → Shared → Prop,
      (∀ h' tk' m' news', Inv I (i + 1) m' news' → Fr h₀ env.locals h' m' → News h₀ env.locals h' ((I, it) :: news') → (∀ p ∈ news', p.1 ≠ I) → Q' .next { s with heap := h', toks := tk' }) → (∀ v s', Q (.ret v) s' → Q' (.ret v) s') →
      wpAny (model prog w) A (execs body env) Q' E { s with heap := h, toks := tk })
    (fin : ∀ I m news h tk, Inv I n m news → Fr h₀ env.locals h m → News h₀ env.locals h news → Q .next { s with heap := h, toks := tk }) :
    IterV prog w A h₀ env x body Q E (.ref ra) { s with heap := h, toks := tk } :=
  iter_rangeUnr (s := { s with heap := h, toks := tk }) hh hr hs hn F N fun I hlt => rangeInv (s := { s with heap := h, toks := tk }) (Inv I) (fun i t m news hi j it h tk F N Q' q r' => step I i t m news hi j it h tk F N Q' q r') (fun m news h tk i F N => fin I m news h tk i F N) n 0 m₀ news (Nat.zero_add n) (hI I hlt)
theorem listForI {ax : Addr} {vs : List Value} {n : Nat} (hh : A.handled = none) (F : Fr h₀ env.locals h m₀) (N : News h₀ env.locals h news) (hm : (ax, W.listOf vs.toArray n) ∈ news) (Inv : Addr → List Value → (Str → Option Value) → Cells → Prop) (hI : ∀ I : Addr, (∀ p ∈ news, p.1 < I) → Inv I vs m₀ news)
    (step : ∀ I : Addr, ∀ v r m news, Inv I (v :: r) m news → ∀ (it : Obj) h tk, Fr h₀ env.locals h (fun y => if y = x then some v else m y) → News h₀ env.locals h ((I, it) :: news) → ∀ Q' : Flow → Shared → Prop,
      (∀ h' tk' m' news', Inv I r m' news' → Fr h₀ env.locals h' m' → News h₀ env.locals h' ((I, it) :: news') → (∀ p ∈ news', p.1 ≠ I) → (ax, W.listOf vs.toArray n) ∈ news' → Q' .next { s with heap := h', toks := tk' }) → (∀ v s', Q (.ret v) s' → Q' (.ret v) s') →
      wpAny (model prog w) A (execs body env) Q' E { s with heap := h, toks := tk })
    (fin : ∀ I m news h tk, Inv I [] m news → Fr h₀ env.locals h m → News h₀ env.locals h news → Q .next { s with heap := h, toks := tk }) :
    IterV prog w A h₀ env x body Q E (.ref ax) { s with heap := h, toks := tk } :=
  iter_listUnr (s := { s with heap := h, toks := tk }) hh F N hm rfl rfl fun I hlt => listInv (s := { s with heap := h, toks := tk }) (Inv I) (fun v r m news i it h tk F N Q' q r' => step I v r m news i it h tk F N Q' q r') (fun m news h tk i F N => fin I m news h tk i F N) vs m₀ news (hI I hlt)
end
noncomputable abbrev dum (I : Addr) : Addr × Obj := (I, W.listOf #[] 0)
end Mine

-- AV2
namespace Mine
noncomputable def turnF : List Stmt := match stOf 20 with | .FunctionDef _ _ b _ _ _ _ _ _ _ => b | _ => []
noncomputable def turnSc : Scope := match stOf 20 with | .FunctionDef _ _ _ _ _ _ sc _ _ _ => sc | _ => ⟨.module, [], false, false, []⟩
noncomputable def turnB : List Stmt := match (turnF[2]? : Option Stmt) with | some (.For _ _ b _ _) => b | _ => []
noncomputable abbrev envT (L : Addr) : Env := envX "_law_turn" turnSc L 234 (.ref 233) []
/-- the names of a turn -/
noncomputable def mTr (vT vW vB vTop : Option Value) (lg px wf lx : Addr) : Str → Option Value := fun y =>
  if y = "top" then vTop else if y = "blanks" then vB else if y = "word" then vW else if y = "turn" then vT else if y = "log" then some (.ref lg) else if y = "pile" then some (.ref px) else if y = "write" then some (.ref wf) else if y = "lexer" then some (.ref lx) else none
noncomputable abbrev cellsT (lg px pdx : Addr) (lv its : List Value) (nl ns e : Nat) (es : List DictEntry) (o : Cells) : Cells :=
  (lg, W.listOf lv.toArray nl) :: (px, accObj 143 pdx its ns) :: (pdx, dictOf es e) :: o
noncomputable abbrev tupB (n : Nat) (x : Str) (b t : Tok) : Obj := { cls := .type "tuple", data := .seq #[.str (blk n) b, .str x t] }
noncomputable abbrev tupL (n : Nat) (x y : Str) (b t u : Tok) : Obj := { cls := .type "tuple", data := .seq #[.str (blk n) b, .str x t, .str y u] }
/-- what lies on the pile -/
inductive PileL (o : Cells) : List Value → List (Nat × Str) → Prop
  | nil : PileL o [] []
  | snoc {lv : List Value} {P : List (Nat × Str)} {p : Addr} {n : Nat} {x : Str} {b t : Tok} : PileL o lv P → (p, tupB n x b t) ∈ o → PileL o (lv ++ [.ref p]) (P ++ [(n, x)])
theorem PileL.mono {o o' : Cells} (hs : ∀ p ∈ o, p ∈ o') {lv : List Value} {P : List (Nat × Str)} (h : PileL o lv P) : PileL o' lv P := by
  induction h with
  | nil => exact .nil
  | snoc _ m ih => exact .snoc ih (hs _ m)
theorem PileL.length {o : Cells} {lv : List Value} {P : List (Nat × Str)} (h : PileL o lv P) : lv.length = P.length := by
  induction h with
  | nil => rfl
  | snoc _ _ ih => simp [ih]
theorem PileL.last {o : Cells} {lv : List Value} {v : Value} {P : List (Nat × Str)} (h : PileL o (lv ++ [v]) P) : ∃ P' n x p b t, P = P' ++ [(n, x)] ∧ v = .ref p ∧ PileL o lv P' ∧ (p, tupB n x b t) ∈ o := by
  generalize e : lv ++ [v] = l at h
  cases h with
  | nil => simp at e
  | snoc h m =>
    obtain ⟨rfl, e2⟩ := List.append_inj' e rfl
    exact ⟨_, _, _, _, _, _, rfl, (List.cons.inj e2).1, h, m⟩
theorem PileL.nil' {o : Cells} {P : List (Nat × Str)} (h : PileL o [] P) : P = [] := by
  have := h.length
  exact List.length_eq_zero_iff.mp this.symm
theorem mTr_set {vT vW vB vTop a b c d : Option Value} {lg px wf lx : Addr} (y : Str) : (if y = Str.ofString "top" then a else if y = Str.ofString "blanks" then b else if y = Str.ofString "word" then c else if y = Str.ofString "turn" then d else mTr vT vW vB vTop lg px wf lx y) = mTr d c b a lg px wf lx y := by
  unfold mTr
  by_cases h : y = Str.ofString "top"
  · simp only [h, if_true]
  · by_cases h2 : y = Str.ofString "blanks"
    · simp only [h, h2, if_true, if_false]
    · by_cases h3 : y = Str.ofString "word"
      · simp only [h, h2, h3, if_true, if_false]
      · by_cases h4 : y = Str.ofString "turn"
        · simp only [h, h2, h3, h4, if_true, if_false]
        · simp only [h, h2, h3, h4, if_false]
/-- what is told -/
inductive LogL (o : Cells) : List Value → List (Nat × Str × Str) → Prop
  | nil : LogL o [] []
  | snoc {lv : List Value} {P : List (Nat × Str × Str)} {p : Addr} {n : Nat} {x y : Str} {b t u : Tok} : LogL o lv P → (p, tupL n x y b t u) ∈ o → LogL o (lv ++ [.ref p]) (P ++ [(n, x, y)])
theorem LogL.mono {o o' : Cells} (hs : ∀ p ∈ o, p ∈ o') {lv : List Value} {P : List (Nat × Str × Str)} (h : LogL o lv P) : LogL o' lv P := by
  induction h with
  | nil => exact .nil
  | snoc _ m ih => exact .snoc ih (hs _ m)
theorem LogL.length {o : Cells} {lv : List Value} {P : List (Nat × Str × Str)} (h : LogL o lv P) : lv.length = P.length := by
  induction h with
  | nil => rfl
  | snoc _ _ ih => simp [ih]
noncomputable def EsOk (es : List DictEntry) : Prop := getL "part_count" es = some none ∧ getL "pop" es = some none ∧ getL "push" es = some none ∧ getL "append" es = some none
section
variable {prog : Program} {w : World} {g : Heap} {L : Addr} {dp un : Nat} {gd : Option (List Code)} {fr : List Env} {E : Value → Shared → Prop}
theorem turnA (hpf : ((prog.main.file : Str) == ("/claim/cut.py" : Str)) = true) (hps : (prog.main.scope.names.lookup ("super" : Str)).isSome = false) (G : Gd (KH w.params) g) (hdp : dp + 20 < recursionLimit) (hun : un + 400 < cLine) {lg px pdx I lx c2 wf : Addr} {it oc2 : Obj} {lv its : List Value} {nl ns e : Nat} {es : List DictEntry} {vT vW vB vTop : Option Value}
    {i : Nat} {ti : Tok} {tot : Int} {cs : List Nat} {o1 o3 : Cells} {x : Str} {q : List Str} {P : List (Nat × Str)} {s : Shared} {h : Heap} {tk : Nat}
    (hx : LexS prog w lx c2 oc2 tot o1 (x :: q) cs) (hq : q.length < 900) (hP : PileL o3 its P) (hPl : P.length < 100) (hes : EsOk es) (hpx : px ≠ 143)
    (F : Fr g L h (fun y => if y = "turn" then some (.int (0 + (i : Int)) ti) else mTr vT vW vB vTop lg px wf lx y))
    (N : News g L h ((I, it) :: cellsT lg px pdx lv its nl ns e es (o1 ++ o3)))
    (hap : @Ne Nat lg I ∧ @Ne Nat px I ∧ @Ne Nat pdx I ∧ @Ne Nat px lg ∧ @Ne Nat pdx lg ∧ @Ne Nat px pdx)
    (H1 : ∀ p ∈ o1, ∀ q ∈ (I, it) :: cellsT lg px pdx lv its nl ns e es o3, p.1 ≠ q.1)
    (H3 : ∀ p ∈ o3, ∀ q ∈ (I, it) :: cellsT lg px pdx lv its nl ns e es [], p.1 ≠ q.1)
    {Q' : Flow → Shared → Prop}
    (hQ : ∀ (tw tb tt : Tok) (n : Nat) (top : Str) (h' : Heap) (tk' : Nat) (o1' : Cells) (its' : List Value) (ns' : Nat) (P' : List (Nat × Str)), LexS prog w lx c2 oc2 tot o1' q cs →
      ((P = [] ∧ P' = [] ∧ top = Str.ofString "" ∧ n = 0) ∨ (P = P' ++ [(n, top)])) → PileL o3 its' P' →
      Fr g L h' (mTr (some (.int (0 + (i : Int)) ti)) (some (.str x tw)) (some (.str (blk n) tb)) (some (.str top tt)) lg px wf lx) →
      News g L h' ((I, it) :: cellsT lg px pdx lv its' nl ns' e es (o1' ++ o3)) →
      (∀ p ∈ o1', ∀ q ∈ (I, it) :: cellsT lg px pdx lv its' nl ns' e es o3, p.1 ≠ q.1) →
      wpAny (model prog w) (arT (dp + 1) (un + 3) gd (envT L :: fr)) (execs (turnB.drop 2) (envT L)) Q' (fun _ _ => False) { s with heap := h', toks := tk' }) :
    wpAny (model prog w) (arT (dp + 1) (un + 3) gd (envT L :: fr)) (execs turnB (envT L)) Q' (fun _ _ => False) { s with heap := h, toks := tk } := by
  obtain ⟨X, ⟨p, loose, mean, mg, mb, T⟩, codeHd, codeHd2⟩ := id G
  show wpAny _ _ (execs (List.cons _ (List.cons _ (turnB.drop 2))) _) _ _ _
  generalize hrest : turnB.drop 2 = rest
  unfold envT
  conv in (occs := *) turnSc => all_goals whnf
  obtain ⟨hes1, hes2, hes3, hes4⟩ := hes
  iterate 4 walk1
  refine methGet hx F X N (subC ((List.sublist_append_left o1 o3).trans ?_)) ?_
  · repeat (first | exact List.Sublist.refl _ | refine List.Sublist.cons _ ?_)
  walk1
  refine use (own := o1) (rest := (I, it) :: cellsT lg px pdx lv its nl ns e es o3) (getS hx (by omega)) F N G (subC ((List.sublist_append_left o1 o3).trans ?_)) (subC ?_) H1 (by omega) (by omega) ?_
  · repeat (first | exact List.Sublist.refl _ | refine List.Sublist.cons _ ?_)
  · repeat (first | exact List.sublist_append_right _ _ | refine List.Sublist.cons_cons _ ?_)
  rintro v h2 tk2 o2 ⟨tw, rfl, hx2⟩ F2 N2 H2
  have N3 := cb_drop (news := (I, it) :: cellsT lg px pdx lv its nl ns e es (o2 ++ o3)) N2 (by lcg_sub)
  clear N2 N F H1 hx
  iterate 6 walk1
  rename_i h3 F3 N4 tk3 htk3
  refine methO F3 X N4 (.tail _ (.tail _ (.head _))) (.tail _ (.tail _ (.tail _ (.head _)))) (by k_is) (by k_is) (by k_is) (by k_is) hes2 ?_
  walk1
  obtain ⟨a1, a2, a3, a4, a5, a6⟩ := hap
  have g1 : ∀ q ∈ (I, it) :: (lg, W.listOf lv.toArray nl) :: (o2 ++ o3), q.1 ≠ px := allC (Ne.symm a2) (allC (Ne.symm a4) (offApp (offAt H2 (a := px) (oa := accObj 143 pdx its ns) (by k_mem)) (offAt H3 (a := px) (oa := accObj 143 pdx its ns) (by k_mem))))
  have g2 : ∀ q ∈ (I, it) :: (lg, W.listOf lv.toArray nl) :: (o2 ++ o3), q.1 ≠ pdx := allC (Ne.symm a3) (allC (Ne.symm a5) (offApp (offAt H2 (a := pdx) (oa := dictOf es e) (by k_mem)) (offAt H3 (a := pdx) (oa := dictOf es e) (by k_mem))))
  have hPn := hP.length
  refine use (own := [(px, accObj 143 pdx its ns), (pdx, dictOf es e)]) (rest := (I, it) :: (lg, W.listOf lv.toArray nl) :: (o2 ++ o3)) (accPop hpf hps px pdx a6 hpx its (by omega) ns e es hes1) F3 N4 G
    (subC (.cons _ (.cons _ (.cons_cons _ (.cons_cons _ (List.nil_sublist _)))))) (subC (.cons_cons _ (.cons_cons _ (.cons _ (.cons _ (.refl _)))))) (off2 g1 g2) (by omega) (by omega) ?_
  rintro v h4 tk4 own4 (⟨rfl, tp, t1, t2, rfl, rfl⟩ | ⟨vs, v', rfl, rfl, rfl⟩) F4 N5 H4
  · have N6 := cb_drop (news := (I, it) :: (lg, W.listOf lv.toArray nl) :: (px, accObj 143 pdx [] ns) :: (pdx, dictOf es e) :: (tp, ({ cls := .type "tuple", data := .seq #[.str "" t1, .str "" t2] } : Obj)) :: (o2 ++ o3)) N5 (by lcg_sub)
    clear N5 N4
    refine unpackN_ F4 N6 ⟨_, (N6 _ (.tail _ (.tail _ (.tail _ (.tail _ (.head _)))))).1, rfl, _, rfl⟩ rfl rfl rfl ?_
    intro h5 F5 N7
    clear F4 N6
    iterate 7 walk1
    rename_i h6 F6 N8
    subst hrest
    obtain rfl := hP.nil'
    refine hQ tw t1 t2 0 _ h6 _ o2 [] ns [] hx2 (.inl ⟨rfl, rfl, rfl, rfl⟩) .nil ?_ (cb_drop N8 (by lcg_sub)) H2
    rw [blk0]
    exact frOf F6 mTr_set
  · obtain ⟨P', n, top, p, b, t, rfl, rfl, hP', hm⟩ := hP.last
    have N6 := cb_drop (news := (I, it) :: cellsT lg px pdx lv vs nl (ns + 1) e es (o2 ++ o3)) N5 (by lcg_sub)
    clear N5 N4
    refine unpackN_ F4 N6 ⟨_, (N6 _ (.tail _ (.tail _ (.tail _ (.tail _ (List.mem_append_right _ hm)))))).1, rfl, _, rfl⟩ rfl rfl rfl ?_
    intro h5 F5 N7
    clear F4 N6
    iterate 7 walk1
    rename_i h6 F6 N8
    subst hrest
    exact hQ tw b t n top h6 _ o2 vs (ns + 1) P' hx2 (.inr rfl) hP' (frOf F6 mTr_set) N8 (offMap H2 rfl)
end
end Mine

-- AV3
namespace Mine
theorem NE.len {x : Str} (h : NE x) : 0 < x.length := by
  obtain ⟨c, r, e⟩ := h.cons
  show 0 < x.cps.size
  rw [← Array.length_toList, e]; exact Nat.zero_lt_succ _
/-- what a turn makes of a word -/
noncomputable def StepC (P' : List (Nat × Str)) (Lg : List (Nat × Str × Str)) (n : Nat) (top x : Str) (P2 : List (Nat × Str)) (Lg2 : List (Nat × Str × Str)) (b : Bool) : Prop :=
  (top = Str.ofString "" ∧ P2 = P' ++ [(n + 1, x)] ∧ Lg2 = Lg ∧ b = false) ∨
  (NE top ∧ clS top = clS x ∧ P2 = P' ++ [(n, top)] ++ [(n + 1, x)] ∧ Lg2 = Lg ∧ b = false) ∨
  (NE top ∧ clS top ≠ clS x ∧ P2 = P' ∧ Lg2 = Lg ++ [(n, top, x)] ∧ b = !clS x)
theorem mTr_word {vT vW vB vTop a : Option Value} {lg px wf lx : Addr} (y : Str) : (if y = Str.ofString "word" then a else mTr vT vW vB vTop lg px wf lx y) = mTr vT a vB vTop lg px wf lx y := by
  by_cases h : y = Str.ofString "word"
  · subst h; kernel_rfl
  · unfold mTr; simp only [h, if_false]
theorem h1up {o1 o3 tc : Cells} {I lg px pdx : Addr} {it : Obj} {lv its lv' its' : List Value} {nl ns e nl' ns' : Nat} {es : List DictEntry} (H1 : ∀ p ∈ o1, ∀ q ∈ (I, it) :: cellsT lg px pdx lv its nl ns e es o3, p.1 ≠ q.1) (htc : ∀ p ∈ o1, ∀ q ∈ tc, p.1 ≠ q.1) :
    ∀ p ∈ o1, ∀ q ∈ (I, it) :: cellsT lg px pdx lv' its' nl' ns' e es (tc ++ o3), p.1 ≠ q.1 := fun p hp =>
  allC (H1 p hp (I, it) (.head _)) (allC (H1 p hp (lg, W.listOf lv.toArray nl) (.tail _ (.head _))) (allC (H1 p hp (px, accObj 143 pdx its ns) (.tail _ (.tail _ (.head _)))) (allC (H1 p hp (pdx, dictOf es e) (.tail _ (.tail _ (.tail _ (.head _))))) (allA (htc p hp) fun q hq => H1 p hp q (.tail _ (.tail _ (.tail _ (.tail _ hq))))))))
theorem h3up {o3 tc : Cells} {I lg px pdx : Addr} {it : Obj} {lv its lv' its' : List Value} {nl ns e nl' ns' : Nat} {es : List DictEntry} (H3 : ∀ p ∈ o3, ∀ q ∈ (I, it) :: cellsT lg px pdx lv its nl ns e es [], p.1 ≠ q.1)
    (htc : ∀ p ∈ tc, @Ne Nat p.1 I ∧ @Ne Nat p.1 lg ∧ @Ne Nat p.1 px ∧ @Ne Nat p.1 pdx) : ∀ p ∈ tc ++ o3, ∀ q ∈ (I, it) :: cellsT lg px pdx lv' its' nl' ns' e es [], p.1 ≠ q.1 :=
  allA (fun p hp => by obtain ⟨a, b, c, d⟩ := htc p hp; exact allC a (allC b (allC c (allC d allN)))) (offMap H3 rfl)
theorem clsNe {h : Heap} {a b : Addr} {oa ob : Obj} (ha : h.get? a = some oa) (hb : h.get? b = some ob) (hc : oa.cls ≠ ob.cls) : @Ne Nat a b := fun e => hc (by
  have e : a = b := e
  subst e; rw [ha] at hb; cases hb; rfl)
section
variable {prog : Program} {w : World} {g : Heap} {L : Addr} {dp un : Nat} {gd : Option (List Code)} {fr : List Env} {E : Value → Shared → Prop}
theorem turnC (G : Gd (KH w.params) g) (hdp : dp + 20 < recursionLimit) (hun : un + 400 < cLine) {lg px pdx I lx c2 wf : Addr} {it oc2 : Obj} {lv its : List Value} {nl ns e : Nat} {es : List DictEntry}
    {i : Nat} {ti tw tb tt : Tok} {tot : Int} {cs : List Nat} {o1 o3 : Cells} {x top : Str} {q : List Str} {P' P2 : List (Nat × Str)} {Lg Lg2 : List (Nat × Str × Str)} {n : Nat} {b : Bool} {tab : List (Nat × List Nat)} {s : Shared} {h : Heap} {tk : Nat}
    (hx : LexS prog w lx c2 oc2 tot o1 q cs) (hw : Writes1 prog w wf tab) (hkeep : keepIn (KH w.params) (.ref wf) = true) (hxl : x.cps.size ≤ 100000) (hne : NE x) (hn : n < 100) (hP : PileL o3 its P') (hPl : P'.length < 100) (hL : LogL o3 lv Lg) (hLl : Lg.length < 100) (hes : EsOk es)
    (hc : StepC P' Lg n top x P2 Lg2 b)
    (F : Fr g L h (mTr (some (.int (0 + (i : Int)) ti)) (some (.str x tw)) (some (.str (blk n) tb)) (some (.str top tt)) lg px wf lx))
    (N : News g L h ((I, it) :: cellsT lg px pdx lv its nl ns e es (o1 ++ o3)))
    (hap : @Ne Nat lg I ∧ @Ne Nat px I ∧ @Ne Nat pdx I ∧ @Ne Nat px lg ∧ @Ne Nat pdx lg ∧ @Ne Nat px pdx)
    (H1 : ∀ p ∈ o1, ∀ q ∈ (I, it) :: cellsT lg px pdx lv its nl ns e es o3, p.1 ≠ q.1)
    (H3 : ∀ p ∈ o3, ∀ q ∈ (I, it) :: cellsT lg px pdx lv its nl ns e es [], p.1 ≠ q.1)
    {Q' : Flow → Shared → Prop}
    (hQ : ∀ (tw' : Tok) (h' : Heap) (tk' : Nat) (lv' its' : List Value) (nl' ns' : Nat) (tc : Cells), PileL (tc ++ o3) its' P2 → LogL (tc ++ o3) lv' Lg2 →
      Fr g L h' (mTr (some (.int (0 + (i : Int)) ti)) (some (.str (if b then subT tab x else x) tw')) (some (.str (blk n) tb)) (some (.str top tt)) lg px wf lx) →
      News g L h' ((I, it) :: cellsT lg px pdx lv' its' nl' ns' e es (o1 ++ (tc ++ o3))) →
      (∀ p ∈ o1, ∀ q ∈ (I, it) :: cellsT lg px pdx lv' its' nl' ns' e es (tc ++ o3), p.1 ≠ q.1) →
      (∀ p ∈ tc ++ o3, ∀ q ∈ (I, it) :: cellsT lg px pdx lv' its' nl' ns' e es [], p.1 ≠ q.1) →
      wpAny (model prog w) (arT (dp + 1) (un + 3) gd (envT L :: fr)) (execs (turnB.drop 3) (envT L)) Q' (fun _ _ => False) { s with heap := h', toks := tk' }) :
    wpAny (model prog w) (arT (dp + 1) (un + 3) gd (envT L :: fr)) (execs (turnB.drop 2) (envT L)) Q' (fun _ _ => False) { s with heap := h, toks := tk } := by
  obtain ⟨X, ⟨p, loose, mean, mg, mb, T⟩, codeHd, codeHd2⟩ := id G
  show wpAny _ _ (execs (List.cons _ (turnB.drop 3)) _) _ _ _
  generalize hrest : turnB.drop 3 = rest at *
  unfold envT at hQ ⊢
  conv in (occs := *) turnSc => all_goals whnf
  obtain ⟨hes1, hes2, hes3, hes4⟩ := hes
  have hPn := hP.length
  have hLn := hL.length
  have hix := hne.item
  have hx0 := hne.len
  have hl1 : (blk n).length ≤ 100 := by rw [blk_len]; omega
  obtain ⟨a1, a2, a3, a4, a5, a6⟩ := hap
  rcases hc with ⟨rfl, rfl, rfl, rfl⟩ | ⟨h1, h2, rfl, rfl, rfl⟩ | ⟨h1, h2, rfl, rfl, rfl⟩
  · iterate 25 walk1
    refine methO F X N (.tail _ (.tail _ (.head _))) (.tail _ (.tail _ (.tail _ (.head _)))) (by k_is) (by k_is) (by k_is) (by k_is) hes3 ?_
    iterate 10 walk1
    rename_i tb1 kz1 kn1
    clear kn1
    have g1 : ∀ q ∈ (I, it) :: (lg, W.listOf lv.toArray nl) :: (o1 ++ o3), q.1 ≠ px := allC (Ne.symm a2) (allC (Ne.symm a4) (offApp (offAt H1 (a := px) (oa := accObj 143 pdx its ns) (by k_mem)) (offAt H3 (a := px) (oa := accObj 143 pdx its ns) (by k_mem))))
    have g2 : ∀ q ∈ (I, it) :: (lg, W.listOf lv.toArray nl) :: (o1 ++ o3), q.1 ≠ pdx := allC (Ne.symm a3) (allC (Ne.symm a5) (offApp (offAt H1 (a := pdx) (oa := dictOf es e) (by k_mem)) (offAt H3 (a := pdx) (oa := dictOf es e) (by k_mem))))
    rw [blkS]
    refine use (own := [(px, accObj 143 pdx its ns), (pdx, dictOf es e)]) (rest := (I, it) :: (lg, W.listOf lv.toArray nl) :: (o1 ++ o3)) (push px pdx its ns e es (blk (n + 1)) x _ _ a6 hes4 (by omega)) F N G
      (subC (.cons _ (.cons _ (.cons_cons _ (.cons_cons _ (List.nil_sublist _)))))) (subC (.cons_cons _ (.cons_cons _ (.cons _ (.cons _ (.refl _)))))) (off2 g1 g2) (by omega) (by omega) ?_
    rintro v h2 tk2 own2 ⟨rfl, p1, np1, rfl⟩ F2 N2 H2
    have n1 : ∀ q ∈ (I, it) :: (lg, W.listOf lv.toArray nl) :: (o1 ++ o3), p1 ≠ q.1 := H2 (p1, _) (.tail _ (.tail _ (.head _)))
    have n2 : @Ne Nat p1 pdx := clsNe (N2 (p1, _) (List.mem_append_left _ (.tail _ (.tail _ (.head _))))).1 (N2 (pdx, _) (List.mem_append_left _ (.tail _ (.head _)))).1 (by simp)
    iterate 1 walk1
    dsimp only
    have hP2 : PileL ([(p1, tupB (n + 1) x tb1 tw)] ++ o3) (its ++ [.ref p1]) (P' ++ [(n + 1, x)]) := .snoc (hP.mono fun _ h => .tail _ h) (.head _)
    exact hQ tw h2 _ lv (its ++ [.ref p1]) nl (ns + 1) [(p1, tupB (n + 1) x tb1 tw)] hP2 (hL.mono fun _ h => .tail _ h) F2 (cb_drop N2 (by lcg_sub))
      (h1up H1 fun p hp => allC (n1 p (.tail _ (.tail _ (List.mem_append_left _ hp)))).symm allN) (h3up H3 (allC ⟨n1 _ (.head _), n1 _ (.tail _ (.head _)), np1, n2⟩ allN))
  · have hit := h1.item
    have hb := h1.bne
    have ht0 := h1.len
    have hcc : (clS top != clS x) = false := by rw [h2]; simp
    iterate 26 walk1
    rw [hcc]
    iterate 17 walk1
    have g1 : ∀ q ∈ (I, it) :: (lg, W.listOf lv.toArray nl) :: (o1 ++ o3), q.1 ≠ px := allC (Ne.symm a2) (allC (Ne.symm a4) (offApp (offAt H1 (a := px) (oa := accObj 143 pdx its ns) (by k_mem)) (offAt H3 (a := px) (oa := accObj 143 pdx its ns) (by k_mem))))
    have g2 : ∀ q ∈ (I, it) :: (lg, W.listOf lv.toArray nl) :: (o1 ++ o3), q.1 ≠ pdx := allC (Ne.symm a3) (allC (Ne.symm a5) (offApp (offAt H1 (a := pdx) (oa := dictOf es e) (by k_mem)) (offAt H3 (a := pdx) (oa := dictOf es e) (by k_mem))))
    refine methO F X N (.tail _ (.tail _ (.head _))) (.tail _ (.tail _ (.tail _ (.head _)))) (by k_is) (by k_is) (by k_is) (by k_is) hes3 ?_
    iterate 7 walk1
    refine use (own := [(px, accObj 143 pdx its ns), (pdx, dictOf es e)]) (rest := (I, it) :: (lg, W.listOf lv.toArray nl) :: (o1 ++ o3)) (push px pdx its ns e es (blk n) top _ _ a6 hes4 (by omega)) F N G
      (subC (.cons _ (.cons _ (.cons_cons _ (.cons_cons _ (List.nil_sublist _)))))) (subC (.cons_cons _ (.cons_cons _ (.cons _ (.cons _ (.refl _)))))) (off2 g1 g2) (by omega) (by omega) ?_
    rintro v h2' tk2 own2 ⟨rfl, p1, np1, rfl⟩ F2 N2 H2
    have n1 : ∀ q ∈ (I, it) :: (lg, W.listOf lv.toArray nl) :: (o1 ++ o3), p1 ≠ q.1 := H2 (p1, _) (.tail _ (.tail _ (.head _)))
    have n2 : @Ne Nat p1 pdx := clsNe (N2 (p1, _) (List.mem_append_left _ (.tail _ (.tail _ (.head _))))).1 (N2 (pdx, _) (List.mem_append_left _ (.tail _ (.head _)))).1 (by simp)
    have N3 := cb_drop (news := (I, it) :: cellsT lg px pdx lv (its ++ [.ref p1]) nl (ns + 1) e es (o1 ++ ((p1, tupB n top tb tt) :: o3))) N2 (by lcg_sub)
    clear N2 N F
    iterate 5 walk1
    refine methO F2 X N3 (.tail _ (.tail _ (.head _))) (.tail _ (.tail _ (.tail _ (.head _)))) (by k_is) (by k_is) (by k_is) (by k_is) hes3 ?_
    iterate 10 walk1
    rename_i tb1 kz1 kn1
    clear kn1
    rw [blkS]
    refine use (own := [(px, accObj 143 pdx (its ++ [.ref p1]) (ns + 1)), (pdx, dictOf es e)]) (rest := (I, it) :: (lg, W.listOf lv.toArray nl) :: (o1 ++ ((p1, tupB n top tb tt) :: o3))) (push px pdx (its ++ [.ref p1]) (ns + 1) e es (blk (n + 1)) x _ _ a6 hes4 (by rw [List.length_append]; show its.length + 1 < _; omega)) F2 N3 G
      (subC (.cons _ (.cons _ (.cons_cons _ (.cons_cons _ (List.nil_sublist _)))))) (subC (.cons_cons _ (.cons_cons _ (.cons _ (.cons _ (.refl _))))))
      (off2 (allC (g1 _ (.head _)) (allC (g1 _ (.tail _ (.head _))) (allA (fun q hq => g1 q (.tail _ (.tail _ (List.mem_append_left _ hq)))) (allC np1 fun q hq => g1 q (.tail _ (.tail _ (List.mem_append_right _ hq)))))))
        (allC (g2 _ (.head _)) (allC (g2 _ (.tail _ (.head _))) (allA (fun q hq => g2 q (.tail _ (.tail _ (List.mem_append_left _ hq)))) (allC n2 fun q hq => g2 q (.tail _ (.tail _ (List.mem_append_right _ hq)))))))) (by omega) (by omega) ?_
    rintro v h3 tk3 own3 ⟨rfl, p2, np2, rfl⟩ F3 N4 H4
    have m1 : ∀ q ∈ (I, it) :: (lg, W.listOf lv.toArray nl) :: (o1 ++ ((p1, tupB n top tb tt) :: o3)), p2 ≠ q.1 := H4 (p2, _) (.tail _ (.tail _ (.head _)))
    have m2 : @Ne Nat p2 pdx := clsNe (N4 (p2, _) (List.mem_append_left _ (.tail _ (.tail _ (.head _))))).1 (N4 (pdx, _) (List.mem_append_left _ (.tail _ (.head _)))).1 (by simp)
    iterate 1 walk1
    dsimp only
    have hP2 : PileL ([(p2, tupB (n + 1) x tb1 tw), (p1, tupB n top tb tt)] ++ o3) (its ++ [.ref p1]) (P' ++ [(n, top)]) := .snoc (hP.mono fun _ h => .tail _ (.tail _ h)) (.tail _ (.head _))
    have hP3 : PileL ([(p2, tupB (n + 1) x tb1 tw), (p1, tupB n top tb tt)] ++ o3) (its ++ [.ref p1] ++ [.ref p2]) (P' ++ [(n, top)] ++ [(n + 1, x)]) := .snoc hP2 (.head _)
    exact hQ tw h3 _ lv (its ++ [.ref p1] ++ [.ref p2]) nl (ns + 1 + 1) [(p2, tupB (n + 1) x tb1 tw), (p1, tupB n top tb tt)] hP3 (hL.mono fun _ h => .tail _ (.tail _ h)) F3 (cb_drop N4 (by lcg_sub))
      (h1up H1 fun p hp => allC (m1 p (.tail _ (.tail _ (List.mem_append_left _ hp)))).symm (allC (n1 p (.tail _ (.tail _ (List.mem_append_left _ hp)))).symm allN)) (h3up H3 (allC ⟨m1 _ (.head _), m1 _ (.tail _ (.head _)), np2, m2⟩ (allC ⟨n1 _ (.head _), n1 _ (.tail _ (.head _)), np1, n2⟩ allN)))
  · have hit := h1.item
    have hb := h1.bne
    have ht0 := h1.len
    have hcc : (clS top != clS x) = true := by simpa using h2
    have gl : ∀ q ∈ o1 ++ o3, q.1 ≠ lg := offApp (offAt H1 (a := lg) (oa := W.listOf lv.toArray nl) (by k_mem)) (offAt H3 (a := lg) (oa := W.listOf lv.toArray nl) (by k_mem))
    iterate 26 walk1
    rw [hcc]
    iterate 40 walk1
    · refine callWith_K X hkeep ?_
      iterate 4 walk1
      rename_i D h1' l1 h2' F2 N2 i1 hop tk3 hk3
      clear hk3 i1
      have hcx : clS x = false := by
        have : (!(Txt.item x 0 == Str.ofString ".")) = true := hop
        rw [hix] at this; simpa using this
      obtain ⟨d1, d2, d3, d4, d5⟩ := l1
      rw [show lv.toArray.push (Value.ref D) = (lv ++ [Value.ref D]).toArray by simp] at N2
      refine use (own := []) (hw x tw hxl) F2 N2 G (fun _ hp => nomatch hp) (fun _ hp => hp) (fun _ hp => nomatch hp) (by omega) (by omega) ?_
      rintro v h4 tk4 own4 ⟨t', rfl, rfl⟩ F4 N4 -
      rw [List.nil_append] at N4
      clear N2 F2
      iterate 4 walk1
      rename_i h5 F5 N5
      dsimp only
      have hL2 : LogL ([(D, tupL n top x tb tt tw)] ++ o3) (lv ++ [.ref D]) (Lg ++ [(n, top, x)]) := .snoc (hL.mono fun _ h => .tail _ h) (.head _)
      refine hQ t' h5 _ (lv ++ [.ref D]) its (nl + 1) ns [(D, tupL n top x tb tt tw)] (hP.mono fun _ h => .tail _ h) hL2 ?_ (cb_drop N5 (by lcg_sub))
        (h1up H1 fun p hp => allC (Nat.ne_of_lt (allLt_at d5 (List.mem_append_left _ hp))) allN) (h3up H3 (allC ⟨Nat.ne_of_gt d1, Nat.ne_of_gt d2, Nat.ne_of_gt d3, Nat.ne_of_gt d4⟩ allN))
      rw [hcx]
      exact frOf F5 mTr_word
    · iterate 3 walk1
      rename_i D h1' l1 h2' F2 N2 tk3 i1 hop
      clear i1
      have hcx : clS x = true := by
        have : (!(Txt.item x 0 == Str.ofString ".")) = false := hop
        rw [hix] at this; simpa using this
      obtain ⟨d1, d2, d3, d4, d5⟩ := l1
      rw [show lv.toArray.push (Value.ref D) = (lv ++ [Value.ref D]).toArray by simp] at N2
      dsimp only
      have hL2 : LogL ([(D, tupL n top x tb tt tw)] ++ o3) (lv ++ [.ref D]) (Lg ++ [(n, top, x)]) := .snoc (hL.mono fun _ h => .tail _ h) (.head _)
      refine hQ tw h2' _ (lv ++ [.ref D]) its (nl + 1) ns [(D, tupL n top x tb tt tw)] (hP.mono fun _ h => .tail _ h) hL2 ?_ (cb_drop N2 (by lcg_sub))
        (h1up H1 fun p hp => allC (Nat.ne_of_lt (allLt_at d5 (List.mem_append_left _ hp))) allN) (h3up H3 (allC ⟨Nat.ne_of_gt d1, Nat.ne_of_gt d2, Nat.ne_of_gt d3, Nat.ne_of_gt d4⟩ allN))
      rw [hcx]
      exact F2
end
end Mine

-- AV4
namespace Mine
noncomputable def outW (tab : List (Nat × List Nat)) (o : List (Str × Bool)) : List Str := o.map fun q => if q.2 then subT tab q.1 else q.1
theorem step_c {st : TS Str} {P' : List (Nat × Str)} {n : Nat} {top x : Str} (h : (st.pile = [] ∧ P' = [] ∧ top = Str.ofString "" ∧ n = 0) ∨ (st.pile = P' ++ [(n, top)])) (hne : ∀ q ∈ st.pile, NE q.2) :
    ∃ b, StepC P' st.log n top x (stepT clS st x).pile (stepT clS st x).log b ∧ (stepT clS st x).out = st.out ++ [(x, b)] := by
  obtain ⟨P, Lg, O⟩ := st
  rcases h with ⟨h, rfl, rfl, rfl⟩ | h
  · dsimp only at h
    subst h
    exact ⟨false, .inl ⟨rfl, rfl, rfl, rfl⟩, rfl⟩
  · dsimp only at h
    subst h
    have hn : NE top := hne (n, top) (List.mem_append_right _ (.head _))
    have e : (P' ++ [(n, top)]).getLast? = some (n, top) := by simp
    by_cases hc : clS top = clS x
    · have hb : (clS top != clS x) = false := by rw [hc]; simp
      have hs : stepT clS ⟨P' ++ [(n, top)], Lg, O⟩ x = ⟨P' ++ [(n, top)] ++ [(n + 1, x)], Lg, O ++ [(x, false)]⟩ := by
        unfold stepT; simp only [e, hb]; rfl
      exact ⟨false, .inr (.inl ⟨hn, hc, by rw [hs], by rw [hs], rfl⟩), by rw [hs]⟩
    · have hb : (clS top != clS x) = true := by simpa using hc
      have hs : stepT clS ⟨P' ++ [(n, top)], Lg, O⟩ x = ⟨P', Lg ++ [(n, top, x)], O ++ [(x, !clS x)]⟩ := by
        unfold stepT; simp only [e, hb, if_true, List.dropLast_concat]
      exact ⟨!clS x, .inr (.inr ⟨hn, hc, by rw [hs], by rw [hs], rfl⟩), by rw [hs]⟩
section
variable {prog : Program} {w : World} {g : Heap} {L : Addr} {dp un : Nat} {gd : Option (List Code)} {fr : List Env} {E : Value → Shared → Prop}
theorem turnD (G : Gd (KH w.params) g) (hdp : dp + 20 < recursionLimit) (hun : un + 400 < cLine) {lg px pdx I lx c2 wf : Addr} {it oc2 : Obj} {lv its : List Value} {nl ns e : Nat} {es : List DictEntry} {vT vB vTop : Option Value}
    {tw : Tok} {tot : Int} {cs : List Nat} {o1 o3 : Cells} {x : Str} {q : List Str} {s : Shared} {h : Heap} {tk : Nat}
    (hx : LexS prog w lx c2 oc2 tot o1 q cs) (hq : q.length < 900)
    (F : Fr g L h (mTr vT (some (.str x tw)) vB vTop lg px wf lx))
    (N : News g L h ((I, it) :: cellsT lg px pdx lv its nl ns e es (o1 ++ o3)))
    (H1 : ∀ p ∈ o1, ∀ q ∈ (I, it) :: cellsT lg px pdx lv its nl ns e es o3, p.1 ≠ q.1)
    {Q' : Flow → Shared → Prop}
    (hQ : ∀ (h' : Heap) (tk' : Nat) (o1' : Cells), LexS prog w lx c2 oc2 tot o1' (q ++ [x]) cs →
      Fr g L h' (mTr vT (some (.str x tw)) vB vTop lg px wf lx) →
      News g L h' ((I, it) :: cellsT lg px pdx lv its nl ns e es (o1' ++ o3)) →
      (∀ p ∈ o1', ∀ q ∈ (I, it) :: cellsT lg px pdx lv its nl ns e es o3, p.1 ≠ q.1) → Q' .next { s with heap := h', toks := tk' }) :
    wpAny (model prog w) (arT (dp + 1) (un + 3) gd (envT L :: fr)) (execs (turnB.drop 3) (envT L)) Q' (fun _ _ => False) { s with heap := h, toks := tk } := by
  obtain ⟨X, ⟨p, loose, mean, mg, mb, T⟩, codeHd, codeHd2⟩ := id G
  conv => arg 3; arg 1; whnf
  unfold envT
  conv in (occs := *) turnSc => all_goals whnf
  iterate 4 walk1
  refine methPush hx F X N (subC ((List.sublist_append_left o1 o3).trans ?_)) ?_
  · repeat (first | exact List.Sublist.refl _ | refine List.Sublist.cons _ ?_)
  iterate 5 walk1
  refine use (own := o1) (rest := (I, it) :: cellsT lg px pdx lv its nl ns e es o3) (pushS hx (by omega) x tw) F N G (subC ((List.sublist_append_left o1 o3).trans ?_)) (subC ?_) H1 (by omega) (by omega) ?_
  · repeat (first | exact List.Sublist.refl _ | refine List.Sublist.cons _ ?_)
  · repeat (first | exact List.sublist_append_right _ _ | refine List.Sublist.cons_cons _ ?_)
  rintro v h2 tk2 o2 ⟨rfl, hx2⟩ F2 N2 H2
  dsimp only
  iterate 1 walk1
  exact hQ h2 _ o2 hx2 F2 (cb_drop N2 (by lcg_sub)) H2
end
structure FixT where
  (lg px pdx lx c2 wf : Addr)
  (oc2 : Obj)
  (e : Nat)
  (es : List DictEntry)
  (tot : Int)
  (cs : List Nat)
  (ws : List Str)
  (tab : List (Nat × List Nat))
noncomputable def stt (ws : List Str) (i : Nat) : TS Str := (ws.take i).foldl (stepT clS) ts0
theorem stt_succ {ws : List Str} {i : Nat} {x : Str} (h : ws[i]? = some x) : stt ws (i + 1) = stepT clS (stt ws i) x := by
  unfold stt
  rw [List.take_add_one, h, List.foldl_append]; rfl
theorem stt_ok {ws : List Str} (h : ∀ x ∈ ws, NE x) {i : Nat} (hi : i ≤ ws.length) : TOk i (stt ws i) := by
  have := TOk.fold (ws.take i) 0 ts0 .zero fun x hx => h x (List.mem_of_mem_take hx)
  rw [List.length_take, Nat.min_eq_left hi, Nat.zero_add] at this
  exact this
noncomputable def TurnInv (prog : Program) (w : World) (z : FixT) (I : Addr) (i : Nat) (m : Str → Option Value) (news : Cells) : Prop :=
  ∃ (vT vW vB vTop : Option Value) (lv its : List Value) (nl ns : Nat) (o1 o3 : Cells), m = mTr vT vW vB vTop z.lg z.px z.wf z.lx ∧ news = cellsT z.lg z.px z.pdx lv its nl ns z.e z.es (o1 ++ o3) ∧
    LexS prog w z.lx z.c2 z.oc2 z.tot o1 (z.ws.drop i ++ outW z.tab (stt z.ws i).out) z.cs ∧ PileL o3 its (stt z.ws i).pile ∧ LogL o3 lv (stt z.ws i).log ∧
    (∀ p ∈ o1, ∀ q ∈ dum I :: cellsT z.lg z.px z.pdx lv its nl ns z.e z.es o3, p.1 ≠ q.1) ∧ (∀ p ∈ o3, ∀ q ∈ dum I :: cellsT z.lg z.px z.pdx lv its nl ns z.e z.es [], p.1 ≠ q.1)
theorem mTr_turn {vT vW vB vTop a : Option Value} {lg px wf lx : Addr} (y : Str) : (if y = Str.ofString "turn" then a else mTr vT vW vB vTop lg px wf lx y) = mTr a vW vB vTop lg px wf lx y := by
  by_cases h : y = Str.ofString "turn"
  · subst h; kernel_rfl
  · unfold mTr; simp only [h, if_false]
theorem outLen {ws : List Str} : ∀ (l : List Str) (s : TS Str), (l.foldl (stepT clS) s).out.length = s.out.length + l.length
  | [], s => rfl
  | x :: l, s => by
    rw [List.foldl_cons, outLen (ws := ws) l]
    have : (stepT clS s x).out.length = s.out.length + 1 := by
      unfold stepT
      cases s.pile.getLast? with
      | none => simp
      | some q =>
        dsimp only
        cases clS q.2 != clS x <;> simp
    rw [this, List.length_cons]; omega
section
variable {prog : Program} {w : World} {g : Heap} {L : Addr} {dp un : Nat} {gd : Option (List Code)} {fr : List Env} {E : Value → Shared → Prop}
theorem turnStep (hpf : ((prog.main.file : Str) == ("/claim/cut.py" : Str)) = true) (hps : (prog.main.scope.names.lookup ("super" : Str)).isSome = false) (G : Gd (KH w.params) g) (hdp : dp + 20 < recursionLimit) (hun : un + 400 < cLine) (z : FixT)
    (hw : Writes1 prog w z.wf z.tab) (hkeep : keepIn (KH w.params) (.ref z.wf) = true) (hws : z.ws.length ≤ 8) (hne : ∀ x ∈ z.ws, NE x ∧ x.cps.size ≤ 100000) (hes : EsOk z.es) (hpx : z.px ≠ 143)
    {I : Addr} (hap : @Ne Nat z.lg I ∧ @Ne Nat z.px I ∧ @Ne Nat z.pdx I ∧ @Ne Nat z.px z.lg ∧ @Ne Nat z.pdx z.lg ∧ @Ne Nat z.px z.pdx)
    {i : Nat} {t : Tok} {m : Str → Option Value} {news : Cells} (hi : i < z.ws.length) (J : TurnInv prog w z I i m news) {it : Obj} {s : Shared} {h : Heap} {tk : Nat}
    (F : Fr g L h (fun y => if y = "turn" then some (.int (0 + (i : Int)) t) else m y)) (N : News g L h ((I, it) :: news)) {Q' : Flow → Shared → Prop}
    (hQ : ∀ h' tk' m' news', TurnInv prog w z I (i + 1) m' news' → Fr g L h' m' → News g L h' ((I, it) :: news') → (∀ p ∈ news', p.1 ≠ I) → Q' .next { s with heap := h', toks := tk' }) :
    wpAny (model prog w) (arT (dp + 1) (un + 3) gd (envT L :: fr)) (execs turnB (envT L)) Q' (fun _ _ => False) { s with heap := h, toks := tk } := by
  obtain ⟨vT, vW, vB, vTop, lv, its, nl, ns, o1, o3, rfl, rfl, hx, hP, hL, H1, H3⟩ := J
  obtain ⟨x, hxi⟩ : ∃ x, z.ws[i]? = some x := ⟨_, List.getElem?_eq_getElem hi⟩
  have hxm : x ∈ z.ws := List.mem_of_getElem? hxi
  have hud : z.ws.drop i = x :: z.ws.drop (i + 1) := by
    rw [List.drop_eq_getElem_cons hi]
    congr 1
    rw [List.getElem?_eq_getElem hi] at hxi
    exact Option.some.inj hxi
  have ok := stt_ok (fun x hx => (hne x hx).1) (Nat.le_of_lt hi)
  have ol : (outW z.tab (stt z.ws i).out).length ≤ 8 := by
    unfold outW stt
    rw [List.length_map, outLen (ws := z.ws), List.length_take]
    show 0 + _ ≤ _
    omega
  rw [hud] at hx
  have lq : (z.ws.drop (i + 1) ++ outW z.tab (stt z.ws i).out).length < 100 := by rw [List.length_append, List.length_drop]; omega
  have opl := ok.pl
  have oll := ok.ll
  refine turnA (s := s) (it := it) hpf hps G hdp hun (q := z.ws.drop (i + 1) ++ outW z.tab (stt z.ws i).out) hx (by omega) hP (by omega) hes hpx F N hap (offMap H1 rfl) (offMap H3 rfl) ?_
  intro tw tb tt n top h1 tk1 o1' its' ns' P' hx1 hcase hP' F1 N1 H1'
  obtain ⟨b, hC, hout⟩ := step_c (x := x) hcase fun q hq => (ok.pn q hq).2
  have hnl : n < 100 := by
    rcases hcase with ⟨-, -, -, rfl⟩ | hcase
    · decide
    · have := (ok.pn (n, top) (by rw [hcase]; exact List.mem_append_right _ (.head _))).1
      exact Nat.lt_of_le_of_lt this (by omega)
  have hPl : P'.length < 100 := by
    rcases hcase with ⟨-, rfl, -⟩ | hcase
    · decide
    · rw [hcase, List.length_append] at opl; omega
  refine turnC (s := s) (it := it) G hdp hun hx1 hw hkeep (hne x hxm).2 (hne x hxm).1 hnl hP' hPl hL (by omega) hes hC F1 N1 hap H1' (offMap H3 rfl) ?_
  intro tw' h2 tk2 lv2 its2 nl2 ns2 tc hP2 hL2 F2 N2 H1'' H3''
  refine turnD (s := s) (it := it) G hdp hun hx1 (by omega) F2 N2 H1'' ?_
  intro h3 tk3 o1''' hx3 F3 N3 H13
  refine hQ h3 tk3 _ _ ⟨_, _, _, _, lv2, its2, nl2, ns2, o1''', tc ++ o3, rfl, rfl, ?_, ?_, ?_, offMap H13 rfl, offMap H3'' rfl⟩ F3 N3 ?_
  · rw [stt_succ hxi, hout]
    unfold outW at hx3 ⊢
    rw [List.map_append, ← List.append_assoc]
    exact hx3
  · rw [stt_succ hxi]; exact hP2
  · rw [stt_succ hxi]; exact hL2
  · obtain ⟨a1, a2, a3, -⟩ := hap
    exact allC a1 (allC a2 (allC a3 (allA (fun p hp => H13 p hp _ (.head _)) fun p hp => H3'' p hp _ (.head _))))
end
end Mine

-- AV5
namespace Mine
noncomputable def turnS (ws : List Str) : TS Str := ws.foldl (stepT clS) ts0
noncomputable def TurnR (prog : Program) (w : World) (lx c2 : Addr) (oc2 : Obj) (tot : Int) (cs : List Nat) (tab : List (Nat × List Nat)) (ws : List Str) (r : Value) (own : Cells) : Prop :=
  ∃ (lg : Addr) (lv : List Value) (k : Nat) (o1 o3 : Cells), r = .ref lg ∧ own = (lg, W.listOf lv.toArray k) :: (o1 ++ o3) ∧ LexS prog w lx c2 oc2 tot o1 (outW tab (turnS ws).out) cs ∧ LogL o3 lv (turnS ws).log ∧ TOk ws.length (turnS ws)
theorem mTr_none {lg px wf lx : Addr} (y : Str) : (if y = Str.ofString "log" then some (Value.ref lg) else if y = Str.ofString "pile" then some (Value.ref px) else List.lookup y [(Str.ofString "lexer", Value.ref lx), (Str.ofString "write", Value.ref wf)].reverse) = mTr none none none none lg px wf lx y := by
  by_cases h1 : y = Str.ofString "top"
  · subst h1; kernel_rfl
  · by_cases h2 : y = Str.ofString "blanks"
    · subst h2; kernel_rfl
    · by_cases h3 : y = Str.ofString "word"
      · subst h3; kernel_rfl
      · by_cases h4 : y = Str.ofString "turn"
        · subst h4; kernel_rfl
        · by_cases h5 : y = Str.ofString "log"
          · subst h5; kernel_rfl
          · by_cases h6 : y = Str.ofString "pile"
            · subst h6; kernel_rfl
            · unfold mTr
              simp only [h1, h2, h3, h4, h5, h6, if_false]
              by_cases h7 : y = Str.ofString "write"
              · subst h7; kernel_rfl
              · rw [if_neg h7]
                show List.lookup y [(Str.ofString "write", Value.ref wf), (Str.ofString "lexer", Value.ref lx)] = _
                rw [List.lookup_cons, show (y == Str.ofString "write") = false from beq_eq_false_iff_ne.mpr h7]; exact look1 rfl
theorem turnW {prog : Program} {w : World} (hpf : ((prog.main.file : Str) == ("/claim/cut.py" : Str)) = true) (hps : (prog.main.scope.names.lookup ("super" : Str)).isSome = false)
    (lx c2 wf : Addr) (oc2 : Obj) (tot : Int) (cs : List Nat) (o1 : Cells) (ws : List Str) (tab : List (Nat × List Nat)) (hx : LexS prog w lx c2 oc2 tot o1 ws cs)
    (hw : Writes1 prog w wf tab) (hkeep : keepIn (KH w.params) (.ref wf) = true) (hws : ws.length = 8) (hne : ∀ x ∈ ws, NE x ∧ x.cps.size ≤ 100000) :
   Does (KH w.params) prog w 24 234 [.ref lx, .ref wf] o1 (TurnR prog w lx c2 oc2 tot cs tab ws) := by
  refine enterT (binds := [("lexer", .ref lx), ("write", .ref wf)]) (by k_is) (by k_is) (fun s X => BindsTo.of_eq rfl) (locs rfl) ?_
  intro dp un gd fr g L s PP hP' G F N l0 hdp hun hT
  obtain ⟨X, ⟨p, loose, mean, mg, mb, T⟩, codeHd, codeHd2⟩ := id G
  have hV : VMark := trivial
  refine wpAny_execs_cons ?_
  iterate 4 walk1
  refine accNew hpf hps F N G (by omega) (by omega) ?_
  intro px pdx h3 tk3 st su F3 N3 n2 f1 f2
  k_lt2 f2
  iterate 15 walk1
  rename_i h40 lg h41 l4 h5 F5 N5 Q2 hq2 hr2 h6 tk6 t6 u6 v6 hR F6 N6 hk6
  clear F5 N5 hk6
  obtain ⟨l41, l42, l43⟩ := l4
  have e3 : @LT.lt Nat _ pdx px := f2
  have e1 : @LT.lt Nat _ px lg := l41
  have e2 : @LT.lt Nat _ pdx lg := l42
  have b1 : @Ne Nat px lg := by omega
  have b2 : @Ne Nat pdx lg := by omega
  have b3 : @Ne Nat px pdx := by omega
  dsimp only at hR ⊢
  refine rangeForI (n := 8) rfl F6 N6 hR (by decide) (by decide) (fun I i m news => TurnInv prog w ⟨lg, px, pdx, lx, c2, wf, oc2, 1, [⟨PyData.keyHash w.params "_initial_size", .str "_initial_size" st, .int 0 su⟩], tot, cs, ws, tab⟩ I i m news ∧ (@Ne Nat lg I ∧ @Ne Nat px I ∧ @Ne Nat pdx I)) ?_ ?_ ?_
  · intro I hI
    have i1 : @Ne Nat lg I := Nat.ne_of_lt (hI (lg, _) (.head _))
    have i2 : @Ne Nat px I := Nat.ne_of_lt (hI (px, _) (.tail _ (.head _)))
    have i3 : @Ne Nat pdx I := Nat.ne_of_lt (hI (pdx, _) (.tail _ (.tail _ (.head _))))
    refine ⟨⟨none, none, none, none, [], [], 0, 0, o1, [], funext fun y => ?_, by rw [List.append_nil], by rw [show ws.drop 0 ++ outW tab (stt ws 0).out = ws by show ws ++ [] = ws; rw [List.append_nil]]; exact hx, .nil, .nil, fun p hp => ?_, fun p hp => nomatch hp⟩, i1, i2, i3⟩
    · exact mTr_none y
    · refine allC ?_ (allC ?_ (allC ?_ (allC ?_ allN)))
      · exact Nat.ne_of_lt (hI p (.tail _ (.tail _ (.tail _ hp))))
      · exact Nat.ne_of_lt (allLt_at l43 hp)
      · exact Nat.ne_of_lt (Nat.lt_trans (f1 p hp) f2)
      · exact Nat.ne_of_lt (f1 p hp)
  · intro I i t m news hi J it h' tk' F' N' Q' hn' hr'
    exact turnStep (s := s) hpf hps G (by omega) (by omega) ⟨lg, px, pdx, lx, c2, wf, oc2, 1, [⟨PyData.keyHash w.params "_initial_size", .str "_initial_size" st, .int 0 su⟩], tot, cs, ws, tab⟩ hw hkeep (Nat.le_of_eq hws) hne ⟨by k_get, by k_get, by k_get, by k_get⟩ n2 ⟨J.2.1, J.2.2.1, J.2.2.2, b1, b2, b3⟩ (by show i < ws.length; omega) J.1 F' N'
      fun h'' tk'' m' news' J' F'' N'' off => hn' h'' tk'' m' news' ⟨J', J.2⟩ F'' N'' off
  · rintro I m news h' tk' ⟨⟨vT, vW, vB, vTop, lv, its, nl, ns, o1', o3, rfl, rfl, hx', hP, hL, H1, H3⟩, -⟩ F' N'
    dsimp only at hx' hP hL H1 H3 N' F'
    have e8 : stt ws 8 = turnS ws := by unfold stt turnS; rw [List.take_of_length_le (by omega)]
    have ok := stt_ok (fun x hx => (hne x hx).1) (Nat.le_of_eq hws.symm)
    rw [show ws.drop 8 = [] from List.drop_of_length_le (by omega), List.nil_append, e8] at hx'
    rw [e8] at hL ok
    refine hq2 _ ?_
    iterate 3 walk1
    dsimp only
    exact hP' _ _ (Fin.intro F' (cb_drop N' (by lcg_sub)) ⟨lg, lv, nl, o1', o3, rfl, rfl, hx', hL, by rw [hws]; exact ok⟩)
end Mine

-- AX1
namespace Mine
section
variable {P : Heap → Prop} {K : Frag} {prog : Program} {w : World} {k : Nat} {f : Addr} {vs : List Value} {res : Value → Cells → Prop}
  {oc : Value} {od an : Option Addr} {osl : Array (Option Value)} {name qual : Str} {params : Arguments} {body : List Stmt} {scope : Scope} {dV kV doc pm cdv ct : Value} {binds : List (Str × Value)}
theorem enterPC (ho : K.lookup f = some ⟨oc, od, .func (fnX name qual params body scope [] dV kV doc pm an cdv ct), osl⟩) (hcd : codeIn K cdv qual = true)
    (hbind : ∀ s : Shared, K.In s.heap → BindsTo s (fnX name qual params body scope [] dV kV doc pm an cdv ct) ⟨vs, []⟩ binds)
    (hkind : (binds.all fun y => scope.names.lookup y.1 == some .local || scope.names.lookup y.1 == some .cell) = true) (hnd : ((cellsFrom 0 scope.names []).map (·.1)).Nodup)
    (h : ∀ (dp un : Nat) (gd : Option (List Code)) (fr : List Env) (g : Heap) (L : Addr) (s : Shared) (cells : Cells) (PP : Value → Shared → Prop), (∀ v s', Fin g L s res v s' → PP v s') → Gd K g → P g → Fr g L s.heap (bindL (envOfC qual scope L f cdv).kindOf binds fun _ => none) → News g L s.heap cells →
      CellsAre (bindC (envOfC qual scope L f cdv).kindOf binds fun _ => none) (cellsFrom (L + 1) scope.names []) cells →
      dp + k < recursionLimit → un + 20 * k < cLine →
      wpAny (model prog w) (arT (dp + 1) (un + 3) gd (envOfC qual scope L f cdv :: fr)) (execs body (envOfC qual scope L f cdv)) (fun fl s' => PP (match fl with | .ret v => v | _ => .none) s') (fun _ _ => False) s)
    (hP : ∀ h h' : Heap, (∀ b o, h.get? b = some o → h'.get? b = some o) → P h → P h') (hco : scope.isCoroutine = false := by rfl) (hgen : scope.isGenerator = false := by rfl) (hk : scope.kind = .function := by rfl) (hk0 : 0 < k := by decide) :
    DoesP P K prog w k f vs res := by
  intro dp un gd fr h₀ s R G HP st hd hu hR
  have X : K.In s.heap := G.X.keeps st
  refine codeAny_call_function (fd := fnX name qual params body scope [] dV kV doc pm an cdv ct) (body := body) (by show dp < recursionLimit; omega) (X _ _ ho) rfl hco hgen rfl (codeRec_of X hcd) (hbind s X _ _ _ _ ?_)
  refine wpAny_newFunctionEnv_cells hk (kindsX hkind _) fun env' he s' x => ?_
  subst he
  refine ⟨(G.nolimit.keeps st).keeps x.toInCall.keep, codeAny_func ?_⟩
  obtain ⟨h₁, tk, rfl, _⟩ := x.done
  have hk₁ := x.toInCall.keep
  obtain ⟨cells, NC, Y⟩ := Cl.news (h₀ := s.heap) (Nat.le_refl _) fun n c hm => ⟨x.cell n c (lookup_of_mem_nodup (cellsFrom_names scope.names 0 (s.heap.objs.size + 1) [] [] rfl ▸ hnd) hm), x.above n c hm⟩
  refine wpAny_mono (h dp un gd fr s.heap s.heap.objs.size { s with heap := h₁, toks := tk } cells _ (fun _ _ x => x) (G.keeps st) (hP _ _ st HP) ⟨x.toInCall.ns, fun b o e => hk₁ b o e, Nat.le_refl _⟩ (fun p hp => NC p hp) Y hd hu)
    (fun fl s' hl => ?_) fun _ _ y => y.elim
  obtain ⟨m', news', h', tk', rfl, F', N', r⟩ := hl
  refine hR _ h' tk' news' r ⟨fun b o e => F'.keep b o (st b o e), fun p hp => ⟨(N' p hp).1, ?_⟩⟩
  cases q : h₀.get? p.1 with
  | none => rfl
  | some o => have := (N' p hp).2.2; rw [st _ _ q] at this; cases this
/-- a contract that leans on what stands ahead of the call -/
theorem useH {h₀ : Heap} {L : Addr} {m : Str → Option Value} {news : Cells} {s : Shared} {dp un : Nat} {gd : Option (List Code)} {fr : List Env} {Q E : Value → Shared → Prop}
    (C : DoesP P K prog w k f vs res) (hP : P s.heap) (F : Fr h₀ L s.heap m) (N : News h₀ L s.heap news) (G : Gd K h₀) (hdp : dp + k < recursionLimit) (hun : un + 20 * k < cLine)
    (h : ∀ v h' tk own', res v own' → Fr h₀ L h' m → News h₀ L h' (own' ++ news) → (∀ p ∈ own', ∀ q ∈ news, p.1 ≠ q.1) → Q v { s with heap := h', toks := tk }) :
    wpAny (model prog w) (arT dp un gd fr) (call (.ref f) vs) Q E s := by
  obtain ⟨oL, es, ep, hL, hLd, hLk, hLf⟩ := F.ns
  refine wpAny_call (C dp un gd fr s.heap s _ (G.keeps F.keep) hP (fun b o e => e) hdp hun (fun v h' tk own' hv S' => ?_))
  refine h v h' tk own' hv ⟨⟨oL, es, ep, S'.keep L oL hL, hLd, hLk, hLf⟩, fun b o e => S'.keep b o (F.keep b o e), F.above⟩ (fun p hp => ?_) (fun p hp q hq e => ?_)
  · rcases List.mem_append.mp hp with hp | hp
    · refine ⟨(S'.own p hp).1, fun e => ?_, ?_⟩
      · have := (S'.own p hp).2; rw [e, hL] at this; cases this
      · cases q : h₀.get? p.1 with
        | none => rfl
        | some o => have := (S'.own p hp).2; rw [F.keep _ _ q] at this; cases this
    · exact ⟨S'.keep _ _ (N p hp).1, (N p hp).2⟩
  · have := (S'.own p hp).2; rw [e, (N q hq).1] at this; cases this
end
noncomputable def LA (h : Heap) (a : Addr) (vs : List Value) (n : Nat) : Prop := h.get? a = some (W.listOf vs.toArray n)
theorem LA.isList {h : Heap} {a : Addr} {vs : List Value} {n : Nat} (e : LA h a vs n) : h.IsList a vs.toArray := ⟨_, e, rfl, n, rfl⟩
theorem LA.keeps {h h' : Heap} {a : Addr} {vs : List Value} {n : Nat} (e : LA h a vs n) (k : ∀ b o, h.get? b = some o → h'.get? b = some o) : LA h' a vs n := k _ _ e
section
variable {prog : Program} {w : World} {A : Around} {E : Value → Shared → Prop} {s : Shared} {h₀ : Heap} {L : Addr} {m : Str → Option Value} {env : Env}
/-- a comprehension, its source made: the walk stops here -/
noncomputable def CompV (prog : Program) (w : World) (A : Around) (h₀ : Heap) (L : Addr) (m : Str → Option Value) (env : Env) (elt : PySem.Expr) (x : Str) (scope : Scope) (cl : List (Str × Addr)) (Q : Value → Shared → Prop) (xv : Value) (s₁ : Shared) : Prop :=
  LCg.CompSrc prog w A h₀ L m env elt x scope cl (fun s₂ => LCg.FinE h₀ L m s₂ Q) xv s₁
theorem compV {elt iter : PySem.Expr} {x : Str} {px : Pos} {scope : Scope} {cl : List (Str × Addr)} {pos : Pos} {Q : Value → Shared → Prop} (_ : VMark) (F₀ : Fr h₀ L s.heap m)
    (hclos : closureFor scope env = pure cl) (hcell : ∀ y ∈ scope.names, y.2 ≠ .cell) (hkind : scope.kind = .function)
    (hnames : ∀ y ∈ scope.names, y.2 = .local → scope.names.lookup y.1 = some .local) (hx : scope.names.lookup x = some .local)
    (h : wpAny (model prog w) A (eval iter env) (CompV prog w A h₀ L m env elt x scope cl Q) E s)
    (hs : ∀ x, foldedSetIterable iter env x = pure x := by intro _; rfl) :
    wpAny (model prog w) A (eval (.ListComp elt [⟨.Name x px, iter, [], 0⟩] scope pos) env) Q E s := LCg.ListComp_U F₀ hclos hcell hkind hnames hx h hs
theorem compEndMono {I C D : Addr} {s₁ : Shared} {oI oC oD : Obj} {S : Cells → Prop} {r1 r2 : Value → Cells → Prop} {y : Value} {s₂ : Shared} (h : LCg.CompEnd h₀ L m s₁ I oI C oC D oD S r1 y s₂) (i : ∀ n, r1 y n → r2 y n) : LCg.CompEnd h₀ L m s₁ I oI C oC D oD S r2 y s₂ := by
  obtain ⟨h', tk, news', a, b, c, d, e, f⟩ := h
  exact ⟨h', tk, news', a, b, c, d, e, i _ f⟩
theorem compInv {elt : PySem.Expr} {x : Str} {scope : Scope} {cl : List (Str × Addr)} {S : Cells → Prop} {P : Nat → Value → Prop} {Fi : List Value → Cells → Prop} {n : Nat} (Inv : Nat → List Value → Cells → Prop)
    (step : ∀ i ys news, i < n → Inv i ys news → ∀ v I oI C oC D m₂ h tk (E' : Value → Shared → Prop), P i v → LCg.NsObj oC m₂ → m₂ x = some v → Fr h₀ L h m → News h₀ L h ((I, oI) :: (C, oC) :: (D, LCg.lst ys) :: news) → LCg.Off3 I C D news → ((@Ne Nat I C) ∧ (@Ne Nat I D) ∧ (@Ne Nat C D)) →
      wpAny (model prog w) A (eval elt (compEnvC scope cl C env)) (LCg.CompEnd h₀ L m { s with heap := h, toks := tk } I oI C oC D (LCg.lst ys) S (fun y news' => Inv (i + 1) (ys ++ [y]) news')) E' { s with heap := h, toks := tk })
    (fin : ∀ ys news, Inv n ys news → Fi ys news) : ∀ k i ys news, i + k = n → Inv i ys news → LCg.CompRest prog w A h₀ L m env elt x scope cl s S P Fi k i ys news
  | 0, i, ys, news, e, hI => LCg.CompRest.zero (fin ys news (by rw [← e]; exact hI))
  | k + 1, i, ys, news, e, hI => LCg.CompRest.succ fun v I oI C oC D m₂ h tk E' a b c d f g j =>
      wpAny_mono (step i ys news (by omega) hI v I oI C oC D m₂ h tk E' a b c d f g j) (fun y s' q => compEndMono q fun news' r => compInv Inv step fin k (i + 1) _ news' (by omega) r) fun _ _ q => q
end
section
variable {prog : Program} {w : World} {A : Around} {E : Value → Shared → Prop} {s : Shared} {h₀ : Heap} {L : Addr} {m : Str → Option Value} {env : Env}
/-- a comprehension that is stored, its source made: the walk stops here -/
noncomputable def CompA (prog : Program) (w : World) (A : Around) (h₀ : Heap) (L : Addr) (m : Str → Option Value) (env : Env) (elt : PySem.Expr) (x : Str) (scope : Scope) (cl : List (Str × Addr)) (y : Str) (Q : Flow → Shared → Prop) (xv : Value) (s₁ : Shared) : Prop :=
  LCg.CompSrc prog w A h₀ L m env elt x scope cl (fun s₂ => LCg.FinA h₀ L m s₂ y Q) xv s₁
theorem compA {elt iter : PySem.Expr} {x y : Str} {px py : Pos} {scope : Scope} {cl : List (Str × Addr)} {pos spos : Pos} {Q : Flow → Shared → Prop} (_ : VMark) (F₀ : Fr h₀ L s.heap m) (hLe : env.locals = L)
    (hsw : swapsWith (.ListComp elt [⟨.Name x px, iter, [], 0⟩] scope pos) (some (.Name y py)) spos.line env = pure true)
    (hclos : closureFor scope env = pure cl) (hcell : ∀ z ∈ scope.names, z.2 ≠ .cell) (hkind : scope.kind = .function)
    (hnames : ∀ z ∈ scope.names, z.2 = .local → scope.names.lookup z.1 = some .local) (hx : scope.names.lookup x = some .local)
    (hy : env.kindOf y = some .local) (hp : (env.scope.kind == .class || (env.scope.kind == .module && env.locals != env.globals)) = false)
    (h : wpAny (model prog w) A (eval iter env) (CompA prog w A h₀ L m env elt x scope cl y Q) E s)
    (hs : ∀ x, foldedSetIterable iter env x = pure x := by intro _; rfl) :
    wpAny (model prog w) A (exec (.Assign [.Name y py] (.ListComp elt [⟨.Name x px, iter, [], 0⟩] scope pos) spos) env) Q E s := LCg.Assign_ListComp_U F₀ hLe hsw hclos hcell hkind hnames hx hy hp h hs
end
section
variable {prog : Program} {w : World} {A : Around} {E : Value → Shared → Prop} {s : Shared} {h₀ : Heap} {L D : Addr} {m : Str → Option Value} {news : Cells} {vs : List Value} {n : Nat}
theorem indexG {is : List Int} {x : Int} {t : Tok} {j : Nat} {Q : Value → Shared → Prop} (hl : LA s.heap D vs n) (hi : IntsAre vs is) (hj : j < is.length) (hx : is[j]? = some x) (hno : ∀ i, i < j → is[i]? ≠ some x) (hz : is.length < 1000)
    (h : Q (.int (j : Int) s.toks) { s with toks := s.toks + 1 }) : wpAny (model prog w) A (call (.builtin "list.index") [.ref D, .int x t]) Q E s := by
  have hv : ∀ (i : Nat) (v : Value), vs[i]? = some v → ∃ y u, v = .int y u ∧ is[i]? = some y := by
    clear hj hx hno hz hl h
    induction hi with
    | nil => intro i v h; simp at h
    | cons y u _ ih =>
      intro i v h
      cases i with
      | zero => cases h; exact ⟨y, u, rfl, rfl⟩
      | succ i => exact ih i v h
  have hlen : vs.length = is.length := ints_len hi
  have hs : vs.toArray.size = is.length := by rw [List.size_toArray, hlen]
  refine call_meets PySem.F.slot_list_index ⟨_, hl, rfl⟩ PySem.F.entry_list_index (PySem.F.args_list_index_2 _ _)
    (MeetsSeq.list_index D vs.toArray n (.int x t) (isInt x) (fun y hy => ?_) j (by omega) (by omega) ?_ (fun i hi' hlt => ?_)) ⟨hl, h⟩
  · obtain ⟨i, hi', e⟩ := List.getElem_of_mem (show y ∈ vs by simpa using hy)
    obtain ⟨z, u, rfl, -⟩ := hv i y (by rw [List.getElem?_eq_getElem hi', e])
    exact MeetsSeq.EqGives.int z x u t
  · obtain ⟨z, u, e, e2⟩ := hv j vs[j] (List.getElem?_eq_getElem (by omega))
    rw [hx] at e2; cases e2
    show isInt x (vs.toArray[j]) = true
    rw [List.getElem_toArray, e]
    show (x == x) = true
    simp
  · have hi2 : i < vs.length := by rw [hlen, ← hs]; exact hi'
    obtain ⟨z, u, e, e2⟩ := hv i vs[i] (List.getElem?_eq_getElem hi2)
    have := hno i hlt
    rw [e2] at this
    show isInt x (vs.toArray[i]) = false
    rw [List.getElem_toArray, e]
    show (z == x) = false
    exact beq_eq_false_iff_ne.mpr fun q => this (congrArg some q)
theorem toS {I : Addr} {fp wr : List Addr} {n : Nat} {P : Nat → Value → Prop} {St : Nat → Heap → Prop} (W : Walks prog w A I fp wr n P St) : WalksS prog w A I fp wr Eq n P (fun i s => St i s.heap) where
  sub := W.sub
  grefl := fun _ => rfl
  gtrans := fun _ _ _ => Eq.trans
  frame := fun i s h' tk st _ hk => W.frame i s.heap h' st hk
  item := fun i s Q E hi st hQ => wpAny_toks (W.item i s _ E hi st fun v h' tk hP hst hk htok => hQ v _ hP hst ⟨fun b o hb e => hk b o hb e, rfl, rfl, rfl, htok⟩)
  done := fun s Q E st hQ => wpAny_toks (W.done s _ E st fun h' tk hk htok => hQ _ ⟨fun b o hb e => hk b o hb e, rfl, rfl, rfl, htok⟩)
  self := fun i s Q E st hQ => W.self i s Q E st hQ
theorem preSum_bools (bs : List Bool) : ∀ k, k ≤ bs.length → preSum (fun i => if bs.getD i false = true then 1 else 0) k = (((bs.take k).count true : Nat) : Int)
  | 0, _ => rfl
  | k + 1, h => by
    have ih := preSum_bools bs k (by omega)
    have e : bs[k]? = some bs[k] := List.getElem?_eq_getElem (by omega)
    show preSum _ k + _ = _
    rw [ih, List.take_add_one, e, List.count_append]
    have e2 : bs.getD k false = bs[k] := by rw [List.getD_eq_getElem?_getD, e]; rfl
    dsimp only
    rw [e2]
    cases bs[k] <;> simp
theorem sumBools {bs : List Bool} {Q : Value → Shared → Prop} (F : Fr h₀ L s.heap m) (N : News h₀ L s.heap news) (hh : A.handled = none) (hl : s.heap.IsList D (bs.map Value.bool).toArray)
    (h : ∀ h' tk t', Fr h₀ L h' m → News h₀ L h' news → Q (.int ((bs.count true : Nat) : Int) t') { s with heap := h', toks := tk }) : wpAny (model prog w) A (call (.builtin "sum") [.ref D]) Q E s := by
  have hlt : D < s.heap.objs.size := by obtain ⟨_, e, _⟩ := hl; exact Heap.lt_size e
  refine call_sum_walkAnyB (wpAny_pyIter_list hl ?_)
  refine ⟨s.heap.objs.size, [s.heap.objs.size, D], [s.heap.objs.size], _, (bs.map Value.bool).toArray.size, _, _, fun i => if bs.getD i false = true then 1 else 0, rfl, toS (Walks.list (A := A.in1) hh _ D (Nat.ne_of_lt hlt) (bs.map Value.bool).toArray),
    ⟨⟨_, Heap.get?_push_size _ rfl, rfl, rfl⟩, hl.push _⟩, fun b hb => ?_, fun i v hP => ?_, fun s' t' hm => ?_⟩
  · show b < (s.heap.push _).objs.size
    rw [Heap.size_push]
    rcases List.mem_cons.mp hb with rfl | hb
    · exact Nat.lt_succ_self _
    · rw [List.mem_singleton.mp hb]; exact Nat.lt_succ_of_lt hlt
  · rw [List.getElem?_toArray, List.getElem?_map] at hP
    obtain ⟨b, hb, rfl⟩ := Option.map_eq_some_iff.mp hP
    refine .inr ⟨b, rfl, ?_⟩
    show (if bs.getD i false = true then 1 else 0) = _
    rw [List.getD_eq_getElem?_getD, hb]; rfl
  · rw [List.size_toArray, List.length_map, preSum_bools bs _ (Nat.le_refl _), List.take_length]
    have kp : ∀ b o, s.heap.get? b = some o → s'.heap.get? b = some o := fun b o e => hm.heap b o (fun hb => by
      rw [List.mem_singleton.mp hb] at e; exact Nat.lt_irrefl _ (Heap.lt_size e)) (Heap.get?_push_of_some _ e)
    have e : s' = { s with heap := s'.heap, toks := s'.toks } := by
      obtain ⟨a, b, c, d, e⟩ := s'
      obtain ⟨-, h1, h2, h3, -⟩ := hm
      dsimp only at h1 h2 h3
      subst h2 h3
      rw [show b = s.gens from h1.symm]
    rw [e]
    exact h _ _ t' (F.keeps kp) (N.grown kp)
/-- a comprehension with a test, by a word of its own -/
theorem compInvT {env : Env} {ct elt : PySem.Expr} {x : Str} {scope : Scope} {cl : List (Str × Addr)} {S : Cells → Prop} {P : Nat → Value → Prop} {Fi : List Value → Cells → Prop} {n : Nat} (Inv : Nat → List Value → Cells → Prop)
    (step : ∀ i ys news, i < n → Inv i ys news → ∀ v I oI C oC D m₂ h tk (E' : Value → Shared → Prop), P i v → LCg.NsObj oC m₂ → m₂ x = some v → Fr h₀ L h m → News h₀ L h ((I, oI) :: (C, oC) :: (D, LCg.lst ys) :: news) → LCg.Off3 I C D news → ((@Ne Nat I C) ∧ (@Ne Nat I D) ∧ (@Ne Nat C D)) →
      wpAny (model prog w) A (isTrue ct (compEnvC scope cl C env) (eval ct (compEnvC scope cl C env))) (fun ok s' => if ok = true then
        wpAny (model prog w) A (eval elt (compEnvC scope cl C env)) (LCg.CompEnd h₀ L m { s with heap := h, toks := tk } I oI C oC D (LCg.lst ys) S (fun y news' => Inv (i + 1) (ys ++ [y]) news')) E' s'
        else LCg.CompEnd h₀ L m { s with heap := h, toks := tk } I oI C oC D (LCg.lst ys) S (fun _ news' => Inv (i + 1) ys news') Value.none s') E' { s with heap := h, toks := tk })
    (fin : ∀ ys news, Inv n ys news → Fi ys news) : ∀ k i ys news, i + k = n → Inv i ys news → LCt.CompRestT prog w A h₀ L m env ct elt x scope cl s S P Fi k i ys news
  | 0, i, ys, news, e, hI => LCt.CompRestT.zero (fin ys news (by rw [← e]; exact hI))
  | k + 1, i, ys, news, e, hI => LCt.CompRestT.succ fun v I oI C oC D m₂ h tk E' a b c d f g j =>
      wpAny_mono (step i ys news (by omega) hI v I oI C oC D m₂ h tk E' a b c d f g j) (fun ok s' q => by
        cases ok with
        | true =>
          simp only [if_true] at q ⊢
          exact wpAny_mono q (fun y s' q => compEndMono q fun news' r => compInvT Inv step fin k (i + 1) _ news' (by omega) r) fun _ _ q => q
        | false =>
          simp only [Bool.false_eq_true, if_false] at q ⊢
          exact compEndMono q fun news' r => compInvT Inv step fin k (i + 1) _ news' (by omega) r) fun _ _ q => q
/-- with a test -/
noncomputable def CompVT (prog : Program) (w : World) (A : Around) (h₀ : Heap) (L : Addr) (m : Str → Option Value) (env : Env) (ct elt : PySem.Expr) (x : Str) (scope : Scope) (cl : List (Str × Addr)) (Q : Value → Shared → Prop) (xv : Value) (s₁ : Shared) : Prop :=
  LCt.CompSrcT prog w A h₀ L m env ct elt x scope cl (fun s₂ => LCg.FinE h₀ L m s₂ Q) xv s₁
noncomputable def CompAT (prog : Program) (w : World) (A : Around) (h₀ : Heap) (L : Addr) (m : Str → Option Value) (env : Env) (ct elt : PySem.Expr) (x : Str) (scope : Scope) (cl : List (Str × Addr)) (y : Str) (Q : Flow → Shared → Prop) (xv : Value) (s₁ : Shared) : Prop :=
  LCt.CompSrcT prog w A h₀ L m env ct elt x scope cl (fun s₂ => LCg.FinA h₀ L m s₂ y Q) xv s₁
theorem compVT {env : Env} {ct elt iter : PySem.Expr} {x : Str} {px : Pos} {scope : Scope} {cl : List (Str × Addr)} {pos : Pos} {Q : Value → Shared → Prop} (_ : VMark) (F₀ : Fr h₀ L s.heap m)
    (hclos : closureFor scope env = pure cl) (hcell : ∀ y ∈ scope.names, y.2 ≠ .cell) (hkind : scope.kind = .function)
    (hnames : ∀ y ∈ scope.names, y.2 = .local → scope.names.lookup y.1 = some .local) (hx : scope.names.lookup x = some .local)
    (h : wpAny (model prog w) A (eval iter env) (CompVT prog w A h₀ L m env ct elt x scope cl Q) E s)
    (hs : ∀ x, foldedSetIterable iter env x = pure x := by intro _; rfl) :
    wpAny (model prog w) A (eval (.ListComp elt [⟨.Name x px, iter, [ct], 0⟩] scope pos) env) Q E s := LCt.ListComp_T F₀ hclos hcell hkind hnames hx h hs
theorem compAT {env : Env} {ct elt iter : PySem.Expr} {x y : Str} {px py : Pos} {scope : Scope} {cl : List (Str × Addr)} {pos spos : Pos} {Q : Flow → Shared → Prop} (_ : VMark) (F₀ : Fr h₀ L s.heap m) (hLe : env.locals = L)
    (hsw : swapsWith (.ListComp elt [⟨.Name x px, iter, [ct], 0⟩] scope pos) (some (.Name y py)) spos.line env = pure true)
    (hclos : closureFor scope env = pure cl) (hcell : ∀ z ∈ scope.names, z.2 ≠ .cell) (hkind : scope.kind = .function)
    (hnames : ∀ z ∈ scope.names, z.2 = .local → scope.names.lookup z.1 = some .local) (hx : scope.names.lookup x = some .local)
    (hy : env.kindOf y = some .local) (hp : (env.scope.kind == .class || (env.scope.kind == .module && env.locals != env.globals)) = false)
    (h : wpAny (model prog w) A (eval iter env) (CompAT prog w A h₀ L m env ct elt x scope cl y Q) E s)
    (hs : ∀ x, foldedSetIterable iter env x = pure x := by intro _; rfl) :
    wpAny (model prog w) A (exec (.Assign [.Name y py] (.ListComp elt [⟨.Name x px, iter, [ct], 0⟩] scope pos) spos) env) Q E s := LCt.Assign_ListComp_T F₀ hLe hsw hclos hcell hkind hnames hx hy hp h hs
end
end Mine
local macro_rules | `(tactic| walk_at "eval ListComp") => `(tactic| (k_here; k_dflt (refine Mine.compV (by assumption) (by k_asm) (by with_unfolding_all rfl) (by decide) (by rfl) (by decide) (by rfl) ?_)))
local macro_rules | `(tactic| walk_at "exec Assign cons ListComp") => `(tactic| (k_here; k_dflt (refine Mine.compA (by assumption) (by k_asm) (by rfl) (by with_unfolding_all rfl) (by with_unfolding_all rfl) (by decide) (by rfl) (by decide) (by rfl) (by rfl) (by rfl) ?_)))
local macro_rules | `(tactic| walk_at "eval ListComp") => `(tactic| (k_here; k_dflt (refine Mine.compVT (by assumption) (by k_asm) (by with_unfolding_all rfl) (by decide) (by rfl) (by decide) (by rfl) ?_)))
local macro_rules | `(tactic| walk_at "exec Assign cons ListComp") => `(tactic| (k_here; k_dflt (refine Mine.compAT (by assumption) (by k_asm) (by rfl) (by with_unfolding_all rfl) (by with_unfolding_all rfl) (by decide) (by rfl) (by decide) (by rfl) (by rfl) (by rfl) ?_)))

-- AX2
namespace Mine
noncomputable def MateP (oa ha : Addr) (ko kh : Nat) (a : List Bool) (hv : List Value) (h : Heap) : Prop := LA h oa (a.map Value.bool) ko ∧ LA h ha hv kh
theorem MateP.mono {oa ha : Addr} {ko kh : Nat} {a : List Bool} {hv : List Value} : ∀ h h' : Heap, (∀ b o, h.get? b = some o → h'.get? b = some o) → MateP oa ha ko kh a hv h → MateP oa ha ko kh a hv h' := fun _ _ k p => ⟨p.1.keeps k, p.2.keeps k⟩
theorem hgts_at {a : List Bool} {p : Nat} (hp : p < 9) : (hgts a)[p]? = some (hgt a p) := by
  unfold hgts
  rw [List.getElem?_map, List.getElem?_range hp]; rfl
theorem intsAtE {vs : List Value} {is : List Int} (h : IntsAre vs is) {i : Nat} {x : Int} (e : is[i]? = some x) : ∃ u, vs[i]? = some (.int x u) := by
  induction h generalizing i with
  | nil => simp at e
  | cons y u _ ih =>
    cases i with
    | zero => cases e; exact ⟨u, rfl⟩
    | succ i => exact ih e
theorem opnAt {a : List Bool} {p : Nat} (hl : a.length = 9) (hp : p < 9) : (a.map Value.bool)[((p : Int)).toNat]? = some (.bool (opn a p)) := by
  rw [Int.toNat_natCast, List.getElem?_map, List.getElem?_eq_getElem (by omega)]
  unfold opn
  rw [List.getD_eq_getElem?_getD, List.getElem?_eq_getElem (by omega)]; rfl
theorem ints_snoc {vs : List Value} {is : List Int} {x : Int} {t : Tok} (h : IntsAre vs is) : IntsAre (vs ++ [.int x t]) (is ++ [x]) := by
  induction h with
  | nil => exact .cons _ _ .nil
  | cons _ _ _ ih => exact .cons _ _ ih
theorem ints_last {vs : List Value} {is : List Int} {z : Value} (h : IntsAre (vs ++ [z]) is) : ∃ (zi : Int) (u : Tok) (B : List Int), z = .int zi u ∧ is = B ++ [zi] := by
  generalize e : vs ++ [z] = l at h
  induction h generalizing vs with
  | nil => simp at e
  | cons y u r ih =>
    cases vs with
    | nil =>
      obtain ⟨rfl, rfl⟩ := List.cons.inj e
      cases r
      exact ⟨y, u, [], rfl, rfl⟩
    | cons v vs =>
      obtain ⟨rfl, e2⟩ := List.cons.inj e
      obtain ⟨zi, u9, B, rfl, rfl⟩ := ih e2
      exact ⟨zi, u9, y :: B, rfl, rfl⟩
theorem mat_eq (a : List Bool) (p : Nat) : mat a p = match (((List.range 8).map fun i : Nat => (p : Int) - 8 + (i : Int)).filter fun k => hgt a (k.fmod 9).toNat + k.fdiv 9 == (hgt a p + if opn a p then 1 else -1)).getLast? with | some k => (k.fmod 9).toNat | none => p := rfl
theorem mateW {prog : Program} {w : World} (oa ha : Addr) (ko kh : Nat) (a : List Bool) (hv : List Value) (p : Nat) (t : Tok) (hl : a.length = 9) (hi : IntsAre hv (hgts a)) (hp : p < 9) :
   DoesP (MateP oa ha ko kh a hv) (KH w.params) prog w 2 227 [.ref oa, .ref ha, .int (p : Int) t] (fun r own => own = [] ∧ ∃ u, r = .int (mat a p : Int) u) := by
  refine enterPC (binds := [("opens", .ref oa), ("heights", .ref ha), ("place", .int (p : Int) t)]) (by k_is) (by k_is) (fun s X => BindsTo.of_eq rfl) (by rfl) (by decide +kernel) ?_ MateP.mono
  intro dp un gd fr g L s cells PP hP' G HP F N Y hdp hun
  obtain ⟨X, ⟨p', loose, mean, mg, mb, T⟩, codeHd, codeHd2⟩ := id G
  have hV : VMark := trivial
  obtain ⟨o1, o2, rfl, d1, d2⟩ := CellsAre.two Y
  clear Y
  have d1 : o1.data = .cell none := d1.trans (congrArg Data.cell (by kernel_rfl))
  have d2 : o2.data = .cell (some (.ref ha)) := d2.trans (congrArg Data.cell (by kernel_rfl))
  have hx1 := HP.1.keeps F.keep
  have hx2 := HP.2.keeps F.keep
  obtain ⟨uh, hu⟩ := intsAtE hi (hgts_at hp)
  refine wpAny_execs_cons ?_
  refine cutNext (fun s' => ∃ (oe : Obj) (u : Tok) (h' : Heap) (k' : Nat), s' = { s with heap := h', toks := k' } ∧ oe.data = .cell (some (.int (hgt a p + if opn a p then 1 else -1) u)) ∧ Fr g L h' (fun y => if y = "place" then some (.int (p : Int) t) else if y = "opens" then some (.ref oa) else none) ∧ News g L h' [(L + 1 + 1, oe), (L + 1, o2)]) ?_ ?_
  · intro Q' hQ
    iterate 5 walk1
    refine item_listL hx2.isList (by omega) (by omega) (by rw [Int.toNat_natCast]; exact hu) ?_
    iterate 5 walk1
    refine item_listL hx1.isList (by omega) (by omega) (opnAt hl hp) ?_
    iterate 5 walk1
    · rename_i hop h3 o3 F3 N3 d3
      exact hQ _ ⟨o3, _, h3, _, rfl, by rw [hop]; exact d3, frOf F3 (fun y => by kernel_rfl), N3⟩
    · iterate 5 walk1
      rename_i hop h3 o3 F3 N3 d3
      exact hQ _ ⟨o3, _, h3, _, rfl, by rw [hop]; exact d3, frOf F3 (fun y => by kernel_rfl), N3⟩
  rintro _ ⟨oe, u, h', k', rfl, de, F2, N2⟩
  clear F N
  iterate 14 walk1
  rename_i h4 tk4 t4 u4 v4 hR F4 N4 hk4
  clear hk4
  dsimp only at hR ⊢
  have hsm : Builtin.Range.small ((p : Int) - 8) (p : Int) 1 = true ∧ Builtin.Range.rangeSize ((p : Int) - 8) (p : Int) 1 = ((8 : Nat) : Int) := by
    have : p = 0 ∨ p = 1 ∨ p = 2 ∨ p = 3 ∨ p = 4 ∨ p = 5 ∨ p = 6 ∨ p = 7 ∨ p = 8 := by omega
    rcases this with rfl | rfl | rfl | rfl | rfl | rfl | rfl | rfl | rfl <;> exact ⟨by decide, by decide⟩
  refine LCt.CompSrcT.range rfl F4 N4 hR hsm.1 hsm.2 (by decide) ?_
  intro g'
  refine compInvT (fun i ys news => news = [(L + 1 + 1, oe), (L + 1, o2)] ∧ IntsAre ys ((((List.range i).map fun i : Nat => (p : Int) - 8 + (i : Int)).filter fun k => hgt a (k.fmod 9).toNat + k.fdiv 9 == (hgt a p + if opn a p then 1 else -1)).map fun k => k.fmod 9)) ?_ ?_ 8 0 [] _ rfl ⟨rfl, .nil⟩
  · rintro i ys news hi8 ⟨rfl, hys⟩ v I oI C oC D m₂ h5 tk5 E' ⟨tv, rfl⟩ hC hxm F5 N5 off ⟨j1, j2, j3⟩
    have hm1 := Int.fmod_nonneg_of_pos ((p : Int) - 8 + (i : Int)) (b := 9) (by omega)
    have hm2 := Int.fmod_lt_of_pos ((p : Int) - 8 + (i : Int)) (b := 9) (by omega)
    have hx2 := HP.2.keeps F5.keep
    have hm3 : (((p : Int) - 8 + (i : Int)).fmod 9).toNat < 9 := by omega
    obtain ⟨uk, huk⟩ := intsAtE hi (hgts_at hm3)
    iterate 8 walk1
    refine item_listL hx2.isList (by omega) (by omega) huk ?_
    iterate 13 walk1
    · rename_i hcd
      refine LCg.CompEnd.intro F5 N5 [(L + 1 + 1, oe), (L + 1, o2)] (fun p hp => hp) off trivial ⟨rfl, ?_⟩
      rw [List.range_succ, List.map_append, List.filter_append, List.map_append]
      have e : List.filter (fun k => hgt a (k.fmod 9).toNat + k.fdiv 9 == (hgt a p + if opn a p then 1 else -1)) (List.map (fun i : Nat => (p : Int) - 8 + (i : Int)) [i]) = [(p : Int) - 8 + (i : Int)] := List.filter_cons_of_pos (beq_iff_eq.mpr hcd)
      rw [e]
      exact ints_snoc hys
    · rename_i hcd
      refine LCg.CompEnd.intro F5 N5 [(L + 1 + 1, oe), (L + 1, o2)] (fun p hp => hp) off trivial ⟨rfl, ?_⟩
      rw [List.range_succ, List.map_append, List.filter_append, List.map_append]
      have e : List.filter (fun k => hgt a (k.fmod 9).toNat + k.fdiv 9 == (hgt a p + if opn a p then 1 else -1)) (List.map (fun i : Nat => (p : Int) - 8 + (i : Int)) [i]) = [] := List.filter_cons_of_neg fun q => hcd (beq_iff_eq.mp q)
      rw [e, List.map_nil, List.append_nil]
      exact hys
  · rintro ys news ⟨rfl, hys⟩ D h5 tk5 F5 N5 off
    rw [Nat.zero_add] at hys
    dsimp only
    iterate 5 walk1
    have hyl := ints_len hys
    have hyl8 : ys.length ≤ 8 := by
      rw [hyl, List.length_map]
      refine Nat.le_trans (List.length_filter_le _ _) ?_
      simp
    rcases List.eq_nil_or_concat ys with rfl | ⟨zs, z, hz⟩
    · refine truthyK (b := false) (its := ([] : List Value).toArray) (n := 0) N5 (.head _) rfl (by decide) ?_
      iterate 2 walk1
      dsimp only
      refine hP' _ _ (Fin.intro F5 (News.nil) ⟨rfl, t, ?_⟩)
      have hA := List.map_eq_nil_iff.mp (List.length_eq_zero_iff.mp (ints_len hys).symm)
      rw [mat_eq, hA]; rfl
    · rw [List.concat_eq_append] at hz
      subst hz
      refine truthyK (b := true) (its := (zs ++ [z]).toArray) (n := (zs ++ [z]).length) N5 (.head _) (by simp) (by simp at hyl8 ⊢; omega) ?_
      obtain ⟨zi, u9, B, rfl, hAB⟩ : ∃ (zi : Int) (u9 : Tok) (B : List Int), z = .int zi u9 ∧ (((List.range 8).map fun i : Nat => (p : Int) - 8 + (i : Int)).filter fun k => hgt a (k.fmod 9).toNat + k.fdiv 9 == (hgt a p + if opn a p then 1 else -1)).map (fun k => k.fmod 9) = B ++ [zi] := ints_last hys
      iterate 6 walk1
      have hLd : h5.IsList D (zs ++ [Value.int zi u9]).toArray := N5.isList (.head _)
      refine subscriptTail_builtin hLd.typeIs list_getitem_lookup (wpAny_getItem_list_neg (x := .int zi u9) hLd (by decide) (by simp; omega) (by decide) (by rw [show (-1 + (((zs ++ [Value.int zi u9]).toArray.size : Nat) : Int)).toNat = zs.length by simp; omega]; simp) ?_)
      skip
      dsimp only
      refine hP' _ _ (Fin.intro F5 (News.nil) ⟨rfl, u9, ?_⟩)
      obtain ⟨l1, l2, hF, -, h2⟩ := List.map_eq_append_iff.mp hAB
      obtain ⟨k, rfl, hk⟩ : ∃ k, l2 = [k] ∧ k.fmod 9 = zi := by
        cases l2 with
        | nil => simp at h2
        | cons k l2 =>
          cases l2 with
          | nil => exact ⟨k, rfl, (List.cons.inj h2).1⟩
          | cons _ _ => simp at h2
      rw [mat_eq, hF, List.getLast?_concat]
      have := Int.fmod_nonneg_of_pos k (b := 9) (by omega)
      show Value.int zi u9 = Value.int (((k.fmod 9).toNat : Nat) : Int) u9
      rw [Int.toNat_of_nonneg this, hk]
end Mine

-- AX3
namespace Mine
noncomputable def Good2 (a : List Bool) : Bool := (ord a).length == 5 && (ord a).all (fun i => decide (i < 9)) && (List.range 9).all fun i => decide (mat a i < 9) && (if opn a i then (ord a).contains i else (ord a).contains (mat a i))
theorem arrs_good2 : (arrsN 9 5).all Good2 = true := by decide +kernel
theorem good2_of {a : List Bool} (hl : a.length = 9) (hc : a.count true = 5) : (ord a).length = 5 ∧ (∀ i ∈ ord a, i < 9) ∧ ∀ i, i < 9 → mat a i < 9 ∧ (opn a i = true → i ∈ ord a) ∧ (opn a i = false → mat a i ∈ ord a) := by
  have hm := arrs_mem a
  rw [hl, hc] at hm
  have := List.all_eq_true.mp arrs_good2 a hm
  simp only [Good2, Bool.and_eq_true, beq_iff_eq, List.all_eq_true, decide_eq_true_eq] at this
  obtain ⟨⟨h1, h2⟩, h3⟩ := this
  refine ⟨h1, h2, fun i hi => ?_⟩
  obtain ⟨k1, k2⟩ := h3 i (List.mem_range.mpr hi)
  refine ⟨k1, fun ho => ?_, fun ho => ?_⟩
  · rw [ho] at k2; simpa using k2
  · rw [ho] at k2; simpa using k2
theorem idx_no {x : Nat} : ∀ (l : List Nat) (i : Nat), i < l.idxOf x → l[i]? ≠ some x
  | [], i, h => by simp at h
  | y :: l, i, h => by
    rw [List.idxOf_cons] at h
    cases hy : y == x with
    | true => rw [hy] at h; exact absurd h (Nat.not_lt_zero _)
    | false =>
      rw [hy] at h
      cases i with
      | zero =>
        intro q
        have : y = x := by simpa using q
        exact absurd this (beq_eq_false_iff_ne.mp hy)
      | succ i =>
        intro q
        exact idx_no l i (by simp at h; omega) (by simpa using q)
theorem idx_at {l : List Nat} {x : Nat} (h : x ∈ l) : l.idxOf x < l.length ∧ (l.map Int.ofNat)[l.idxOf x]? = some (x : Int) ∧ ∀ i, i < l.idxOf x → (l.map Int.ofNat)[i]? ≠ some (x : Int) := by
  have h1 := List.idxOf_lt_length_of_mem h
  refine ⟨h1, ?_, fun i hi q => ?_⟩
  · rw [List.getElem?_map, List.getElem?_eq_getElem h1]
    show some ((l[l.idxOf x] : Nat) : Int) = _
    rw [List.getElem_idxOf]
  · rw [List.getElem?_map] at q
    obtain ⟨y, hy, e⟩ := Option.map_eq_some_iff.mp q
    have e : y = x := Int.ofNat.inj e
    subst e
    exact idx_no l i hi hy
theorem hgt_lo (a : List Bool) (k : Nat) (hk : k ≤ 9) : -9 ≤ hgt a k ∧ hgt a k ≤ 18 := by
  have := List.count_le_length (a := true) (l := a.take k)
  rw [List.length_take] at this
  unfold hgt
  omega
theorem mulBlk (n : Nat) : Txt.mul (Str.ofString " ") (n : Int) = blk n := by
  have fr : ∀ (n : Nat) (acc : Array Nat), (List.replicate n (#[32] : Array Nat)).foldl (· ++ ·) acc = acc ++ (List.replicate n 32).toArray := by
    intro n
    induction n with
    | zero => intro acc; simp
    | succ n ih =>
      intro acc
      rw [List.replicate_succ, List.foldl_cons, ih, List.replicate_succ]
      apply Array.toList_inj.mp
      simp
  have e32 : (Str.ofString " ").cps = #[32] := by decide +kernel
  have el : (Str.ofString " ").length = 1 := by decide +kernel
  unfold Txt.mul
  by_cases h0 : (n : Int) < 1
  · rw [if_pos h0]
    have : n = 0 := by omega
    subst this; rfl
  · rw [if_neg h0]
    by_cases h1 : ((n : Int) == 1 || (Str.ofString " ").length == 0) = true
    · rw [if_pos h1]
      rw [el] at h1
      have : (n : Int) = 1 := by simpa using h1
      have : n = 1 := by omega
      subst this
      exact str_ext (by rw [e32]; rfl)
    · rw [if_neg h1, e32, Int.toNat_natCast, fr]
      refine str_ext ?_
      simp [blk]
theorem methIdx {prog : Program} {w : World} {A : Around} {E : Value → Shared → Prop} {s : Shared} {D : Addr} {vs : List Value} {n : Nat} {pl : Sem Bool} {Q : Value × List Value → Shared → Prop} (hl : LA s.heap D vs n) (h : Q (.builtin "list.index", [.ref D]) s) : wpAny (model prog w) A (getMethod (.ref D) "index" pl) Q E s :=
  getMethod_builtin ⟨_, hl, rfl⟩ PySem.F.plainAttrs_list PySem.F.slot_list_index PySem.F.type_list_index (fun a e => by cases e; exact ⟨_, hl, rfl⟩) h
noncomputable def takesB (a : List Bool) (p o : Nat) : Bool := if opn a o then decide ((ord a).idxOf o < (ord a).idxOf p) else decide ((ord a).idxOf p < (ord a).idxOf (mat a o))
noncomputable def dueF (a : List Bool) (p i : Nat) : Option (Nat × Nat × Nat) := if takesB a p ((p + 1 + i) % 9) then some ((hgt a ((p + 1 + i) % 9) + ((p + 1 + i) / 9 : Nat) - hgt a p - 1).natAbs, mat a ((p + 1 + i) % 9), (p + 1 + i) % 9) else none
theorem due_eq (a : List Bool) (p : Nat) : due a p = (List.range 8).filterMap (dueF a p) := by
  unfold due dueF takesB
  rfl
/-- the names of due -/
noncomputable def mD (vB vT vM vO vK : Option Value) (dl : Addr) (rk : Int) (ur : Tok) (p : Int) (t : Tok) (oa ha ma ra ta : Addr) : Str → Option Value := fun y =>
  if y = "blanks" then vB else if y = "takes" then vT else if y = "mate" then vM else if y = "one" then vO else if y = "k" then vK else if y = "due" then some (.ref dl) else if y = "rank" then some (.int rk ur) else
  if y = "texts" then some (.ref ta) else if y = "order" then some (.ref ra) else if y = "mates" then some (.ref ma) else if y = "heights" then some (.ref ha) else if y = "opens" then some (.ref oa) else if y = "place" then some (.int p t) else none
theorem mD_none {dl : Addr} {rk : Int} {ur : Tok} {p : Int} {t : Tok} {oa ha ma ra ta : Addr} (y : Str) : (if y = Str.ofString "due" then some (Value.ref dl) else if y = Str.ofString "rank" then some (Value.int rk ur) else List.lookup y [(Str.ofString "place", Value.int p t), (Str.ofString "opens", Value.ref oa), (Str.ofString "heights", Value.ref ha), (Str.ofString "mates", Value.ref ma), (Str.ofString "order", Value.ref ra), (Str.ofString "texts", Value.ref ta)].reverse) = mD none none none none none dl rk ur p t oa ha ma ra ta y := by
  by_cases h1 : y = Str.ofString "blanks"
  · subst h1; kernel_rfl
  · by_cases h2 : y = Str.ofString "takes"
    · subst h2; kernel_rfl
    · by_cases h3 : y = Str.ofString "mate"
      · subst h3; kernel_rfl
      · by_cases h4 : y = Str.ofString "one"
        · subst h4; kernel_rfl
        · by_cases h5 : y = Str.ofString "k"
          · subst h5; kernel_rfl
          · unfold mD
            simp only [h1, h2, h3, h4, h5, if_false]
            by_cases h6 : y = Str.ofString "due"
            · subst h6; kernel_rfl
            · by_cases h7 : y = Str.ofString "rank"
              · subst h7; kernel_rfl
              · simp only [h6, h7, if_false]
                show List.lookup y [(Str.ofString "texts", Value.ref ta), (Str.ofString "order", Value.ref ra), (Str.ofString "mates", Value.ref ma), (Str.ofString "heights", Value.ref ha), (Str.ofString "opens", Value.ref oa), (Str.ofString "place", Value.int p t)] = _
                iterate 6
                  rw [List.lookup_cons]
                  split
                  · rename_i hq; rw [if_pos (beq_iff_eq.mp hq)]
                  rename_i hq
                  rw [if_neg (beq_eq_false_iff_ne.mp hq)]
                rfl
theorem mD_set {vB vT vM vO vK v1 v2 v3 v4 : Option Value} {dl : Addr} {rk : Int} {ur : Tok} {p : Int} {t : Tok} {oa ha ma ra ta : Addr} (y : Str) : (if y = Str.ofString "takes" then v1 else if y = Str.ofString "mate" then v2 else if y = Str.ofString "one" then v3 else if y = Str.ofString "k" then v4 else mD vB vT vM vO vK dl rk ur p t oa ha ma ra ta y) = mD vB v1 v2 v3 v4 dl rk ur p t oa ha ma ra ta y := by
  by_cases h1 : y = Str.ofString "blanks"
  · subst h1; kernel_rfl
  · unfold mD
    simp only [h1, if_false]
    by_cases h2 : y = Str.ofString "takes"
    · simp only [h2, if_true]
    · by_cases h3 : y = Str.ofString "mate"
      · simp only [h2, h3, if_true, if_false]
      · by_cases h4 : y = Str.ofString "one"
        · simp only [h2, h3, h4, if_true, if_false]
        · by_cases h5 : y = Str.ofString "k"
          · simp only [h2, h3, h4, h5, if_true, if_false]
          · simp only [h2, h3, h4, h5, if_false]
theorem mD_blanks {vB vT vM vO vK v : Option Value} {dl : Addr} {rk : Int} {ur : Tok} {p : Int} {t : Tok} {oa ha ma ra ta : Addr} (y : Str) : (if y = Str.ofString "blanks" then v else mD vB vT vM vO vK dl rk ur p t oa ha ma ra ta y) = mD v vT vM vO vK dl rk ur p t oa ha ma ra ta y := by
  unfold mD
  by_cases h1 : y = Str.ofString "blanks"
  · simp only [h1, if_true]
  · simp only [h1, if_false]
theorem takes_o {a : List Bool} {p o : Nat} (h : opn a o = true) : takesB a p o = decide ((((ord a).idxOf o : Nat) : Int) < (((ord a).idxOf p : Nat) : Int)) := by
  unfold takesB; rw [h]; simp
theorem takes_c {a : List Bool} {p o : Nat} (h : opn a o = false) : takesB a p o = decide ((((ord a).idxOf (mat a o) : Nat) : Int) > (((ord a).idxOf p : Nat) : Int)) := by
  unfold takesB; rw [h]; simp
theorem fmod9 (p i : Nat) : ((p : Int) + 1 + (i : Int)).fmod 9 = (((p + 1 + i) % 9 : Nat) : Int) := by
  rw [Int.fmod_eq_emod_of_nonneg _ (by omega)]; omega
theorem fdiv9 (p i : Nat) : ((p : Int) + 1 + (i : Int)).fdiv 9 = (((p + 1 + i) / 9 : Nat) : Int) := by
  rw [Int.fdiv_eq_ediv_of_nonneg _ (by omega)]; omega
theorem strsGet {vs : List Value} {ss : List Str} (h : StrsAre vs ss) : ∀ {i : Nat} {x : Str}, ss[i]? = some x → ∃ t, vs[i]? = some (.str x t) := by
  induction h with
  | nil => intro i x h; simp at h
  | cons x t _ ih =>
    intro i y h
    cases i with
    | zero => cases h; exact ⟨t, rfl⟩
    | succ i => exact ih h
noncomputable def DueP (oa ha ma ra ta : Addr) (ko kh km kr kt : Nat) (a : List Bool) (hv mv rv tv : List Value) (h : Heap) : Prop := LA h oa (a.map Value.bool) ko ∧ LA h ha hv kh ∧ LA h ma mv km ∧ LA h ra rv kr ∧ LA h ta tv kt
theorem DueP.mono {oa ha ma ra ta : Addr} {ko kh km kr kt : Nat} {a : List Bool} {hv mv rv tv : List Value} : ∀ h h' : Heap, (∀ b o, h.get? b = some o → h'.get? b = some o) → DueP oa ha ma ra ta ko kh km kr kt a hv mv rv tv h → DueP oa ha ma ra ta ko kh km kr kt a hv mv rv tv h' :=
  fun _ _ k p => ⟨p.1.keeps k, p.2.1.keeps k, p.2.2.1.keeps k, p.2.2.2.1.keeps k, p.2.2.2.2.keeps k⟩
noncomputable def dueS (a : List Bool) (p : Nat) (T : Nat → Str) : List (Nat × Str × Str) := (due a p).map fun q => (q.1, T q.2.1, T q.2.2)
theorem dueW {prog : Program} {w : World} (oa ha ma ra ta : Addr) (ko kh km kr kt : Nat) (a : List Bool) (hv mv rv tv : List Value) (ts : List Str) (p : Nat) (t : Tok) (hl : a.length = 9) (hc : a.count true = 5) (hi : IntsAre hv (hgts a)) (hm : IntsAre mv ((List.range 9).map fun i => (mat a i : Int))) (hr : IntsAre rv ((ord a).map Int.ofNat)) (ht : StrsAre tv ts) (htl : ts.length = 9) (hp : p < 9) (hop : opn a p = true) :
   DoesP (DueP oa ha ma ra ta ko kh km kr kt a hv mv rv tv) (KH w.params) prog w 2 241 [.int (p : Int) t, .ref oa, .ref ha, .ref ma, .ref ra, .ref ta] (fun r own => ∃ dl dv k o3, r = .ref dl ∧ own = (dl, W.listOf dv.toArray k) :: o3 ∧ LogL o3 dv (dueS a p fun i => ts.getD i Str.empty)) := by
  refine enterP (binds := [("place", .int (p : Int) t), ("opens", .ref oa), ("heights", .ref ha), ("mates", .ref ma), ("order", .ref ra), ("texts", .ref ta)]) (by k_is) (by k_is) (fun s X => BindsTo.of_eq rfl) (locs rfl) ?_ DueP.mono
  intro dp un gd fr g L s PP hP' G HP F N hdp hun
  obtain ⟨X, ⟨p', loose, mean, mg, mb, T⟩, codeHd, codeHd2⟩ := id G
  have hV : VMark := trivial
  obtain ⟨g1, g2, g3⟩ := good2_of hl hc
  obtain ⟨i1, i2, i3⟩ := idx_at ((g3 p hp).2.1 hop)
  have q1 := HP.2.2.2.1.keeps F.keep
  refine wpAny_execs_cons ?_
  iterate 3 walk1
  refine methIdx q1 ?_
  iterate 4 walk1
  refine indexG q1 hr (by rw [List.length_map]; exact i1) i2 i3 (by rw [List.length_map]; omega) ?_
  iterate 24 walk1
  rename_i h40 tk40 hk40 dl h41 l4 h5 F5 N5 Q2 hq2 hr2 h6 tk6 t6 u6 v6 hR F6 N6 hk6
  clear F5 N5 hk6 q1
  obtain ⟨ur, F6⟩ : ∃ ur, Fr g L h6 (mD none none none none none dl ((ord a).idxOf p : Nat) ur p t oa ha ma ra ta) := ⟨_, frOf F6 mD_none⟩
  have hsm : Builtin.Range.small ((p : Int) + 1) ((p : Int) + 9) 1 = true ∧ Builtin.Range.rangeSize ((p : Int) + 1) ((p : Int) + 9) 1 = ((8 : Nat) : Int) := by
    have : p = 0 ∨ p = 1 ∨ p = 2 ∨ p = 3 ∨ p = 4 ∨ p = 5 ∨ p = 6 ∨ p = 7 ∨ p = 8 := by omega
    rcases this with rfl | rfl | rfl | rfl | rfl | rfl | rfl | rfl | rfl <;> exact ⟨by decide, by decide⟩
  dsimp only at hR ⊢
  refine rangeForI (n := 8) rfl F6 N6 hR hsm.1 hsm.2 (fun I i m news => ∃ (vB vT vM vO vK : Option Value) (dv : List Value) (nd : Nat) (o3 : Cells), m = mD vB vT vM vO vK dl ((ord a).idxOf p : Nat) ur p t oa ha ma ra ta ∧ news = (dl, W.listOf dv.toArray nd) :: o3 ∧
    LogL o3 dv (((List.range i).filterMap (dueF a p)).map fun q => (q.1, ts.getD q.2.1 Str.empty, ts.getD q.2.2 Str.empty)) ∧ @Ne Nat dl I ∧ (∀ q ∈ o3, q.1 ≠ dl) ∧ ∀ q ∈ o3, q.1 ≠ I) ?_ ?_ ?_
  · intro I hI
    exact ⟨none, none, none, none, none, [], 0, [], rfl, rfl, .nil, Nat.ne_of_lt (hI (dl, _) (.head _)), allN, allN⟩
  · intro I i tk0 m news hi8
    rintro ⟨vB, vT, vM, vO, vK, dv, nd, o3, rfl, rfl, hL, n1, n2, n3⟩ it h7 tk7 F7 N7 Q3 hq3 hr3
    have e1 := fmod9 p i
    have e2 := fdiv9 p i
    obtain ⟨o, ho⟩ : ∃ o, (p + 1 + i) % 9 = o := ⟨_, rfl⟩
    rw [ho] at e1
    have ho9 : o < 9 := by omega
    have hm1 : 0 ≤ ((p : Int) + 1 + (i : Int)).fmod 9 := by omega
    have hm2 : ((p : Int) + 1 + (i : Int)).fmod 9 < 9 := by omega
    have htn : (((p : Int) + 1 + (i : Int)).fmod 9).toNat = o := by omega
    obtain ⟨um, hum⟩ := intsAtE hm (i := o) (x := (mat a o : Int)) (by rw [List.getElem?_map, List.getElem?_range ho9]; rfl)
    obtain ⟨k1, k2, k3⟩ := g3 o ho9
    iterate 13 walk1
    rename_i h8 F8 N8 tk8 hk8
    refine item_listL (HP.2.2.1.keeps F8.keep).isList hm1 (by omega) (by rw [htn]; exact hum) ?_
    iterate 2 walk1
    rename_i h9 F9 N9 tk9 hk9
    clear hk8
    refine wpAny_execs_cons ?_
    refine cutNext (fun s' => ∃ (h' : Heap) (k' : Nat), s' = { s with heap := h', toks := k' } ∧ Fr g L h' (mD vB (some (.bool (takesB a p o))) (some (.int (mat a o : Int) um)) (some (.int (((p : Int) + 1 + (i : Int)).fmod 9) (tk7 + 1))) (some (.int ((p : Int) + 1 + (i : Int)) tk0)) dl ((ord a).idxOf p : Nat) ur p t oa ha ma ra ta) ∧ News g L h' ((I, it) :: (dl, W.listOf dv.toArray nd) :: o3)) ?_ ?_
    · intro Q' hQ
      iterate 5 walk1
      refine item_listL (HP.1.keeps F9.keep).isList hm1 (by omega) (by rw [htn]; exact (opnAt hl ho9)) ?_
      iterate 7 walk1
      · rename_i hoo
        obtain ⟨j1, j2, j3⟩ := idx_at (k2 hoo)
        refine methIdx (HP.2.2.2.1.keeps F9.keep) ?_
        iterate 4 walk1
        refine indexG (HP.2.2.2.1.keeps F9.keep) hr (j := (ord a).idxOf o) (by rw [List.length_map]; exact j1) (by rw [e1]; exact j2) (by rw [e1]; exact j3) (by rw [List.length_map]; omega) ?_
        iterate 5 walk1
        rename_i h10 F10 N10
        refine hQ _ ⟨h10, _, rfl, frOf F10 fun y => ?_, N10⟩
        rw [takes_o hoo]
        exact mD_set y
      · rename_i hoo
        iterate 5 walk1
        obtain ⟨j1, j2, j3⟩ := idx_at (k3 hoo)
        refine methIdx (HP.2.2.2.1.keeps F9.keep) ?_
        iterate 4 walk1
        refine indexG (HP.2.2.2.1.keeps F9.keep) hr (j := (ord a).idxOf (mat a o)) (by rw [List.length_map]; exact j1) j2 j3 (by rw [List.length_map]; omega) ?_
        iterate 5 walk1
        rename_i h10 F10 N10
        refine hQ _ ⟨h10, _, rfl, frOf F10 fun y => ?_, N10⟩
        rw [takes_c hoo]
        exact mD_set y
    rintro _ ⟨h', k', rfl, F10, N10⟩
    clear F9 N9
    have hdl : dv.length ≤ 8 := by
      rw [hL.length, List.length_map]
      refine Nat.le_trans (List.length_filterMap_le _ _) ?_
      rw [List.length_range]; omega
    cases htk : takesB a p o with
    | true =>
      rw [htk] at F10
      obtain ⟨uo, huo⟩ := intsAtE hi (hgts_at ho9)
      obtain ⟨up, hup⟩ := intsAtE hi (hgts_at hp)
      have b1 := hgt_lo a o (by omega)
      have b2 := hgt_lo a p (by omega)
      iterate 20 walk1
      refine item_listL (HP.2.1.keeps F10.keep).isList hm1 (by omega) (by rw [htn]; exact huo) ?_
      iterate 8 walk1
      refine item_listL (HP.2.1.keeps F10.keep).isList (by omega) (by omega) (by rw [Int.toNat_natCast]; exact hup) ?_
      iterate 22 walk1
      rename_i u0 tka0 tb1 kb kz kn h11 F11 N11 tk11 hk11
      clear kz kn hk11
      have hb : Txt.mul (Str.ofString " ") (if hgt a o + ((p : Int) + 1 + (i : Int)).fdiv 9 - hgt a p - 1 < 0 then -(hgt a o + ((p : Int) + 1 + (i : Int)).fdiv 9 - hgt a p - 1) else hgt a o + ((p : Int) + 1 + (i : Int)).fdiv 9 - hgt a p - 1) = blk (hgt a o + ((p + 1 + i) / 9 : Nat) - hgt a p - 1).natAbs := by
        rw [e2, ← mulBlk]
        congr 1
        split <;> omega
      rw [hb] at F11 ⊢
      obtain ⟨nb, hnb⟩ : ∃ nb, (hgt a o + ((p + 1 + i) / 9 : Nat) - hgt a p - 1).natAbs = nb := ⟨_, rfl⟩
      rw [hnb] at F11 ⊢
      obtain ⟨tm, htm⟩ := strsGet ht (i := mat a o) (x := ts.getD (mat a o) Str.empty) (by rw [List.getD_eq_getElem?_getD, List.getElem?_eq_getElem (by omega)]; rfl)
      obtain ⟨to, hto⟩ := strsGet ht (i := o) (x := ts.getD o Str.empty) (by rw [List.getD_eq_getElem?_getD, List.getElem?_eq_getElem (by omega)]; rfl)
      refine item_listL (HP.2.2.2.2.keeps F11.keep).isList (by omega) (by omega) (by rw [Int.toNat_natCast]; exact htm) ?_
      iterate 4 walk1
      refine item_listL (HP.2.2.2.2.keeps F11.keep).isList hm1 (by omega) (by rw [htn]; exact hto) ?_
      iterate 7 walk1
      rename_i D h12a l12 h12 F12 N12
      obtain ⟨d1, d2, d3⟩ := l12
      rw [show dv.toArray.push (Value.ref D) = (dv ++ [Value.ref D]).toArray by simp] at N12
      have hL2 : LogL ((D, tupL nb (ts.getD (mat a o) Str.empty) (ts.getD o Str.empty) tb1 tm to) :: o3) (dv ++ [.ref D]) ((((List.range i).filterMap (dueF a p)).map fun q => (q.1, ts.getD q.2.1 Str.empty, ts.getD q.2.2 Str.empty)) ++ [(nb, ts.getD (mat a o) Str.empty, ts.getD o Str.empty)]) := .snoc (hL.mono fun _ h => .tail _ h) (.head _)
      refine hq3 _ _ _ _ ⟨_, _, _, _, _, dv ++ [.ref D], nd + 1, (D, tupL nb (ts.getD (mat a o) Str.empty) (ts.getD o Str.empty) tb1 tm to) :: o3, rfl, rfl, ?_, n1, allC (Nat.ne_of_gt d2) n2, allC (Nat.ne_of_gt d1) n3⟩ (frOf F12 mD_blanks) (cb_drop N12 (by lcg_sub)) (allC n1 (allC (Nat.ne_of_gt d1) n3))
      have e : dueF a p i = some (nb, mat a o, o) := by unfold dueF; rw [ho, htk, hnb]; rfl
      rw [List.range_succ, List.filterMap_append, List.filterMap_cons, e, List.map_append]
      exact hL2
    | false =>
      rw [htk] at F10
      iterate 8 walk1
      refine hq3 h' _ _ _ ⟨_, _, _, _, _, dv, nd, o3, rfl, rfl, ?_, n1, n2, n3⟩ F10 N10 (allC n1 n3)
      have e : dueF a p i = none := by unfold dueF; rw [ho, htk]; rfl
      rw [List.range_succ, List.filterMap_append, List.filterMap_cons, e]
      rw [List.filterMap_nil, List.append_nil]
      exact hL
  · rintro I m news h7 tk7 ⟨vB, vT, vM, vO, vK, dv, nd, o3, rfl, rfl, hL, n1, n2, n3⟩ F7 N7
    refine hq2 _ ?_
    iterate 3 walk1
    dsimp only
    refine hP' _ _ (Fin.intro F7 N7 ⟨dl, dv, nd, o3, rfl, rfl, ?_⟩)
    unfold dueS
    rw [due_eq]
    exact hL
end Mine

-- AY0
section
namespace Mine
section
open Builtin Builtin.Str StrLaws
/-- count, on signs -/
noncomputable def cntL (y : List Nat) : Nat → List Nat → Nat
  | _, [] => 0
  | k + 1, _ :: l => cntL y k l
  | 0, c :: l => if (c :: l).take y.length = y then 1 + cntL y (y.length - 1) l else cntL y 0 l
theorem cnt_skip (y : List Nat) : ∀ (k : Nat) (l : List Nat), cntL y k l = cntL y 0 (l.drop k)
  | 0, _ => rfl
  | _ + 1, [] => rfl
  | k + 1, _ :: l => cnt_skip y k l
theorem cnt_hit {y l : List Nat} (hy : 1 ≤ y.length) (h : l.take y.length = y) : cntL y 0 l = 1 + cntL y 0 (l.drop y.length) := by
  cases l with
  | nil => rw [List.take_nil] at h; subst h; simp at hy
  | cons c l =>
    show (if (c :: l).take y.length = y then 1 + cntL y (y.length - 1) l else cntL y 0 l) = _
    rw [if_pos h, cnt_skip]
    obtain ⟨k, hk⟩ : ∃ k, y.length = k + 1 := ⟨y.length - 1, by omega⟩
    rw [hk]; rfl
theorem cnt_miss {y l : List Nat} {c : Nat} (h : (c :: l).take y.length ≠ y) : cntL y 0 (c :: l) = cntL y 0 l := by
  show (if (c :: l).take y.length = y then 1 + cntL y (y.length - 1) l else cntL y 0 l) = _
  rw [if_neg h]
theorem cnt_to {x y : Str} (hy : 1 ≤ y.length) {c : Nat} : ∀ (m a : Nat), a + m = c → c ≤ x.length → (∀ k, a ≤ k → k < c → ¬ At x y x.length k) →
    cntL y.cps.toList 0 (x.cps.toList.drop a) = cntL y.cps.toList 0 (x.cps.toList.drop c)
  | 0, a, h, _, _ => by rw [show a = c by omega]
  | m + 1, a, h, hc, hn => by
    have hl : a < x.cps.toList.length := by simp only [Array.length_toList]; show a < x.length; omega
    have ih := cnt_to hy m (a + 1) (by omega) hc fun k h1 h2 => hn k (by omega) h2
    rw [List.drop_eq_getElem_cons hl]
    have hm := hn a (Nat.le_refl _) (by omega)
    rw [at_iff hy, List.drop_eq_getElem_cons hl] at hm
    rw [cnt_miss hm, ih]
theorem cnt_parts {x y : Str} (hy : 1 ≤ y.length) : ∀ (cuts : List Nat) (a f : Nat), ChainG x y x.length a cuts f → (∀ k, f ≤ k → ¬ At x y x.length k) → a ≤ x.length → cuts.length = cntL y.cps.toList 0 (x.cps.toList.drop a)
  | [], a, f, h, hn, ha => by
    have e : f = a := h
    subst e
    have := cnt_to (x := x) hy (c := x.length) (x.length - f) f (by omega) (Nat.le_refl _) fun k h1 _ => hn k h1
    rw [this]
    have e2 : x.cps.toList.drop x.length = [] := List.drop_eq_nil_of_le (by simp only [Array.length_toList]; exact Nat.le_refl _)
    rw [e2]; rfl
  | c :: r, a, f, h, hn, ha => by
    obtain ⟨h1, h2, h3, h4⟩ := h
    have hc : c + y.length ≤ x.length := h2.1
    have ih := cnt_parts hy r _ f h4 hn hc
    have := cnt_to (x := x) hy (c := c) (c - a) a (by omega) (by omega) h3
    rw [this, cnt_hit (by exact hy) ((at_iff hy).mp h2)]
    have e3 : (y.cps.toList).length = y.length := Array.length_toList
    rw [List.drop_drop, e3, ← ih, List.length_cons]; omega
theorem count_cnt (x y : Str) (hy : 1 ≤ y.length) : Txt.count x y = (cntL y.cps.toList 0 x.cps.toList : Int) := by
  obtain ⟨f, hc, hn⟩ := occ_tight x y hy
  have key := cnt_parts hy _ _ f hc hn (Nat.zero_le _)
  rw [List.drop_zero] at key
  show ((_ : Nat) : Int) = _
  rw [← key]
end
theorem readsAll_app {h : Heap} {vs us : List Value} {xs ys : List PyData} {as bs : List Addr} (a : ReadsAll h vs xs as) (b : ReadsAll h us ys bs) : ∃ cs, ReadsAll h (vs ++ us) (xs ++ ys) cs := by
  induction vs generalizing xs as with
  | nil => cases a; exact ⟨_, b⟩
  | cons v vs ih =>
    cases a with
    | cons r a => obtain ⟨cs, q⟩ := ih a; exact ⟨_, .cons r q⟩
theorem cnt_nl : ∀ xs : List Nat, (cntL [10] 0 xs : Int) = nl xs
  | [] => rfl
  | c :: xs => by
    have ih := cnt_nl xs
    by_cases h : c = 10
    · subst h
      rw [cnt_hit (by decide) (by simp)]
      show ((1 + cntL [10] 0 xs : Nat) : Int) = nl xs + 1
      rw [← ih]; omega
    · rw [cnt_miss (by simpa using h), ih]
      show _ = cond (c == 10) _ _
      rw [show (c == 10) = false from beq_eq_false_iff_ne.mpr h]; rfl
theorem count_nl (x : Str) : Txt.count x (Str.ofString "\n") = nl x.cps.toList := by
  rw [count_cnt _ _ (by decide), show (Str.ofString "\n").cps.toList = [10] by decide +kernel, cnt_nl]
theorem shaped_strs {ss : List Str} (h : ∀ x ∈ ss, PyData.strOk x = true) : PySem.SeqAt.shaped (.list (ss.map .str)) = true := by
  unfold PySem.SeqAt.shaped
  rw [Bool.and_eq_true]
  refine ⟨?_, decide_eq_true ?_⟩
  · show PyData.canLayAll0 (ss.map .str) = true
    rw [canLayAll_strs']
    exact List.all_eq_true.mpr h
  · show PyData.depthAll (ss.map .str) + 1 ≤ 64
    rw [depthAll_strs']; decide
section
variable {prog : Program} {w : World} {A : Around} {E : Value → Shared → Prop} {s : Shared} {h₀ : Heap} {L : Addr} {news : Cells}
theorem neSame {a b : Value} {d : PyData} {as bs : List Addr} {Q : Value → Shared → Prop} (ra : Reads s.heap a d as) (rb : Reads s.heap b d bs) (hs : PySem.SeqAt.shaped d = true) (hu : A.units + 64 < cLine) (h : Q (.bool false) s) : wpAny (model prog w) A (compareOp .NotEq a b) Q E s := by
  refine ne_dataH ra rb hs hs hu ?_
  rw [PySem.SeqAt.eqv_refl _ (PySem.SeqAt.canLay_of_shaped hs)]
  exact h
theorem readsStrs {H : Heap} {f : Addr} {fv : List Value} {k : Nat} {ss : List Str} (N : News h₀ L H news) (hm : (f, W.listOf fv.toArray k) ∈ news) (hf : StrsAre fv ss) : Reads H (.ref f) (.list (ss.map .str)) [f] :=
  .list (N _ hm).1 rfl rfl (hf.reads _)
end
section
variable {prog : Program} {w : World} {A : Around} {E : Value → Shared → Prop} {s : Shared} {h₀ : Heap} {L x c2 : Addr} {oc2 : Obj} {tot : Int} {m : Str → Option Value} {news own : Cells} {cs : List Nat}
theorem attrLine {ex : Bool} {Q : Value → Shared → Prop} {pb : List Str} (h : LexS prog w x c2 oc2 tot own pb cs) (F : Fr h₀ L s.heap m) (X : (KH w.params).In h₀) (N : News h₀ L s.heap news) (hin : ∀ p ∈ own, p ∈ news) (hq : ∀ tl, Q (.int (tot - nl cs) tl) { s with toks := s.toks + 1 }) :
    wpAny (model prog w) A (getAttr (.ref x) "lineno" ex) Q E s := by
  obtain ⟨l, vs, kp, sg, ks, tl, hl, rfl, rfl, rfl, hv, hs, rfl⟩ := h
  exact get_own (es := [_, _, _, _]) (n := 4) F X (InstAt.of_news (C := 59) (dx := l.d) N (hin _ (.head _)) (hin _ (.tail _ (.head _)))) (by k_is) (by k_is) (by k_is) (by k_is) (by k_get) rfl (hq tl)
end
theorem strsAt {vs : List Value} {ss : List Str} (h : StrsAre vs ss) : ∀ {i : Nat} {v : Value}, vs[i]? = some v → ∃ x t, v = .str x t ∧ ss[i]? = some x := by
  induction h with
  | nil => intro i v h; simp at h
  | cons x t _ ih =>
    intro i v h
    cases i with
    | zero => cases h; exact ⟨x, t, rfl, rfl⟩
    | succ i => exact ih h
noncomputable def logD (q : Nat × Str × Str) : PyData := .tuple [.str (blk q.1), .str q.2.1, .str q.2.2]
theorem LogL.reads {o : Cells} {lv : List Value} {P : List (Nat × Str × Str)} {h : Heap} (N : ∀ p ∈ o, h.get? p.1 = some p.2) (l : LogL o lv P) : ∃ as, ReadsAll h lv (P.map logD) as := by
  induction l with
  | nil => exact ⟨_, .nil⟩
  | @snoc lv P p n x y b t u l m ih =>
    obtain ⟨as, q⟩ := ih
    rw [List.map_append]
    exact readsAll_app q (.cons (.tuple (N _ m) rfl rfl (.cons (.str _ b) (.cons (.str _ t) (.cons (.str _ u) .nil)))) .nil)
theorem strOk_blk (k : Nat) : PyData.strOk (blk k) = true := by
  unfold PyData.strOk blk
  rw [List.all_toArray, List.all_eq_true]
  intro c hc
  rw [(List.mem_replicate.mp hc).2]; decide
theorem logD_lay : ∀ P : List (Nat × Str × Str), (∀ p ∈ P, PyData.strOk p.2.1 = true ∧ PyData.strOk p.2.2 = true) → PyData.canLayAll0 (P.map logD) = true
  | [], _ => rfl
  | p :: P, h => by
    have := logD_lay P fun q hq => h q (.tail _ hq)
    obtain ⟨h1, h2⟩ := h p (.head _)
    show ((PyData.strOk (blk p.1) && (PyData.strOk p.2.1 && (PyData.strOk p.2.2 && true))) && PyData.canLayAll0 (P.map logD)) = true
    rw [this, h1, h2, strOk_blk]; rfl
theorem logD_depth : ∀ P : List (Nat × Str × Str), PyData.depthAll (P.map logD) ≤ 2
  | [] => Nat.zero_le _
  | p :: P => by
    have := logD_depth P
    show max (PyData.depth (logD p)) (PyData.depthAll (P.map logD)) ≤ 2
    have e : PyData.depth (logD p) ≤ 2 := by
      show PyData.depthAll [.str (blk p.1), .str p.2.1, .str p.2.2] + 1 ≤ 2
      simp [PyData.depthAll, PyData.depth]
    omega
theorem logD_shaped (P : List (Nat × Str × Str)) (h : ∀ p ∈ P, PyData.strOk p.2.1 = true ∧ PyData.strOk p.2.2 = true) : PySem.SeqAt.shaped (.list (P.map logD)) = true := by
  unfold PySem.SeqAt.shaped
  rw [Bool.and_eq_true]
  refine ⟨logD_lay P h, decide_eq_true ?_⟩
  show PyData.depthAll (P.map logD) + 1 ≤ 64
  have := logD_depth P
  omega
theorem off1_all {D : Addr} : ∀ l : Cells, LCg.Off1 D l → ∀ p ∈ l, @Ne Nat p.1 D
  | [], _, p, hp => nomatch hp
  | a :: r, h, p, hp => by
    rcases List.mem_cons.mp hp with rfl | hp
    · exact h.1
    · exact off1_all r h.2 p hp
end Mine

end
-- AY1
namespace Mine
noncomputable def lawB : List Stmt := match stOf 22 with | .FunctionDef _ _ b _ _ _ _ _ _ _ => b | _ => []
noncomputable def lawSc : Scope := match stOf 22 with | .FunctionDef _ _ _ _ _ _ sc _ _ _ => sc | _ => ⟨.module, [], false, false, []⟩
noncomputable abbrev envLw (L fa : Addr) (cd : Value) : Env := envOfC "law" lawSc L fa cd
noncomputable abbrev six (L : Addr) (oH oB oTb oTx oO oL : Obj) (ps : Array Value) (r : Cells) : Cells := (L + 1 + 1 + 1 + 1 + 1 + 1, oH) :: (L + 1 + 1 + 1 + 1 + 1, oB) :: (L + 1 + 1 + 1 + 1, oTb) :: (L + 1 + 1 + 1, oTx) :: (L + 1 + 1, oO) :: (L + 1, oL) :: (243, tabObj ps) :: r
/-- none of the six cells, nor the table -/
noncomputable def N6 (L a : Addr) : Prop := @Ne Nat a (L + 1 + 1 + 1 + 1 + 1 + 1) ∧ @Ne Nat a (L + 1 + 1 + 1 + 1 + 1) ∧ @Ne Nat a (L + 1 + 1 + 1 + 1) ∧ @Ne Nat a (L + 1 + 1 + 1) ∧ @Ne Nat a (L + 1 + 1) ∧ @Ne Nat a (L + 1) ∧ @Ne Nat a 243
theorem N6.of {L a : Addr} {oH oB oTb oTx oO oL : Obj} {ps : Array Value} {r : Cells} (h : ∀ q ∈ six L oH oB oTb oTx oO oL ps r, a ≠ q.1) : N6 L a :=
  ⟨h _ (.head _), h _ (.tail _ (.head _)), h _ (.tail _ (.tail _ (.head _))), h _ (.tail _ (.tail _ (.tail _ (.head _)))), h _ (.tail _ (.tail _ (.tail _ (.tail _ (.head _))))), h _ (.tail _ (.tail _ (.tail _ (.tail _ (.tail _ (.head _)))))), h _ (.tail _ (.tail _ (.tail _ (.tail _ (.tail _ (.tail _ (.head _)))))))⟩
theorem N6.to {L a : Addr} {oH oB oTb oTx oO oL : Obj} {ps : Array Value} {r : Cells} (h : N6 L a) (k : ∀ q ∈ r, a ≠ q.1) : ∀ q ∈ six L oH oB oTb oTx oO oL ps r, a ≠ q.1 :=
  allC h.1 (allC h.2.1 (allC h.2.2.1 (allC h.2.2.2.1 (allC h.2.2.2.2.1 (allC h.2.2.2.2.2.1 (allC h.2.2.2.2.2.2 k))))))
theorem sixR {L a : Addr} {oH oB oTb oTx oO oL : Obj} {ps : Array Value} {r : Cells} (h : ∀ q ∈ six L oH oB oTb oTx oO oL ps r, a ≠ q.1) : ∀ q ∈ r, a ≠ q.1 := fun q hq => h q (.tail _ (.tail _ (.tail _ (.tail _ (.tail _ (.tail _ (.tail _ hq)))))))
theorem OkWs.all {a : List Bool} {ws : List Str} (h : OkWs a ws) : ∀ x ∈ ws, x.length ≤ 3 ∧ NE x := by
  induction h with
  | nil => exact allN
  | cons q _ ih =>
    refine allC ?_ ih
    obtain ⟨c, r, e, h1, -, -⟩ := q
    refine ⟨?_, ?_⟩
    · show Array.size _ ≤ 3
      rw [← Array.length_toList, e, List.length_cons]; omega
    · unfold NE; rw [e]; exact List.cons_ne_nil _ _
theorem OkWs.at {a : List Bool} {ws : List Str} (h : OkWs a ws) : ∀ {i : Nat} {x : Str}, ws[i]? = some x → clS x = !(opn a i) := by
  induction h with
  | nil => intro i x h; simp at h
  | cons q _ ih =>
    intro i x h
    cases i with
    | zero =>
      cases h
      obtain ⟨c, r, e, -, h2, -⟩ := q
      show (_ == some 46) = _
      rw [e]; exact h2
    | succ i => exact ih h
section
variable {prog : Program} {w : World} {g : Heap} {dp un : Nat} {gd : Option (List Code)} {fr : List Env}
theorem lawA (G : Gd (KH w.params) g) (hdp : dp + 40 < recursionLimit) (hun : un + 900 < cLine)
    {L fa a : Addr} {cd : Value} {items : List Value} {is : List Int} {s : Shared} {h : Heap} {tk : Nat} {oH oB oTb oTx oO oL : Obj} (HL : g.IsList a items.toArray) (hI : IntsAre items is) (hn : is.length ≤ 63) (hL : @LT.lt Nat _ 243 L) (dL : oL.data = .cell none)
    (F : Fr g L h (fun y => if y = "script" then some (.ref a) else none)) (N : News g L h (six L oH oB oTb oTx oO oL #[] [(210, tabObj #[])])) {Q' : Flow → Shared → Prop}
    (hQ : ∀ (hp wl x c2 : Addr) (oc2 oL' : Obj) (hv wv : List Value) (kh kw : Nat) (is' : List Int) (ar : List Bool) (ws : List Str) (tz : Str) (tt : Tok) (o1 r2 : Cells) (h' : Heap) (tk' : Nat),
      IntsAre hv is' → is'.length = 9 → StrsAre wv ws → OkWs ar ws → ar.length = 9 → ar.count true = 5 → Toks tz.cps.toList (ws.map (·.cps.toList) ++ [[122], []]) [] → tz.cps.size ≤ 300 → LexS prog w x c2 oc2 (1 + nl tz.cps.toList) o1 [] tz.cps.toList → oL'.data = .cell (some (.ref x)) →
      (hp, W.listOf hv.toArray kh) ∈ r2 → (wl, W.listOf wv.toArray kw) ∈ r2 → (∃ qs, ((210 : Addr), tabObj qs) ∈ r2) → (∀ p ∈ o1, N6 L p.1 ∧ ∀ q ∈ r2, p.1 ≠ q.1) → (∀ p ∈ r2, N6 L p.1) →
      Fr g L h' (fun y => if y = "text" then some (.str tz tt) else if y = "words" then some (.ref wl) else if y = "heaps" then some (.ref hp) else if y = "script" then some (.ref a) else none) →
      News g L h' (six L oH oB oTb oTx oO oL' #[] (o1 ++ r2)) →
      wpAny (model prog w) (arT dp un gd fr) (execs (lawB.drop 4) (envLw L fa cd)) Q' (fun _ _ => False) { s with heap := h', toks := tk' }) :
    wpAny (model prog w) (arT dp un gd fr) (execs lawB (envLw L fa cd)) Q' (fun _ _ => False) { s with heap := h, toks := tk } := by
  obtain ⟨X, ⟨p, loose, mean, mg, mb, T⟩, codeHd, codeHd2⟩ := id G
  have hV : VMark := trivial
  show wpAny _ _ (execs (List.cons _ (List.cons _ (List.cons _ (List.cons _ (lawB.drop 4))))) _) _ _ _
  generalize hrest : lawB.drop 4 = rest at *
  unfold envLw at hQ ⊢
  conv in (occs := *) lawSc => all_goals whnf
  iterate 9 walk1
  refine useP (heapsW a items is hI hn) HL (fun h h' k e => e.at (k a)) F N G (by omega) (by omega) ?_
  rintro v h1 tk1 own1 ⟨hp, hv, hi, hk, rfl, rfl, hvI, hvl⟩ F1 N1 D1
  have D1 := D1 (hp, W.listOf hv.toArray hk) (.head _)
  have d1 : N6 L hp := .of D1
  have d2 : @Ne Nat hp 210 := sixR D1 _ (.head _)
  have N1 := cb_drop (news := six L oH oB oTb oTx oO oL #[] [(hp, W.listOf hv.toArray hk), (210, tabObj #[])]) N1 (by lcg_sub)
  clear F N D1
  dsimp only
  iterate 11 walk1
  rename_i h1' F1 N1 tk1' htk1
  refine use (own := [(hp, W.listOf hv.toArray hk)]) (rest := six L oH oB oTb oTx oO oL #[] [(210, tabObj #[])]) (wordsW hp hv hk hi hvI hvl) F1 N1 G (by lcg_sub) (by lcg_sub) (allC (d1.to (allC d2 allN)) allN) (by omega) (by omega) ?_
  rintro v h2 tk2 own2 ⟨wl, wv, kw, ar, ws, rfl, hws, hok, hal, hac, hne, rfl⟩ F2 N2 D2
  have D2 := D2 (wl, W.listOf wv.toArray kw) (.head _)
  have e1 : N6 L wl := .of D2
  have e2 : @Ne Nat wl 210 := sixR D2 _ (.head _)
  have N2 := cb_drop (news := six L oH oB oTb oTx oO oL #[] [(wl, W.listOf wv.toArray kw), (hp, W.listOf hv.toArray hk), (210, tabObj #[])]) N2 (by lcg_sub)
  clear F1 N1 D2
  dsimp only
  iterate 14 walk1
  rename_i h2' F2 N2 tk2' htk2
  have hok3 := hok.all
  refine use (own := [(wl, W.listOf wv.toArray kw), (hp, W.listOf hv.toArray hk)]) (rest := six L oH oB oTb oTx oO oL #[] [(210, tabObj #[])]) (textW wl hp wv hv kw hk ws hi hws hvI (by rw [hok.length]; exact hal) hvl (fun x hx => (hok3 x hx).1) hne) F2 N2 G (by lcg_sub) (by lcg_sub)
    (allC (e1.to (allC e2 allN)) (allC (d1.to (allC d2 allN)) allN)) (by omega) (by omega) ?_
  rintro v h3 tk3 own3 ⟨tx, tt, rfl, htx, rfl⟩ F3 N3 -
  have N3 := cb_drop (news := six L oH oB oTb oTx oO oL #[] [(wl, W.listOf wv.toArray kw), (hp, W.listOf hv.toArray hk), (210, tabObj #[])]) N3 (by lcg_sub)
  clear F2 N2
  have htl : tx.length ≤ 200 := by
    have := txt_len htx (by
      intro y hy
      obtain ⟨z, hz, rfl⟩ := List.mem_map.mp hy
      rw [Array.length_toList]; exact (hok3 z hz).1)
    rw [Array.length_toList, List.length_map, hok.length, hal] at this
    show tx.cps.size ≤ _
    omega
  dsimp only
  iterate 13 walk1
  rename_i tz kz hkz h4 F4 N4 tk4 htk4
  clear hkz htk4
  have hz : (Str.ofString "z").cps.toList = [122] := by decide +kernel
  have hyz : (tx ++ Str.ofString "z").cps.toList = tx.cps.toList ++ [122] := by rw [Str.cps_append, Array.toList_append, hz]
  have hyzs : (tx ++ Str.ofString "z").cps.size ≤ 300 := by
    have e := Str.length_append tx (Str.ofString "z")
    have e2 : (Str.ofString "z").length = 1 := by decide +kernel
    show (tx ++ Str.ofString "z").length ≤ _
    omega
  have hT := (toksOf htx (by
    intro y hy
    obtain ⟨z, hz, rfl⟩ := List.mem_map.mp hy
    exact (hok3 z hz).2)).1
  rw [← hyz] at hT
  generalize tx ++ Str.ofString "z" = ty at hyzs hT F4 ⊢
  refine use (own := [(210, tabObj #[])]) (rest := six L oH oB oTb oTx oO oL #[] [(wl, W.listOf wv.toArray kw), (hp, W.listOf hv.toArray hk)]) (lexNew (.inl rfl) ty tz (by rw [sizeLine_eq]; omega)) F4 N4 G (by lcg_sub) (by lcg_sub)
    (allC (N6.to (by unfold N6; refine ⟨?_, ?_, ?_, ?_, ?_, ?_, ?_⟩ <;> omega) (allC (Ne.symm e2) (allC (Ne.symm d2) allN))) allN) (by omega) (by omega) ?_
  rintro v h5 tk5 own5 ⟨x, c1, c2, oc1, oc2, o1, rfl, hx, hcd, n1, hoff, rfl⟩ F5 N5 D5
  have N5 := cb_drop (news := six L oH oB oTb oTx oO oL #[] (o1 ++ [(wl, W.listOf wv.toArray kw), (hp, W.listOf hv.toArray hk), (c1, oc1), (210, tab2 c1 c2)])) N5 (fun p hp => by
    simp only [six, List.mem_cons, List.mem_append, List.not_mem_nil, or_false] at hp ⊢
    rcases hp with hp | hp | hp | hp | hp | hp | hp | hp | hp | hp | hp | hp <;> simp [hp])
  clear F4 N4
  have D6 := fun p (hp : p ∈ o1) => D5 p (List.mem_append_left _ hp)
  have Dc := D5 (c1, oc1) (List.mem_append_right _ (.head _))
  have Dt := D5 ((210 : Addr), tab2 c1 c2) (List.mem_append_right o1 (List.Mem.tail _ (List.Mem.head _)))
  have c6 : N6 L c1 := .of Dc
  have t6 : N6 L 210 := .of Dt
  have o6 : ∀ p ∈ o1, N6 L p.1 := fun p hp => .of (D6 p hp)
  have r6 : ∀ p ∈ [(wl, W.listOf wv.toArray kw), (hp, W.listOf hv.toArray hk), (c1, oc1), ((210 : Addr), tab2 c1 c2)], N6 L p.1 := allC e1 (allC d1 (allC c6 (allC t6 allN)))
  have o7 : ∀ p ∈ o1, N6 L p.1 ∧ ∀ q ∈ [(wl, W.listOf wv.toArray kw), (hp, W.listOf hv.toArray hk), (c1, oc1), ((210 : Addr), tab2 c1 c2)], p.1 ≠ q.1 := fun p hp' => ⟨o6 p hp', allC (sixR (D6 p hp') _ (.head _)) (allC (sixR (D6 p hp') _ (.tail _ (.head _))) (allC (hoff p hp').1 (allC (hoff p hp').2 allN)))⟩
  have m1 : (wl, W.listOf wv.toArray kw) ∈ [(wl, W.listOf wv.toArray kw), (hp, W.listOf hv.toArray hk), (c1, oc1), ((210 : Addr), tab2 c1 c2)] := .head _
  have m2 : (hp, W.listOf hv.toArray hk) ∈ [(wl, W.listOf wv.toArray kw), (hp, W.listOf hv.toArray hk), (c1, oc1), ((210 : Addr), tab2 c1 c2)] := .tail _ (.head _)
  have m3 : ∃ qs, ((210 : Addr), tabObj qs) ∈ [(wl, W.listOf wv.toArray kw), (hp, W.listOf hv.toArray hk), (c1, oc1), ((210 : Addr), tab2 c1 c2)] := ⟨_, .tail _ (.tail _ (.tail _ (.head _)))⟩
  generalize [(wl, W.listOf wv.toArray kw), (hp, W.listOf hv.toArray hk), (c1, oc1), ((210 : Addr), tab2 c1 c2)] = r2 at N5 r6 o7 m1 m2 m3
  have kA : ∀ p ∈ o1 ++ r2, p.1 ≠ L + 1 := allA (fun p hp => (o6 p hp).2.2.2.2.2.1) (fun p hp => (r6 p hp).2.2.2.2.2.1)
  clear D5 D6 Dc Dt hoff
  iterate 1 walk1
  rename_i h6 oL' F6 N7 dL'
  dsimp only
  subst hrest
  exact hQ hp wl x c2 oc2 oL' hv wv hk kw hi ar ws ty tz o1 r2 h6 _ hvI hvl hws hok hal hac hT hyzs hx dL' m2 m1 m3 o7 r6 (frOf F6 fun y => rfl) N7
end
end Mine

-- AY2
namespace Mine
/-- the law's first names -/
noncomputable def mLa (tz : Str) (tt : Tok) (wl hp a : Addr) : Str → Option Value := fun y => if y = "text" then some (.str tz tt) else if y = "words" then some (.ref wl) else if y = "heaps" then some (.ref hp) else if y = "script" then some (.ref a) else none
noncomputable def OffO (L : Addr) (o1 r2 : Cells) : Prop := ∀ p ∈ o1, N6 L p.1 ∧ ∀ q ∈ r2, p.1 ≠ q.1
theorem OffO.out {L : Addr} {o1 r2 : Cells} (h : OffO L o1 r2) {oH oB oTb oTx oO oL : Obj} {ps : Array Value} : ∀ p ∈ o1, ∀ q ∈ six L oH oB oTb oTx oO oL ps r2, p.1 ≠ q.1 := fun p hp => N6.to (h p hp).1 (h p hp).2
theorem OffO.of {L : Addr} {o1 r2 : Cells} {oH oB oTb oTx oO oL : Obj} {ps : Array Value} (h : ∀ p ∈ o1, ∀ q ∈ six L oH oB oTb oTx oO oL ps r2, p.1 ≠ q.1) : OffO L o1 r2 := fun p hp => ⟨.of (h p hp), sixR (h p hp)⟩
/-- strs that the text can lay -/
theorem strOk_len {x : Str} (h : ∀ d ∈ x.cps.toList, d < 0x110000) : PyData.strOk x = true := by
  unfold PyData.strOk
  rw [← Array.all_toList, List.all_eq_true]
  exact fun c hc => decide_eq_true (h c hc)
theorem OkWs.ok {a : List Bool} {ws : List Str} (h : OkWs a ws) : ∀ x ∈ ws, PyData.strOk x = true := by
  induction h with
  | nil => exact allN
  | cons q _ ih =>
    refine allC ?_ ih
    obtain ⟨c, r, e, -, -, h3⟩ := q
    exact strOk_len (by rw [e]; exact h3)
section
variable {prog : Program} {w : World} {g : Heap} {dp un : Nat} {gd : Option (List Code)} {fr : List Env}
theorem lawT4 (G : Gd (KH w.params) g) (hdp : dp + 40 < recursionLimit) (hun : un + 900 < cLine)
    {L fa a hp wl x c2 : Addr} {cd : Value} {wv : List Value} {kw : Nat} {ar : List Bool} {ws : List Str} {tz : Str} {tt : Tok} {o1 r2 : Cells} {s : Shared} {h : Heap} {tk : Nat} {oH oB oTb oTx oO oL oc2 : Obj} {ps : Array Value}
    (hws : StrsAre wv ws) (hok : OkWs ar ws) (hal : ar.length = 9) (hT : Toks tz.cps.toList (ws.map (·.cps.toList) ++ [[122], []]) []) (hyzs : tz.cps.size ≤ 300) (hx : LexS prog w x c2 oc2 (1 + nl tz.cps.toList) o1 [] tz.cps.toList) (dL : oL.data = .cell (some (.ref x)))
    (m1 : (wl, W.listOf wv.toArray kw) ∈ r2) (o6 : OffO L o1 r2)
    (F : Fr g L h (mLa tz tt wl hp a)) (N : News g L h (six L oH oB oTb oTx oO oL ps (o1 ++ r2))) {Q' : Flow → Shared → Prop}
    (hQ : ∀ (o1' : Cells) (R : List Nat) (h' : Heap) (tk' : Nat), LexS prog w x c2 oc2 (1 + nl tz.cps.toList) o1' [] R → Toks R [[122], []] [] → R.length ≤ 300 → OffO L o1' r2 →
      Fr g L h' (mLa tz tt wl hp a) → News g L h' (six L oH oB oTb oTx oO oL ps (o1' ++ r2)) →
      wpAny (model prog w) (arT dp un gd fr) (execs (lawB.drop 5) (envLw L fa cd)) Q' (fun _ _ => False) { s with heap := h', toks := tk' }) :
    wpAny (model prog w) (arT dp un gd fr) (execs (lawB.drop 4) (envLw L fa cd)) Q' (fun _ _ => False) { s with heap := h, toks := tk } := by
  obtain ⟨X, ⟨p, loose, mean, mg, mb, T⟩, codeHd, codeHd2⟩ := id G
  have hV : VMark := trivial
  show wpAny _ _ (execs (List.cons _ (lawB.drop 5)) _) _ _ _
  generalize hrest : lawB.drop 5 = rest at *
  unfold envLw at hQ ⊢
  conv in (occs := *) lawSc => all_goals whnf
  iterate 3 walk1
  refine compV hV F (by with_unfolding_all rfl) (by decide) (by rfl) (by decide) (by rfl) ?_
  have hwl : ws.length = 9 := by rw [hok.length]; exact hal
  have hvl : wv.length = 9 := by rw [hws.length]; exact hwl
  have mW : (wl, W.listOf wv.toArray kw) ∈ six L oH oB oTb oTx oO oL ps (o1 ++ r2) := by lcg_src
  walk1
  refine LCg.CompSrc.ledger rfl F N mW (by rw [sizeLine_eq, List.size_toArray]; omega) ?_
  intro g'
  rw [List.size_toArray]
  refine compInv (fun i ys news => ∃ (o1' : Cells) (R : List Nat), news = six L oH oB oTb oTx oO oL ps (o1' ++ r2) ∧ LexS prog w x c2 oc2 (1 + nl tz.cps.toList) o1' [] R ∧ Toks R ((ws.drop i).map (·.cps.toList) ++ [[122], []]) [] ∧ R.length ≤ 300 ∧ StrsAre ys (ws.take i) ∧ OffO L o1' r2) ?_ ?_ wv.length 0 [] _ (Nat.zero_add _) ⟨o1, tz.cps.toList, rfl, hx, hT, by rw [Array.length_toList]; exact hyzs, .nil, o6⟩
  · rintro i ys news hi ⟨o1', R, rfl, hx', hT', hR', hys, H1'⟩ v I oI C oC D m₂ h2 tk2 E' hP hC hxm F2 N2 off ⟨n1, n2, n3⟩
    obtain ⟨u, hu⟩ : ∃ u, ws[i]? = some u := ⟨_, List.getElem?_eq_getElem (by omega)⟩
    have hud : ws.drop i = u :: ws.drop (i + 1) := by
      rw [List.drop_eq_getElem_cons (by omega)]
      congr 1
      rw [List.getElem?_eq_getElem (by omega)] at hu
      exact Option.some.inj hu
    have hut : ws.take (i + 1) = ws.take i ++ [u] := by rw [List.take_add_one, hu]; rfl
    rw [hud] at hT'
    obtain ⟨R2, hT1, hT2⟩ : ∃ R2, TokR R u.cps.toList R2 ∧ Toks R2 ((ws.drop (i + 1)).map (·.cps.toList) ++ [[122], []]) [] := by
      cases hT' with
      | cons a b => exact ⟨_, a, b⟩
    have hR2 := tok_len hT1
    have offm := off.mem
    iterate 3 walk1
    refine methGet hx' F2 X N2 (fun p hp => ?_) ?_
    · lcg_src
    walk1
    refine use (own := o1') (rest := (I, oI) :: (C, oC) :: (D, LCg.lst ys) :: six L oH oB oTb oTx oO oL ps r2) (getR hx' (by omega) hT1) F2 N2 G (fun p hp => ?_) (fun p hp => ?_) (fun p hp q hq => ?_) (by omega) (by omega) ?_
    · lcg_src
    · revert p; lcg_sub
    · have hpn : p ∈ six L oH oB oTb oTx oO oL ps (o1' ++ r2) := by lcg_src
      obtain ⟨q1, q2, q3⟩ := offm p hpn
      rcases List.mem_cons.mp hq with rfl | hq
      · exact q1
      · rcases List.mem_cons.mp hq with rfl | hq
        · exact q2
        · rcases List.mem_cons.mp hq with rfl | hq
          · exact q3
          · exact H1'.out p hp q hq
    rintro v h3 tk3 o2 ⟨t', rfl, hx3⟩ F3 N3 H3
    have hsu : (⟨u.cps.toList.toArray⟩ : Str) = u := str_ext rfl
    rw [hsu]
    refine LCg.CompEnd.intro F3 N3 (six L oH oB oTb oTx oO oL ps (o2 ++ r2)) (fun p hp => ?_) (LCg.Off3.of fun p hp => ?_) ?_ ⟨o2, R2, rfl, hx3, hT2, by omega, ?_, OffO.of fun p hp q hq => H3 p hp q (.tail _ (.tail _ (.tail _ hq)))⟩
    · revert p; lcg_sub
    · by_cases hp2 : p ∈ o2
      · exact ⟨H3 p hp2 _ (.head _), H3 p hp2 _ (.tail _ (.head _)), H3 p hp2 _ (.tail _ (.tail _ (.head _)))⟩
      · refine offm p ?_
        simp only [six, List.mem_cons, List.mem_append] at hp ⊢
        simp only [hp2, false_or] at hp
        rcases hp with hp | hp | hp | hp | hp | hp | hp | hp <;> simp [hp]
    · exact .inr ⟨W.listOf wv.toArray kw, by lcg_src, rfl, kw, rfl⟩
    · rw [hut]
      exact hys.append' (.cons u t' .nil)
  · rintro ys news ⟨o2, R, rfl, hx2, hT2, hR2, hys, H2⟩ D h2 tk2 F2 N2 off
    rw [hvl, List.take_of_length_le (by omega)] at hys
    rw [hvl, List.drop_of_length_le (by omega)] at hT2
    have hu : (arT dp un gd fr).units + 64 < cLine := by show un + 64 < cLine; omega
    iterate 1 walk1
    refine neSame (readsStrs (f := D) (k := ys.length) N2 (.head _) hys) (readsStrs N2 (f := wl) (by lcg_src) hws) (shaped_strs hok.ok) hu ?_
    iterate 3 walk1
    dsimp only
    subst hrest
    exact hQ o2 R h2 _ hx2 hT2 hR2 H2 F2 (cb_drop N2 (by lcg_sub))
end
end Mine

-- AY3
namespace Mine
section
variable {prog : Program} {w : World} {g : Heap} {dp un : Nat} {gd : Option (List Code)} {fr : List Env}
theorem lawT5 (G : Gd (KH w.params) g) (hdp : dp + 40 < recursionLimit) (hun : un + 900 < cLine)
    {L fa a hp wl : Addr} {cd : Value} {wv : List Value} {kw : Nat} {ar : List Bool} {ws : List Str} {tz : Str} {tt : Tok} {o1 r2 : Cells} {s : Shared} {h : Heap} {tk : Nat} {oH oB oTb oTx oO oL : Obj} {ps : Array Value} (hL : @LT.lt Nat _ 243 L)
    (hws : StrsAre wv ws) (hok : OkWs ar ws) (hal : ar.length = 9) (dO : oO.data = .cell none)
    (m1 : (wl, W.listOf wv.toArray kw) ∈ r2) (o6 : OffO L o1 r2) (r6 : ∀ p ∈ r2, N6 L p.1)
    (F : Fr g L h (mLa tz tt wl hp a)) (N : News g L h (six L oH oB oTb oTx oO oL ps (o1 ++ r2))) {Q' : Flow → Shared → Prop}
    (hQ : ∀ (oa : Addr) (ko : Nat) (oO' : Obj) (r2' : Cells) (h' : Heap) (tk' : Nat), oO'.data = .cell (some (.ref oa)) → r2' = (oa, W.listOf (ar.map Value.bool).toArray ko) :: r2 → OffO L o1 r2' → (∀ p ∈ r2', N6 L p.1) →
      Fr g L h' (mLa tz tt wl hp a) → News g L h' (six L oH oB oTb oTx oO' oL ps (o1 ++ r2')) →
      wpAny (model prog w) (arT dp un gd fr) (execs (lawB.drop 6) (envLw L fa cd)) Q' (fun _ _ => False) { s with heap := h', toks := tk' }) :
    wpAny (model prog w) (arT dp un gd fr) (execs (lawB.drop 5) (envLw L fa cd)) Q' (fun _ _ => False) { s with heap := h, toks := tk } := by
  obtain ⟨X, ⟨p, loose, mean, mg, mb, T⟩, codeHd, codeHd2⟩ := id G
  have hV : VMark := trivial
  show wpAny _ _ (execs (List.cons _ (lawB.drop 6)) _) _ _ _
  generalize hrest : lawB.drop 6 = rest at *
  unfold envLw at hQ ⊢
  conv in (occs := *) lawSc => all_goals whnf
  have hwl : ws.length = 9 := by rw [hok.length]; exact hal
  have hvl : wv.length = 9 := by rw [hws.length]; exact hwl
  have mW : (wl, W.listOf wv.toArray kw) ∈ six L oH oB oTb oTx oO oL ps (o1 ++ r2) := by lcg_src
  walk1
  refine wpAny_Assign_Name ?_ (by with_unfolding_all rfl)
  refine compV hV F (by with_unfolding_all rfl) (by decide) (by rfl) (by decide) (by rfl) ?_
  walk1
  refine LCg.CompSrc.ledger rfl F N mW (by rw [sizeLine_eq, List.size_toArray]; omega) ?_
  intro g'
  rw [List.size_toArray]
  refine compInv (fun i ys news => news = six L oH oB oTb oTx oO oL ps (o1 ++ r2) ∧ ys = (ar.take i).map Value.bool) ?_ ?_ wv.length 0 [] _ (Nat.zero_add _) ⟨rfl, rfl⟩
  · rintro i ys news hi ⟨rfl, rfl⟩ v I oI C oC D m₂ h2 tk2 E' hP hC hxm F2 N2 off ⟨n1, n2, n3⟩
    rw [List.getElem?_toArray] at hP
    obtain ⟨u, t, rfl, hu⟩ := strsAt hws hP
    have hne := (hok.all u (List.mem_of_getElem? hu)).2
    have hx0 := hne.len
    have hix := hne.item
    have hcl := hok.at hu
    have hat : ar[i]? = some (opn ar i) := by
      unfold opn
      rw [List.getD_eq_getElem?_getD, List.getElem?_eq_getElem (by omega)]; rfl
    iterate 7 walk1
    refine LCg.CompEnd.intro F2 N2 (six L oH oB oTb oTx oO oL ps (o1 ++ r2)) (fun p hp => hp) off (.inr ⟨W.listOf wv.toArray kw, mW, rfl, kw, rfl⟩) ⟨rfl, ?_⟩
    rw [List.take_add_one, hat, List.map_append]
    have e : (Txt.item u 0 != Str.ofString ".") = opn ar i := by
      show (!(Txt.item u 0 == Str.ofString ".")) = _
      rw [hix, hcl, Bool.not_not]
    rw [e]; rfl
  · rintro ys news ⟨rfl, rfl⟩ D h2 tk2 F2 N2 off
    rw [hvl, List.take_of_length_le (by omega)] at N2
    have offD := off1_all _ off
    have n6 : N6 L D := .of fun q hq => (offD q hq).symm
    have nD : D ≠ L + 1 + 1 := n6.2.2.2.2.1
    have kA : ∀ p ∈ o1 ++ r2, p.1 ≠ L + 1 + 1 := allA (fun p hp => (o6 p hp).1.2.2.2.2.1) (fun p hp => (r6 p hp).2.2.2.2.1)
    iterate 1 walk1
    rename_i h3 oO' F3 N3 dO'
    dsimp only
    subst hrest
    exact hQ D _ oO' _ h3 _ dO' rfl (fun p hp => ⟨(o6 p hp).1, allC (offD p (by lcg_src)) (o6 p hp).2⟩) (allC n6 r6) F3 (cb_drop N3 (by lcg_sub))
end
end Mine

-- AY4
namespace Mine
theorem pickTo (vs : List Value) (k : Nat) (hk : k ≤ vs.length) : slicePick vs.toArray none (some (k : Int)) none = (vs.take k).toArray := by
  have e : sliceBounds none (some (k : Int)) none vs.toArray.size = (((0 : Nat) : Int), ((min k vs.toArray.size : Nat) : Int), 1) := by
    simp only [sliceBounds, Option.getD_none, show (1 : Int) > 0 by decide, if_true, if_neg (show ¬ ((k : Int) < 0) by omega)]
    congr 1
    congr 1
    omega
  rw [kmk_pick_nat _ e]
  show ((vs.drop 0).take (min k vs.toArray.size - 0)).toArray = _
  rw [List.drop_zero, Nat.sub_zero, List.size_toArray, kmk_take_min]
section
variable {prog : Program} {w : World} {g : Heap} {dp un : Nat} {gd : Option (List Code)} {fr : List Env}
theorem lawT6 (G : Gd (KH w.params) g) (hdp : dp + 40 < recursionLimit) (hun : un + 900 < cLine)
    {L fa a hp wl oa : Addr} {cd : Value} {ko : Nat} {ar : List Bool} {tz : Str} {tt : Tok} {o1 r2 : Cells} {s : Shared} {h : Heap} {tk : Nat} {oH oB oTb oTx oO oL : Obj} {ps : Array Value} (hL : @LT.lt Nat _ 243 L)
    (hal : ar.length = 9) (dH : oH.data = .cell none) (dO : oO.data = .cell (some (.ref oa)))
    (m2 : (oa, W.listOf (ar.map Value.bool).toArray ko) ∈ r2) (o6 : OffO L o1 r2) (r6 : ∀ p ∈ r2, N6 L p.1)
    (F : Fr g L h (mLa tz tt wl hp a)) (N : News g L h (six L oH oB oTb oTx oO oL ps (o1 ++ r2))) {Q' : Flow → Shared → Prop}
    (hQ : ∀ (ha : Addr) (hv : List Value) (kh : Nat) (oH' : Obj) (r2' : Cells) (h' : Heap) (tk' : Nat), oH'.data = .cell (some (.ref ha)) → IntsAre hv (hgts ar) → r2' = (ha, W.listOf hv.toArray kh) :: r2 → OffO L o1 r2' → (∀ p ∈ r2', N6 L p.1) →
      Fr g L h' (mLa tz tt wl hp a) → News g L h' (six L oH' oB oTb oTx oO oL ps (o1 ++ r2')) →
      wpAny (model prog w) (arT dp un gd fr) (execs (lawB.drop 7) (envLw L fa cd)) Q' (fun _ _ => False) { s with heap := h', toks := tk' }) :
    wpAny (model prog w) (arT dp un gd fr) (execs (lawB.drop 6) (envLw L fa cd)) Q' (fun _ _ => False) { s with heap := h, toks := tk } := by
  obtain ⟨X, ⟨p, loose, mean, mg, mb, T⟩, codeHd, codeHd2⟩ := id G
  have hV : VMark := trivial
  show wpAny _ _ (execs (List.cons _ (lawB.drop 7)) _) _ _ _
  generalize hrest : lawB.drop 7 = rest at *
  unfold envLw at hQ ⊢
  conv in (occs := *) lawSc => all_goals whnf
  walk1
  refine wpAny_Assign_Name ?_ (by with_unfolding_all rfl)
  refine compV hV F (by with_unfolding_all rfl) (by decide) (by rfl) (by decide) (by rfl) ?_
  iterate 7 walk1
  rename_i h1 tk1 t1 u1 v1 hR F1 N1 hk1
  refine LCg.CompSrc.range rfl F1 N1 hR (by decide) (n := 9) (by rfl) (by decide) ?_
  intro g'
  refine compInv (fun i ys news => news = six L oH oB oTb oTx oO oL ps (o1 ++ r2) ∧ IntsAre ys ((hgts ar).take i)) ?_ ?_ 9 0 [] _ rfl ⟨rfl, .nil⟩
  · rintro i ys news hi ⟨rfl, hys⟩ v I oI C oC D m₂ h2 tk2 E' ⟨tv, rfl⟩ hC hxm F2 N2 off ⟨n1, n2, n3⟩
    have mO : (oa, W.listOf (ar.map Value.bool).toArray ko) ∈ (I, oI) :: (C, oC) :: (D, LCg.lst ys) :: six L oH oB oTb oTx oO oL ps (o1 ++ r2) := by lcg_src
    iterate 14 walk1
    refine kmk_slice F2 N2 (N2.isList mO) .none (.int _ _) (fun D2 h3 F3 N3 l3 => ?_) (by with_unfolding_all rfl) (by intro _; with_unfolding_all rfl) (by rw [sizeLine_eq, List.size_toArray, List.length_map, hal]; decide)
    rw [show (0 : Int) + (i : Int) = ((i : Nat) : Int) by omega, pickTo _ i (by rw [List.length_map, hal]; omega), ← List.map_take] at N3
    have hD2 : h3.IsList D2 (((ar.take i).map Value.bool).toArray) := N3.isList (.head _)
    iterate 1 walk1
    refine sumBools F3 N3 rfl hD2 ?_
    intro h4 tk4 t4 F4 N4
    have hc1 : (0 : Int) ≤ (((ar.take i).count true : Nat) : Int) := by omega
    have hc2 : (((ar.take i).count true : Nat) : Int) ≤ 9 := by
      have := List.count_le_length (a := true) (l := ar.take i)
      rw [List.length_take] at this; omega
    have hc3 : hgt ar i = 2 * (((ar.take i).count true : Nat) : Int) - (0 + (i : Int)) := by unfold hgt; omega
    generalize (((ar.take i).count true : Nat) : Int) = c at hc1 hc2 hc3 ⊢
    iterate 3 walk1
    refine LCg.CompEnd.intro F4 N4 (six L oH oB oTb oTx oO oL ps (o1 ++ r2)) (fun p hp => .tail _ hp) off trivial ⟨rfl, ?_⟩
    rw [List.take_add_one, hgts_at hi, hc3]
    exact ints_snoc hys
  · rintro ys news ⟨rfl, hys⟩ D h2 tk2 F2 N2 off
    have offD := off1_all _ off
    have n6 : N6 L D := .of fun q hq => (offD q hq).symm
    have nD : D ≠ L + 1 + 1 + 1 + 1 + 1 + 1 := n6.1
    have kA : ∀ p ∈ o1 ++ r2, p.1 ≠ L + 1 + 1 + 1 + 1 + 1 + 1 := allA (fun p hp => (o6 p hp).1.1) (fun p hp => (r6 p hp).1)
    iterate 1 walk1
    rename_i h3 oH' F3 N3 dH'
    dsimp only
    subst hrest
    exact hQ D ys _ oH' _ h3 _ dH' hys rfl (fun p hp => ⟨(o6 p hp).1, allC (offD p (by lcg_src)) (o6 p hp).2⟩) (allC n6 r6) F3 (cb_drop N3 (by lcg_sub))
end
end Mine

-- AY5b
namespace Mine
section
variable {P : Heap → Prop} {K : Frag} {prog : Program} {w : World} {k : Nat} {f c' : Addr} {vs : List Value} {res : Value → Cells → Prop} {name qual : Str} {params : Arguments} {scope : Scope} {cl : List (Str × Addr)} {pm ctv : Value} {lbody : Expr} {binds : List (Str × Value)}
theorem enterLP (ho : ∀ h, P h → h.get? f = some (kla_obj name qual params lbody scope cl pm c' ctv)) (hc : ∀ h, P h → ∃ oc cvs ct', h.get? c' = some oc ∧ oc.data = .fields cvs ∧ cvs[1]? = some (.str qual ct'))
    (hbind : bindArgs (kla_fn name qual params lbody scope cl pm (.ref c') ctv) ⟨vs, []⟩ = pure binds) (hloc : ∀ y ∈ binds, scope.names.lookup y.1 = some .local) (hP : ∀ h h' : Heap, (∀ b o, h.get? b = some o → h'.get? b = some o) → P h → P h')
    (h : ∀ (dp un : Nat) (gd : Option (List Code)) (fr : List Env) (g : Heap) (L : Addr) (s : Shared) (PP : Value → Shared → Prop), (∀ v s', Fin g L s res v s' → PP v s') → Gd K g → P g → Fr g L s.heap (fun y => binds.reverse.lookup y) → News g L s.heap [] →
      dp + k < recursionLimit → un + 20 * k < cLine →
      wpAny (model prog w) (arT (dp + 1) (un + 3) gd (envX qual scope L f (.ref c') cl :: fr)) (eval lbody (envX qual scope L f (.ref c') cl)) (fun v s' => PP v s') (fun _ _ => False) s)
    (hcell : ∀ x ∈ scope.names, x.2 ≠ .cell := by decide) (hco : scope.isCoroutine = false := by rfl) (hgen : scope.isGenerator = false := by rfl) (hk : scope.kind = .function := by rfl) (hk0 : 0 < k := by decide) :
    DoesP P K prog w k f vs res := by
  intro dp un gd fr h₀ s R G HP st hd hu hR
  have HPs := hP _ _ st HP
  refine kla_callFunE (by show dp < recursionLimit; omega) (ho _ HPs) rfl hco hgen rfl ?_ ?_
  · obtain ⟨oc, cvs, ct', e1, e2, e3⟩ := hc _ HPs
    exact ⟨c', oc, cvs, ct', rfl, e1, e2, e3⟩
  rw [hbind]
  refine wpAny_pure (wpAny_newFunctionEnv hcell hloc (fun h₁ hns hsb => ⟨(G.nolimit.keeps st).fresh _ hsb, ?_⟩) hk)
  show codeAny _ _ (.expr lbody (envX qual scope s.heap.objs.size f (.ref c') cl)) _ _
  have hk₁ : ∀ b o, s.heap.get? b = some o → h₁.get? b = some o := fun b o e => hsb.extBut b o (Nat.ne_of_lt (Heap.lt_size e)) (Heap.get?_push_of_some _ e)
  refine kla_codeExpr (wpAny_mono (h dp un gd fr s.heap s.heap.objs.size { s with heap := h₁, toks := s.toks + binds.length } _ (fun _ _ x => x) (G.keeps st) HPs ⟨hns, fun b o e => hk₁ b o e, Nat.le_refl _⟩
    (fun p hp => nomatch hp) hd hu) (fun v s' hl => ?_) fun _ _ y => y.elim)
  obtain ⟨m', news', h', tk', rfl, F', N', r⟩ := hl
  refine hR _ h' tk' news' r ⟨fun b o e => F'.keep b o (st b o e), fun p hp => ⟨(N' p hp).1, ?_⟩⟩
  cases q : h₀.get? p.1 with
  | none => rfl
  | some o => have := (N' p hp).2.2; rw [st _ _ q] at this; cases this
end
noncomputable def lamX : PySem.Expr := match (lawB[7]? : Option Stmt) with | some (.Assign _ (.Call _ _ (kw :: _) _) _) => kw.value | _ => .Constant .none default default
noncomputable def lamP : Arguments := match lamX with | .Lambda p _ _ _ => p | _ => default
noncomputable def lamB : PySem.Expr := match lamX with | .Lambda _ b _ _ => b | _ => .Constant .none default default
noncomputable def lamSc : Scope := match lamX with | .Lambda _ _ sc _ => sc | _ => ⟨.module, [], false, false, []⟩
noncomputable abbrev tupK (a : List Bool) (k : Nat) (u v : Tok) : Obj := { cls := .type "tuple", data := .seq #[.int (hgt a k) u, .int (-(k : Int)) v] }
theorem keyL {prog : Program} {w : World} {nl : Cells} {f c' c0 ha : Addr} {name qual : Str} {pm ctv : Value} {oc' oH : Obj} {vs : Array Value} {t' : Tok} {ar : List Bool} {hv : List Value} {kh : Nat}
    (hf : (f, kla_obj name qual lamP lamB lamSc [(Str.ofString "heights", c0)] pm c' ctv) ∈ nl) (hc : (c', oc') ∈ nl) (hd1 : oc'.data = .fields vs) (hd2 : vs[1]? = some (.str qual t')) (hc0 : (c0, oH) ∈ nl) (dH : oH.data = .cell (some (.ref ha))) (hha : (ha, W.listOf hv.toArray kh) ∈ nl)
    (hi : IntsAre hv (hgts ar)) (k : Nat) (hk : k < 9) (t : Tok) :
    DoesP (fun h => ∀ q ∈ nl, h.get? q.1 = some q.2) (KH w.params) prog w 2 f [.int (k : Int) t] (fun r own => ∃ T u v, r = .ref T ∧ own = [(T, tupK ar k u v)]) := by
  refine enterLP (binds := [("k", .int (k : Int) t)]) (fun h hp => hp _ hf) (fun h hp => ⟨oc', vs, t', hp _ hc, hd1, hd2⟩) rfl (locs rfl) (fun h h' kk p q hq => kk _ _ (p q hq)) ?_
  intro dp un gd fr g L s PP hP' G HP F N hdp hun
  obtain ⟨X, ⟨p', loose, mean, mg, mb, T⟩, codeHd, codeHd2⟩ := id G
  conv => arg 3; arg 1; whnf
  conv in (occs := *) lamSc => all_goals whnf
  obtain ⟨uh, hu⟩ := intsAtE hi (hgts_at hk)
  iterate 3 walk1
  have hh := F.keep _ _ (HP _ hha)
  refine wpAny_Name (wpAny_loadName_free rfl rfl rfl ⟨oH, F.keep _ _ (HP _ hc0), dH⟩ ?_) (by decide)
  walk1
  refine item_listL (show s.heap.IsList ha hv.toArray from ⟨_, hh, rfl, _, rfl⟩) (by omega) (by omega) (by rw [Int.toNat_natCast]; exact hu) ?_
  iterate 6 walk1
  rename_i D h2 F2 N2 l2
  exact hP' _ _ (Fin.intro F2 N2 ⟨D, _, _, rfl, rfl⟩)
end Mine

-- AY5
namespace Mine
/-- the places of the openings -/
noncomputable def opl (a : List Bool) : List Nat := (List.range 9).filter (opn a)
noncomputable def keyLt (a : List Bool) (x y : Nat) : Bool := if hgt a x == hgt a y then decide (y < x) else decide (hgt a x < hgt a y)
noncomputable def KasT.run {α : Type} (lt : Nat → Nat → Bool) (n : Nat) : KasT α → Option α
  | .ret a => some a
  | .ask i j k => if i < n ∧ j < n then KasT.run lt n (k (lt i j)) else none
theorem kasEval {α : Type} {cmp : Nat → Nat → (Bool → Shared → Prop) → Shared → Prop} {lt : Nat → Nat → Bool} {n : Nat} {I : Shared → Prop} (hc : ∀ i j C s, i < n → j < n → I s → (∀ s', I s' → C (lt i j) s') → cmp i j C s) :
    ∀ (t : KasT α) (Q : α → Shared → Prop) (r : α) (s : Shared), KasT.run lt n t = some r → I s → (∀ s', I s' → Q r s') → t.kasWp cmp Q s
  | .ret a, Q, r, s, e, hI, hq => by
    have e : some a = some r := e
    cases e
    exact hq s hI
  | .ask i j k, Q, r, s, e, hI, hq => by
    have e : (if i < n ∧ j < n then KasT.run lt n (k (lt i j)) else none) = some r := e
    by_cases h : i < n ∧ j < n
    · rw [if_pos h] at e
      exact hc i j _ s h.1 h.2 hI fun s' h' => kasEval hc _ Q r s' e h' hq
    · rw [if_neg h] at e; cases e
noncomputable def sortOk (a : List Bool) : Bool := (opl a).length == 5 && match KasT.run (fun i j => keyLt a ((opl a).getD i 0) ((opl a).getD j 0)) 5 (kas_sort 5) with | some p => (p.toList.map (fun i => (opl a).getD i 0) == ord a) && p.toList.all fun i => decide (i < 5) | none => false
theorem arrs_sort : (arrsN 9 5).all sortOk = true := by decide +kernel
theorem sort_of {a : List Bool} (hl : a.length = 9) (hc : a.count true = 5) : (opl a).length = 5 ∧ ∃ p : Array Nat, KasT.run (fun i j => keyLt a ((opl a).getD i 0) ((opl a).getD j 0)) 5 (kas_sort 5) = some p ∧ p.toList.map (fun i => (opl a).getD i 0) = ord a ∧ ∀ i ∈ p.toList, i < 5 := by
  have hm := arrs_mem a
  rw [hl, hc] at hm
  have := List.all_eq_true.mp arrs_sort a hm
  unfold sortOk at this
  rw [Bool.and_eq_true, beq_iff_eq] at this
  obtain ⟨h1, h2⟩ := this
  refine ⟨h1, ?_⟩
  cases e : KasT.run (fun i j => keyLt a ((opl a).getD i 0) ((opl a).getD j 0)) 5 (kas_sort 5) with
  | none => rw [e] at h2; cases h2
  | some p =>
    rw [e] at h2
    have h2 := Bool.and_eq_true_iff.mp h2
    exact ⟨p, rfl, beq_iff_eq.mp h2.1, fun i hi => of_decide_eq_true (List.all_eq_true.mp h2.2 i hi)⟩
theorem intsPick {ys : List Value} {ks : List Nat} (h : IntsAre ys (ks.map Int.ofNat)) : ∀ l : List Nat, (∀ i ∈ l, i < ks.length) → IntsAre (l.map fun i => ys.getD i Value.none) ((l.map fun i => ks.getD i 0).map Int.ofNat)
  | [], _ => .nil
  | i :: l, hl => by
    have hi := hl i (.head _)
    obtain ⟨u, hu⟩ := intsAtE h (i := i) (x := Int.ofNat (ks.getD i 0)) (by rw [List.getElem?_map, List.getElem?_eq_getElem hi, List.getD_eq_getElem?_getD, List.getElem?_eq_getElem hi]; rfl)
    have e : ys.getD i Value.none = .int (Int.ofNat (ks.getD i 0)) u := by rw [List.getD_eq_getElem?_getD, hu]; rfl
    rw [List.map_cons, List.map_cons, List.map_cons, e]
    exact .cons _ u (intsPick h l fun j hj => hl j (.tail _ hj))
/-- two keys compared -/
theorem askLt {prog : Program} {w : World} {A : Around} {s : Shared} {ar : List Bool} {T1 T2 : Addr} {x y : Nat} {u1 t1 u2 t2 : Tok} {C : Bool → Shared → Prop} {E : Value → Shared → Prop} (h1 : s.heap.get? T1 = some (tupK ar x u1 t1)) (h2 : s.heap.get? T2 = some (tupK ar y u2 t2)) (h : C (keyLt ar x y) s) :
    wpAny (model prog w) A (keyLt' (tuples' true) (.ref T1) (.ref T2)) C E s := by
  refine kat_lt h1 rfl h2 rfl ?_
  refine kat_cons (wpAny_eqBool_int ?_)
  unfold keyLt at h
  cases he : hgt ar x == hgt ar y with
  | true =>
    rw [he] at h
    refine kat_yes (kat_cons (wpAny_eqBool_int ?_))
    by_cases hk : x = y
    · subst hk
      rw [show ((-(x : Int)) == (-(x : Int))) = true by simp]
      refine kat_yes (kat_nil ?_)
      simpa using h
    · rw [show ((-(x : Int)) == (-(y : Int))) = false from beq_eq_false_iff_ne.mpr (by omega)]
      refine kat_no (kat_one _ _ (PyProof.Rows.lt_int ?_))
      show C (decide (-(x : Int) < -(y : Int))) s
      have e : decide (-(x : Int) < -(y : Int)) = decide (y < x) := by
        by_cases q : y < x
        · rw [decide_eq_true q, decide_eq_true (by omega)]
        · rw [decide_eq_false q, decide_eq_false (by omega)]
      rw [e]
      simpa using h
  | false =>
    rw [he] at h
    refine kat_no (oneLt_int ?_)
    simpa using h
section
variable {prog : Program} {w : World} {g : Heap} {dp un : Nat} {gd : Option (List Code)} {fr : List Env}
/-- what the key gives for each place -/
noncomputable def KeyL (ar : List Bool) (tc : Cells) : List Value → List Nat → Prop
  | [], [] => True
  | v :: vs, k :: ks => (∃ (T : Addr) (u t : Tok), v = .ref T ∧ (T, tupK ar k u t) ∈ tc) ∧ KeyL ar tc vs ks
  | _, _ => False
theorem KeyL.mono {ar : List Bool} {tc tc' : Cells} (hs : ∀ p ∈ tc, p ∈ tc') : ∀ {vs : List Value} {ks : List Nat}, KeyL ar tc vs ks → KeyL ar tc' vs ks
  | [], [], _ => trivial
  | v :: vs, k :: ks, ⟨⟨T, u, t, e, m⟩, h⟩ => ⟨⟨T, u, t, e, hs _ m⟩, KeyL.mono hs h⟩
theorem KeyL.snoc {ar : List Bool} {tc : Cells} {T : Addr} {u t : Tok} {k : Nat} (m : (T, tupK ar k u t) ∈ tc) : ∀ {vs : List Value} {ks : List Nat}, KeyL ar tc vs ks → KeyL ar tc (vs ++ [.ref T]) (ks ++ [k])
  | [], [], _ => ⟨⟨T, u, t, rfl, m⟩, trivial⟩
  | v :: vs, k' :: ks, ⟨a, h⟩ => ⟨a, h.snoc m⟩
theorem KeyL.length {ar : List Bool} {tc : Cells} : ∀ {vs : List Value} {ks : List Nat}, KeyL ar tc vs ks → vs.length = ks.length
  | [], [], _ => rfl
  | _ :: _, _ :: _, ⟨_, h⟩ => congrArg (· + 1) h.length
theorem KeyL.at {ar : List Bool} {tc : Cells} : ∀ {vs : List Value} {ks : List Nat}, KeyL ar tc vs ks → ∀ i, i < ks.length → ∃ (T : Addr) (u t : Tok), vs.getD i .none = .ref T ∧ (T, tupK ar (ks.getD i 0) u t) ∈ tc
  | v :: vs, k :: ks, ⟨a, h⟩, 0, _ => a
  | v :: vs, k :: ks, ⟨_, h⟩, i + 1, hi => h.at i (by simpa using hi)
  | [], [], _, i, hi => absurd hi (Nat.not_lt_zero _)
theorem KeyL.tups {ar : List Bool} {tc : Cells} {h : Heap} (N : ∀ p ∈ tc, h.get? p.1 = some p.2) : ∀ {vs : List Value} {ks : List Nat}, KeyL ar tc vs ks → ∃ fs : List Value, KatTups h vs fs ∧ fs.length = vs.length ∧ ∀ v ∈ fs, ∃ (i : Int) (u : Tok), v = .int i u
  | [], [], _ => ⟨[], .nil, rfl, allN⟩
  | v :: vs, k :: ks, ⟨⟨T, u, t, e, m⟩, r⟩ => by
    subst e
    obtain ⟨fs, a, b, c⟩ := r.tups N
    exact ⟨.int (hgt ar k) u :: fs, .cons (N _ m) rfl rfl rfl a, by simp [b], allC ⟨_, _, rfl⟩ c⟩
section
variable {prog : Program} {w : World} {A : Around} {E : Value → Shared → Prop} {s : Shared} {h₀ : Heap} {L kS f : Addr} {m : Str → Option Value} {news : Cells}
/-- the keys, one behind the other -/
theorem keysGo {ar : List Bool} {nl : Cells} {K : Frag} {dp un : Nat} {gd : Option (List Code)} {fr : List Env} (G : Gd K h₀) (hdp : dp + 2 < recursionLimit) (hun : un + 40 < cLine)
    (key : ∀ k : Nat, k < 9 → ∀ t : Tok, DoesP (fun h => ∀ q ∈ nl, h.get? q.1 = some q.2) K prog w 2 f [.int (k : Int) t] (fun r own => ∃ T u v, r = .ref T ∧ own = [(T, tupK ar k u v)])) {C : List Value → Nat → Shared → Prop} {xs : List Nat} (hx : ∀ x ∈ xs, x < 9) :
    ∀ (r : List Value) (rs : List Nat) (ds : List Nat) (ks : List Value) (e : Nat) (tc : Cells) (s : Shared), IntsAre r (rs.map Int.ofNat) → (∀ x ∈ rs, x < 9) → KeyL ar tc ks ds → Fr h₀ L s.heap m → News h₀ L s.heap ((kS, seqObj "list" (List.toArray ks) e) :: (tc ++ nl)) → (∀ p ∈ tc ++ nl, p.1 ≠ kS) →
      (∀ ks' e' tc' s', KeyL ar tc' ks' (ds ++ rs) → Fr h₀ L s'.heap m → News h₀ L s'.heap ((kS, seqObj "list" (List.toArray ks') e') :: (tc' ++ nl)) → (∀ p ∈ tc' ++ nl, p.1 ≠ kS) → s' = { s with heap := s'.heap, toks := s'.toks } → C ks' e' s') →
      KatKeys prog w (arT dp un gd fr) h₀ L m kS (.ref f) C r ks e s
  | [], rs, ds, ks, e, tc, s, hI, _, hK, F, N, ho, h => by
    cases rs with
    | cons _ _ => cases hI
    | nil =>
      refine KatKeys.nil (h ks e tc s (by rw [List.append_nil]; exact hK) F N ho ?_)
      rfl
  | v :: r, rs, ds, ks, e, tc, s, hI, hr, hK, F, N, ho, h => by
    cases rs with
    | nil => cases hI
    | cons k rs =>
      cases hI with
      | cons _ t hI =>
      refine KatKeys.cons ?_
      refine useH (key k (hr k (.head _)) t) (fun q hq => (N q (.tail _ (List.mem_append_right _ hq))).1) F N G hdp hun ?_
      rintro v h' tk own' ⟨T, u, u', rfl, rfl⟩ F' N' D'
      have hT : T ≠ kS := D' _ (.head _) _ (.head _)
      have N2 : News h₀ L h' ((kS, seqObj "list" (List.toArray ks) e) :: ((T, tupK ar k u u') :: tc ++ nl)) := cb_drop N' (allC (.tail _ (.head _)) (allA (allC (.head _) fun p hp => .tail _ (.tail _ (List.mem_append_left _ hp))) fun p hp => .tail _ (.tail _ (List.mem_append_right _ hp))))
      refine KatBack.intro (g := fun o => (kS, o) :: ((T, tupK ar k u u') :: tc ++ nl)) F' N2 (.head (allC hT ho)) ?_
      · intro h2 c F2 N3
        refine keysGo G hdp hun key hx r rs (ds ++ [k]) _ c ((T, tupK ar k u u') :: tc) _ hI (fun x hx => hr x (.tail _ hx)) ((hK.mono fun p hp => .tail _ hp).snoc (.head _)) F2 N3 (allC hT ho) ?_
        intro ks' e' tc' s' a b c d e
        refine h ks' e' tc' s' (by rw [List.append_assoc] at a; exact a) b c d ?_
        rw [e]
end
theorem lawT7 (G : Gd (KH w.params) g) (hdp : dp + 40 < recursionLimit) (hun : un + 900 < cLine)
    {L fa a hp wl oa ha : Addr} {ko kh : Nat} {ar : List Bool} {hv : List Value} {tz : Str} {tt : Tok} {o1 r2 : Cells} {s : Shared} {h : Heap} {tk : Nat} {oH oB oTb oTx oO oL : Obj} (hL : @LT.lt Nat _ 243 L)
    (hal : ar.length = 9) (hac : ar.count true = 5) (hi : IntsAre hv (hgts ar)) (dH : oH.data = .cell (some (.ref ha))) (dO : oO.data = .cell (some (.ref oa)))
    (m2 : (oa, W.listOf (ar.map Value.bool).toArray ko) ∈ r2) (m3 : (ha, W.listOf hv.toArray kh) ∈ r2) (o6 : OffO L o1 r2) (r6 : ∀ p ∈ r2, N6 L p.1)
    (F : Fr g L h (mLa tz tt wl hp a)) (N : News g L h (six L oH oB oTb oTx oO oL #[] (o1 ++ r2))) {Q' : Flow → Shared → Prop}
    (hQ : ∀ (ra : Addr) (rv : List Value) (kr : Nat) (ps' : Array Value) (r2' : Cells) (h' : Heap) (tk' : Nat), IntsAre rv ((ord ar).map Int.ofNat) → r2' = (ra, W.listOf rv.toArray kr) :: r2 → OffO L o1 r2' → (∀ p ∈ r2', N6 L p.1) →
      Fr g L h' (fun y => if y = "order" then some (.ref ra) else mLa tz tt wl hp a y) → News g L h' (six L oH oB oTb oTx oO oL ps' (o1 ++ r2')) →
      wpAny (model prog w) (arT dp un gd fr) (execs (lawB.drop 8) (envLw L fa (.ref 245))) Q' (fun _ _ => False) { s with heap := h', toks := tk' }) :
    wpAny (model prog w) (arT dp un gd fr) (execs (lawB.drop 7) (envLw L fa (.ref 245))) Q' (fun _ _ => False) { s with heap := h, toks := tk } := by
  obtain ⟨X, ⟨p, loose, mean, mg, mb, T⟩, codeHd, codeHd2⟩ := id G
  have hV : VMark := trivial
  show wpAny _ _ (execs (List.cons _ (lawB.drop 8)) _) _ _ _
  generalize hrest : lawB.drop 8 = rest at *
  unfold envLw at hQ ⊢
  conv in (occs := *) lawSc => all_goals whnf
  iterate 6 walk1
  refine compVT hV F (by with_unfolding_all rfl) (by decide) (by rfl) (by decide) (by rfl) ?_
  iterate 7 walk1
  rename_i h1 tk1 t1 u1 v1 hR F1 N1 hk1
  refine LCt.CompSrcT.range rfl F1 N1 hR (by decide) (n := 9) (by rfl) (by decide) ?_
  intro g'
  refine compInvT (fun i ys news => news = six L oH oB oTb oTx oO oL #[] (o1 ++ r2) ∧ IntsAre ys (((List.range i).filter (opn ar)).map Int.ofNat)) ?_ ?_ 9 0 [] _ rfl ⟨rfl, .nil⟩
  · rintro i ys news hi9 ⟨rfl, hys⟩ v I oI C oC D m₂ h2 tk2 E' ⟨tv, rfl⟩ hC hxm F2 N2 off ⟨n1, n2, n3⟩
    have mO : (oa, W.listOf (ar.map Value.bool).toArray ko) ∈ (I, oI) :: (C, oC) :: (D, LCg.lst ys) :: six L oH oB oTb oTx oO oL #[] (o1 ++ r2) := by lcg_src
    iterate 4 walk1
    refine item_listL (N2.isList mO) (by omega) (by omega) (x := .bool (opn ar i)) (by rw [show (0 : Int) + (i : Int) = ((i : Nat) : Int) by omega]; exact opnAt hal hi9) ?_
    iterate 2 walk1
    · rename_i hop
      walk1
      refine LCg.CompEnd.intro F2 N2 (six L oH oB oTb oTx oO oL #[] (o1 ++ r2)) (fun p hp => hp) off trivial ⟨rfl, ?_⟩
      rw [List.range_succ, List.filter_append, List.map_append, show [i].filter (opn ar) = [i] from List.filter_cons_of_pos hop, show (0 : Int) + (i : Int) = Int.ofNat i from Int.zero_add _]
      exact ints_snoc hys
    · rename_i hop
      refine LCg.CompEnd.intro F2 N2 (six L oH oB oTb oTx oO oL #[] (o1 ++ r2)) (fun p hp => hp) off trivial ⟨rfl, ?_⟩
      rw [List.range_succ, List.filter_append, List.map_append, show [i].filter (opn ar) = [] from List.filter_cons_of_neg (by rw [hop]; decide), List.map_nil, List.append_nil]
      exact hys
  · rintro ys news ⟨rfl, hys⟩ D h2 tk2 F2 N2 off
    rw [Nat.zero_add] at hys
    have offD := off1_all _ off
    have n6 : N6 L D := .of fun q hq => (offD q hq).symm
    have nD : D ≠ 243 := n6.2.2.2.2.2.2
    have kA : ∀ p ∈ o1 ++ r2, p.1 ≠ 243 := allA (fun p hp => (o6 p hp).1.2.2.2.2.2.2) (fun p hp => (r6 p hp).2.2.2.2.2.2)
    iterate 4 walk1
    rename_i f c' oc' vs' t' ct' h3 tk3 F3 N3 dd1 dd2 l1 l2
    obtain ⟨hs5, pp, hrun, hord, hpp⟩ := sort_of hal hac
    have hyl : ys.length = 5 := by rw [ints_len hys, List.length_map]; exact hs5
    have hLys : h3.IsList D ys.toArray := N3.isList (.tail _ (.tail _ (.head _)))
    refine kat_sortedK F3 N3 hLys (by omega) (by omega) (ksk_s1 _ _) (fun x => ksk_l1 (.ref x) _) (fun x => ksk_t1 _ _) ?_
    intro D2 kS e1 h4 F4 N4 q1 q2
    have lo : ∀ x ∈ opl ar, x < 9 := fun x hx => List.mem_range.mp (List.mem_filter.mp hx).1
    refine keysGo (dp := dp) (un := un + 1 + 1) (gd := gd) (fr := fr) (tc := []) (ds := []) G (by omega) (by omega) (fun k hk t => keyL (ha := ha) (hv := hv) (kh := kh) (.tail _ (.head _)) (.tail _ (.tail _ (.head _))) dd1 dd2 (.tail _ (.tail _ (.tail _ (.tail _ (.head _))))) dH ?_ hi k hk t) lo ys (opl ar) [] _ _ hys lo trivial F4 N4 ?_ ?_
    · lcg_src
    · refine allC (Nat.ne_of_lt q1) fun p hp => Nat.ne_of_lt (Nat.lt_trans (q2 p hp) q1)
    · intro ks e tc' s' hK F5 N5 ho5 hs
      rw [List.nil_append] at hK
      have Nt : ∀ p ∈ tc', s'.heap.get? p.1 = some p.2 := fun p hp => (N5 p (.tail _ (List.mem_append_left _ hp))).1
      obtain ⟨fs, hf1, hf2, hf3⟩ := hK.tups Nt
      refine kat_kind (T := .type "int") hf1 (by rw [hf2, hK.length, hs5]; decide) (fun v hv => by obtain ⟨i, u, rfl⟩ := hf3 v hv; exact Looks.of_pure rfl) (by decide) ?_
      rw [hyl]
      refine kasEval (lt := fun i j => keyLt ar ((opl ar).getD i 0) ((opl ar).getD j 0)) (n := 5) (I := fun s'' => s'' = s') (fun i j C s'' hi5 hj5 hI hC => ?_) _ _ pp s' hrun rfl ?_
      · subst hI
        obtain ⟨T1, u1, t1, e1, m1⟩ := hK.at i (by omega)
        obtain ⟨T2, u2, t2, e2, m2⟩ := hK.at j (by omega)
        show wpAny _ _ (keyLt' _ (ks.getD i Value.none) (ks.getD j Value.none)) C _ _
        rw [e1, e2]
        exact askLt (Nt _ m1) (Nt _ m2) (hC _ rfl)
      · intro s9 h9
        have h9' : s9 = s' := h9
        rw [h9']
        clear h9 h9'
        refine KatFin.intro (g := fun o => (kS, o) :: (tc' ++ _)) F5 N5 (.head ho5) ?_
        intro h6 c6 F6 N6'
        have N7 := cb_drop (news := (D2, seqObj "list" #[] e1) :: six L oH oB oTb oTx oO oL (#[] ++ #[rawInt 230, rawInt 58, Value.ref c']) (o1 ++ r2)) N6' (by
          refine allC (.tail _ (List.mem_append_right _ (.head _))) fun p hp => .tail _ (List.mem_append_right _ (.tail _ (.tail _ (.tail _ (.tail _ hp)))))) 
        have hD2 : ∀ p ∈ six L oH oB oTb oTx oO oL (#[] ++ #[rawInt 230, rawInt 58, Value.ref c']) (o1 ++ r2), p.1 ≠ D2 := fun p hp => Nat.ne_of_lt (q2 p (.tail _ (.tail _ (.tail _ hp))))
        refine KasFin.intro (g := fun o => (D2, o) :: six L oH oB oTb oTx oO oL (#[] ++ #[rawInt 230, rawInt 58, Value.ref c']) (o1 ++ r2)) F6 N7 (.head hD2) ?_
        intro h7 c7 F7 N8
        have hPick := intsPick hys pp.toList (fun i hi => by have := hpp i hi; rw [← hs5] at this; exact this)
        have hord' : pp.toList.map (fun i => (opl ar).getD i 0) = ord ar := hord
        rw [show (List.filter (opn ar) (List.range 9)) = opl ar from rfl, hord'] at hPick
        have hg1 : s'.gens = s.gens := by rw [hs]
        have hg2 : s'.drawn = s.drawn := by rw [hs]
        have hg3 : s'.os = s.os := by rw [hs]
        dsimp only
        rw [hg1, hg2, hg3]
        have n2 : N6 L D2 := .of fun q hq => (hD2 q hq).symm
        iterate 1 walk1
        rename_i F9 N9
        have N9' : News g L _ ((D2, W.listOf (pp.toList.map fun i => ys.getD i Value.none).toArray c7) :: six L oH oB oTb oTx oO oL (#[] ++ #[rawInt 230, rawInt 58, Value.ref c']) (o1 ++ r2)) := N9
        have N10 := cb_drop (news := six L oH oB oTb oTx oO oL (#[] ++ #[rawInt 230, rawInt 58, Value.ref c']) (o1 ++ (D2, W.listOf (pp.toList.map fun i => ys.getD i Value.none).toArray c7) :: r2)) N9' (by lcg_sub)
        subst hrest
        exact hQ D2 _ c7 (#[] ++ #[rawInt 230, rawInt 58, Value.ref c']) _ _ _ hPick rfl (fun q hq => ⟨(o6 q hq).1, allC (fun e => hD2 q (by lcg_src) e) (o6 q hq).2⟩) (allC n2 r6) F9 N10
end
end Mine

-- AY6
namespace Mine
noncomputable abbrev mLb (ra : Addr) (tz : Str) (tt : Tok) (wl hp a : Addr) : Str → Option Value := fun y => if y = "order" then some (.ref ra) else mLa tz tt wl hp a y
noncomputable abbrev mLc (ma ra : Addr) (tz : Str) (tt : Tok) (wl hp a : Addr) : Str → Option Value := fun y => if y = "mates" then some (.ref ma) else mLb ra tz tt wl hp a y
section
variable {prog : Program} {w : World} {g : Heap} {dp un : Nat} {gd : Option (List Code)} {fr : List Env}
theorem lawT8 (G : Gd (KH w.params) g) (hdp : dp + 40 < recursionLimit) (hun : un + 900 < cLine)
    {L fa a hp wl oa ha ra : Addr} {ko kh : Nat} {ar : List Bool} {hv : List Value} {tz : Str} {tt : Tok} {o1 r2 : Cells} {s : Shared} {h : Heap} {tk : Nat} {oH oB oTb oTx oO oL : Obj} {ps : Array Value} (hL : @LT.lt Nat _ 243 L)
    (hal : ar.length = 9) (hi : IntsAre hv (hgts ar)) (dH : oH.data = .cell (some (.ref ha))) (dO : oO.data = .cell (some (.ref oa)))
    (m2 : (oa, W.listOf (ar.map Value.bool).toArray ko) ∈ r2) (m3 : (ha, W.listOf hv.toArray kh) ∈ r2) (o6 : OffO L o1 r2) (r6 : ∀ p ∈ r2, N6 L p.1)
    (F : Fr g L h (mLb ra tz tt wl hp a)) (N : News g L h (six L oH oB oTb oTx oO oL ps (o1 ++ r2))) {Q' : Flow → Shared → Prop}
    (hQ : ∀ (ma : Addr) (mv : List Value) (km : Nat) (r2' : Cells) (h' : Heap) (tk' : Nat), IntsAre mv ((List.range 9).map fun i => (mat ar i : Int)) → r2' = (ma, W.listOf mv.toArray km) :: r2 → OffO L o1 r2' → (∀ p ∈ r2', N6 L p.1) →
      Fr g L h' (mLc ma ra tz tt wl hp a) → News g L h' (six L oH oB oTb oTx oO oL ps (o1 ++ r2')) →
      wpAny (model prog w) (arT dp un gd fr) (execs (lawB.drop 9) (envLw L fa (.ref 245))) Q' (fun _ _ => False) { s with heap := h', toks := tk' }) :
    wpAny (model prog w) (arT dp un gd fr) (execs (lawB.drop 8) (envLw L fa (.ref 245))) Q' (fun _ _ => False) { s with heap := h, toks := tk } := by
  obtain ⟨X, ⟨p, loose, mean, mg, mb, T⟩, codeHd, codeHd2⟩ := id G
  have hV : VMark := trivial
  show wpAny _ _ (execs (List.cons _ (lawB.drop 9)) _) _ _ _
  generalize hrest : lawB.drop 9 = rest at *
  unfold envLw at hQ ⊢
  conv in (occs := *) lawSc => all_goals whnf
  walk1
  refine compA hV F (by rfl) (by with_unfolding_all rfl) (by with_unfolding_all rfl) (by decide) (by rfl) (by decide) (by rfl) (by rfl) (by rfl) ?_
  iterate 7 walk1
  rename_i h1 tk1 t1 u1 v1 hR F1 N1 hk1
  refine LCg.CompSrc.range rfl F1 N1 hR (by decide) (n := 9) (by rfl) (by decide) ?_
  intro g'
  refine compInv (fun i ys news => news = six L oH oB oTb oTx oO oL ps (o1 ++ r2) ∧ IntsAre ys (((List.range i).map fun i => (mat ar i : Int)))) ?_ ?_ 9 0 [] _ rfl ⟨rfl, .nil⟩
  · rintro i ys news hi9 ⟨rfl, hys⟩ v I oI C oC D m₂ h2 tk2 E' ⟨tv, rfl⟩ hC hxm F2 N2 off ⟨n1, n2, n3⟩
    have mO : (oa, W.listOf (ar.map Value.bool).toArray ko) ∈ (I, oI) :: (C, oC) :: (D, LCg.lst ys) :: six L oH oB oTb oTx oO oL ps (o1 ++ r2) := by lcg_src
    have mH : (ha, W.listOf hv.toArray kh) ∈ (I, oI) :: (C, oC) :: (D, LCg.lst ys) :: six L oH oB oTb oTx oO oL ps (o1 ++ r2) := by lcg_src
    iterate 12 walk1
    rw [show (0 : Int) + (i : Int) = ((i : Nat) : Int) from Int.zero_add _]
    refine useH (mateW oa ha ko kh ar hv i tv hal hi hi9) ⟨(N2 _ mO).1, (N2 _ mH).1⟩ F2 N2 G (by omega) (by omega) ?_
    rintro v h3 tk3 own3 ⟨rfl, u, rfl⟩ F3 N3 -
    refine LCg.CompEnd.intro F3 N3 (six L oH oB oTb oTx oO oL ps (o1 ++ r2)) (fun p hp => hp) off trivial ⟨rfl, ?_⟩
    rw [List.range_succ, List.map_append]
    exact ints_snoc hys
  · rintro ys news ⟨rfl, hys⟩ D h2 tk2 F2 N2 off
    have offD := off1_all _ off
    have n6 : N6 L D := .of fun q hq => (offD q hq).symm
    dsimp only
    subst hrest
    exact hQ D _ _ _ h2 _ hys rfl (fun p hp => ⟨(o6 p hp).1, allC (offD p (by lcg_src)) (o6 p hp).2⟩) (allC n6 r6) F2 (cb_drop N2 (by lcg_sub))

noncomputable abbrev mLd (hd ma ra : Addr) (tz : Str) (tt : Tok) (wl hp a : Addr) : Str → Option Value := fun y => if y = "hands" then some (.ref hd) else mLc ma ra tz tt wl hp a y
theorem lawT9 (G : Gd (KH w.params) g) (hdp : dp + 40 < recursionLimit) (hun : un + 900 < cLine)
    {L fa a hp wl ma ra : Addr} {kw : Nat} {wv : List Value} {tz : Str} {tt : Tok} {o1 r2 : Cells} {s : Shared} {h : Heap} {tk : Nat} {oH oB oTb oTx oO oL : Obj} {ps : Array Value} (hL : @LT.lt Nat _ 243 L)
    (dT : oTx.data = .cell none) (m1 : (wl, W.listOf wv.toArray kw) ∈ r2) (o6 : OffO L o1 r2) (r6 : ∀ p ∈ r2, N6 L p.1)
    (F : Fr g L h (mLc ma ra tz tt wl hp a)) (N : News g L h (six L oH oB oTb oTx oO oL ps (o1 ++ r2))) {Q' : Flow → Shared → Prop}
    (hQ : ∀ (hd : Addr) (hdv : List Value) (od r2' : Cells) (oTx' : Obj) (h' : Heap) (tk' : Nat), HandsIn prog w od hdv → oTx'.data = .cell (some (.ref wl)) → r2' = ((hd, W.listOf hdv.toArray 0) :: od) ++ r2 → OffO L o1 r2' → (∀ p ∈ r2', N6 L p.1) →
      Fr g L h' (mLd hd ma ra tz tt wl hp a) → News g L h' (six L oH oB oTb oTx' oO oL ps (o1 ++ r2')) →
      wpAny (model prog w) (arT dp un gd fr) (execs (lawB.drop 11) (envLw L fa (.ref 245))) Q' (fun _ _ => False) { s with heap := h', toks := tk' }) :
    wpAny (model prog w) (arT dp un gd fr) (execs (lawB.drop 9) (envLw L fa (.ref 245))) Q' (fun _ _ => False) { s with heap := h, toks := tk } := by
  obtain ⟨X, ⟨p, loose, mean, mg, mb, T⟩, codeHd, codeHd2⟩ := id G
  have hV : VMark := trivial
  show wpAny _ _ (execs (List.cons _ (List.cons _ (lawB.drop 11))) _) _ _ _
  generalize hrest : lawB.drop 11 = rest at *
  unfold envLw at hQ ⊢
  conv in (occs := *) lawSc => all_goals whnf
  iterate 5 walk1
  refine use (own := []) (rest := six L oH oB oTb oTx oO oL ps (o1 ++ r2)) handsW F N G (by lcg_sub) (by lcg_sub) allN (by omega) (by omega) ?_
  rintro v h1 tk1 own1 ⟨hd, hdv, od, rfl, rfl, hH⟩ F1 N1 D1
  have N1 := cb_drop (news := six L oH oB oTb oTx oO oL ps (o1 ++ (((hd, W.listOf hdv.toArray 0) :: od) ++ r2))) N1 (by lcg_sub)
  have e6 : ∀ p ∈ (hd, W.listOf hdv.toArray 0) :: od, N6 L p.1 := fun p hp => .of (D1 p hp)
  have o6' : OffO L o1 (((hd, W.listOf hdv.toArray 0) :: od) ++ r2) := fun p hp => ⟨(o6 p hp).1, allA (fun q hq e => D1 q hq p (by lcg_src) e.symm) (o6 p hp).2⟩
  have r6' : ∀ p ∈ ((hd, W.listOf hdv.toArray 0) :: od) ++ r2, N6 L p.1 := allA e6 r6
  have m1' : (wl, W.listOf wv.toArray kw) ∈ ((hd, W.listOf hdv.toArray 0) :: od) ++ r2 := List.mem_append_right _ m1
  clear D1 N
  dsimp only
  generalize hr2 : ((hd, W.listOf hdv.toArray 0) :: od) ++ r2 = r3 at *
  have kA : ∀ p ∈ o1 ++ r3, p.1 ≠ L + 1 + 1 + 1 := allA (fun p hp => (o6' p hp).1.2.2.2.1) (fun p hp => (r6' p hp).2.2.2.1)
  iterate 6 walk1
  rename_i h2 oT2 F2 N2 dT2
  dsimp only
  subst hrest
  exact hQ hd hdv od _ oT2 h2 _ hH dT2 hr2.symm o6' r6' F2 N2
noncomputable abbrev mLf (vw vp vf vr : Option Value) (hd ma ra : Addr) (tz : Str) (tt : Tok) (wl hp a : Addr) : Str → Option Value := fun y => if y = "word" then vw else if y = "place" then vp else if y = "first" then vf else if y = "write" then vr else mLd hd ma ra tz tt wl hp a y
theorem mLf_word {vw vp vf vr v : Option Value} {hd ma ra : Addr} {tz : Str} {tt : Tok} {wl hp a : Addr} (y : Str) : (if y = Str.ofString "word" then v else mLf vw vp vf vr hd ma ra tz tt wl hp a y) = mLf v vp vf vr hd ma ra tz tt wl hp a y := by
  show (if y = "word" then v else if y = "word" then vw else _) = _
  by_cases h : y = "word"
  · rw [if_pos h]; unfold mLf; rw [if_pos h]
  · rw [if_neg h, if_neg h]; unfold mLf; rw [if_neg h]
theorem mLd_f {hd ma ra : Addr} {tz : Str} {tt : Tok} {wl hp a : Addr} (y : Str) : mLd hd ma ra tz tt wl hp a y = mLf none none none none hd ma ra tz tt wl hp a y := by
  by_cases h1 : y = "word"
  · subst h1; kernel_rfl
  by_cases h2 : y = "place"
  · subst h2; kernel_rfl
  by_cases h3 : y = "first"
  · subst h3; kernel_rfl
  by_cases h4 : y = "write"
  · subst h4; kernel_rfl
  unfold mLf; rw [if_neg h1, if_neg h2, if_neg h3, if_neg h4]
theorem lawT11 (G : Gd (KH w.params) g) (hdp : dp + 40 < recursionLimit) (hun : un + 900 < cLine)
    {L fa a hp wl ma ra hd x c2 : Addr} {kw : Nat} {wv : List Value} {tz : Str} {tt : Tok} {o1 r2 : Cells} {s : Shared} {h : Heap} {tk : Nat} {oH oB oTb oTx oO oL oc2 : Obj} {ps : Array Value} {tot : Int} {R : List Nat} {ws : List Str} (hL : @LT.lt Nat _ 243 L)
    (hws : StrsAre wv ws) (hwl : ws.length = 9) (m1 : (wl, W.listOf wv.toArray kw) ∈ r2) (hx : LexS prog w x c2 oc2 tot o1 [] R) (dL : oL.data = .cell (some (.ref x))) (o6 : OffO L o1 r2) (r6 : ∀ p ∈ r2, N6 L p.1)
    (F : Fr g L h (mLd hd ma ra tz tt wl hp a)) (N : News g L h (six L oH oB oTb oTx oO oL ps (o1 ++ r2))) {Q' : Flow → Shared → Prop}
    (hQ : ∀ (vw : Option Value) (o1' : Cells) (h' : Heap) (tk' : Nat), LexS prog w x c2 oc2 tot o1' ws R → OffO L o1' r2 →
      Fr g L h' (mLf vw none none none hd ma ra tz tt wl hp a) → News g L h' (six L oH oB oTb oTx oO oL ps (o1' ++ r2)) →
      wpAny (model prog w) (arT dp un gd fr) (execs (lawB.drop 12) (envLw L fa (.ref 245))) Q' (fun _ _ => False) { s with heap := h', toks := tk' }) :
    wpAny (model prog w) (arT dp un gd fr) (execs (lawB.drop 11) (envLw L fa (.ref 245))) Q' (fun _ _ => False) { s with heap := h, toks := tk } := by
  obtain ⟨X, ⟨p, loose, mean, mg, mb, T⟩, codeHd, codeHd2⟩ := id G
  have hV : VMark := trivial
  show wpAny _ _ (execs (List.cons _ (lawB.drop 12)) _) _ _ _
  generalize hrest : lawB.drop 12 = rest at *
  unfold envLw at hQ ⊢
  conv in (occs := *) lawSc => all_goals whnf
  iterate 2 walk1
  rename_i Q3 hq3 hr3
  have mW : (wl, W.listOf wv.toArray kw) ∈ six L oH oB oTb oTx oO oL ps (o1 ++ r2) := by lcg_src
  refine listForI rfl F N mW (fun I r m news => ∃ (vw : Option Value) (o1' : Cells) (dn rs : List Str), ws = dn ++ rs ∧ StrsAre r rs ∧ LexS prog w x c2 oc2 tot o1' dn R ∧ m = mLf vw none none none hd ma ra tz tt wl hp a ∧ news = six L oH oB oTb oTx oO oL ps (o1' ++ r2) ∧ OffO L o1' r2 ∧ (∀ p ∈ o1', p.1 ≠ I) ∧ (∀ p ∈ six L oH oB oTb oTx oO oL ps r2, p.1 ≠ I)) ?_ ?_ ?_
  · intro I hI
    refine ⟨none, o1, [], ws, rfl, hws, hx, funext mLd_f, rfl, o6, fun p hp => Nat.ne_of_lt (hI p (by lcg_src)), fun p hp => Nat.ne_of_lt (hI p ?_)⟩
    revert p; lcg_sub
  · rintro I v r m news ⟨vw, o1', dn, rs, hd1, hr, hx', rfl, rfl, o6', hoI, hrI⟩ it h' tk' F' N' Q2 hn hr2
    cases hr with
    | cons u t hr =>
    rename_i rs
    have hdl : dn.length < 900 := by
      have := congrArg List.length hd1
      rw [List.length_append] at this; omega
    have F' := frOf F' (mLf_word (v := some (.str u t)))
    iterate 4 walk1
    refine methPush hx' F' X N' (by lcg_sub) ?_
    iterate 5 walk1
    refine use (own := o1') (rest := (I, it) :: six L oH oB oTb oTx oO oL ps r2) (pushS hx' (Nat.lt_of_lt_of_le hdl (by decide)) u t) F' N' G (by lcg_sub) (by lcg_sub) (fun p hp => allC (hoI p hp) (o6'.out p hp)) (by omega) (by omega) ?_
    rintro v h2 tk2 o2 ⟨rfl, hx2⟩ F2 N2 H2
    have o62 : OffO L o2 r2 := .of fun p hp q hq => H2 p hp q (.tail _ hq)
    dsimp only
    iterate 1 walk1
    have hoI2 : ∀ p ∈ o2, p.1 ≠ I := fun p hp => H2 p hp (I, it) (.head _)
    have N3 := cb_drop (news := (I, it) :: six L oH oB oTb oTx oO oL ps (o2 ++ r2)) N2 (by lcg_sub)
    exact hn h2 _ _ _ ⟨some (.str u t), o2, dn ++ [u], rs, by rw [hd1, List.append_assoc]; rfl, hr, hx2, rfl, rfl, o62, hoI2, hrI⟩ F2 N3 (allC (hrI _ (.head _)) (allC (hrI _ (.tail _ (.head _))) (allC (hrI _ (.tail _ (.tail _ (.head _)))) (allC (hrI _ (.tail _ (.tail _ (.tail _ (.head _))))) (allC (hrI _ (.tail _ (.tail _ (.tail _ (.tail _ (.head _)))))) (allC (hrI _ (.tail _ (.tail _ (.tail _ (.tail _ (.tail _ (.head _))))))) (allC (hrI _ (.tail _ (.tail _ (.tail _ (.tail _ (.tail _ (.tail _ (.head _)))))))) (allA hoI2 fun p hp => hrI p (.tail _ (.tail _ (.tail _ (.tail _ (.tail _ (.tail _ (.tail _ hp)))))))))))))) ) (by lcg_src)
  · rintro I m news h' tk' ⟨vw, o1', dn, rs, hd1, hr, hx', rfl, rfl, o6', hoI, -⟩ F' N'
    cases hr
    rw [List.append_nil] at hd1
    subst hd1
    subst hrest
    exact hq3 _ (hQ vw o1' h' tk' hx' o6' F' N')
end
end Mine

-- AY7
namespace Mine
noncomputable def tbOk (tb : List (Nat × List Nat)) : Bool := tb.all fun q => q.1 != 46 && (q.2.head? != some 46 && (!q.2.isEmpty && (decide (q.2.length ≤ 6) && q.2.all fun d => decide (d < 0x110000))))
theorem tbs_ok : handFn.all (fun q => tbOk q.2) = true := by decide +kernel
theorem tabOf_ok {tb : List (Nat × List Nat)} (h : tbOk tb = true) (c : Nat) : (tabOf tb c = [c] ∨ (c ≠ 46 ∧ (tabOf tb c).head? ≠ some 46)) ∧ tabOf tb c ≠ [] ∧ (tabOf tb c).length ≤ 6 ∧ ∀ d ∈ tabOf tb c, d = c ∨ d < 0x110000 := by
  unfold tabOf
  cases e : tb.lookup c with
  | none => exact ⟨.inl rfl, List.cons_ne_nil _ _, by show 1 ≤ 6; omega, fun d hd => .inl (List.mem_singleton.mp hd)⟩
  | some l =>
    have hm : ∃ k, (k, l) ∈ tb ∧ k = c := by
      clear h
      induction tb with
      | nil => cases e
      | cons q tb ih =>
        rw [List.lookup_cons] at e
        by_cases hq : c == q.1
        · rw [hq] at e
          cases e
          exact ⟨q.1, .head _, (beq_iff_eq.mp hq).symm⟩
        · rw [Bool.not_eq_true] at hq
          rw [hq] at e
          obtain ⟨k, a, b⟩ := ih e
          exact ⟨k, .tail _ a, b⟩
    obtain ⟨k, hm, rfl⟩ := hm
    have := List.all_eq_true.mp h _ hm
    simp only [Bool.and_eq_true, bne_iff_ne, Bool.not_eq_true', decide_eq_true_eq, List.all_eq_true] at this
    obtain ⟨h1, h2, h3, h4, h5⟩ := this
    refine ⟨.inr ⟨h1, h2⟩, ?_, h4, fun d hd => .inr (h5 d hd)⟩
    intro hn
    have hn : l = [] := hn
    subst hn; cases h3
theorem subL6 {tb : List (Nat × List Nat)} (h : tbOk tb = true) : ∀ xs : List Nat, (subL tb xs).length ≤ 6 * xs.length
  | [] => Nat.le_refl _
  | c :: xs => by
    have := subL6 h xs
    have := (tabOf_ok h c).2.2.1
    show (tabOf tb c ++ subL tb xs).length ≤ _
    rw [List.length_append, List.length_cons]; omega
theorem subT_keeps {tb : List (Nat × List Nat)} (h : tbOk tb = true) {x : Str} (hx : NE x) : clS (subT tb x) = clS x ∧ NE (subT tb x) ∧ (subT tb x).cps.size ≤ 6 * x.cps.size ∧ ((∀ d ∈ x.cps.toList, d < 0x110000) → ∀ d ∈ (subT tb x).cps.toList, d < 0x110000) := by
  obtain ⟨c, r, e⟩ := hx.cons
  have e2 : (subT tb x).cps.toList = tabOf tb c ++ subL tb r := by
    show subL tb x.cps.toList = _
    rw [e]; rfl
  obtain ⟨h1, h2, h3, h4⟩ := tabOf_ok h c
  refine ⟨?_, ?_, ?_, ?_⟩
  · unfold clS
    rw [e2, e]
    cases q : tabOf tb c with
    | nil => exact absurd q h2
    | cons d l =>
      rw [q] at h1
      rcases h1 with h1 | ⟨h1, h5⟩
      · cases h1; rfl
      · have h6 : d ≠ 46 := fun e => h5 (by rw [e]; rfl)
        show (some d == some 46) = (some c == some 46)
        rw [show (some d == some 46) = false by simpa using h6, show (some c == some 46) = false by simpa using h1]
  · unfold NE; rw [e2]; intro hn; exact h2 (List.append_eq_nil_iff.mp hn).1
  · show (subL tb x.cps.toList).toArray.size ≤ _
    rw [List.size_toArray, ← Array.length_toList]; exact subL6 h _
  · intro hd d hm
    have hm : d ∈ subL tb x.cps.toList := hm
    obtain ⟨c', hc, hm⟩ := List.mem_flatMap.mp hm
    rcases (tabOf_ok h c').2.2.2 d hm with rfl | h
    · exact hd _ hc
    · exact h
noncomputable abbrev tsA (ts : List Str) (i : Nat) : Str := ts.getD i Str.empty
structure Rn (ar : List Bool) (b : Nat) (ts : List Str) : Prop where
  len : ts.length = 9
  cls : ∀ i, i < 9 → clS (tsA ts i) = !(opn ar i)
  ne : ∀ i, i < 9 → NE (tsA ts i)
  sz : ∀ i, i < 9 → (tsA ts i).cps.size ≤ 3 * 6 ^ b
  ok : ∀ i, i < 9 → ∀ d ∈ (tsA ts i).cps.toList, d < 0x110000
theorem Rn.strOk {ar : List Bool} {b : Nat} {ts : List Str} (R : Rn ar b ts) (i : Nat) : PyData.strOk (tsA ts i) = true := by
  by_cases h : i < 9
  · exact strOk_len (R.ok i h)
  · unfold tsA
    rw [List.getD_eq_getElem?_getD, List.getElem?_eq_none (by rw [R.len]; omega)]
    decide +kernel
noncomputable def upd (ts : List Str) (tb : List (Nat × List Nat)) (bf : List Nat) : List Str := (List.range 9).map fun k => if bf.contains k then subT tb (tsA ts k) else tsA ts k
theorem upd_at {ts : List Str} {tb : List (Nat × List Nat)} {bf : List Nat} {i : Nat} (h : i < 9) : tsA (upd ts tb bf) i = if bf.contains i then subT tb (tsA ts i) else tsA ts i := by
  unfold upd
  show List.getD _ _ _ = _
  rw [List.getD_eq_getElem?_getD, List.getElem?_map, List.getElem?_range h]; rfl
theorem Rn.upd {ar : List Bool} {b : Nat} {ts : List Str} (R : Rn ar b ts) {tb : List (Nat × List Nat)} (h : tbOk tb = true) (bf : List Nat) : Rn ar (b + 1) (upd ts tb bf) := by
  have k := fun i (hi : i < 9) => subT_keeps h (R.ne i hi)
  have p6 : (3 * 6 ^ (b + 1) : Nat) = 6 * (3 * 6 ^ b) := by rw [Nat.pow_succ]; omega
  refine ⟨by unfold Mine.upd; simp, fun i hi => ?_, fun i hi => ?_, fun i hi => ?_, fun i hi => ?_⟩
  all_goals rw [upd_at hi]; cases bf.contains i <;> simp only [if_true, Bool.false_eq_true, if_false]
  · exact R.cls i hi
  · rw [(k i hi).1]; exact R.cls i hi
  · exact R.ne i hi
  · exact (k i hi).2.1
  · have := R.sz i hi; omega
  · have := R.sz i hi; have := (k i hi).2.2.1; omega
  · exact R.ok i hi
  · exact (k i hi).2.2.2 (R.ok i hi)
noncomputable def rot (ts : List Str) (p : Nat) : List Str := (List.range 9).map fun i => tsA ts ((p + i) % 9)
noncomputable abbrev ringS (ts : List Str) (p : Nat) : List Str := (ringF p).map (tsA ts)
theorem rot_cons {ts : List Str} {p : Nat} (h : p < 9) : rot ts p = tsA ts p :: ringS ts p := by
  unfold rot ringS ringF
  rw [show List.range 9 = 0 :: (List.range 8).map (· + 1) from rfl, List.map_cons, List.map_map, List.map_map, Nat.add_zero, Nat.mod_eq_of_lt h]
  congr 1
theorem rot_snoc {ts : List Str} {p : Nat} (h : p < 9) : rot ts (p + 1) = ringS ts p ++ [tsA ts p] := by
  unfold rot ringS ringF
  rw [show List.range 9 = List.range 8 ++ [8] from rfl, List.map_append, List.map_map]
  congr 1
  show [tsA ts ((p + 1 + 8) % 9)] = _
  rw [show (p + 1 + 8) % 9 = p by omega]
theorem rot_self {ts : List Str} (h : ts.length = 9) : (List.range 9).map (tsA ts) = ts := by
  refine List.ext_getElem (by simp [h]) fun i h1 h2 => ?_
  rw [List.getElem_map, List.getElem_range]
  show List.getD _ _ _ = _
  rw [List.getD_eq_getElem?_getD, List.getElem?_eq_getElem h2]; rfl
theorem rot0 {ts : List Str} (h : ts.length = 9) : rot ts 0 = ts := by
  refine Eq.trans ?_ (rot_self h)
  unfold rot
  refine List.map_congr_left fun i hi => ?_
  rw [Nat.zero_add, Nat.mod_eq_of_lt (List.mem_range.mp hi)]
theorem rot9 {ts : List Str} (h : ts.length = 9) : rot ts 9 = ts := by
  refine Eq.trans ?_ (rot_self h)
  unfold rot
  refine List.map_congr_left fun i hi => ?_
  rw [Nat.add_mod_left, Nat.mod_eq_of_lt (List.mem_range.mp hi)]
theorem ringF_lt {p i : Nat} (h : i ∈ ringF p) : i < 9 := by
  obtain ⟨j, -, rfl⟩ := List.mem_map.mp h
  exact Nat.mod_lt _ (by omega)
noncomputable abbrev bfo (ar : List Bool) (p : Nat) : List Nat := (ord ar).take ((ord ar).idxOf p)
theorem bfo_no {ar : List Bool} {p : Nat} : (bfo ar p).contains p = false := by
  rw [Bool.eq_false_iff]
  intro h
  have h := List.contains_iff_mem.mp h
  obtain ⟨i, hi⟩ := List.mem_iff_getElem?.mp h
  have hl : i < (ord ar).idxOf p := by
    have := (List.getElem?_eq_some_iff.mp hi).1
    rw [List.length_take] at this; omega
  rw [List.getElem?_take_of_lt hl] at hi
  exact idx_no _ _ hl hi
theorem good_of {a : List Bool} (hl : a.length = 9) (hc : a.count true = 5) {p : Nat} (hp : p < 9) (ho : opn a p = true) : (turnI a p).log = due a p ∧ (turnI a p).out = (ringF p).map fun i => (i, (bfo a p).contains i) := by
  have hm := arrs_mem a
  rw [hl, hc] at hm
  have := List.all_eq_true.mp arrs_good a hm
  have := List.all_eq_true.mp this p (List.mem_range.mpr hp)
  rw [ho] at this
  simpa using this
theorem turn_log {ar : List Bool} {b p : Nat} {ts : List Str} (hl : ar.length = 9) (hc : ar.count true = 5) (R : Rn ar b ts) (hp : p < 9) (ho : opn ar p = true) :
    (turnS (ringS ts p)).log = dueS ar p (tsA ts) ∧ (turnS (ringS ts p)).out = (ringF p).map fun i => (tsA ts i, (bfo ar p).contains i) := by
  obtain ⟨g1, g2⟩ := good_of hl hc hp ho
  obtain ⟨-, -, g3⟩ := good2_of hl hc
  have hf : ∀ i, clS (if i < 9 then tsA ts i else ⟨#[46]⟩) = !(opn ar i) := by
    intro i
    by_cases h : i < 9
    · rw [if_pos h]; exact R.cls i h
    · rw [if_neg h]
      unfold opn
      rw [List.getD_eq_getElem?_getD, List.getElem?_eq_none (by omega)]; rfl
  have hr : ringS ts p = (ringF p).map fun i => if i < 9 then tsA ts i else ⟨#[46]⟩ := List.map_congr_left fun i hi => by rw [if_pos (ringF_lt hi)]
  have hm : turnS (ringS ts p) = mapTS (fun i => if i < 9 then tsA ts i else ⟨#[46]⟩) (turnI ar p) := by
    rw [hr]
    exact fold_map hf _ ⟨[], [], []⟩
  rw [hm]
  constructor
  · show (turnI ar p).log.map _ = _
    rw [g1]
    unfold dueS
    refine List.map_congr_left fun q hq => ?_
    unfold due at hq
    obtain ⟨i, hi, hq⟩ := List.mem_filterMap.mp hq
    dsimp only at hq
    rw [Option.ite_none_right_eq_some] at hq
    obtain ⟨-, hq⟩ := hq
    cases hq
    dsimp only
    rw [if_pos (g3 _ (Nat.mod_lt _ (by omega))).1, if_pos (Nat.mod_lt _ (by omega))]
  · show (turnI ar p).out.map _ = _
    rw [g2, List.map_map]
    refine List.map_congr_left fun i hi => ?_
    show ((if i < 9 then tsA ts i else ⟨#[46]⟩), _) = _
    rw [if_pos (ringF_lt hi)]
theorem turn_out {ar : List Bool} {b p : Nat} {ts : List Str} (hl : ar.length = 9) (hc : ar.count true = 5) (R : Rn ar b ts) (hp : p < 9) (ho : opn ar p = true) (tb : List (Nat × List Nat)) :
    outW tb (turnS (ringS ts p)).out ++ [tsA ts p] = rot (upd ts tb (bfo ar p)) (p + 1) := by
  rw [rot_snoc hp, (turn_log hl hc R hp ho).2]
  unfold outW
  rw [List.map_map, upd_at hp, bfo_no]
  congr 1
  refine List.map_congr_left fun i hi => ?_
  rw [upd_at (ringF_lt hi)]; rfl
end Mine

-- AY8
namespace Mine
noncomputable def loopB : List Stmt := match (lawB[12]? : Option Stmt) with | some (.For _ _ b _ _) => b | _ => []
noncomputable def ifB : List Stmt := match (loopB[1]? : Option Stmt) with | some (.If _ b _ _) => b | _ => []
theorem mLf_place {vw vp vf vr v : Option Value} {hd ma ra : Addr} {tz : Str} {tt : Tok} {wl hp a : Addr} (y : Str) : (if y = Str.ofString "place" then v else mLf vw vp vf vr hd ma ra tz tt wl hp a y) = mLf vw v vf vr hd ma ra tz tt wl hp a y := by
  by_cases h : y = Str.ofString "place"
  · subst h; kernel_rfl
  · have h' : ¬ y = "place" := h
    rw [if_neg h]; unfold mLf; simp only [if_neg h']
theorem mLf_first {vw vp vf vr v : Option Value} {hd ma ra : Addr} {tz : Str} {tt : Tok} {wl hp a : Addr} (y : Str) : (if y = Str.ofString "first" then v else mLf vw vp vf vr hd ma ra tz tt wl hp a y) = mLf vw vp v vr hd ma ra tz tt wl hp a y := by
  by_cases h : y = Str.ofString "first"
  · subst h; kernel_rfl
  · have h' : ¬ y = "first" := h
    rw [if_neg h]; unfold mLf; simp only [if_neg h']
theorem mLf_write {vw vp vf vr v : Option Value} {hd ma ra : Addr} {tz : Str} {tt : Tok} {wl hp a : Addr} (y : Str) : (if y = Str.ofString "write" then v else mLf vw vp vf vr hd ma ra tz tt wl hp a y) = mLf vw vp vf v hd ma ra tz tt wl hp a y := by
  by_cases h : y = Str.ofString "write"
  · subst h; kernel_rfl
  · have h' : ¬ y = "write" := h
    rw [if_neg h]; unfold mLf; simp only [if_neg h']
theorem fm5 (z : Int) : 0 ≤ z.fmod 5 ∧ z.fmod 5 < 2 ^ 63 ∧ (z.fmod 5).toNat < 5 := by
  have z0 : 0 ≤ z.fmod 5 := Int.fmod_nonneg_of_pos _ (by decide)
  have z5 : z.fmod 5 < 5 := Int.fmod_lt_of_pos _ (by decide)
  exact ⟨z0, by omega, by omega⟩
section
variable {prog : Program} {w : World} {g : Heap} {dp un : Nat} {gd : Option (List Code)} {fr : List Env}
theorem ifB0 (G : Gd (KH w.params) g) (hdp : dp + 40 < recursionLimit) (hun : un + 900 < cLine)
    {L fa a hp wl oa hd ma ra ta I : Addr} {ko hk kt p : Nat} {ar : List Bool} {hpv hdv tv : List Value} {is : List Int} {tz : Str} {tt tp : Tok} {o1 r2 : Cells} {s : Shared} {h : Heap} {tk : Nat} {oH oB oTb oTx oO oL it : Obj} {vTb vw vf vr : Option Value} {ps : Array Value} (hL : @LT.lt Nat _ 243 L)
    (hal : ar.length = 9) (hp9 : p < 9) (hI : IntsAre hpv is) (hil : is.length = 9) (hH : HandsIn prog w r2 hdv) (dO : oO.data = .cell (some (.ref oa))) (dTb : oTb.data = .cell vTb)
    (m1 : (oa, W.listOf (ar.map Value.bool).toArray ko) ∈ r2) (m2 : (hp, W.listOf hpv.toArray hk) ∈ r2) (m3 : (hd, W.listOf hdv.toArray 0) ∈ r2) (o6 : OffO L o1 ((ta, W.listOf tv.toArray kt) :: r2)) (r6 : ∀ p ∈ (ta, W.listOf tv.toArray kt) :: r2, N6 L p.1) (i6 : N6 L I)
    (F : Fr g L h (mLf vw (some (.int (p : Int) tp)) vf vr hd ma ra tz tt wl hp a)) (N : News g L h ((I, it) :: six L oH oB oTb oTx oO oL ps (o1 ++ (ta, W.listOf tv.toArray kt) :: r2))) {Q' : Flow → Shared → Prop}
    (hQ : ∀ (j : Nat) (f d : Addr) (ob oTb' : Obj) (tb : List (Nat × List Nat)) (h' : Heap) (tk' : Nat), handFn[j]? = some (f, tb) → (d, ob) ∈ r2 → (TabIs prog w ob tb ∧ (d == sysModules) = false) → oTb'.data = .cell (some (.ref d)) →
      Fr g L h' (mLf vw (some (.int (p : Int) tp)) vf (some (.ref f)) hd ma ra tz tt wl hp a) → News g L h' ((I, it) :: six L oH oB oTb' oTx oO oL ps (o1 ++ (ta, W.listOf tv.toArray kt) :: r2)) →
      wpAny (model prog w) (arT dp un gd fr) (execs (ifB.drop 1) (envLw L fa (.ref 245))) Q' (fun _ _ => False) { s with heap := h', toks := tk' }) :
    wpAny (model prog w) (arT dp un gd fr) (execs ifB (envLw L fa (.ref 245))) Q' (fun _ _ => False) { s with heap := h, toks := tk } := by
  obtain ⟨X, ⟨p', loose, mean, mg, mb, T⟩, codeHd, codeHd2⟩ := id G
  have hV : VMark := trivial
  show wpAny _ _ (execs (List.cons _ (ifB.drop 1)) _) _ _ _
  generalize hrest : ifB.drop 1 = rest at *
  unfold envLw at hQ ⊢
  conv in (occs := *) lawSc => all_goals whnf
  have mO : (oa, W.listOf (ar.map Value.bool).toArray ko) ∈ (I, it) :: six L oH oB oTb oTx oO oL ps (o1 ++ (ta, W.listOf tv.toArray kt) :: r2) := by lcg_src
  have mP : (hp, W.listOf hpv.toArray hk) ∈ (I, it) :: six L oH oB oTb oTx oO oL ps (o1 ++ (ta, W.listOf tv.toArray kt) :: r2) := by lcg_src
  have mD : (hd, W.listOf hdv.toArray 0) ∈ (I, it) :: six L oH oB oTb oTx oO oL ps (o1 ++ (ta, W.listOf tv.toArray kt) :: r2) := by lcg_src
  iterate 12 walk1
  refine LSm.sum_ints F N rfl (N.isList mP) hI ?_
  intro h1 tk1 t1 F1 N1
  generalize is.sum = S1
  iterate 12 walk1
  refine kmk_slice F1 N1 (N1.isList mO) .none (.int _ _) (fun D2 h3 F3 N3 l3 => ?_) (by with_unfolding_all rfl) (by intro _; with_unfolding_all rfl) (by rw [sizeLine_eq, List.size_toArray, List.length_map, hal]; decide)
  rw [pickTo _ p (by rw [List.length_map, hal]; omega), ← List.map_take] at N3
  have hD2 : h3.IsList D2 (((ar.take p).map Value.bool).toArray) := N3.isList (.head _)
  iterate 1 walk1
  refine sumBools F3 N3 rfl hD2 ?_
  intro h4 tk4 t4 F4 N4
  generalize (((ar.take p).count true : Nat) : Int) = c
  have N5 := cb_drop (news := (I, it) :: six L oH oB oTb oTx oO oL ps (o1 ++ (ta, W.listOf tv.toArray kt) :: r2)) N4 (by lcg_sub)
  clear N4 N3 F3 N1 F1 hD2 l3
  obtain ⟨e1, uh, hu⟩ : ∃ e1 uh, hpv[1]? = some (.int e1 uh) := by
    obtain ⟨u, hu⟩ := intsAtE hI (i := 1) (x := is.getD 1 0) (by rw [List.getD_eq_getElem?_getD, List.getElem?_eq_getElem (by omega)]; rfl)
    exact ⟨_, u, hu⟩
  iterate 7 (walk1; (try dsimp only))
  refine item_listL (N5.isList mP) (by decide) (by decide) hu ?_
  iterate 9 (walk1; (try dsimp only))
  obtain ⟨z0, z5, z6⟩ := fm5 (S1 + c * (1 + (e1.fdiv 8).fmod 4))
  obtain ⟨Tt, f, d, ob, tb, k1, k2, k3, k4, k5⟩ := hH.2 ((S1 + c * (1 + (e1.fdiv 8).fmod 4)).fmod 5).toNat z6
  refine item_listL (N5.isList mD) z0 z5 k2 ?_
  have mT : (Tt, tupF f d) ∈ (I, it) :: six L oH oB oTb oTx oO oL ps (o1 ++ (ta, W.listOf tv.toArray kt) :: r2) := by lcg_src
  have kA : ∀ p ∈ o1 ++ ((ta, W.listOf tv.toArray kt) :: r2), p.1 ≠ L + 1 + 1 + 1 + 1 := allA (fun p hp => (o6 p hp).1.2.2.1) (fun p hp => (r6 p hp).2.2.1)
  have kI : @Ne Nat I (L + 1 + 1 + 1 + 1) := i6.2.2.1
  iterate 8 (walk1; (try dsimp only))
  rename_i oTb' F6 N6 dTb'
  subst hrest
  exact hQ _ f d ob oTb' tb _ _ k1 k4 k5 dTb' (frOf F6 mLf_write) N6
end
end Mine

-- AY9
namespace Mine
theorem handFn_ok {prog : Program} {w : World} {j : Nat} {f : Addr} {tb : List (Nat × List Nat)} (h : handFn[j]? = some (f, tb)) : Writes1 prog w f tb ∧ keepIn (KH w.params) (.ref f) = true ∧ tbOk tb = true := by
  have ht : tbOk tb = true := List.all_eq_true.mp tbs_ok _ (List.mem_of_getElem? h)
  have : j = 0 ∨ j = 1 ∨ j = 2 ∨ j = 3 ∨ j = 4 ∨ 5 ≤ j := by omega
  rcases this with rfl | rfl | rfl | rfl | rfl | hj
  · cases h; exact ⟨esc161, by k_is, ht⟩
  · cases h; exact ⟨esc168, by k_is, ht⟩
  · cases h; exact ⟨esc175, by k_is, ht⟩
  · cases h; exact ⟨esc182, by k_is, ht⟩
  · cases h; exact ⟨esc189, by k_is, ht⟩
  · rw [List.getElem?_eq_none (show handFn.length ≤ j from hj)] at h; cases h
theorem pw6 {ar : List Bool} {b : Nat} {ts : List Str} (R : Rn ar b ts) (hb : b ≤ 5) (p : Nat) : ∀ x ∈ ringS ts p, NE x ∧ x.cps.size ≤ 100000 := by
  intro x hx
  obtain ⟨i, hi, rfl⟩ := List.mem_map.mp hx
  have h9 := ringF_lt hi
  refine ⟨R.ne i h9, ?_⟩
  have h1 := R.sz i h9
  have h2 : (6 : Nat) ^ b ≤ 6 ^ 5 := Nat.pow_le_pow_right (by omega) hb
  have h3 : (6 : Nat) ^ 5 = 7776 := rfl
  omega
section
variable {prog : Program} {w : World} {g : Heap} {dp un : Nat} {gd : Option (List Code)} {fr : List Env}
theorem ifB1 (hpf : ((prog.main.file : Str) == ("/claim/cut.py" : Str)) = true) (hps : (prog.main.scope.names.lookup ("super" : Str)).isSome = false) (G : Gd (KH w.params) g) (hdp : dp + 40 < recursionLimit) (hun : un + 900 < cLine)
    {L fa a hp wl oa ha hd ma ra ta I x c2 f : Addr} {ko kh km kr kt p j b : Nat} {ar : List Bool} {hv mv rv tv : List Value} {ts : List Str} {tb : List (Nat × List Nat)} {tz : Str} {tt tp : Tok} {o1 r2 : Cells} {s : Shared} {h : Heap} {tk : Nat} {oH oB oTb oTx oO oL it oc2 : Obj} {vw vf : Option Value} {ps : Array Value} {tot : Int} {R : List Nat} (hL : @LT.lt Nat _ 243 L)
    (hal : ar.length = 9) (hac : ar.count true = 5) (hp9 : p < 9) (ho : opn ar p = true) (hR : Rn ar b ts) (hb : b ≤ 5) (hf : handFn[j]? = some (f, tb)) (hx : LexS prog w x c2 oc2 tot o1 (ringS ts p) R)
    (hi : IntsAre hv (hgts ar)) (hm : IntsAre mv ((List.range 9).map fun i => (mat ar i : Int))) (hr : IntsAre rv ((ord ar).map Int.ofNat)) (ht : StrsAre tv ts)
    (dH : oH.data = .cell (some (.ref ha))) (dO : oO.data = .cell (some (.ref oa))) (dL : oL.data = .cell (some (.ref x))) (dT : oTx.data = .cell (some (.ref ta)))
    (m1 : (oa, W.listOf (ar.map Value.bool).toArray ko) ∈ r2) (m2 : (ha, W.listOf hv.toArray kh) ∈ r2) (m3 : (ma, W.listOf mv.toArray km) ∈ r2) (m4 : (ra, W.listOf rv.toArray kr) ∈ r2) (o6 : OffO L o1 ((ta, W.listOf tv.toArray kt) :: r2)) (oI : ∀ p ∈ o1, p.1 ≠ I)
    (F : Fr g L h (mLf vw (some (.int (p : Int) tp)) vf (some (.ref f)) hd ma ra tz tt wl hp a)) (N : News g L h ((I, it) :: six L oH oB oTb oTx oO oL ps (o1 ++ (ta, W.listOf tv.toArray kt) :: r2))) {Q' : Flow → Shared → Prop}
    (hQ : ∀ (o1' : Cells) (h' : Heap) (tk' : Nat), LexS prog w x c2 oc2 tot o1' (outW tb (turnS (ringS ts p)).out) R → OffO L o1' ((ta, W.listOf tv.toArray kt) :: r2) → (∀ p ∈ o1', p.1 ≠ I) →
      Fr g L h' (mLf vw (some (.int (p : Int) tp)) vf (some (.ref f)) hd ma ra tz tt wl hp a) → News g L h' ((I, it) :: six L oH oB oTb oTx oO oL ps (o1' ++ (ta, W.listOf tv.toArray kt) :: r2)) →
      wpAny (model prog w) (arT dp un gd fr) (execs (ifB.drop 2) (envLw L fa (.ref 245))) Q' (fun _ _ => False) { s with heap := h', toks := tk' }) :
    wpAny (model prog w) (arT dp un gd fr) (execs (ifB.drop 1) (envLw L fa (.ref 245))) Q' (fun _ _ => False) { s with heap := h, toks := tk } := by
  obtain ⟨X, ⟨p', loose, mean, mg, mb, T⟩, codeHd, codeHd2⟩ := id G
  have hV : VMark := trivial
  obtain ⟨hW, hkeep, htb⟩ := handFn_ok (prog := prog) (w := w) hf
  obtain ⟨tl1, tl2⟩ := turn_log hal hac hR hp9 ho
  show wpAny _ _ (execs (List.cons _ (ifB.drop 2)) _) _ _ _
  generalize hrest : ifB.drop 2 = rest at *
  unfold envLw at hQ ⊢
  conv in (occs := *) lawSc => all_goals whnf
  iterate 12 (walk1; (try dsimp only))
  refine use (own := o1) (rest := (I, it) :: six L oH oB oTb oTx oO oL ps ((ta, W.listOf tv.toArray kt) :: r2)) (turnW hpf hps x c2 f oc2 tot R o1 (ringS ts p) tb hx hW hkeep (by unfold ringS ringF; rw [List.length_map, List.length_map, List.length_range]) (pw6 hR hb p)) F N G (by lcg_sub) (by lcg_sub) (fun p hp => allC (oI p hp) (o6.out p hp)) (by omega) (by omega) ?_
  rintro v h1 tk1 own1 ⟨lg, lv, kl, o1', o3, rfl, rfl, hx1, hl1, -⟩ F1 N1 D1
  have N1 := cb_drop (news := (I, it) :: six L oH oB oTb oTx oO oL ps (o1' ++ ((ta, W.listOf tv.toArray kt) :: (r2 ++ ((lg, W.listOf lv.toArray kl) :: o3))))) N1 (by lcg_sub)
  have o62 : OffO L o1' ((ta, W.listOf tv.toArray kt) :: r2) := .of fun p hp q hq => D1 p (.tail _ (List.mem_append_left _ hp)) q (.tail _ hq)
  have oI2 : ∀ p ∈ o1', p.1 ≠ I := fun p hp => D1 p (.tail _ (List.mem_append_left _ hp)) (I, it) (.head _)
  rw [tl1] at hl1
  clear F N D1
  try dsimp only
  iterate 17 (walk1; (try dsimp only))
  have htl := hR.len
  have inR : ∀ q ∈ r2, q ∈ (I, it) :: six L oH oB oTb oTx oO oL ps (o1' ++ ((ta, W.listOf tv.toArray kt) :: (r2 ++ ((lg, W.listOf lv.toArray kl) :: o3)))) := by lcg_sub
  refine useH (dueW oa ha ma ra ta ko kh km kr kt ar hv mv rv tv ts p tp hal hac hi hm hr ht htl hp9 ho) ⟨(N1 _ (inR _ m1)).1, (N1 _ (inR _ m2)).1, (N1 _ (inR _ m3)).1, (N1 _ (inR _ m4)).1, (N1 (ta, W.listOf tv.toArray kt) (by lcg_src)).1⟩ F1 N1 G (by omega) (by omega) ?_
  rintro v h2 tk2 own2 ⟨dl, dv, kd, o4, rfl, rfl, hl2⟩ F2 N2 -
  obtain ⟨as, q1⟩ := hl1.reads (h := h2) (fun p hp => (N2 p (by lcg_src)).1)
  obtain ⟨bs, q2⟩ := hl2.reads (h := h2) (fun p hp => (N2 p (by lcg_src)).1)
  have hsok : PySem.SeqAt.shaped (.list ((dueS ar p (tsA ts)).map logD)) = true := logD_shaped _ fun q hq => by
    obtain ⟨z, -, rfl⟩ := List.mem_map.mp hq
    exact ⟨hR.strOk _, hR.strOk _⟩
  refine neSame (.list (N2 (lg, W.listOf lv.toArray kl) (by lcg_src)).1 rfl rfl q1) (.list (N2 (dl, W.listOf dv.toArray kd) (by lcg_src)).1 rfl rfl q2) hsok (by show un + 64 < cLine; omega) ?_
  have N3 := cb_drop (news := (I, it) :: six L oH oB oTb oTx oO oL ps (o1' ++ (ta, W.listOf tv.toArray kt) :: r2)) N2 (by lcg_sub)
  clear N1 N2 F1 q1 q2
  try dsimp only
  iterate 3 (walk1; (try dsimp only))
  subst hrest
  exact hQ o1' h2 _ hx1 o62 oI2 F2 N3
end
end Mine

-- AY10
namespace Mine
theorem ints_take {vs : List Value} {is : List Int} (h : IntsAre vs is) : ∀ n, IntsAre (vs.take n) (is.take n) := by
  induction h with
  | nil => intro n; rw [List.take_nil, List.take_nil]; exact .nil
  | cons x t _ ih =>
    intro n
    cases n with
    | zero => exact .nil
    | succ n => exact .cons x t (ih n)
section
variable {prog : Program} {w : World} {g : Heap} {dp un : Nat} {gd : Option (List Code)} {fr : List Env}
theorem ifB2 (G : Gd (KH w.params) g) (hdp : dp + 40 < recursionLimit) (hun : un + 900 < cLine)
    {L fa a hp wl hd ma ra ta I : Addr} {kr kt p : Nat} {ar : List Bool} {rv tv : List Value} {tz : Str} {tt tp : Tok} {o1 r2 : Cells} {s : Shared} {h : Heap} {tk : Nat} {oH oB oTb oTx oO oL it : Obj} {vB vw vf vr : Option Value} {ps : Array Value} (hL : @LT.lt Nat _ 243 L)
    (hal : ar.length = 9) (hac : ar.count true = 5) (hp9 : p < 9) (ho : opn ar p = true) (hr : IntsAre rv ((ord ar).map Int.ofNat)) (dB : oB.data = .cell vB)
    (m4 : (ra, W.listOf rv.toArray kr) ∈ r2) (o6 : OffO L o1 ((ta, W.listOf tv.toArray kt) :: r2)) (r6 : ∀ p ∈ (ta, W.listOf tv.toArray kt) :: r2, N6 L p.1) (i6 : N6 L I)
    (F : Fr g L h (mLf vw (some (.int (p : Int) tp)) vf vr hd ma ra tz tt wl hp a)) (N : News g L h ((I, it) :: six L oH oB oTb oTx oO oL ps (o1 ++ (ta, W.listOf tv.toArray kt) :: r2))) {Q' : Flow → Shared → Prop}
    (hQ : ∀ (ba : Addr) (bv : List Value) (kb : Nat) (oB' : Obj) (h' : Heap) (tk' : Nat), IntsAre bv ((bfo ar p).map Int.ofNat) → oB'.data = .cell (some (.ref ba)) → (∀ q ∈ o1, q.1 ≠ ba) → N6 L ba →
      Fr g L h' (mLf vw (some (.int (p : Int) tp)) vf vr hd ma ra tz tt wl hp a) → News g L h' ((I, it) :: six L oH oB' oTb oTx oO oL ps (o1 ++ (ta, W.listOf tv.toArray kt) :: (ba, W.listOf bv.toArray kb) :: r2)) →
      wpAny (model prog w) (arT dp un gd fr) (execs (ifB.drop 3) (envLw L fa (.ref 245))) Q' (fun _ _ => False) { s with heap := h', toks := tk' }) :
    wpAny (model prog w) (arT dp un gd fr) (execs (ifB.drop 2) (envLw L fa (.ref 245))) Q' (fun _ _ => False) { s with heap := h, toks := tk } := by
  obtain ⟨X, ⟨p', loose, mean, mg, mb, T⟩, codeHd, codeHd2⟩ := id G
  have hV : VMark := trivial
  obtain ⟨g1, g2, g3⟩ := good2_of hal hac
  obtain ⟨i1, i2, i3⟩ := idx_at ((g3 p hp9).2.1 ho)
  show wpAny _ _ (execs (List.cons _ (ifB.drop 3)) _) _ _ _
  generalize hrest : ifB.drop 3 = rest at *
  unfold envLw at hQ ⊢
  conv in (occs := *) lawSc => all_goals whnf
  have mR : (ra, W.listOf rv.toArray kr) ∈ (I, it) :: six L oH oB oTb oTx oO oL ps (o1 ++ (ta, W.listOf tv.toArray kt) :: r2) := by lcg_src
  have q1 : LA h ra rv kr := (N _ mR).1
  iterate 9 (walk1; (try dsimp only))
  refine methIdx q1 ?_
  iterate 4 (walk1; (try dsimp only))
  refine indexG q1 hr (by rw [List.length_map]; exact i1) i2 i3 (by rw [List.length_map]; omega) ?_
  iterate 1 walk1
  have hrl : rv.length = 5 := by rw [ints_len hr, List.length_map]; exact g1
  refine kmk_slice F N (N.isList mR) .none (.int _ _) (fun D2 h3 F3 N3 l3 => ?_) (by with_unfolding_all rfl) (by intro _; with_unfolding_all rfl) (by rw [sizeLine_eq, List.size_toArray]; omega)
  rw [pickTo _ ((ord ar).idxOf p) (by omega)] at N3
  have kA : ∀ p ∈ o1 ++ ((ta, W.listOf tv.toArray kt) :: r2), p.1 ≠ L + 1 + 1 + 1 + 1 + 1 := allA (fun p hp => (o6 p hp).1.2.1) (fun p hp => (r6 p hp).2.1)
  have kI : @Ne Nat I (L + 1 + 1 + 1 + 1 + 1) := i6.2.1
  have kD : D2 ≠ L + 1 + 1 + 1 + 1 + 1 := Nat.ne_of_gt (l3 (L + 1 + 1 + 1 + 1 + 1, oB) (by lcg_src))
  iterate 1 (walk1; (try dsimp only))
  rename_i h4 oB' F4 N4 dB'
  have N5 := cb_drop (news := (I, it) :: six L oH oB' oTb oTx oO oL ps (o1 ++ (ta, W.listOf tv.toArray kt) :: (D2, W.listOf (rv.take ((ord ar).idxOf p)).toArray 0) :: r2)) N4 (by lcg_sub)
  subst hrest
  refine hQ D2 (rv.take ((ord ar).idxOf p)) 0 oB' h4 _ ?_ dB' (fun q hq => Nat.ne_of_lt (l3 q (by lcg_src))) (.of fun q hq => Nat.ne_of_gt (l3 q (List.Mem.tail _ hq))) F4 N5
  rw [List.map_take]
  exact ints_take hr _
end
end Mine

-- AY11
namespace Mine
section
open LCg
variable {prog : Program} {w : World} {A : Around} {E : Value → Shared → Prop} {s : Shared} {h₀ : Heap} {L : Addr} {m : Str → Option Value} {env : Env}
noncomputable def CompVS (prog : Program) (w : World) (A : Around) (h₀ : Heap) (L : Addr) (m : Str → Option Value) (env : Env) (elt : PySem.Expr) (x : Str) (scope : Scope) (cl : List (Str × Addr)) (Q : Value → Shared → Prop) (xv : Value) (s₁ : Shared) : Prop :=
  ∃ (y : Str) (t : Tok) (news : Cells), xv = .str y t ∧ A.handled = none ∧ Fr h₀ L s₁.heap m ∧ News h₀ L s₁.heap news ∧ y.cps.size ≤ sizeLine ∧
    ∀ s₂ : Shared, (∃ h, s₂ = { s₁ with heap := h }) → CompRest prog w A h₀ L m env elt x scope cl s₂ (fun _ => True) (SignAt y) (FinE h₀ L m s₂ Q) y.cps.size 0 [] news
theorem compVS {elt iter : PySem.Expr} {x : Str} {px : Pos} {scope : Scope} {cl : List (Str × Addr)} {pos : Pos} {Q : Value → Shared → Prop} (_ : Fr h₀ L s.heap m)
    (hclos : closureFor scope env = pure cl) (hcell : ∀ y ∈ scope.names, y.2 ≠ .cell) (hkind : scope.kind = .function)
    (hnames : ∀ y ∈ scope.names, y.2 = .local → scope.names.lookup y.1 = some .local) (hx : scope.names.lookup x = some .local)
    (h : wpAny (model prog w) A (eval iter env) (CompVS prog w A h₀ L m env elt x scope cl Q) E s)
    (hs : ∀ x, foldedSetIterable iter env x = pure x := by intro _; rfl) :
    wpAny (model prog w) A (eval (.ListComp elt [⟨.Name x px, iter, [], 0⟩] scope pos) env) Q E s := by
  rw [eval_ListComp]
  refine wpAny_comprehension_free (use := none) rfl hs hclos hkind hnames (wpAny_mono h (fun xv s₁ h₁ => ?_) fun _ _ e => e)
  obtain ⟨y, t, news, rfl, hh, F, N, hsz, R⟩ := h₁
  cases ha : y.cps.all (· < 128)
  · refine wpAny_pyIter_wide ha ?_
    refine block_U (Walks.strWide hh s₁.heap.objs.size y t) hsz (fun i h st => by obtain ⟨o, e, _⟩ := st; exact ⟨o, e⟩) (fun i h h' o nw st e e' _ _ _ => by obtain ⟨o', q, r⟩ := st; rw [e] at q; cases q; exact ⟨o, e', r⟩) hcell hkind hx ⟨_, Heap.get?_push_size _ rfl, rfl, rfl⟩ (fun b hb => ?_)
      (F.keeps fun _ _ e => Heap.get?_push_of_some _ e) (N.grown fun _ _ e => Heap.get?_push_of_some _ e) (Nat.ne_of_lt F.ns.lt) (next_is_new F) (fun p hp => Nat.ne_of_lt (Heap.lt_size (N p hp).1)) trivial (R _ ⟨_, rfl⟩) ?_
    · rw [List.mem_singleton.mp hb]
      show s₁.heap.objs.size < (s₁.heap.push _).objs.size
      rw [Heap.size_push]; exact Nat.lt_succ_self _
    · intro D C h tk m' ys news' F' N' o1 hn hC₀ hD₀ hCL hDL hCD offC fin
      refine ⟨m', hn, fun h'' hs'' => fin D h'' tk (F'.change hs'' hCL hC₀) (fun p hp => ?_) o1⟩
      refine ⟨hs''.extBut _ _ ?_ (N' p hp).1, (N' p hp).2⟩
      rcases List.mem_cons.mp hp with rfl | hp
      · exact Ne.symm hCD
      · exact offC p hp
  · refine wpAny_pyIter_ascii ha ?_
    refine block_U (Walks.strAscii hh s₁.heap.objs.size y t) hsz (fun i h st => by obtain ⟨o, e, _⟩ := st; exact ⟨o, e⟩) (fun i h h' o nw st e e' _ _ _ => by obtain ⟨o', q, r⟩ := st; rw [e] at q; cases q; exact ⟨o, e', r⟩) hcell hkind hx ⟨_, Heap.get?_push_size _ rfl, rfl, rfl⟩ (fun b hb => ?_)
      (F.keeps fun _ _ e => Heap.get?_push_of_some _ e) (N.grown fun _ _ e => Heap.get?_push_of_some _ e) (Nat.ne_of_lt F.ns.lt) (next_is_new F) (fun p hp => Nat.ne_of_lt (Heap.lt_size (N p hp).1)) trivial (R _ ⟨_, rfl⟩) ?_
    · rw [List.mem_singleton.mp hb]
      show s₁.heap.objs.size < (s₁.heap.push _).objs.size
      rw [Heap.size_push]; exact Nat.lt_succ_self _
    · intro D C h tk m' ys news' F' N' o1 hn hC₀ hD₀ hCL hDL hCD offC fin
      refine ⟨m', hn, fun h'' hs'' => fin D h'' tk (F'.change hs'' hCL hC₀) (fun p hp => ?_) o1⟩
      refine ⟨hs''.extBut _ _ ?_ (N' p hp).1, (N' p hp).2⟩
      rcases List.mem_cons.mp hp with rfl | hp
      · exact Ne.symm hCD
      · exact offC p hp
theorem compSrcStr {elt : PySem.Expr} {x : Str} {scope : Scope} {cl : List (Str × Addr)} {Q : Value → Shared → Prop} {y : Str} {t : Tok} {news : Cells} {s₁ : Shared} (hh : A.handled = none) (F : Fr h₀ L s₁.heap m) (N : News h₀ L s₁.heap news) (hsz : y.cps.size ≤ sizeLine)
    (h : ∀ g, CompRest prog w A h₀ L m env elt x scope cl { s₁ with heap := g } (fun _ => True) (SignAt y) (FinE h₀ L m { s₁ with heap := g } Q) y.cps.size 0 [] news) : CompVS prog w A h₀ L m env elt x scope cl Q (.str y t) s₁ :=
  ⟨y, t, news, rfl, hh, F, N, hsz, fun _ ⟨g, e⟩ => e ▸ h g⟩
end
end Mine

-- AY12
namespace Mine
theorem kf_of {vs : List Value} {is : List Int} (h : IntsAre vs is) : kf_ints vs = true := by
  induction h with
  | nil => rfl
  | cons _ _ _ ih => exact ih
theorem any_of {vs : List Value} {ns : List Nat} {k : Nat} (h : IntsAre vs (ns.map Int.ofNat)) : vs.any (isInt (k : Int)) = ns.contains k := by
  generalize e : ns.map Int.ofNat = is at h
  induction h generalizing ns with
  | nil =>
    cases ns with
    | nil => rfl
    | cons _ _ => cases e
  | cons x t _ ih =>
    cases ns with
    | nil => cases e
    | cons n ns =>
      obtain ⟨e1, e2⟩ := List.cons.inj (e : Int.ofNat n :: ns.map Int.ofNat = _)
      subst e1
      rw [List.any_cons, ih (ns := ns) e2, List.contains_cons]
      congr 1
      show ((n : Int) == (k : Int)) = (k == n)
      by_cases q : n = k
      · subst q; simp
      · rw [beq_eq_false_iff_ne.mpr (by omega : (n : Int) ≠ (k : Int)), beq_eq_false_iff_ne.mpr (Ne.symm q)]
theorem tabK_at : ∀ (tb : List (Nat × List Nat)) (tts : List Tok) (c : Nat), tts.length = tb.length → (∃ t, PySem.valueAt (tabK tb tts) ⟨#[c]⟩ = some (.str ⟨(tabOf tb c).toArray⟩ t)) ∨ (PySem.valueAt (tabK tb tts) ⟨#[c]⟩ = none ∧ tabOf tb c = [c])
  | [], _, c, _ => .inr ⟨by cases ‹List Tok› <;> rfl, rfl⟩
  | q :: tb, [], c, h => by cases h
  | q :: tb, t :: tts, c, h => by
    have ih := tabK_at tb tts c (by simpa using h)
    have ek : tabK (q :: tb) (t :: tts) = (⟨#[q.1]⟩, .str ⟨q.2.toArray⟩ t) :: tabK tb tts := rfl
    unfold PySem.valueAt tabOf at *
    rw [ek, List.find?_cons, List.lookup_cons]
    by_cases hq : c = q.1
    · subst hq
      left
      exact ⟨t, by simp⟩
    · have h1 : (decide ((⟨#[q.1]⟩ : Str) = ⟨#[c]⟩)) = false := by
        rw [decide_eq_false_iff_not]
        intro e; apply hq
        have := congrArg (fun x : Str => x.cps.toList) e
        simpa using this.symm
      have h2 : (c == q.1) = false := beq_eq_false_iff_ne.mpr hq
      rw [h2]
      simp only [h1]
      exact ih
theorem lens_tab {tb : List (Nat × List Nat)} (h : tbOk tb = true) : ∀ l : List Nat, ((l.map fun c => (⟨(tabOf tb c).toArray⟩ : Str)).map (·.length)).sum + (l.map fun c => (⟨(tabOf tb c).toArray⟩ : Str)).length ≤ 7 * l.length
  | [] => Nat.le_refl _
  | c :: l => by
    have ih := lens_tab h l
    have h1 := (tabOf_ok h c).2.2.1
    have h2 : (⟨(tabOf tb c).toArray⟩ : Str).length = (tabOf tb c).length := by show Array.size _ = _; rw [List.size_toArray]
    simp only [List.map_cons, List.sum_cons, List.length_cons, h2] at ih ⊢
    omega
theorem join_flat : ∀ l : List Str, (Str.join Str.empty l).cps.toList = l.flatMap (·.cps.toList)
  | [] => rfl
  | [a] => by rw [List.flatMap_cons, List.flatMap_nil, List.append_nil]; rfl
  | a :: b :: l => by
    have ih := join_flat (b :: l)
    have e : Str.join Str.empty (a :: b :: l) = a ++ Str.empty ++ Str.join Str.empty (b :: l) := rfl
    rw [e, Str.cps_append, Str.cps_append, Array.toList_append, Array.toList_append, ih, List.flatMap_cons (xs := b :: l)]
    rw [show Str.empty.cps.toList = [] from rfl, List.append_nil]
theorem join_tab (tb : List (Nat × List Nat)) (x : Str) : Txt.join (Str.ofString "") (x.cps.toList.map fun c => (⟨(tabOf tb c).toArray⟩ : Str)) = subT tb x := by
  have e : Txt.join (Str.ofString "") (x.cps.toList.map fun c => (⟨(tabOf tb c).toArray⟩ : Str)) = Str.join (Str.ofString "") (x.cps.toList.map fun c => (⟨(tabOf tb c).toArray⟩ : Str)) := StrLaws.glued_eq_join ..
  rw [e, show Str.ofString "" = Str.empty from rfl]
  refine str_ext ?_
  rw [join_flat]
  unfold subT subL
  rw [List.flatMap_map]
theorem pw6b {b : Nat} (hb : b ≤ 5) : 6 ^ b ≤ 7776 := by
  have h2 : (6 : Nat) ^ b ≤ 6 ^ 5 := Nat.pow_le_pow_right (by omega) hb
  have h3 : (6 : Nat) ^ 5 = 7776 := rfl
  omega
theorem strs_snoc {y : Str} {t : Tok} : ∀ {vs : List Value} {ys : List Str}, StrsAre vs ys → StrsAre (vs ++ [.str y t]) (ys ++ [y])
  | _, _, .nil => .cons y t .nil
  | _, _, .cons z u r => .cons z u (strs_snoc r)
section
variable {prog : Program} {w : World} {g : Heap} {dp un : Nat} {gd : Option (List Code)} {fr : List Env}
theorem ifB3 (G : Gd (KH w.params) g) (hdp : dp + 40 < recursionLimit) (hun : un + 900 < cLine)
    {L fa a hp wl hd ma ra ta ba d I : Addr} {kb kt p b : Nat} {ar : List Bool} {bv tv : List Value} {ts : List Str} {tb : List (Nat × List Nat)} {bf : List Nat} {tz : Str} {tt tp : Tok} {o1 r2 : Cells} {s : Shared} {h : Heap} {tk : Nat} {oH oB oTb oTx oO oL it ob : Obj} {vw vf vr : Option Value} {ps : Array Value} (hL : @LT.lt Nat _ 243 L)
    (hR : Rn ar b ts) (hb : b ≤ 5) (htb : tbOk tb = true) (hB : IntsAre bv (bf.map Int.ofNat)) (hbl : bf.length < 100) (ht : StrsAre tv ts) (dB : oB.data = .cell (some (.ref ba))) (dTb : oTb.data = .cell (some (.ref d))) (dT : oTx.data = .cell (some (.ref ta))) (md : (d, ob) ∈ r2) (hT : TabIs prog w ob tb ∧ (d == sysModules) = false)
    (o6 : OffO L o1 ((ta, W.listOf tv.toArray kt) :: (ba, W.listOf bv.toArray kb) :: r2)) (r6 : ∀ p ∈ (ta, W.listOf tv.toArray kt) :: (ba, W.listOf bv.toArray kb) :: r2, N6 L p.1) (i6 : N6 L I)
    (F : Fr g L h (mLf vw (some (.int (p : Int) tp)) vf vr hd ma ra tz tt wl hp a)) (N : News g L h ((I, it) :: six L oH oB oTb oTx oO oL ps (o1 ++ (ta, W.listOf tv.toArray kt) :: (ba, W.listOf bv.toArray kb) :: r2))) {Q' : Flow → Shared → Prop}
    (hQ : ∀ (ta' : Addr) (tv' : List Value) (kt' : Nat) (oTx' : Obj) (h' : Heap) (tk' : Nat), StrsAre tv' (upd ts tb bf) → oTx'.data = .cell (some (.ref ta')) → (∀ p ∈ o1, p.1 ≠ ta') → N6 L ta' → ta' ≠ I →
      Fr g L h' (mLf vw (some (.int (p : Int) tp)) vf vr hd ma ra tz tt wl hp a) → News g L h' ((I, it) :: six L oH oB oTb oTx' oO oL ps (o1 ++ (ta', W.listOf tv'.toArray kt') :: r2)) →
      Q' .next { s with heap := h', toks := tk' }) :
    wpAny (model prog w) (arT dp un gd fr) (execs (ifB.drop 3) (envLw L fa (.ref 245))) Q' (fun _ _ => False) { s with heap := h, toks := tk } := by
  obtain ⟨X, ⟨p', loose, mean, mg, mb, T⟩, codeHd, codeHd2⟩ := id G
  have hV : VMark := trivial
  obtain ⟨⟨tts, htl, hdd⟩, lo⟩ := hT
  conv => arg 3; arg 1; whnf
  unfold envLw
  conv in (occs := *) lawSc => all_goals whnf
  walk1
  refine wpAny_Assign_Name ?_ (by with_unfolding_all rfl)
  refine compV hV F (by with_unfolding_all rfl) (by decide) (by rfl) (by decide) (by rfl) ?_
  iterate 7 walk1
  rename_i h1 tk1 t1 u1 v1 hRn F1 N1 hk1
  refine LCg.CompSrc.range rfl F1 N1 hRn (by decide) (n := 9) (by rfl) (by decide) ?_
  intro g'
  refine compInv (fun i ys news => news = (I, it) :: six L oH oB oTb oTx oO oL ps (o1 ++ (ta, W.listOf tv.toArray kt) :: (ba, W.listOf bv.toArray kb) :: r2) ∧ StrsAre ys ((upd ts tb bf).take i)) ?_ ?_ 9 0 [] _ rfl ⟨rfl, .nil⟩
  · rintro i ys news hi9 ⟨rfl, hys⟩ v I2 oI C oC D m₂ h2 tk2 E' ⟨tv2, rfl⟩ hC hxm F2 N2 off ⟨n1, n2, n3⟩
    rw [show (0 : Int) + (i : Int) = ((i : Nat) : Int) from Int.zero_add _] at hxm
    have eu := upd_at (ts := ts) (tb := tb) (bf := bf) hi9
    have hul : (upd ts tb bf)[i]? = some (tsA (upd ts tb bf) i) := by
      show _ = some (List.getD _ _ _)
      rw [List.getD_eq_getElem?_getD, List.getElem?_eq_getElem (by unfold upd; simpa using hi9)]; rfl
    obtain ⟨ut, hut⟩ := strsGet ht (i := i) (x := tsA ts i) (by
      show _ = some (List.getD _ _ _)
      rw [List.getD_eq_getElem?_getD, List.getElem?_eq_getElem (by rw [hR.len]; exact hi9)]; rfl)
    have mem_ta : ∀ _ : Unit, (ta, W.listOf tv.toArray kt) ∈ (I2, oI) :: (C, oC) :: (D, LCg.lst ys) :: (I, it) :: six L oH oB oTb oTx oO oL ps (o1 ++ (ta, W.listOf tv.toArray kt) :: (ba, W.listOf bv.toArray kb) :: r2) := fun _ => by lcg_src
    iterate 5 (walk1; (try dsimp only))
    refine kf_in (D := ba) (its := bv.toArray) (n := kb) N2 (by lcg_src) (kf_of hB) (any_of hB) ?_
    cases hbf : bf.contains i with
    | false =>
      rw [hbf, if_neg Bool.false_ne_true] at eu
      iterate 5 (walk1; (try dsimp only))
      refine item_listL (N2.isList (mem_ta ())) (by omega) (by omega) (by rw [Int.toNat_natCast]; exact hut) ?_
      refine LCg.CompEnd.intro F2 N2 _ (fun p hp => hp) off trivial ⟨rfl, ?_⟩
      rw [List.take_add_one, hul, eu]
      exact strs_snoc hys
    | true =>
      rw [hbf, if_pos rfl] at eu
      iterate 7 (walk1; (try dsimp only))
      refine compVS F2 (by with_unfolding_all rfl) (by decide) (by rfl) (by decide) (by rfl) ?_
      iterate 3 (walk1; (try dsimp only))
      refine item_listL (N2.isList (mem_ta ())) (by omega) (by omega) (by rw [Int.toNat_natCast]; exact hut) ?_
      refine compSrcStr rfl F2 N2 (by have := hR.sz i hi9; have := pw6b hb; rw [sizeLine_eq]; omega) ?_
      intro g3
      generalize hX : tsA ts i = xx at *
      refine compInv (fun j zs news => news = (I2, oI) :: (C, oC) :: (D, LCg.lst ys) :: (I, it) :: six L oH oB oTb oTx oO oL ps (o1 ++ (ta, W.listOf tv.toArray kt) :: (ba, W.listOf bv.toArray kb) :: r2) ∧ StrsAre zs ((xx.cps.toList.take j).map fun c => (⟨(tabOf tb c).toArray⟩ : Str))) ?_ ?_ xx.cps.size 0 [] _ (Nat.zero_add _) ⟨rfl, .nil⟩
      · rintro j zs news hj ⟨rfl, hzs⟩ v I3 oI3 C3 oC3 D3 m3 h3 tk3 E3 ⟨c, u, hc, rfl⟩ hC3 hxm3 F3 N3 off3 ⟨q1, q2, q3⟩
        iterate 3 (walk1; (try dsimp only))
        refine kdg_method N3 (o := ob) (by lcg_src) hdd ?_
        iterate 6 (walk1; (try dsimp only))
        have hcl : xx.cps.toList[j]? = some c := by rw [Array.getElem?_toList]; exact hc
        rcases tabK_at tb tts c htl with ⟨t9, e9⟩ | ⟨e9, e10⟩
        · refine kdg_get2 N3 (o := ob) (by lcg_src) hdd lo (strKind_is _ _ _ _) _ e9 ?_
          refine LCg.CompEnd.intro F3 N3 _ (fun p hp => hp) off3 trivial ⟨rfl, ?_⟩
          rw [List.take_add_one, hcl, Option.toList, List.map_append]
          exact strs_snoc hzs
        · refine kdg_get2 N3 (o := ob) (by lcg_src) hdd lo (strKind_is _ _ _ _) _ e9 ?_
          refine LCg.CompEnd.intro F3 N3 _ (fun p hp => hp) off3 trivial ⟨rfl, ?_⟩
          rw [List.take_add_one, hcl, Option.toList, List.map_append, List.map_singleton, e10]
          exact strs_snoc hzs
      · rintro zs news ⟨rfl, hzs⟩ D3 h3 tk3 F3 N3 off3
        dsimp only
        iterate 1 (walk1; (try dsimp only))
        rw [List.take_of_length_le (by rw [Array.length_toList]; exact Nat.le_refl _)] at hzs
        refine join_listW (items := zs.toArray) (N3.isList (.head _)) (by simpa using hzs) (by decide) (by have k1 := lens_tab htb xx.cps.toList; have k2 := hR.sz i hi9; have k3 := pw6b hb; rw [hX] at k2; have k4 : xx.cps.toList.length = xx.cps.size := Array.length_toList; omega) fun t' k => ?_
        rw [join_tab]
        have N4 := cb_drop (news := (I2, oI) :: (C, oC) :: (D, LCg.lst ys) :: (I, it) :: six L oH oB oTb oTx oO oL ps (o1 ++ (ta, W.listOf tv.toArray kt) :: (ba, W.listOf bv.toArray kb) :: r2)) N3 (by lcg_sub)
        refine LCg.CompEnd.intro F3 N4 _ (fun p hp => hp) off trivial ⟨rfl, ?_⟩
        rw [List.take_add_one, hul, eu]
        exact strs_snoc hys
  · rintro ys news ⟨rfl, hys⟩ D h2 tk2 F2 N2 off
    have offD := off1_all _ off
    have n6 : N6 L D := .of fun q hq => (offD q (List.Mem.tail _ hq)).symm
    have nD : D ≠ L + 1 + 1 + 1 := n6.2.2.2.1
    have nI : D ≠ I := (offD (I, it) (.head _)).symm
    have kI : @Ne Nat I (L + 1 + 1 + 1) := i6.2.2.2.1
    have kA : ∀ p ∈ o1 ++ ((ta, W.listOf tv.toArray kt) :: (ba, W.listOf bv.toArray kb) :: r2), p.1 ≠ L + 1 + 1 + 1 := allA (fun p hp => (o6 p hp).1.2.2.2.1) (fun p hp => (r6 p hp).2.2.2.1)
    iterate 1 (walk1; (try dsimp only))
    rename_i h3 oTx' F3 N3 dT'
    have N4 := cb_drop (news := (I, it) :: six L oH oB oTb oTx' oO oL ps (o1 ++ (D, LCg.lst ys) :: r2)) N3 (by lcg_sub)
    rw [List.take_of_length_le (by unfold upd; simp)] at hys
    iterate 1 (walk1; (try dsimp only))
    exact hQ D ys _ oTx' h3 _ hys dT' (fun p hp => offD p (by lcg_src)) n6 nI F3 N4
end
end Mine

-- AY13
namespace Mine
section
variable {prog : Program} {w : World} {g : Heap} {dp un : Nat} {gd : Option (List Code)} {fr : List Env}
theorem placeGet (G : Gd (KH w.params) g) (hdp : dp + 40 < recursionLimit) (hun : un + 900 < cLine)
    {L fa a hp wl hd ma ra I x c2 : Addr} {q : List Str} {y : Str} {tz : Str} {tt : Tok} {o1 r2 : Cells} {s : Shared} {h : Heap} {tk : Nat} {oH oB oTb oTx oO oL it oc2 : Obj} {vw vp vf vr : Option Value} {ps : Array Value} {tot : Int} {R : List Nat} (hL : @LT.lt Nat _ 243 L)
    (hx : LexS prog w x c2 oc2 tot o1 (y :: q) R) (hq : q.length < 900) (dL : oL.data = .cell (some (.ref x))) (o6 : OffO L o1 r2) (oI : ∀ p ∈ o1, p.1 ≠ I)
    (F : Fr g L h (mLf vw vp vf vr hd ma ra tz tt wl hp a)) (N : News g L h ((I, it) :: six L oH oB oTb oTx oO oL ps (o1 ++ r2))) {Q' : Flow → Shared → Prop}
    (hQ : ∀ (t : Tok) (o1' : Cells) (h' : Heap) (tk' : Nat), LexS prog w x c2 oc2 tot o1' q R → OffO L o1' r2 → (∀ p ∈ o1', p.1 ≠ I) →
      Fr g L h' (mLf vw vp (some (.str y t)) vr hd ma ra tz tt wl hp a) → News g L h' ((I, it) :: six L oH oB oTb oTx oO oL ps (o1' ++ r2)) →
      wpAny (model prog w) (arT dp un gd fr) (execs (loopB.drop 1) (envLw L fa (.ref 245))) Q' (fun _ _ => False) { s with heap := h', toks := tk' }) :
    wpAny (model prog w) (arT dp un gd fr) (execs loopB (envLw L fa (.ref 245))) Q' (fun _ _ => False) { s with heap := h, toks := tk } := by
  obtain ⟨X, ⟨p', loose, mean, mg, mb, T⟩, codeHd, codeHd2⟩ := id G
  have hV : VMark := trivial
  show wpAny _ _ (execs (List.cons _ (loopB.drop 1)) _) _ _ _
  generalize hrest : loopB.drop 1 = rest at *
  unfold envLw at hQ ⊢
  conv in (occs := *) lawSc => all_goals whnf
  iterate 4 (walk1; (try dsimp only))
  refine methGet hx F X N (by lcg_sub) ?_
  iterate 1 (walk1; (try dsimp only))
  refine use (own := o1) (rest := (I, it) :: six L oH oB oTb oTx oO oL ps r2) (getS hx (Nat.lt_of_lt_of_le hq (by decide))) F N G (by lcg_sub) (by lcg_sub) (fun p hp => allC (oI p hp) (o6.out p hp)) (by omega) (by omega) ?_
  rintro v h1 tk1 o2 ⟨t, rfl, hx2⟩ F1 N1 D1
  have o62 : OffO L o2 r2 := .of fun p hp q hq => D1 p hp q (.tail _ hq)
  have oI2 : ∀ p ∈ o2, p.1 ≠ I := fun p hp => D1 p hp (I, it) (.head _)
  have N2 := cb_drop (news := (I, it) :: six L oH oB oTb oTx oO oL ps (o2 ++ r2)) N1 (by lcg_sub)
  clear N N1 F D1
  try dsimp only
  iterate 1 (walk1; (try dsimp only))
  rename_i h2 F2 N3
  subst hrest
  exact hQ t o2 h2 _ hx2 o62 oI2 (frOf F2 mLf_first) N3
theorem placePush (G : Gd (KH w.params) g) (hdp : dp + 40 < recursionLimit) (hun : un + 900 < cLine)
    {L fa a hp wl hd ma ra I x c2 : Addr} {q : List Str} {y : Str} {t : Tok} {tz : Str} {tt : Tok} {o1 r2 : Cells} {s : Shared} {h : Heap} {tk : Nat} {oH oB oTb oTx oO oL it oc2 : Obj} {vw vp vr : Option Value} {ps : Array Value} {tot : Int} {R : List Nat} (hL : @LT.lt Nat _ 243 L)
    (hx : LexS prog w x c2 oc2 tot o1 q R) (hq : q.length < 900) (dL : oL.data = .cell (some (.ref x))) (o6 : OffO L o1 r2) (oI : ∀ p ∈ o1, p.1 ≠ I)
    (F : Fr g L h (mLf vw vp (some (.str y t)) vr hd ma ra tz tt wl hp a)) (N : News g L h ((I, it) :: six L oH oB oTb oTx oO oL ps (o1 ++ r2))) {Q' : Flow → Shared → Prop}
    (hQ : ∀ (o1' : Cells) (h' : Heap) (tk' : Nat), LexS prog w x c2 oc2 tot o1' (q ++ [y]) R → OffO L o1' r2 → (∀ p ∈ o1', p.1 ≠ I) →
      Fr g L h' (mLf vw vp (some (.str y t)) vr hd ma ra tz tt wl hp a) → News g L h' ((I, it) :: six L oH oB oTb oTx oO oL ps (o1' ++ r2)) →
      Q' .next { s with heap := h', toks := tk' }) :
    wpAny (model prog w) (arT dp un gd fr) (execs (loopB.drop 2) (envLw L fa (.ref 245))) Q' (fun _ _ => False) { s with heap := h, toks := tk } := by
  obtain ⟨X, ⟨p', loose, mean, mg, mb, T⟩, codeHd, codeHd2⟩ := id G
  have hV : VMark := trivial
  conv => arg 3; arg 1; whnf
  unfold envLw
  conv in (occs := *) lawSc => all_goals whnf
  iterate 4 (walk1; (try dsimp only))
  refine methPush hx F X N (by lcg_sub) ?_
  iterate 5 (walk1; (try dsimp only))
  refine use (own := o1) (rest := (I, it) :: six L oH oB oTb oTx oO oL ps r2) (pushS hx (Nat.lt_of_lt_of_le hq (by decide)) y t) F N G (by lcg_sub) (by lcg_sub) (fun p hp => allC (oI p hp) (o6.out p hp)) (by omega) (by omega) ?_
  rintro v h1 tk1 o2 ⟨rfl, hx2⟩ F1 N1 D1
  have o62 : OffO L o2 r2 := .of fun p hp q hq => D1 p hp q (.tail _ hq)
  have oI2 : ∀ p ∈ o2, p.1 ≠ I := fun p hp => D1 p hp (I, it) (.head _)
  have N2 := cb_drop (news := (I, it) :: six L oH oB oTb oTx oO oL ps (o2 ++ r2)) N1 (by lcg_sub)
  clear N N1 F D1
  try dsimp only
  iterate 1 (walk1; (try dsimp only))
  exact hQ o2 h1 _ hx2 o62 oI2 F1 N2
theorem placeIf (hpf : ((prog.main.file : Str) == ("/claim/cut.py" : Str)) = true) (hps : (prog.main.scope.names.lookup ("super" : Str)).isSome = false) (G : Gd (KH w.params) g) (hdp : dp + 40 < recursionLimit) (hun : un + 900 < cLine)
    {L fa a hp wl oa ha hd ma ra ta I x c2 : Addr} {ko kh km kr kt hk p b : Nat} {ar : List Bool} {hv mv rv tv hpv hdv : List Value} {is : List Int} {ts : List Str} {tz : Str} {tt tp : Tok} {o1 r2 : Cells} {s : Shared} {h : Heap} {tk : Nat} {oH oB oTb oTx oO oL it oc2 : Obj} {vB vTb vw vf vr : Option Value} {ps : Array Value} {tot : Int} {R : List Nat} (hL : @LT.lt Nat _ 243 L)
    (hal : ar.length = 9) (hac : ar.count true = 5) (hp9 : p < 9) (hR : Rn ar b ts) (hb : b ≤ 5) (hx : LexS prog w x c2 oc2 tot o1 (ringS ts p) R)
    (hI : IntsAre hpv is) (hil : is.length = 9) (hH : HandsIn prog w r2 hdv) (hi : IntsAre hv (hgts ar)) (hm : IntsAre mv ((List.range 9).map fun i => (mat ar i : Int))) (hr : IntsAre rv ((ord ar).map Int.ofNat)) (ht : StrsAre tv ts)
    (dH : oH.data = .cell (some (.ref ha))) (dO : oO.data = .cell (some (.ref oa))) (dL : oL.data = .cell (some (.ref x))) (dT : oTx.data = .cell (some (.ref ta))) (dB : oB.data = .cell vB) (dTb : oTb.data = .cell vTb)
    (m1 : (oa, W.listOf (ar.map Value.bool).toArray ko) ∈ r2) (m2 : (ha, W.listOf hv.toArray kh) ∈ r2) (m3 : (ma, W.listOf mv.toArray km) ∈ r2) (m4 : (ra, W.listOf rv.toArray kr) ∈ r2) (m5 : (hp, W.listOf hpv.toArray hk) ∈ r2) (m6 : (hd, W.listOf hdv.toArray 0) ∈ r2)
    (o6 : OffO L o1 ((ta, W.listOf tv.toArray kt) :: r2)) (r6 : ∀ p ∈ (ta, W.listOf tv.toArray kt) :: r2, N6 L p.1) (i6 : N6 L I) (oI : ∀ p ∈ o1, p.1 ≠ I) (nI : ta ≠ I)
    (F : Fr g L h (mLf vw (some (.int (p : Int) tp)) vf vr hd ma ra tz tt wl hp a)) (N : News g L h ((I, it) :: six L oH oB oTb oTx oO oL ps (o1 ++ (ta, W.listOf tv.toArray kt) :: r2))) {Q' : Flow → Shared → Prop}
    (hQ : ∀ (ta' : Addr) (tv' : List Value) (kt' b' : Nat) (ts' q' : List Str) (oB' oTb' oTx' : Obj) (vB' vTb' vr' : Option Value) (o1' : Cells) (h' : Heap) (tk' : Nat), Rn ar b' ts' → b' = (if opn ar p then b + 1 else b) → StrsAre tv' ts' → oTx'.data = .cell (some (.ref ta')) → oB'.data = .cell vB' → oTb'.data = .cell vTb' →
      q'.length = 8 → q' ++ [tsA ts p] = rot ts' (p + 1) → LexS prog w x c2 oc2 tot o1' q' R → OffO L o1' ((ta', W.listOf tv'.toArray kt') :: r2) → (∀ p ∈ o1', p.1 ≠ I) → N6 L ta' → ta' ≠ I →
      Fr g L h' (mLf vw (some (.int (p : Int) tp)) vf vr' hd ma ra tz tt wl hp a) → News g L h' ((I, it) :: six L oH oB' oTb' oTx' oO oL ps (o1' ++ (ta', W.listOf tv'.toArray kt') :: r2)) →
      wpAny (model prog w) (arT dp un gd fr) (execs (loopB.drop 2) (envLw L fa (.ref 245))) Q' (fun _ _ => False) { s with heap := h', toks := tk' }) :
    wpAny (model prog w) (arT dp un gd fr) (execs (loopB.drop 1) (envLw L fa (.ref 245))) Q' (fun _ _ => False) { s with heap := h, toks := tk } := by
  obtain ⟨X, ⟨p', loose, mean, mg, mb, T⟩, codeHd, codeHd2⟩ := id G
  have hV : VMark := trivial
  show wpAny _ _ (execs (List.cons (.If _ ifB [] _) (loopB.drop 2)) _) _ _ _
  generalize hif : ifB = ib
  generalize hrest : loopB.drop 2 = rest at *
  unfold envLw at hQ ⊢
  conv in (occs := *) lawSc => all_goals whnf
  have mO : (oa, W.listOf (ar.map Value.bool).toArray ko) ∈ (I, it) :: six L oH oB oTb oTx oO oL ps (o1 ++ (ta, W.listOf tv.toArray kt) :: r2) := by lcg_src
  iterate 6 (walk1; (try dsimp only))
  refine item_listL (N.isList mO) (by omega) (by omega) (x := .bool (opn ar p)) (opnAt hal hp9) ?_
  iterate 1 (walk1; (try dsimp only))
  cases ho : opn ar p with
  | false =>
    rw [ho] at hQ
    rw [if_neg Bool.false_ne_true]
    iterate 1 (walk1; (try dsimp only))
    subst hrest
    refine hQ ta tv kt b ts (ringS ts p) oB oTb oTx vB vTb vr o1 h _ hR rfl ht dT dB dTb (by unfold ringS ringF; rw [List.length_map, List.length_map, List.length_range]) (rot_snoc hp9).symm hx o6 oI (r6 _ (.head _)) nI F N
  | true =>
    rw [ho] at hQ
    rw [if_pos rfl]
    subst hif
    have r6' : ∀ q ∈ r2, N6 L q.1 := fun q hq => r6 q (.tail _ hq)
    refine ifB0 (s := s) (ar := ar) (p := p) G hdp hun hL hal hp9 hI hil hH dO dTb m1 m5 m6 o6 r6 i6 F N ?_
    intro j f d ob oTb' tb h1 tk1 k1 k2 k3 dTb' F1 N1
    refine ifB1 (s := s) hpf hps G hdp hun hL hal hac hp9 ho hR hb k1 hx hi hm hr ht dH dO dL dT m1 m2 m3 m4 o6 oI F1 N1 ?_
    intro o2 h2 tk2 hx2 o62 oI2 F2 N2
    refine ifB2 (s := s) G hdp hun hL hal hac hp9 ho hr dB m4 o62 r6 i6 F2 N2 ?_
    intro ba bv kb oB' h3 tk3 hbv dB' nb1 nb2 F3 N3
    have o63 : OffO L o2 ((ta, W.listOf tv.toArray kt) :: (ba, W.listOf bv.toArray kb) :: r2) := fun q hq => ⟨(o62 q hq).1, allC ((o62 q hq).2 _ (.head _)) (allC (nb1 q hq) fun z hz => (o62 q hq).2 z (.tail _ hz))⟩
    have r63 : ∀ q ∈ (ta, W.listOf tv.toArray kt) :: (ba, W.listOf bv.toArray kb) :: r2, N6 L q.1 := allC (r6 _ (.head _)) (allC nb2 r6')
    refine ifB3 (s := s) (b := b) G hdp hun hL hR hb (handFn_ok (prog := prog) (w := w) k1).2.2 hbv (by show ((ord ar).take _).length < 100; rw [List.length_take, (good2_of hal hac).1]; omega) ht dB' dTb' dT k2 k3 o63 r63 i6 F3 N3 ?_
    intro ta' tv' kt' oTx' h4 tk4 ht' dT' q1 q2 q3 F4 N4
    dsimp only
    subst hrest
    refine hQ ta' tv' kt' (b + 1) _ _ oB' oTb' oTx' _ _ _ o2 h4 _ (hR.upd (handFn_ok (prog := prog) (w := w) k1).2.2 _) rfl ht' dT' dB' dTb' ?_ (turn_out hal hac hR hp9 ho tb) hx2 (fun q hq => ⟨(o62 q hq).1, allC (q1 q hq) fun z hz => (o62 q hq).2 z (.tail _ hz)⟩) oI2 q2 q3 F4 N4
    rw [outW, (turn_log hal hac hR hp9 ho).2, List.length_map, List.length_map]
    unfold ringF; rw [List.length_map, List.length_range]
end
end Mine

-- AY14
namespace Mine
theorem OkWs.chars {a : List Bool} {ws : List Str} (h : OkWs a ws) : ∀ x ∈ ws, ∀ d ∈ x.cps.toList, d < 0x110000 := by
  induction h with
  | nil => exact allN
  | cons q _ ih =>
    refine allC ?_ ih
    obtain ⟨c, r, e, -, -, h3⟩ := q
    rw [e]; exact h3
theorem OkWs.rn {ar : List Bool} {ws : List Str} (h : OkWs ar ws) (hal : ar.length = 9) : Rn ar 0 ws := by
  have hl : ws.length = 9 := by rw [h.length]; exact hal
  have at' : ∀ i, i < 9 → ws[i]? = some (tsA ws i) := fun i hi => by
    show _ = some (List.getD _ _ _)
    rw [List.getD_eq_getElem?_getD, List.getElem?_eq_getElem (by omega)]; rfl
  have hm : ∀ i, i < 9 → tsA ws i ∈ ws := fun i hi => List.mem_of_getElem? (at' i hi)
  refine ⟨hl, fun i hi => h.at (at' i hi), fun i hi => (h.all _ (hm i hi)).2, fun i hi => ?_, fun i hi => h.chars _ (hm i hi)⟩
  exact (h.all _ (hm i hi)).1
theorem cnt_succ {ar : List Bool} (hal : ar.length = 9) {i : Nat} (hi : i < 9) : (ar.take (i + 1)).count true = if opn ar i then (ar.take i).count true + 1 else (ar.take i).count true := by
  have e : ar[i]? = some (opn ar i) := by
    unfold opn
    rw [List.getD_eq_getElem?_getD, List.getElem?_eq_getElem (by omega)]; rfl
  rw [List.take_add_one, e, List.count_append]
  cases opn ar i <;> simp
section
variable {prog : Program} {w : World} {g : Heap} {dp un : Nat} {gd : Option (List Code)} {fr : List Env}
theorem lawT12 (hpf : ((prog.main.file : Str) == ("/claim/cut.py" : Str)) = true) (hps : (prog.main.scope.names.lookup ("super" : Str)).isSome = false) (G : Gd (KH w.params) g) (hdp : dp + 40 < recursionLimit) (hun : un + 900 < cLine)
    {L fa a hp wl oa ha hd ma ra x c2 : Addr} {ko kh km kr kw hk : Nat} {ar : List Bool} {hv mv rv wv hpv hdv : List Value} {is : List Int} {ws : List Str} {tz : Str} {tt : Tok} {o1 r2 : Cells} {s : Shared} {h : Heap} {tk : Nat} {oH oB oTb oTx oO oL oc2 : Obj} {vB vTb vw : Option Value} {ps : Array Value} {tot : Int} {R : List Nat} (hL : @LT.lt Nat _ 243 L)
    (hal : ar.length = 9) (hac : ar.count true = 5) (hok : OkWs ar ws) (hx : LexS prog w x c2 oc2 tot o1 ws R)
    (hI : IntsAre hpv is) (hil : is.length = 9) (hH : HandsIn prog w r2 hdv) (hi : IntsAre hv (hgts ar)) (hm : IntsAre mv ((List.range 9).map fun i => (mat ar i : Int))) (hr : IntsAre rv ((ord ar).map Int.ofNat)) (hws : StrsAre wv ws)
    (dH : oH.data = .cell (some (.ref ha))) (dO : oO.data = .cell (some (.ref oa))) (dL : oL.data = .cell (some (.ref x))) (dT : oTx.data = .cell (some (.ref wl))) (dB : oB.data = .cell vB) (dTb : oTb.data = .cell vTb)
    (m0 : (wl, W.listOf wv.toArray kw) ∈ r2) (m1 : (oa, W.listOf (ar.map Value.bool).toArray ko) ∈ r2) (m2 : (ha, W.listOf hv.toArray kh) ∈ r2) (m3 : (ma, W.listOf mv.toArray km) ∈ r2) (m4 : (ra, W.listOf rv.toArray kr) ∈ r2) (m5 : (hp, W.listOf hpv.toArray hk) ∈ r2) (m6 : (hd, W.listOf hdv.toArray 0) ∈ r2)
    (o6 : OffO L o1 r2) (r6 : ∀ p ∈ r2, N6 L p.1)
    (F : Fr g L h (mLf vw none none none hd ma ra tz tt wl hp a)) (N : News g L h (six L oH oB oTb oTx oO oL ps (o1 ++ r2))) {Q' : Flow → Shared → Prop}
    (hQ : ∀ (vp vf vr vB' vTb' : Option Value) (ta : Addr) (tv : List Value) (kt : Nat) (ts : List Str) (oB' oTb' oTx' : Obj) (o1' : Cells) (h' : Heap) (tk' : Nat), Rn ar 5 ts → StrsAre tv ts → oTx'.data = .cell (some (.ref ta)) → oB'.data = .cell vB' → oTb'.data = .cell vTb' → LexS prog w x c2 oc2 tot o1' ts R →
      OffO L o1' ((ta, W.listOf tv.toArray kt) :: r2) → N6 L ta →
      Fr g L h' (mLf vw vp vf vr hd ma ra tz tt wl hp a) → News g L h' (six L oH oB' oTb' oTx' oO oL ps (o1' ++ (ta, W.listOf tv.toArray kt) :: r2)) →
      wpAny (model prog w) (arT dp un gd fr) (execs (lawB.drop 13) (envLw L fa (.ref 245))) Q' (fun _ _ => False) { s with heap := h', toks := tk' }) :
    wpAny (model prog w) (arT dp un gd fr) (execs (lawB.drop 12) (envLw L fa (.ref 245))) Q' (fun _ _ => False) { s with heap := h, toks := tk } := by
  obtain ⟨X, ⟨p', loose, mean, mg, mb, T⟩, codeHd, codeHd2⟩ := id G
  have hV : VMark := trivial
  show wpAny _ _ (execs (List.cons (.For _ _ loopB _ _) (lawB.drop 13)) _) _ _ _
  generalize hrest : lawB.drop 13 = rest at *
  generalize hlb : loopB = lb
  unfold envLw at hQ ⊢
  conv in (occs := *) lawSc => all_goals whnf
  iterate 8 walk1
  rename_i Q3 hq3 hr3 h1 tk1 t1 u1 v1 hRg F1 N1 hk1
  clear hk1
  dsimp only at hRg ⊢
  have N2 := cb_drop (news := six L oH oB oTb oTx oO oL ps (o1 ++ (wl, W.listOf wv.toArray kw) :: r2)) N1 (by lcg_sub)
  clear N1
  refine rangeForI (n := 9) rfl F1 N2 hRg (by decide) (by decide) (fun I i m news => ∃ (vp vf vr vB' vTb' : Option Value) (ta : Addr) (tv : List Value) (kt : Nat) (ts : List Str) (oB' oTb' oTx' : Obj) (o1' : Cells), Rn ar ((ar.take i).count true) ts ∧ StrsAre tv ts ∧ oTx'.data = .cell (some (.ref ta)) ∧ oB'.data = .cell vB' ∧ oTb'.data = .cell vTb' ∧ LexS prog w x c2 oc2 tot o1' (rot ts i) R ∧
      OffO L o1' ((ta, W.listOf tv.toArray kt) :: r2) ∧ N6 L ta ∧ m = mLf vw vp vf vr hd ma ra tz tt wl hp a ∧ news = six L oH oB' oTb' oTx' oO oL ps (o1' ++ (ta, W.listOf tv.toArray kt) :: r2) ∧ (∀ q ∈ o1', q.1 ≠ I) ∧ ta ≠ I ∧ N6 L I ∧ (∀ q ∈ r2, q.1 ≠ I)) ?_ ?_ ?_
  · intro I hI'
    refine ⟨none, none, none, vB, vTb, wl, wv, kw, ws, oB, oTb, oTx, o1, hok.rn hal, hws, dT, dB, dTb, ?_, fun q hq => ⟨(o6 q hq).1, allC ((o6 q hq).2 _ m0) (o6 q hq).2⟩, r6 _ m0, rfl, rfl, fun q hq => Nat.ne_of_lt (hI' q (by lcg_src)), Nat.ne_of_lt (hI' (wl, W.listOf wv.toArray kw) (by lcg_src)), .of fun q hq => Nat.ne_of_gt (hI' q hq), fun q hq => Nat.ne_of_lt (hI' q (by lcg_src))⟩
    rw [rot0 (hok.rn hal).len]; exact hx
  · rintro I i t m news hi9 ⟨vp, vf, vr, vB', vTb', ta, tv, kt, ts, oB', oTb', oTx', o1', hRn, ht, dT', dB', dTb', hx', o6', nt, rfl, rfl, oI, nI, i6, rI⟩ it h' tk' F' N' Q2 hn hr2
    rw [show (0 : Int) + (i : Int) = ((i : Nat) : Int) from Int.zero_add _] at F'
    have F' := frOf F' mLf_place
    have hb5 : (ar.take i).count true ≤ 5 := by rw [← hac]; exact (List.take_sublist i ar).count_le true
    have r6' : ∀ q ∈ (ta, W.listOf tv.toArray kt) :: r2, N6 L q.1 := allC nt r6
    rw [rot_cons hi9] at hx'
    subst hlb
    refine placeGet (s := s) G hdp hun hL hx' (by unfold ringS ringF; rw [List.length_map, List.length_map, List.length_range]; decide) dL o6' oI F' N' ?_
    intro tf o2 h2 tk2 hx2 o62 oI2 F2 N3
    refine placeIf (s := s) hpf hps G hdp hun hL hal hac hi9 hRn hb5 hx2 hI hil hH hi hm hr ht dH dO dL dT' dB' dTb' m1 m2 m3 m4 m5 m6 o62 r6' i6 oI2 nI F2 N3 ?_
    intro ta3 tv3 kt3 b3 ts3 q3 oB3 oTb3 oTx3 vB3 vTb3 vr3 o3 h3 tk3 hR3 hb3 ht3 dT3 dB3 dTb3 hq8 hrot hx3 o63 oI3 n63 nI3 F3 N4
    refine placePush (s := s) G hdp hun hL hx3 (by rw [hq8]; decide) dL o63 oI3 F3 N4 ?_
    intro o4 h4 tk4 hx4 o64 oI4 F4 N5
    rw [hrot] at hx4
    rw [hb3, ← cnt_succ hal hi9] at hR3
    exact hn h4 _ _ _ ⟨_, _, vr3, vB3, vTb3, ta3, tv3, kt3, ts3, oB3, oTb3, oTx3, o4, hR3, ht3, dT3, dB3, dTb3, hx4, o64, n63, rfl, rfl, oI4, nI3, i6, rI⟩ F4 N5
      (allC i6.1.symm (allC i6.2.1.symm (allC i6.2.2.1.symm (allC i6.2.2.2.1.symm (allC i6.2.2.2.2.1.symm (allC i6.2.2.2.2.2.1.symm (allC i6.2.2.2.2.2.2.symm (allA oI4 (allC nI3 rI)))))))))
  · rintro I m news h' tk' ⟨vp, vf, vr, vB', vTb', ta, tv, kt, ts, oB', oTb', oTx', o1', hRn, ht, dT', dB', dTb', hx', o6', nt, rfl, rfl, -⟩ F' N'
    rw [List.take_of_length_le (by omega), hac] at hRn
    rw [rot9 hRn.len] at hx'
    subst hrest
    exact hq3 _ (hQ vp vf vr vB' vTb' ta tv kt ts oB' oTb' oTx' o1' h' tk' hRn ht dT' dB' dTb' hx' o6' nt F' N')
end
end Mine

-- AY15
namespace Mine
section
variable {prog : Program} {w : World} {g : Heap} {dp un : Nat} {gd : Option (List Code)} {fr : List Env}
theorem lawT13 (G : Gd (KH w.params) g) (hdp : dp + 40 < recursionLimit) (hun : un + 900 < cLine)
    {L fa a hp wl hd ma ra x c2 : Addr} {q : List Str} {tz : Str} {tt : Tok} {o1 r2 : Cells} {s : Shared} {h : Heap} {tk : Nat} {oH oB oTb oTx oO oL oc2 : Obj} {vw vp vf vr : Option Value} {ps : Array Value} {tot : Int} {R : List Nat} (hL : @LT.lt Nat _ 243 L)
    (hx : LexS prog w x c2 oc2 tot o1 q R) (hq : q.length < 900) (dL : oL.data = .cell (some (.ref x))) (o6 : OffO L o1 r2)
    (F : Fr g L h (mLf vw vp vf vr hd ma ra tz tt wl hp a)) (N : News g L h (six L oH oB oTb oTx oO oL ps (o1 ++ r2))) {Q' : Flow → Shared → Prop}
    (hQ : ∀ (o1' : Cells) (h' : Heap) (tk' : Nat), LexS prog w x c2 oc2 tot o1' (q ++ [Str.ofString ""]) R → OffO L o1' r2 →
      Fr g L h' (mLf vw vp vf vr hd ma ra tz tt wl hp a) → News g L h' (six L oH oB oTb oTx oO oL ps (o1' ++ r2)) →
      wpAny (model prog w) (arT dp un gd fr) (execs (lawB.drop 14) (envLw L fa (.ref 245))) Q' (fun _ _ => False) { s with heap := h', toks := tk' }) :
    wpAny (model prog w) (arT dp un gd fr) (execs (lawB.drop 13) (envLw L fa (.ref 245))) Q' (fun _ _ => False) { s with heap := h, toks := tk } := by
  obtain ⟨X, ⟨p', loose, mean, mg, mb, T⟩, codeHd, codeHd2⟩ := id G
  have hV : VMark := trivial
  show wpAny _ _ (execs (List.cons _ (lawB.drop 14)) _) _ _ _
  generalize hrest : lawB.drop 14 = rest at *
  unfold envLw at hQ ⊢
  conv in (occs := *) lawSc => all_goals whnf
  iterate 4 (walk1; (try dsimp only))
  refine methPush hx F X N (by lcg_sub) ?_
  iterate 5 (walk1; (try dsimp only))
  refine use (own := o1) (rest := six L oH oB oTb oTx oO oL ps r2) (pushS hx (Nat.lt_of_lt_of_le hq (by decide)) (Str.ofString "") _) F N G (by lcg_sub) (by lcg_sub) o6.out (by omega) (by omega) ?_
  rintro v h1 tk1 o2 ⟨rfl, hx2⟩ F1 N1 D1
  have o62 : OffO L o2 r2 := .of D1
  have N2 := cb_drop (news := six L oH oB oTb oTx oO oL ps (o2 ++ r2)) N1 (by lcg_sub)
  clear N N1 F
  try dsimp only
  subst hrest
  exact hQ o2 h1 _ hx2 o62 F1 N2
noncomputable abbrev mkS (l : List Nat) : Str := ⟨l.toArray⟩
theorem getAny {x c2 : Addr} {oc2 : Obj} {tot : Int} {own : Cells} {pb : List Str} {Rr : List Nat} {rem : List (List Nat)} {u : Str} {tl : List Str} (hx : LexS prog w x c2 oc2 tot own pb Rr) (hT : Toks Rr rem []) (hRl : Rr.length ≤ 300) (hp : pb.length < 900) (e : pb ++ rem.map mkS = u :: tl) :
    Does (KH w.params) prog w 8 49 [.ref x] own (fun r own' => ∃ t, r = .str u t ∧ ∃ pb' Rr' rem', LexS prog w x c2 oc2 tot own' pb' Rr' ∧ Toks Rr' rem' [] ∧ Rr'.length ≤ 300 ∧ pb'.length < 900 ∧ pb' ++ rem'.map mkS = tl) := by
  cases pb with
  | cons v pb =>
    obtain ⟨e1, e2⟩ := List.cons.inj (e : v :: (pb ++ rem.map mkS) = u :: tl)
    subst e1
    have hp' : pb.length < 900 := by rw [List.length_cons] at hp; omega
    refine (getS hx (by omega)).post ?_
    rintro r o ⟨t, rfl, h⟩
    exact ⟨t, rfl, pb, Rr, rem, h, hT, hRl, hp', e2⟩
  | nil =>
    cases hT with
    | nil => cases e
    | cons a b =>
      obtain ⟨e1, e2⟩ := List.cons.inj e
      subst e1
      have := tok_len a
      refine (getR hx (by omega) a).post ?_
      rintro r o ⟨t, rfl, h⟩
      exact ⟨t, rfl, [], _, _, h, b, by omega, by decide, e2⟩
theorem lawT14 (G : Gd (KH w.params) g) (hdp : dp + 40 < recursionLimit) (hun : un + 900 < cLine)
    {L fa a hp wl hd ma ra x c2 ta : Addr} {ts ws : List Str} {wv tv : List Value} {kw kt : Nat} {tz : Str} {tt : Tok} {o1 r2 : Cells} {s : Shared} {h : Heap} {tk : Nat} {oH oB oTb oTx oO oL oc2 : Obj} {vw vp vf vr : Option Value} {ps : Array Value} {R : List Nat} (hL : @LT.lt Nat _ 243 L)
    (hx : LexS prog w x c2 oc2 (1 + nl tz.cps.toList) o1 (ts ++ [Str.ofString ""]) R) (hT : Toks R [[122], []] []) (hRl : R.length ≤ 300) (hz : tz.cps.size ≤ 300) (hws : StrsAre wv ws) (hwl : ws.length = 9) (ht : StrsAre tv ts) (htl : ts.length = 9) (hts : ∀ y ∈ ts, PyData.strOk y = true)
    (dL : oL.data = .cell (some (.ref x))) (dT : oTx.data = .cell (some (.ref ta))) (m1 : (wl, W.listOf wv.toArray kw) ∈ r2) (m2 : (ta, W.listOf tv.toArray kt) ∈ r2) (o6 : OffO L o1 r2) (r6 : ∀ p ∈ r2, N6 L p.1)
    (F : Fr g L h (mLf vw vp vf vr hd ma ra tz tt wl hp a)) (N : News g L h (six L oH oB oTb oTx oO oL ps (o1 ++ r2))) {Q' : Flow → Shared → Prop}
    (hQ : ∀ (o1' : Cells) (h' : Heap) (tk' : Nat),
      Fr g L h' (mLf vw vp vf vr hd ma ra tz tt wl hp a) → News g L h' (six L oH oB oTb oTx oO oL ps (o1' ++ r2)) →
      Q' (.ret (.bool true)) { s with heap := h', toks := tk' }) :
    wpAny (model prog w) (arT dp un gd fr) (execs (lawB.drop 14) (envLw L fa (.ref 245))) Q' (fun _ _ => False) { s with heap := h, toks := tk } := by
  obtain ⟨X, ⟨p', loose, mean, mg, mb, T⟩, codeHd, codeHd2⟩ := id G
  have hV : VMark := trivial
  conv => arg 3; arg 1; whnf
  unfold envLw
  conv in (occs := *) lawSc => all_goals whnf
  iterate 4 (walk1; (try dsimp only))
  refine compV hV F (by with_unfolding_all rfl) (by decide) (by rfl) (by decide) (by rfl) ?_
  have mW : (wl, W.listOf wv.toArray kw) ∈ six L oH oB oTb oTx oO oL ps (o1 ++ r2) := by lcg_src
  have hwv : wv.length = 9 := by rw [hws.length]; exact hwl
  iterate 11 (walk1; (try dsimp only))
  rename_i l1 h1 F1 N1 b1
  have hzz : ts ++ [Str.ofString "", Str.ofString "z", Str.ofString ""] = (ts ++ [Str.ofString ""]) ++ [[122], []].map mkS := by
    rw [List.append_assoc]
    congr 1
  generalize hTT : ts ++ [Str.ofString "", Str.ofString "z", Str.ofString ""] = TT at hzz
  have hTl : TT.length = 12 := by rw [← hTT, List.length_append, htl]; rfl
  refine add_lists F1 N1 (N1.isList (List.Mem.tail _ mW)) (N1.isList (.head _)) (fun h2 F2 N2 => ?_) (by rw [sizeLine_eq, hwv]; show 9 + 3 ≤ _; decide)
  dsimp only at N2 ⊢
  have bD : ∀ q ∈ six L oH oB oTb oTx oO oL ps (o1 ++ r2), q.1 ≠ h1.objs.size := fun q hq => Nat.ne_of_lt (Heap.lt_size (N1 q (.tail _ hq)).1)
  generalize h1.objs.size = D1 at N2 bD ⊢
  generalize hits : wv ++ _ = its at N2
  have hil : its.length = 12 := by rw [← hits, List.length_append, hwv]; rfl
  have N3 := cb_drop (news := (D1, W.listOf its.toArray 0) :: six L oH oB oTb oTx oO oL ps (o1 ++ r2)) N2 (by lcg_sub)
  clear N2 N1 F1 hits b1
  refine LCg.CompSrc.ledger rfl F2 N3 (.head _) (by rw [sizeLine_eq, List.size_toArray, hil]; decide) ?_
  intro g'
  rw [List.size_toArray, hil]
  refine compInv (fun i ys news => ∃ (o1' : Cells) (pb : List Str) (Rr : List Nat) (rem : List (List Nat)), news = (D1, W.listOf its.toArray 0) :: six L oH oB oTb oTx oO oL ps (o1' ++ r2) ∧ LexS prog w x c2 oc2 (1 + nl tz.cps.toList) o1' pb Rr ∧ Toks Rr rem [] ∧ Rr.length ≤ 300 ∧ pb.length < 900 ∧ pb ++ rem.map mkS = TT.drop i ∧ StrsAre ys (TT.take i) ∧ OffO L o1' r2 ∧ (∀ q ∈ o1', q.1 ≠ D1)) ?_ ?_ 12 0 [] _ rfl ⟨o1, _, R, _, rfl, hx, hT, hRl, by rw [List.length_append, htl]; decide, hzz.symm, .nil, o6, fun q hq => bD q (by lcg_src)⟩
  · rintro i ys news hi ⟨o1', pb, Rr, rem, rfl, hx', hT', hR', hp', he, hys, H1', oD⟩ v I oI C oC D m₂ h3 tk3 E' hP hC hxm F3 N3 off ⟨n1, n2, n3⟩
    obtain ⟨u, hu⟩ : ∃ u, TT[i]? = some u := ⟨_, List.getElem?_eq_getElem (by omega)⟩
    have hud : TT.drop i = u :: TT.drop (i + 1) := by
      rw [List.drop_eq_getElem_cons (by omega)]
      congr 1
      rw [List.getElem?_eq_getElem (by omega)] at hu
      exact Option.some.inj hu
    have hut : TT.take (i + 1) = TT.take i ++ [u] := by rw [List.take_add_one, hu]; rfl
    rw [hud] at he
    have offm := off.mem
    iterate 3 (walk1; (try dsimp only))
    refine methGet hx' F3 X N3 (by lcg_sub) ?_
    iterate 1 (walk1; (try dsimp only))
    refine use (own := o1') (rest := (I, oI) :: (C, oC) :: (D, LCg.lst ys) :: (D1, W.listOf its.toArray 0) :: six L oH oB oTb oTx oO oL ps r2) (getAny hx' hT' hR' hp' he) F3 N3 G (by lcg_sub) (by lcg_sub) (fun p hp => ?_) (by omega) (by omega) ?_
    · obtain ⟨q1, q2, q3⟩ := offm p (by lcg_src)
      exact allC q1 (allC q2 (allC q3 (allC (oD p hp) (H1'.out p hp))))
    rintro v h4 tk4 o2 ⟨t', rfl, pb2, R2, rem2, hx3, hT3, hR3, hp3, he3⟩ F4 N4 H3
    have N5 := cb_drop (news := (I, oI) :: (C, oC) :: (D, LCg.lst ys) :: (D1, W.listOf its.toArray 0) :: six L oH oB oTb oTx oO oL ps (o2 ++ r2)) N4 (by lcg_sub)
    have o62 : OffO L o2 r2 := OffO.of fun p hp q hq => H3 p hp q (.tail _ (.tail _ (.tail _ (.tail _ hq))))
    have oD2 : ∀ q ∈ o2, q.1 ≠ D1 := fun p hp => H3 p hp _ (.tail _ (.tail _ (.tail _ (.head _))))
    refine LCg.CompEnd.intro F4 N5 ((D1, W.listOf its.toArray 0) :: six L oH oB oTb oTx oO oL ps (o2 ++ r2)) (fun p hp => hp) (LCg.Off3.of fun p hp => ?_) (.inr ⟨W.listOf its.toArray 0, .head _, rfl, 0, rfl⟩) ⟨o2, pb2, R2, rem2, rfl, hx3, hT3, hR3, hp3, he3, ?_, o62, oD2⟩
    · by_cases hp2 : p ∈ o2
      · exact ⟨H3 p hp2 _ (.head _), H3 p hp2 _ (.tail _ (.head _)), H3 p hp2 _ (.tail _ (.tail _ (.head _)))⟩
      · refine offm p ?_
        simp only [six, List.mem_cons, List.mem_append] at hp ⊢
        simp only [hp2, false_or] at hp
        rcases hp with hp | hp | hp | hp | hp | hp | hp | hp | hp <;> simp [hp]
    · rw [hut]
      exact hys.append' (.cons u t' .nil)
  · rintro ys news ⟨o2, pb2, R2, rem2, rfl, hx2, hT2, hR2, hp2, he2, hys, o62, oD2⟩ D h3 tk3 F3 N3 off
    dsimp only
    rw [List.take_of_length_le (by omega)] at hys
    rw [List.drop_of_length_le (by omega)] at he2
    obtain ⟨rfl, he3⟩ := List.append_eq_nil_iff.mp he2
    rw [List.map_eq_nil_iff] at he3
    subst he3
    obtain rfl : R2 = [] := by cases hT2; rfl
    have mT : (ta, W.listOf tv.toArray kt) ∈ (D, LCg.lst ys) :: (D1, W.listOf its.toArray 0) :: six L oH oB oTb oTx oO oL ps (o2 ++ r2) := by lcg_src
    have htv : tv.length = 9 := by rw [ht.length]; exact htl
    iterate 11 (walk1; (try dsimp only))
    rename_i l5 h5 F5 N5 b5
    refine add_lists F5 N5 (N5.isList (List.Mem.tail _ mT)) (N5.isList (.head _)) (fun h6 F6 N6 => ?_) (by rw [sizeLine_eq, htv]; show 9 + 3 ≤ _; decide)
    dsimp only at N6 ⊢
    have hsx : StrsAre (tv ++ [Value.str (Str.ofString "") tk3, Value.str (Str.ofString "z") (tk3 + 1), Value.str (Str.ofString "") (tk3 + 1 + 1)]) TT := by
      rw [← hTT]
      exact ht.append' (.cons _ _ (.cons _ _ (.cons _ _ .nil)))
    have hsok : PySem.SeqAt.shaped (.list (TT.map .str)) = true := shaped_strs (by
      rw [← hTT]
      exact allA hts (allC (by decide +kernel) (allC (by decide +kernel) (allC (by decide +kernel) allN))))
    refine eq_dataH (readsStrs (f := D) (k := ys.length) N6 (by lcg_src) hys) (readsStrs N6 (.head _) hsx) hsok hsok (by show un + 64 < cLine; omega) ?_
    rw [PySem.SeqAt.eqv_refl _ (PySem.SeqAt.canLay_of_shaped hsok)]
    have N7 := cb_drop (news := six L oH oB oTb oTx oO oL ps (o2 ++ r2)) N6 (by lcg_sub)
    clear N6 N5 F5 hsx
    iterate 4 (walk1; (try dsimp only))
    iterate 2 (walk1; (try dsimp only))
    refine attrLine hx2 F6 X N7 (by lcg_sub) ?_
    intro tl
    have hzl : tz.length ≤ 300 := hz
    iterate 9 (walk1; (try dsimp only))
    iterate 3 (walk1; (try dsimp only))
    rw [count_nl, show nl [] = 0 from rfl, Int.sub_zero, beq_self_eq_true]
    exact hQ o2 h6 _ F6 N7
end
end Mine

-- AY16
namespace Mine
theorem lawW {prog : Program} {w : World} {g : Heap} {dp un : Nat} {gd : Option (List Code)} {fr : List Env} (hpf : ((prog.main.file : Str) == ("/claim/cut.py" : Str)) = true) (hps : (prog.main.scope.names.lookup ("super" : Str)).isSome = false) (G : Gd (KH w.params) g) (hdp : dp + 40 < recursionLimit) (hun : un + 900 < cLine)
    {L fa a : Addr} {items : List Value} {is : List Int} {s : Shared} {h : Heap} {tk : Nat} {oH oB oTb oTx oO oL : Obj} (HL : g.IsList a items.toArray) (hI : IntsAre items is) (hn : is.length ≤ 63) (hL : @LT.lt Nat _ 243 L)
    (dH : oH.data = .cell none) (dB : oB.data = .cell none) (dTb : oTb.data = .cell none) (dT : oTx.data = .cell none) (dO : oO.data = .cell none) (dL : oL.data = .cell none)
    (F : Fr g L h (fun y => if y = "script" then some (.ref a) else none)) (N : News g L h (six L oH oB oTb oTx oO oL #[] [(210, tabObj #[])])) {Q' : Flow → Shared → Prop}
    (hQ : ∀ (h' : Heap) (tk' : Nat) (m' : Str → Option Value) (news : Cells), Fr g L h' m' → News g L h' news → (∃ ps, ((243 : Addr), tabObj ps) ∈ news) → (∃ qs, ((210 : Addr), tabObj qs) ∈ news) → Q' (.ret (.bool true)) { s with heap := h', toks := tk' }) :
    wpAny (model prog w) (arT dp un gd fr) (execs lawB (envLw L fa (.ref 245))) Q' (fun _ _ => False) { s with heap := h, toks := tk } := by
  refine lawA (s := s) G hdp hun HL hI hn hL dL F N ?_
  intro hp wl x c2 oc2 oL1 hpv wv hk kw is' ar ws tz tt o1 r2 h1 tk1 hpI hil hws hok hal hac hT hz hx dL1 mP mW m210 o6 r6 F1 N1
  have hwl : ws.length = 9 := by rw [hok.length]; exact hal
  refine lawT4 (s := s) G hdp hun hws hok hal hT hz hx dL1 mW o6 F1 N1 ?_
  intro o2 R h2 tk2 hx2 hT2 hR2 o62 F2 N2
  refine lawT5 (s := s) G hdp hun hL hws hok hal dO mW o62 r6 F2 N2 ?_
  intro oa ko oO' r3 h3 tk3 dO' hr3 o63 r63 F3 N3
  have mO : (oa, W.listOf (ar.map Value.bool).toArray ko) ∈ r3 := by rw [hr3]; exact .head _
  have up3 : ∀ q ∈ r2, q ∈ r3 := fun q hq => by rw [hr3]; exact .tail _ hq
  refine lawT6 (s := s) G hdp hun hL hal dH dO' mO o63 r63 F3 N3 ?_
  intro ha hv kh oH' r4 h4 tk4 dH' hvI hr4 o64 r64 F4 N4
  have mH : (ha, W.listOf hv.toArray kh) ∈ r4 := by rw [hr4]; exact .head _
  have up4 : ∀ q ∈ r3, q ∈ r4 := fun q hq => by rw [hr4]; exact .tail _ hq
  refine lawT7 (s := s) G hdp hun hL hal hac hvI dH' dO' (up4 _ mO) mH o64 r64 F4 N4 ?_
  intro ra rv kr ps r5 h5 tk5 hrI hr5 o65 r65 F5 N5
  have mR : (ra, W.listOf rv.toArray kr) ∈ r5 := by rw [hr5]; exact .head _
  have up5 : ∀ q ∈ r4, q ∈ r5 := fun q hq => by rw [hr5]; exact .tail _ hq
  refine lawT8 (s := s) G hdp hun hL hal hvI dH' dO' (up5 _ (up4 _ mO)) (up5 _ mH) o65 r65 F5 N5 ?_
  intro ma mv km r6' h6 tk6 hmI hr6 o66 r66 F6 N6'
  have mM : (ma, W.listOf mv.toArray km) ∈ r6' := by rw [hr6]; exact .head _
  have up6 : ∀ q ∈ r5, q ∈ r6' := fun q hq => by rw [hr6]; exact .tail _ hq
  have mW6 := up6 _ (up5 _ (up4 _ (up3 _ mW)))
  refine lawT9 (s := s) G hdp hun hL dT mW6 o66 r66 F6 N6' ?_
  intro hd hdv od r7 oTx' h7 tk7 hH dT' hr7 o67 r67 F7 N7
  have up7 : ∀ q ∈ r6', q ∈ r7 := fun q hq => by rw [hr7]; exact List.mem_append_right _ hq
  have mD : (hd, W.listOf hdv.toArray 0) ∈ r7 := by rw [hr7]; exact .head _
  have hH7 : HandsIn prog w r7 hdv := hH.mono fun q hq => by rw [hr7]; exact List.mem_append_left _ (.tail _ hq)
  have up57 : ∀ q ∈ r5, q ∈ r7 := fun q hq => up7 _ (up6 _ hq)
  have up47 : ∀ q ∈ r4, q ∈ r7 := fun q hq => up57 _ (up5 _ hq)
  have up37 : ∀ q ∈ r3, q ∈ r7 := fun q hq => up47 _ (up4 _ hq)
  have up27 : ∀ q ∈ r2, q ∈ r7 := fun q hq => up37 _ (up3 _ hq)
  refine lawT11 (s := s) G hdp hun hL hws hwl (up27 _ mW) hx2 dL1 o67 r67 F7 N7 ?_
  intro vw o8 h8 tk8 hx8 o68 F8 N8
  refine lawT12 (s := s) hpf hps G hdp hun hL hal hac hok hx8 hpI hil hH7 hvI hmI hrI hws dH' dO' dL1 dT' dB dTb (up27 _ mW) (up37 _ mO) (up47 _ mH) (up7 _ mM) (up57 _ mR) (up27 _ mP) mD o68 r67 F8 N8 ?_
  intro vp vf vr vB vTb ta tv kt ts oB' oTb' oTx2 o9 h9 tk9 hRn ht dT2 dB2 dTb2 hx9 o69 n6t F9 N9
  refine lawT13 (s := s) G hdp hun hL hx9 (by rw [hRn.len]; decide) dL1 o69 F9 N9 ?_
  intro o10 h10 tk10 hx10 o610 F10 N10
  refine lawT14 (s := s) G hdp hun hL hx10 hT2 hR2 hz hws hwl ht hRn.len (fun y hy => ?_) dL1 dT2 (.tail _ (up27 _ mW)) (.head _) o610 (allC n6t r67) F10 N10 ?_
  · obtain ⟨i, hi, rfl⟩ := List.getElem_of_mem hy
    have := hRn.strOk i
    unfold tsA at this
    rw [List.getD_eq_getElem?_getD, List.getElem?_eq_getElem hi] at this
    exact this
  intro o11 h11 tk11 F11 N11
  obtain ⟨qs, m210⟩ := m210
  exact hQ h11 tk11 _ _ F11 N11 ⟨ps, by lcg_src⟩ ⟨qs, List.Mem.tail _ (List.Mem.tail _ (List.Mem.tail _ (List.Mem.tail _ (List.Mem.tail _ (List.Mem.tail _ (List.Mem.tail _ (List.mem_append_right _ (List.Mem.tail _ (up27 _ m210)))))))))⟩
end Mine

-- AMEnd

open Mine
theorem PySem.Challenge.cw_xj0021_01_holds : PySem.Challenge.rw_xj0021_01.Holds := by
  w_on
  refine holds_law said fun said' => ?_
  refine holds_open (q := view) (loose := ["_Accumulator"]) (Xt := fun s => xlAt view [] s && recOk (RowW.records rwW) s) (XP := XL view []) (Yf := Hook.obs (kmHook KH KAs (fun _ => by kernel_rfl) [210, 243])) (Ya := Hook.val (kmHook KH KAs (fun _ => by kernel_rfl) [210, 243])) (YP := Hook.says (kmHook KH KAs (fun _ => by kernel_rfl) [210, 243])) (N := 2828) left (Hook.of (kmHook KH KAs (fun _ => by kernel_rfl) [210, 243])) (Hook.keeps (kmHook KH KAs (fun _ => by kernel_rfl) [210, 243])) (fun s e => xl_of s (Bool.and_eq_true_iff.mp e).1) XL.keeps (by rfl) (by rfl) (by rfl) (fun s e => recFacts_of (Bool.and_eq_true_iff.mp e).2) (by rfl) said' (by kernel_rfl) ⟨rfl, rfl, rfl, rfl, rfl, by kernel_rfl⟩ ?hw ?hc
  case hw => w_witness2
  case hc =>
    k_go0
    rename_i ns hs hlay0 hL1 hr1 hl2 q10 q9 a items q6 hL2 ra w1 r0 hI hr hc1 hc2 hD h1 tk1 oH oB oTb oTx oO oL e1 e2 e3 e4 e5 e6 X0 X' T' K' F' cd1 N' l0
    have hn : ns.length ≤ 63 := by omega
    have N2 := cb_drop (news := six _ oH oB oTb oTx oO oL #[] [(210, tabObj #[])]) N' (by lcg_sub)
    refine wpAny_mono (lawW (a := a) (items := items) (is := ns) (h := h1) (tk := tk1) (by kernel_rfl) (by kernel_rfl) ⟨X', ⟨_, _, _, _, _, T'⟩, cd1, codeHd⟩ (by show 2 + claimMargin + 40 < recursionLimit; decide) (by show 7 + 900 < cLine; decide) lifted hI hn l0.2 (e1.trans (congrArg Data.cell (by kernel_rfl))) (e2.trans (congrArg Data.cell (by kernel_rfl))) (e3.trans (congrArg Data.cell (by kernel_rfl))) (e4.trans (congrArg Data.cell (by kernel_rfl))) (e5.trans (congrArg Data.cell (by kernel_rfl))) (e6.trans (congrArg Data.cell (by kernel_rfl))) (frOf F' fun y => ?_) N2 (fun h' tk' m' news F3 N3 ht1 ht2 => ?_)) (fun fl s' q => q) (fun _ _ q => q.elim)
    · kernel_rfl
    · obtain ⟨p1, ht1⟩ := ht1
      obtain ⟨p2, ht2⟩ := ht2
      refine ⟨?_, ⟨GrownAt.of N3 ht2, GrownAt.of N3 ht1, trivial⟩⟩
      dsimp only
      k_steps
