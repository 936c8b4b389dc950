import PyProof.Rows.All
import Wide.All
import OpenK.AllK
import Wide.FinOn
import PySem.Challenge.RW_fb0004_02
open PySem PySem.W PySem.Calls PyProof.Rows
set_option Elab.async false
set_option linter.unusedVariables false
set_option linter.deprecated false
namespace Mine
end Mine
open Mine
local macro_rules | `(tactic| walk_at "in_l") => `(tactic| first | exact .head _ | exact .tail _ (.head _) | exact .tail _ (.tail _ (.head _)) | exact .tail _ (.tail _ (.tail _ (.head _))))
local macro_rules | `(tactic| walk_at "in_l6") => `(tactic| first | walk_at "in_l" | exact .tail _ (.tail _ (.tail _ (.tail _ (.head _)))) | exact .tail _ (.tail _ (.tail _ (.tail _ (.tail _ (.head _))))))
-- H0
section
open PySem PySem.W PySem.Calls PyProof.Rows
set_option maxRecDepth 100000
namespace Mine
open PySem.Sem (wp)

/-- a builtin that holds a buffer while it decodes: what `bytearray` looks for on the stack -/
def dec (c : Code) : Bool := match c with
  | .builtin id _ => Builtin.Bytes.decodersThatHold.contains id
  | _ => false
/-- no such builtin runs here or below -/
def Cl (Γ : Ctx) : Prop := dec Γ.code = false ∧ ∀ x ∈ Γ.below, dec x.1 = false

def wpC {α : Type} (M : Model) (A : Around) (t : Sem α) (Q : α → Shared → Prop) (E : Value → Shared → Prop) (s : Shared) : Prop :=
  ∀ Γ p, Γ.In A → Cl Γ → wp M Γ t (fun a _ s' => Q a s') (fun e _ s' => E e s') p s

def cc : Code := .builtin "claim.caller" {}
theorem cl_caller : Cl ⟨cc, none, none, [], none⟩ := ⟨by decide +kernel, fun _ h => nomatch h⟩

/-- run t where the caller alone is on the stack, else hand back r -/
def loneIs (st : List (Code × Pos)) : Bool := match st with
  | [(.builtin id _, _)] => id == "claim.caller"
  | _ => false
def lone {α : Type} (t r : Sem α) : Sem α := .stack fun st => if loneIs st then t else r

theorem lone_wp {α : Type} {M : Model} {A : Around} {t r : Sem α} {Q : α → Shared → Prop} {E : Value → Shared → Prop} {s : Shared} (h : wpC M A t Q E s) (hr : wpAny M A r Q E s) : wpAny M A (lone t r) Q E s := by
  intro Γ p hΓ
  show wp M Γ (if loneIs ((Γ.code, p) :: Γ.below) then t else r) _ _ p s
  split
  · rename_i e
    refine h Γ p hΓ ?_
    unfold loneIs at e
    split at e
    · rename_i id a q e2
      obtain ⟨e3, e4⟩ := List.cons.inj e2
      have e5 : Γ.code = .builtin id a := (Prod.mk.inj e3).1
      refine ⟨?_, fun x hx => by rw [e4] at hx; exact nomatch hx⟩
      rw [e5, beq_iff_eq.mp e]
      show Builtin.Bytes.decodersThatHold.contains "claim.caller" = false
      decide +kernel
    · cases e
  · exact hr Γ p hΓ

theorem lone_sched {prog : Program} {w : World} {t r : Sem Fin} {a : Args} {s s' : Shared} {o : Outcome} {n : Nat} (hz : s.asleep)
    (h : schedN (denote table) prog w n (.single s ⟨lone t r, .builtin "claim.caller" a, default, []⟩) = .halted o s') :
    ∃ n, schedN (denote table) prog w n (.single s ⟨t, .builtin "claim.caller" a, default, []⟩) = .halted o s' := by
  cases n with
  | zero => cases h
  | succ n =>
    refine ⟨n, ?_⟩
    have st : step (denote table) prog w s ⟨lone t r, .builtin "claim.caller" a, default, []⟩ = .go s ⟨t, .builtin "claim.caller" a, default, []⟩ := rfl
    unfold schedN at h
    rcases sstep_single (denote table) prog w s ⟨lone t r, .builtin "claim.caller" a, default, []⟩ (by rfl) hz with e | e
    · rw [e, st] at h; exact h
    · rw [st] at e; cases e

theorem lone_open {c : ClaimW} {tree tree' : List Value → Sem Fin} {defs keeps : List Str} {writes : Bool}
    (h : c.HoldsOpenBy (fun vs => ⟨lone (tree vs) (tree' vs), .builtin "claim.caller" {}, default, []⟩) defs keeps writes) :
    c.HoldsOpenBy (fun vs => ⟨tree vs, .builtin "claim.caller" {}, default, []⟩) defs keeps writes := by
  obtain ⟨h1, h2, h3⟩ := h
  refine ⟨h1, h2, fun w => ⟨(h3 w).1, fun s hs => ?_⟩⟩
  obtain ⟨s₀, hf, hg, s₁, hT, hd, hr, ha, hC⟩ := (h3 w).2 s hs
  refine ⟨s₀, hf, hg, s₁, hT, hd, hr, ha, fun args hp hl ord ho => ?_⟩
  obtain ⟨vs, s₂, hlaid, n, o, s', hn, rest⟩ := hC args hp hl ord ho
  have hs' : AfterImport (opening c.prog) w s := hs
  have hz : s₂.asleep := Shared.asleep_of_life ((layAllW_rest _ _ _ hlaid).2.2.2.trans (hT.2.1.trans (fence_lifeW hf))) hs'.life
  obtain ⟨n', hn'⟩ := lone_sched hz hn
  exact ⟨vs, s₂, hlaid, n', o, s', hn', rest⟩

abbrev WalkC (q : Program) (loose : List Str) (XP : (Str → Option Value) → Heap → Prop) (YP : World → Heap → Prop) (r : RowW) (d : DefRec) (kwd : List (Str × Expr)) (run : Value → List Value → Sem Value) : Prop :=
  ∀ (w : World) (s₀ s₁ : Shared) (mg mb : Str → Option Value), Ground q loose r.records XP w s₀ mg mb s₁.heap → YP w s₁.heap → ∀ (a : Addr) (o : Obj) (pm cd doc dV kV : Value), s₁.heap.get? a = some o →
    o.data = .func { docDef d.name d.params d.body d.scope pm cd doc with defaults := dV, kwdefaults := kV } → s₁.heap.CodeRec cd d.name → Dflts mg s₁.heap d.params kwd dV kV → mg d.name = some (.ref a) → s₁.gens = #[] →
    ∀ (args : List WData) (vals : List Value) (as : List Addr), r.claim.pre args = true → WData.layableAll args = true → ReadsAllW r.records (classAt s₀.heap) s₁.heap vals args as → WellAll w.params s₁.heap vals args → (∀ a ∈ as, (a == sysModules) = false) →
      GoodWG r.claim (classAt s₀.heap) (ExcName.means s₀.heap) args s₁ (.ok (.ret (.bool true))) s₁ ∧
      wpC (model r.prog w) callerA (run (.ref a) vals) (fun v s' => GoodWG r.claim (classAt s₀.heap) (ExcName.means s₀.heap) args s₁ (.ok (.ret v)) s')
        (fun e s' => GoodWG r.claim (classAt s₀.heap) (ExcName.means s₀.heap) args s₁ (.error e) s') s₁

theorem lone_tree {prog : Program} {w : World} {A : Around} {name : Str} {f : Value} {vs : List Value} {s : Shared} {mg : Str → Option Value} {Q : Fin → Shared → Prop} {E : Value → Shared → Prop} (hg : s.heap.Ns mainGlobals mg) (hf : mg name = some f)
    (h : wpAny (model prog w) A (lone (PySem.call f vs) (pure (.bool true))) (fun v s' => Q (.done (.ret v)) s') E s) :
    wpAny (model prog w) A (lone (do match ← nsGet mainNs name with
      | some f => do ret (← PySem.call f vs)
      | none => unsupported "claim.caller:no-such-global") (ret (.bool true))) Q E s := by
  intro Γ p hΓ
  have h' : wp (model prog w) Γ (if loneIs ((Γ.code, p) :: Γ.below) then PySem.call f vs else pure (.bool true)) _ _ p s := h Γ p hΓ
  show wp (model prog w) Γ (if loneIs ((Γ.code, p) :: Γ.below) then _ else _) _ _ p s
  split
  · rename_i e
    rw [if_pos e] at h'
    rw [Sem.wp_bind', show (mainNs : Addr) = mainGlobals from rfl, Sem.wp_nsGet _ _ _ _ _ hg, hf]
    show wp (model prog w) Γ (PySem.call f vs >>= fun v => ret v) _ _ p s
    rw [Sem.wp_bind']
    exact h'
  · rename_i e
    rw [if_neg e] at h'
    exact h'

/-- the head for a walk on clean stacks (the name stands in our namespace: the head's tactic finds it there) -/
theorem PySem.W.holds_open {r : OpenRow} {q : Program} {loose : List Str} {Xt : Shared → Bool} {XP : (Str → Option Value) → Heap → Prop} {α : Type} {Yf : Shared → α} {Ya : World → α} {YP : World → Heap → Prop} {d : DefRec} {kwd : List (Str × Expr)} {N : Nat}
    (left : LeftO r.prog q loose Xt Yf Ya N) (hY : ∀ w s, Yf s = Ya w → YP w s.heap) (hYk : ∀ w h h', YP w h → (∀ b o, h.get? b = some o → h'.get? b = some o) → YP w h')
    (hX : ∀ s, Xt s = true → XP (s.heap.nsMap mainGlobals) s.heap) (hXk : ∀ mg h h', XP mg h → (∀ b o, h.get? b = some o → h'.get? b = some o) → XP mg h')
    (hdef : defOf q r.name = some (d, kwd)) (hp : r.prog.theDef r.name = some (d.params, d.body, d.scope)) (hk : kwWritten? d.params.kwonlyargs d.params.kw_defaults = some kwd) (hRf : ∀ s, Xt s = true → RecFacts r.records s.heap) (hwr : (!r.writes || r.records.isEmpty) = true)
    (k1 : r.wellSaid = true) (ok : (chainsOk q && opensWell r.prog && (frees r.toRowW && r.within.isEmpty)) = true) (hb : r.prog.bare) (hw : r.toRowW.promised)
    (call : WalkC q loose XP YP r.toRowW d kwd fun f vs => PySem.call f vs) : r.Holds := by
  refine ⟨k1, hw, lone_open (tree' := fun _ => ret (.bool true)) (open_anyG (r := r.toRowW) (run := fun f vs => lone (PySem.call f vs) (pure (.bool true)))
    left hY hYk hX hXk hRf hwr ok hb hw (fun vs w s mg f Q E hg hf h => lone_tree hg hf h) (fun w s hg G n hn => ?_) fun w s₀ s₁ mg mb G Y args vs as hpre hlay L low => ?_)⟩
  · obtain rfl : n = r.name := by split at hn <;> simp_all
    exact pinned_of_view hg G hdef hp hk
  · obtain ⟨a, o, pm, cd, doc, dV, kV, h1, h2, h3, h4, h5⟩ := G.fn hdef
    obtain ⟨c1, c2⟩ := call w s₀ s₁ mg mb G Y a o pm cd doc dV kV h2 h3 h4 h5 (defOf_name hdef ▸ h1) L.gens args vs as hpre hlay L.reads L.well (L.low low)
    exact ⟨.ref a, h1, lone_wp c2 (wpAny_pure c1)⟩
end Mine

end
section
namespace Mine
set_option maxRecDepth 100000 in
set_option maxHeartbeats 8000000 in
open_top hd for PySem.Challenge.rw_fb0004_02
end Mine
end
-- M1
section
open PySem PySem.W PySem.Calls PyProof.Rows
set_option maxRecDepth 100000
namespace Mine
open PySem.Sem (wp)

/-- what stands through the whole call -/
structure Cx where
  prog : Program
  w : World
  K : Frag
  p : Program
  loose : List Str
  mg : Str → Option Value
  mb : Str → Option Value
  h₀ : Heap
  os : OsState
abbrev Cx.M (c : Cx) : Model := model c.prog c.w

/-- on clean stacks t ends in Q, without an exception -/
def N (c : Cx) (A : Around) {α : Type} (t : Sem α) (Q : α → Shared → Prop) (s : Shared) : Prop := wpC c.M A t Q (fun _ _ => False) s
def NC (c : Cx) (A : Around) (code : Code) (R : Flow → Shared → Prop) (s : Shared) : Prop :=
  ∀ Γ p, Γ.code = code → Γ.Below A → (∀ x ∈ Γ.below, dec x.1 = false) → wpCode c.M Γ (fun r s' => match r with | .ok f => R f s' | .error _ => False) p s

section
variable {α β : Type} {c : Cx} {A : Around} {s : Shared}
theorem N.of {t : Sem α} {Q : α → Shared → Prop} (h : wpAny c.M A t Q (fun _ _ => False) s) : N c A t Q s := fun Γ p hΓ _ => h Γ p hΓ
theorem N.pure {a : α} {Q : α → Shared → Prop} (h : Q a s) : N c A (Pure.pure a) Q s := fun _ _ _ _ => h
theorem N.mono {t : Sem α} {Q Q' : α → Shared → Prop} (h : N c A t Q s) (hQ : ∀ a s, Q a s → Q' a s) : N c A t Q' s :=
  fun Γ p hΓ hc => Sem.wp_mono c.M Γ t (fun a _ s => hQ a s) (fun _ _ _ h => h) p s (h Γ p hΓ hc)
theorem N.bind {t : Sem α} {f : α → Sem β} {Q : β → Shared → Prop} (h : N c A t (fun a s' => N c A (f a) Q s') s) : N c A (t >>= f) Q s := fun Γ p hΓ hc => by
  rw [Sem.wp_bind']
  exact Sem.wp_mono c.M Γ t (fun a p' s' h' => h' Γ p' hΓ hc) (fun _ _ _ h' => h') p s (h Γ p hΓ hc)
theorem N.andThen {t : Sem α} {f : α → Sem β} {R : α → Shared → Prop} {Q : β → Shared → Prop} (h : wpAny c.M A t R (fun _ _ => False) s) (h' : ∀ a s', R a s' → N c A (f a) Q s') : N c A (t >>= f) Q s :=
  N.bind ((N.of h).mono h')
theorem N.holding {vs : List Value} {t : Sem α} {Q : α → Shared → Prop} (h : N c A t Q s) : N c A (holding vs t) Q s := fun Γ p hΓ hc => by rw [Sem.wp_holding]; exact h Γ p hΓ hc
theorem N.onRaise {t : Sem α} {k : Value → Sem Unit} {Q : α → Shared → Prop} (h : N c A t Q s) : N c A (t.onRaise k) Q s := fun Γ p hΓ hc => by
  rw [Sem.wp_onRaise]
  exact Sem.wp_mono c.M Γ t (fun _ _ _ h' => h') (fun _ _ _ h' => h'.elim) p s (h Γ p hΓ hc)
theorem N.standAt {pos : Pos} {f : Unit → Sem β} {Q : β → Shared → Prop} (h : N c A (f ()) Q s) : N c A (PySem.standAt pos >>= f) Q s := N.bind (N.of (wpAny_standAt h))
theorem N.rule {tag : String} {f : Unit → Sem β} {Q : β → Shared → Prop} (h : N c A (f ()) Q s) : N c A (PySem.rule tag >>= f) Q s := N.bind (N.of (wpAny_rule h))
theorem N.point {f : Unit → Sem β} {Q : β → Shared → Prop} (h : N c A (f ()) Q s) : N c A (PySem.point >>= f) Q s := N.bind (N.of (wpAny_point h))
theorem N.looks {t : Sem α} {f : α → Sem β} {a : α} {Q : β → Shared → Prop} (L : Looks c.M s.heap t a) (h : N c A (f a) Q s) : N c A (t >>= f) Q s := N.bind (N.of (L.here h))

theorem N.run {code : Code} {Q : Flow → Shared → Prop} (h : NC c A code Q s) : N c A (run code) Q s := fun Γ p hΓ hc => by
  rw [Sem.wp_run]
  refine wpCode_mono (fun r s' hr => ?_) (h _ p rfl (hΓ.enter code none p (by intro x; cases x)) (fun x hx => ?_))
  · cases r with
    | ok f => exact hr
    | error e => exact hr
  · rcases List.mem_cons.mp hx with rfl | hx
    · exact hc.1
    · exact hc.2 x hx
theorem N.runValue {code : Code} {Q : Value → Shared → Prop} (h : NC c A code (fun f s' => match f with | .ret v => Q v s' | _ => False) s) : N c A (runValue code) Q s := by
  refine N.bind ((N.run h).mono fun f s' hf => ?_)
  cases f with
  | ret v => exact N.pure hf
  | _ => exact hf.elim
theorem N.call {f : Value} {pos : List Value} {kw : List (Str × Value)} {Q : Value → Shared → Prop} (h : NC c A (.call f ⟨pos, kw⟩) (fun f s' => match f with | .ret v => Q v s' | _ => False) s) :
    N c A (PySem.call f pos kw) Q s := N.runValue h
theorem N.runOwn {code : Code} {env : Env} {Q : Flow → Shared → Prop} (h : NC c A code Q s) : N c A (runOwn code env) Q s := by
  unfold PySem.runOwn
  exact N.onRaise (N.run h)
theorem NC.tree {code : Code} {R : Flow → Shared → Prop} (hd : dec code = false)
    (h : N c (A.under code) (denote table code) (fun fin s' => match fin with | .done f => R f s' | .again c' => c'.quiet = true ∧ NC c A c' R s') s) : NC c A code R s := fun Γ p hc hΓ hb => by
  rw [wpCode_iff_wp, hc]
  refine Sem.wp_mono c.M Γ _ (fun fin p' s' h' => ?_) (fun _ _ _ h' => h'.elim) p s (h Γ p (hc ▸ hΓ.in) ⟨hc ▸ hd, hb⟩)
  cases fin with
  | done f => exact h'
  | again c' => exact ⟨h'.1, h'.2 (Γ.goto c') p' rfl (hΓ.goto c') hb⟩
theorem NC.mono {code : Code} {R R' : Flow → Shared → Prop} (h : NC c A code R s) (hR : ∀ f s, R f s → R' f s) : NC c A code R' s := fun Γ p hc hΓ hb =>
  wpCode_mono (fun r s' hr => by cases r with
    | ok f => exact hR _ _ hr
    | error e => exact hr) (h Γ p hc hΓ hb)
theorem NC.of {code : Code} {R : Flow → Shared → Prop} (h : codeAny c.M A code (fun r s' => match r with | .ok f => R f s' | .error _ => False) s) : NC c A code R s := fun Γ p hc hΓ _ => h Γ p hc hΓ
end

/-- the frame, the made objects (l: at hand; k: the callers' frames and what they hold), all apart -/
structure St0 (c : Cx) (L : Addr) (m : Str → Option Value) (l k : List (Addr × Obj)) (s : Shared) : Prop where
  fr : Fr c.h₀ L s.heap m
  nw : News c.h₀ L s.heap (l ++ k)
  nd : ((l ++ k).map (·.1)).Nodup
  gens : s.gens = #[]
  os : s.os = c.os
  kin : c.K.In c.h₀
  top : TopRead c.p c.loose c.mg c.mb c.h₀

section
variable {c : Cx} {L a d : Addr} {m m' : Str → Option Value} {l l' k : List (Addr × Obj)} {o o' : Obj} {s : Shared} {h' : Heap} {t : Nat}
theorem St0.get (S : St0 c L m l k s) (hm : (a, o) ∈ l) : s.heap.get? a = some o := S.nw.get (List.mem_append_left _ hm)
theorem St0.X (S : St0 c L m l k s) : c.K.In s.heap := S.kin.keeps S.fr.keep
theorem St0.set (S : St0 c L m l k s) (hn : h'.Ns L m') (hs : Heap.SameBut L s.heap h') : St0 c L m' l k { s with heap := h', toks := t } := ⟨S.fr.set hn hs, S.nw.set hs, S.nd, S.gens, S.os, S.kin, S.top⟩
theorem St0.tok (S : St0 c L m l k s) : St0 c L m l k { s with toks := t } := ⟨S.fr, S.nw, S.nd, S.gens, S.os, S.kin, S.top⟩
theorem St0.sub (S : St0 c L m l k s) (hs : l'.Sublist l) : St0 c L m l' k s :=
  have q : (l' ++ k).Sublist (l ++ k) := hs.append (List.Sublist.refl k)
  ⟨S.fr, fun p hp => S.nw p (q.subset hp), (q.map _).nodup S.nd, S.gens, S.os, S.kin, S.top⟩
theorem St0.perm (S : St0 c L m l k s) (hs : l.Perm l') : St0 c L m l' k s :=
  have q : (l ++ k).Perm (l' ++ k) := hs.append_right k
  ⟨S.fr, fun p hp => S.nw p (q.mem_iff.mpr hp), (q.map _).nodup_iff.mp S.nd, S.gens, S.os, S.kin, S.top⟩
theorem St0.push (S : St0 c L m l k s) (o : Obj) (hf : o.isFreed = false := by rfl) : St0 c L m ((s.heap.objs.size, o) :: l) k { s with heap := s.heap.push o, toks := t } := by
  refine ⟨S.fr.push o, S.nw.push S.fr o hf, ?_, S.gens, S.os, S.kin, S.top⟩
  show (List.map _ ((s.heap.objs.size, o) :: (l ++ k))).Nodup
  rw [List.map_cons, List.nodup_cons]
  refine ⟨fun q => ?_, S.nd⟩
  obtain ⟨p, hp, e⟩ := List.mem_map.mp q
  have := Heap.lt_size (S.nw p hp).1
  exact absurd (e ▸ this) (Nat.lt_irrefl _)
theorem St0.upd {pre post : List (Addr × Obj)} {f : Obj → Obj} (S : St0 c L m (pre ++ (d, o) :: post) k s) (e : f o = o') (hf : o'.isFreed = false) :
    St0 c L m (pre ++ (d, o') :: post) k { s with heap := s.heap.update d f, toks := t } := by
  have N := S.nw
  have D := S.nd
  rw [List.append_assoc, List.cons_append] at N D
  rw [List.map_append, List.map_cons] at D
  have D1 := List.nodup_append.mp D
  have h1 : ∀ p ∈ pre, p.1 ≠ d := fun p hp q => D1.2.2 p.1 (List.mem_map_of_mem hp) d (.head _) q
  have h2 : ∀ p ∈ post ++ k, p.1 ≠ d := fun p hp q => (List.nodup_cons.mp D1.2.1).1 (List.mem_map.mpr ⟨p, hp, q⟩)
  obtain ⟨F', N'⟩ := news_upd (f := f) S.fr N h1 h2 e hf
  refine ⟨F', ?_, ?_, S.gens, S.os, S.kin, S.top⟩
  · rw [List.append_assoc, List.cons_append]; exact N'
  · rw [List.append_assoc, List.cons_append, List.map_append, List.map_cons]; exact D
/-- of Fr and News for the head entry -/
theorem St0.of_head (S : St0 c L m ((d, o) :: l) k s) (F : Fr c.h₀ L h' m) (W : News c.h₀ L h' ((d, o') :: (l ++ k))) : St0 c L m ((d, o') :: l) k { s with heap := h', toks := t } :=
  ⟨F, W, S.nd, S.gens, S.os, S.kin, S.top⟩
theorem St0.head_apart (S : St0 c L m ((d, o) :: l) k s) : ∀ p ∈ l ++ k, p.1 ≠ d := fun p hp q => by
  have D := S.nd
  rw [List.cons_append, List.map_cons] at D
  exact (List.nodup_cons.mp D).1 (List.mem_map.mpr ⟨p, hp, q⟩)
end

/-- an instance of a class of the text -/
def instO (o : Obj) : Bool := match o.cls with
  | .ref _ => true
  | _ => false
/-- the dicts that instances bring and nobody touches -/
def dl (D : List Addr) : List (Addr × Obj) := D.map fun a => (a, emptyDict)
def Dk (l : List (Addr × Obj)) (D : List Addr) : Prop := ∀ p ∈ l, instO p.2 = true → ∀ dx, p.2.dict = some dx → dx ∈ D
/-- the frame, the made objects, all apart; the instances' own dicts stand empty -/
def St (c : Cx) (L : Addr) (m : Str → Option Value) (l k : List (Addr × Obj)) (s : Shared) : Prop := ∃ D, Dk l D ∧ St0 c L m l (k ++ dl D) s
theorem Dk.no {l : List (Addr × Obj)} {D : List Addr} {p : Addr × Obj} (h : Dk l D) (e : instO p.2 = false) : Dk (p :: l) D := by
  intro q hq e'
  rcases List.mem_cons.mp hq with rfl | hq
  · rw [e] at e'; cases e'
  · exact h q hq e'
theorem Dk.same {l : List (Addr × Obj)} {D : List Addr} {d : Addr} {o o' : Obj} (h : Dk ((d, o) :: l) D) (e : instO o' = false ∨ (o'.cls = o.cls ∧ o'.dict = o.dict)) : Dk ((d, o') :: l) D := by
  intro q hq e' dx hd
  rcases List.mem_cons.mp hq with rfl | hq
  · rcases e with e | ⟨e1, e2⟩
    · rw [e] at e'; cases e'
    · exact h (d, o) (.head _) (by unfold instO at e' ⊢; rw [← e1]; exact e') dx (by rw [← e2]; exact hd)
  · exact h q (.tail _ hq) e' dx hd
section
variable {c : Cx} {L a d : Addr} {m m' : Str → Option Value} {l l' k : List (Addr × Obj)} {o o' : Obj} {s : Shared} {h' : Heap} {t : Nat}
theorem St.fr (S : St c L m l k s) : Fr c.h₀ L s.heap m := let ⟨_, _, S⟩ := S; S.fr
theorem St.gens (S : St c L m l k s) : s.gens = #[] := let ⟨_, _, S⟩ := S; S.gens
theorem St.os (S : St c L m l k s) : s.os = c.os := let ⟨_, _, S⟩ := S; S.os
theorem St.kin (S : St c L m l k s) : c.K.In c.h₀ := let ⟨_, _, S⟩ := S; S.kin
theorem St.top (S : St c L m l k s) : TopRead c.p c.loose c.mg c.mb c.h₀ := let ⟨_, _, S⟩ := S; S.top
theorem St.get (S : St c L m l k s) (hm : (a, o) ∈ l) : s.heap.get? a = some o := let ⟨_, _, S⟩ := S; S.get hm
theorem St.X (S : St c L m l k s) : c.K.In s.heap := S.kin.keeps S.fr.keep
theorem St.set (S : St c L m l k s) (hn : h'.Ns L m') (hs : Heap.SameBut L s.heap h') : St c L m' l k { s with heap := h', toks := t } := let ⟨D, hD, S⟩ := S; ⟨D, hD, S.set hn hs⟩
theorem St.tok (S : St c L m l k s) : St c L m l k { s with toks := t } := let ⟨D, hD, S⟩ := S; ⟨D, hD, S.tok⟩
theorem St.sub (S : St c L m l k s) (hs : l'.Sublist l) : St c L m l' k s := let ⟨D, hD, S⟩ := S; ⟨D, fun p hp => hD p (hs.subset hp), S.sub hs⟩
theorem St.perm (S : St c L m l k s) (hs : l.Perm l') : St c L m l' k s := let ⟨D, hD, S⟩ := S; ⟨D, fun p hp => hD p (hs.mem_iff.mpr hp), S.perm hs⟩
theorem St.push (S : St c L m l k s) (o : Obj) (hf : o.isFreed = false := by rfl) (hi : instO o = false := by rfl) : St c L m ((s.heap.objs.size, o) :: l) k { s with heap := s.heap.push o, toks := t } :=
  let ⟨D, hD, S⟩ := S; ⟨D, hD.no hi, S.push o hf⟩
theorem St.upd {f : Obj → Obj} (S : St c L m ((d, o) :: l) k s) (e : f o = o') (hf : o'.isFreed = false) (hi : instO o' = false := by rfl) :
    St c L m ((d, o') :: l) k { s with heap := s.heap.update d f, toks := t } :=
  let ⟨D, hD, S⟩ := S; ⟨D, hD.same (.inl hi), S.upd (pre := []) e hf⟩
/-- an instance's own dict -/
theorem St.idict {dx : Addr} (S : St c L m l k s) (hm : (a, o) ∈ l) (hi : instO o = true) (hd : o.dict = some dx) : s.heap.get? dx = some emptyDict := by
  obtain ⟨D, hD, S⟩ := S
  have z := hD _ hm hi dx hd
  exact (S.nw (dx, emptyDict) (List.mem_append_right _ (List.mem_append_right _ (List.mem_map.mpr ⟨dx, z, rfl⟩)))).1
/-- an instance made, its dict beside it -/
theorem St.inst {C : Addr} (S : St c L m l k s) : St c L m ((s.heap.objs.size + 1, instObj C s.heap.objs.size) :: l) k { s with heap := (s.heap.push emptyDict).push (instObj C s.heap.objs.size), toks := t } := by
  obtain ⟨D, hD, S⟩ := S
  refine ⟨s.heap.objs.size :: D, fun p hp e dx hd => ?_, ?_⟩
  · rcases List.mem_cons.mp hp with rfl | hp
    · cases hd; exact .head _
    · exact .tail _ (hD p hp e dx hd)
  have S1 : St0 c L m ((s.heap.objs.size, emptyDict) :: l) (k ++ dl D) { s with heap := s.heap.push emptyDict, toks := t } := S.push emptyDict
  have S2 := S1.push (t := t) (instObj C s.heap.objs.size)
  have e : (({ s with heap := s.heap.push emptyDict, toks := t } : Shared).heap.objs.size) = s.heap.objs.size + 1 := Heap.size_push _ _
  rw [e] at S2
  have q : (((s.heap.objs.size + 1, instObj C s.heap.objs.size) :: (s.heap.objs.size, emptyDict) :: l) ++ (k ++ dl D)).Perm (((s.heap.objs.size + 1, instObj C s.heap.objs.size) :: l) ++ (k ++ dl (s.heap.objs.size :: D))) := by
    refine .cons _ ?_
    show ((s.heap.objs.size, emptyDict) :: (l ++ (k ++ dl D))).Perm (l ++ (k ++ (s.heap.objs.size, emptyDict) :: dl D))
    rw [← List.append_assoc, ← List.append_assoc]
    exact List.perm_middle.symm
  exact ⟨S2.fr, fun p hp => S2.nw p (q.mem_iff.mpr hp), (q.map _).nodup_iff.mp S2.nd, S2.gens, S2.os, S2.kin, S2.top⟩
end

section
variable {c : Cx} {A : Around} {s : Shared} {L f : Addr} {m : Str → Option Value} {l k : List (Addr × Obj)}
theorem NC.func {body : List Stmt} {env : Env} {R : Flow → Shared → Prop} (h : N c (A.deeper env) (execs body env) (fun f s' => R (.ret (match f with | .ret v => v | _ => .none)) s') s) : NC c A (.func body env) R s := by
  refine NC.tree rfl ?_
  show N c (A.deeper env) (do
    PySem.point
    match ← (execs body env).onRaise (leaving env) with
    | .ret v => ret v
    | _ => ret .none) _ s
  refine N.point (N.bind (N.onRaise (h.mono fun f s' hf => ?_)))
  cases f <;> exact N.pure hf

theorem NC.def_ {a : Addr} {args : Args} {o : Obj} {fd : FuncData} {body : List Stmt} {R : Flow → Shared → Prop} (hroom : A.depth < recursionLimit)
    (ho : s.heap.get? a = some o) (hd' : o.data = .func fd) (hco : fd.scope.isCoroutine = false) (hgen : fd.scope.isGenerator = false) (hbody : fd.body = .stmts body) (hcd : s.heap.CodeRec fd.code fd.qualname)
    (h : wpAny c.M A.in1 (bindArgs fd args) (fun binds s₁ =>
      wpAny c.M A.in1 (newFunctionEnv fd.scope fd.globals fd.closure binds (fd.qualname ++ ".<locals>.") (some a) fd.code none fd.builtins)
        (fun env s₂ => s₂.heap.NoLimit ∧ NC c A (.func body env) R s₂) (fun _ _ => False) s₁) (fun _ _ => False) s) :
    NC c A (.call (.ref a) args) R s := by
  refine NC.tree rfl ?_
  show N c A.in1 (callAny (.ref a) args) _ s
  simp only [callAny]
  refine N.of (wpAny_bind (wpAny_load ho ?_))
  obtain ⟨co, oc, vs, tq, hc, hoc, hdc, hq⟩ := hcd
  simp only [hd', callFunction, hco, hgen, hbody, hc]
  rw [hc] at h
  refine wpAny_bind (m := field (.ref co) 1) (wpAny_field hoc hdc hq (wpAny_bind (wpAny_pure ?_)))
  exact wpAny_bind (wpAny_mono h (fun binds s₁ h₁ => wpAny_bind (wpAny_mono h₁ (fun env s₂ h₂ => wpAny_bind (wpAny_enterFrame h₂.1 hroom
    (wpAny_pure (And.intro rfl h₂.2)))) fun _ _ h' => h')) fun _ _ h' => h')

/-- what a body hands back: the flow's value, the state seen from the caller's frame -/
def Back (c : Cx) (L : Addr) (m : Str → Option Value) (oL : Obj) (k : List (Addr × Obj)) (Q : Value → Shared → Prop) (fl : Flow) (s' : Shared) : Prop :=
  ∃ L' m' l', St c L' m' l' ((L, oL) :: k) s' ∧ (St c L m l' k s' → Q (match fl with | .ret v => v | _ => .none) s')
theorem Back.mk {Q : Value → Shared → Prop} {L' : Addr} {m' : Str → Option Value} {l' : List (Addr × Obj)} {oL : Obj} {fl : Flow} {s' : Shared} (S' : St c L' m' l' ((L, oL) :: k) s')
    (h : St c L m l' k s' → Q (match fl with | .ret v => v | _ => .none) s') : Back c L m oL k Q fl s' := ⟨L', m', l', S', h⟩

theorem St0.enter {m' : Str → Option Value} {h₁ : Heap} {t : Nat} (S : St0 c L m l k s) (hns : h₁.Ns s.heap.objs.size m') (hk₁ : ∀ b o, s.heap.get? b = some o → h₁.get? b = some o) :
    ∃ oL, St0 c s.heap.objs.size m' l ((L, oL) :: k) { s with heap := h₁, toks := t } ∧
      ∀ k' L' m' l' s', St0 c L' m' l' ((L, oL) :: k') s' → St0 c L m l' k' s' := by
  obtain ⟨oL, es, ep, hL, hLd, hLk, hLf⟩ := S.fr.ns
  have hlt := Heap.lt_size hL
  have nL : L ∉ (l ++ k).map (·.1) := fun q => by
    obtain ⟨p, hp, e⟩ := List.mem_map.mp q
    exact (S.nw p hp).2.1 e
  refine ⟨oL, ⟨⟨hns, fun b o e => hk₁ b o (S.fr.keep b o e), Nat.le_trans S.fr.above (Nat.le_of_lt hlt)⟩, fun p hp => ?_, ?_, S.gens, S.os, S.kin, S.top⟩, fun k' L' m' l' s' S' => ?_⟩
  · rcases List.mem_append.mp hp with q | q
    · have z := S.nw p (List.mem_append_left _ q)
      exact ⟨hk₁ _ _ z.1, Nat.ne_of_lt (Heap.lt_size z.1), z.2.2⟩
    · rcases List.mem_cons.mp q with rfl | q
      · refine ⟨hk₁ _ _ hL, Nat.ne_of_lt hlt, ?_⟩
        cases z : c.h₀.get? L with
        | none => rfl
        | some o => exact absurd (Heap.lt_size z) (Nat.not_lt.mpr S.fr.above)
      · have z := S.nw p (List.mem_append_right _ q)
        exact ⟨hk₁ _ _ z.1, Nat.ne_of_lt (Heap.lt_size z.1), z.2.2⟩
  · have := S.nd
    rw [List.map_append] at this nL ⊢
    rw [List.map_cons]
    have z := List.nodup_append.mp this
    refine List.nodup_append.mpr ⟨z.1, List.nodup_cons.mpr ⟨fun q => nL (List.mem_append_right _ q), z.2.1⟩, fun a ha b hb => ?_⟩
    rcases List.mem_cons.mp hb with rfl | hb
    · rintro rfl; exact nL (List.mem_append_left _ ha)
    · exact z.2.2 a ha b hb
  · have hL' : s'.heap.get? L = some oL := (S'.nw (L, oL) (by simp)).1
    refine ⟨⟨⟨oL, es, ep, hL', hLd, hLk, hLf⟩, S'.fr.keep, S.fr.above⟩, fun p hp => ?_, ?_, S'.gens, S'.os, S'.kin, S'.top⟩
    · have z : p ∈ l' ++ (L, oL) :: k' := by
        rcases List.mem_append.mp hp with q | q
        · exact List.mem_append_left _ q
        · exact List.mem_append_right _ (.tail _ q)
      refine ⟨(S'.nw p z).1, fun e => ?_, (S'.nw p z).2.2⟩
      have D := S'.nd
      rw [List.map_append, List.map_cons] at D
      have D1 := List.nodup_append.mp D
      rcases List.mem_append.mp hp with q | q
      · exact D1.2.2 p.1 (List.mem_map_of_mem q) L (.head _) e
      · exact (List.nodup_cons.mp D1.2.1).1 (List.mem_map.mpr ⟨p, q, e⟩)
    · exact (((List.Sublist.refl l').append (List.sublist_cons_self (L, oL) k')).map (·.1)).nodup S'.nd

theorem St.enter {m' : Str → Option Value} {h₁ : Heap} {t : Nat} (S : St c L m l k s) (hns : h₁.Ns s.heap.objs.size m') (hk₁ : ∀ b o, s.heap.get? b = some o → h₁.get? b = some o) :
    ∃ oL, St c s.heap.objs.size m' l ((L, oL) :: k) { s with heap := h₁, toks := t } ∧
      ∀ L' m' l' s', St c L' m' l' ((L, oL) :: k) s' → St c L m l' k s' := by
  obtain ⟨D, hD, S⟩ := S
  obtain ⟨oL, S₁, back⟩ := S.enter (t := t) hns hk₁
  refine ⟨oL, ⟨D, hD, S₁⟩, fun L' m' l' s' S' => ?_⟩
  obtain ⟨D', hD', S'⟩ := S'
  exact ⟨D', hD', back _ _ _ _ _ S'⟩

/-- a call of a def of the text (no cells): binds as they come, made on the way l₁ -/
theorem n_callB {name qual : Str} {params : Arguments} {body : List Stmt} {scope : Scope} {dV kV doc pm cdv ct oc : Value} {an od : Option Addr} {osl : Array (Option Value)} {pos : List Value} {kw : List (Str × Value)} {binds : List (Str × Value)} {l₁ : List (Addr × Obj)}
    {Q : Value → Shared → Prop} (S : St c L m l k s) (ho : c.K.lookup f = some ⟨oc, od, .func (fnOf name qual params body scope dV kV doc pm an cdv ct), osl⟩) (hcd : codeIn c.K cdv qual = true) (hroom : A.depth < recursionLimit)
    (hbind : wpAny c.M A.in1 (bindArgs (fnOf name qual params body scope dV kV doc pm an cdv ct) ⟨pos, kw⟩) (fun bs s₁ => bs = binds ∧ St c L m l₁ k s₁) (fun _ _ => False) s)
    (hloc : ∀ y ∈ binds, scope.names.lookup y.1 = some .local)
    (h : ∀ L' oL s₁, St c L' (fun y => binds.reverse.lookup y) l₁ ((L, oL) :: k) s₁ → N c (A.deeper (envOf qual scope L' f cdv)) (execs body (envOf qual scope L' f cdv)) (Back c L m oL k Q) s₁)
    (hcell : ∀ x ∈ scope.names, x.2 ≠ .cell) (hco : scope.isCoroutine = false := by rfl) (hgen : scope.isGenerator = false := by rfl) (hk : scope.kind = .function := by rfl) :
    N c A (call (.ref f) pos kw) Q s := by
  have X := S.X
  refine N.call (NC.def_ (fd := fnOf name qual params body scope dV kV doc pm an cdv ct) (body := body) hroom (X _ _ ho) rfl hco hgen rfl (codeRec_of X hcd) (wpAny_mono hbind (fun bs s₁ hb => ?_) fun _ _ h => h))
  obtain ⟨rfl, S₁⟩ := hb
  refine wpAny_newFunctionEnv hcell hloc (fun h₁ hns hsb => ?_) hk
  have hk₁ : ∀ b o, s₁.heap.get? b = some o → h₁.get? b = some o := fun b o e => hsb.extBut b o (Nat.ne_of_lt (Heap.lt_size e)) (Heap.get?_push_of_some _ e)
  obtain ⟨oL, S₂, back⟩ := S₁.enter (t := s₁.toks + bs.length) hns hk₁
  refine ⟨(S₁.top.nolimit.keeps S₁.fr.keep).fresh _ hsb, NC.func ((h _ oL _ S₂).mono fun fl s' hb => ?_)⟩
  obtain ⟨L', m', l', S', q⟩ := hb
  cases fl <;> exact q (back _ _ _ _ S')

theorem n_call {name qual : Str} {params : Arguments} {body : List Stmt} {scope : Scope} {dV kV doc pm cdv ct oc : Value} {an od : Option Addr} {osl : Array (Option Value)} {pos : List Value} {kw : List (Str × Value)} {binds : List (Str × Value)}
    {Q : Value → Shared → Prop} (S : St c L m l k s) (ho : c.K.lookup f = some ⟨oc, od, .func (fnOf name qual params body scope dV kV doc pm an cdv ct), osl⟩) (hcd : codeIn c.K cdv qual = true) (hroom : A.depth < recursionLimit)
    (hbind : BindsTo s (fnOf name qual params body scope dV kV doc pm an cdv ct) ⟨pos, kw⟩ binds)
    (hloc : ∀ y ∈ binds, scope.names.lookup y.1 = some .local)
    (h : ∀ L' oL s₁, St c L' (fun y => binds.reverse.lookup y) l ((L, oL) :: k) s₁ → N c (A.deeper (envOf qual scope L' f cdv)) (execs body (envOf qual scope L' f cdv)) (Back c L m oL k Q) s₁)
    (hcell : ∀ x ∈ scope.names, x.2 ≠ .cell) (hco : scope.isCoroutine = false := by rfl) (hgen : scope.isGenerator = false := by rfl) (hk : scope.kind = .function := by rfl) :
    N c A (call (.ref f) pos kw) Q s :=
  n_callB S ho hcd hroom (hbind _ _ _ _ ⟨rfl, S⟩) hloc h hcell hco hgen hk
end
end Mine

end
-- M2
section
open PySem PySem.W PySem.Calls PyProof.Rows
set_option maxRecDepth 100000
namespace Mine
open PySem.Sem (wp)

section
variable {α : Type} {c : Cx} {A : Around} {s : Shared} {env : Env}

theorem N.keep {vs : List Value} {t : Sem α} {Q : α → Shared → Prop} (h : N c A t Q s) : N c A (t.keep vs) Q s := fun Γ p hΓ hc => by rw [Sem.wp_keep]; exact h Γ p hΓ hc
theorem N.operate {vs : List Value} {t : Sem Value} {Q : Value → Shared → Prop} (h : N c A t Q s) : N c A (operate vs t) Q s := fun Γ p hΓ hc => by rw [Sem.wp_operate]; exact h Γ p hΓ hc
theorem N.release {β : Type} {vs keep : List Value} {f : Unit → Sem β} {Q : β → Shared → Prop} (h : N c A (f ()) Q s) : N c A (release vs keep >>= f) Q s := fun Γ p hΓ hc => by
  rw [Sem.wp_bind', Sem.wp_release]; exact h Γ p hΓ hc
theorem N.bindName {x : Str} {v : Value} {Q : Unit → Shared → Prop} (h : N c A (storeName env x v) Q s) : N c A (bindName env x v) Q s := fun Γ p hΓ hc => by
  rw [Sem.wp_bindName]; exact h Γ p hΓ hc
theorem N.ite {p : Prop} [Decidable p] {t u : Sem α} {Q : α → Shared → Prop} (h : if p then N c A t Q s else N c A u Q s) : N c A (if p then t else u) Q s := by split <;> simp_all

-- statements
theorem n_nil {Q : Flow → Shared → Prop} (h : Q .next s) : N c A (execs [] env) Q s := fun _ _ _ _ => h
theorem n_cons {st : Stmt} {rest : List Stmt} {Q : Flow → Shared → Prop} (h : N c A (exec st env) (fun f s' => match f with | .next => N c A (execs rest env) Q s' | f => Q f s') s) : N c A (execs (st :: rest) env) Q s := by
  rw [execs_cons]
  refine N.bind (h.mono fun f s' h' => ?_)
  cases f <;> first | exact h' | exact N.pure h'
theorem n_expr {e : Expr} {pos : Pos} {Q : Flow → Shared → Prop} (h : N c A (eval e env) (fun v s' => (∀ a, v ≠ .ref a) ∧ Q .next s') s)
    (hi : interactive env = false := by rfl) (hs : swapsWith e none pos.line env = pure false := by rfl) : N c A (exec (.Expr e pos) env) Q s := by
  rw [exec_Expr env e pos hi hs]
  refine N.standAt (N.bind (h.mono fun v s' h' => ?_))
  rw [dropValue_plain h'.1]
  exact N.pure h'.2
theorem n_assign {x : Str} {pos' pos : Pos} {value : Expr} {Q : Flow → Shared → Prop} (h : N c A (eval value env) (fun v s₁ => N c A (storeName env x v) (fun _ => Q .next) s₁) s)
    (hs : swapsWith value (some (.Name x pos')) pos.line env = pure false := by rfl) : N c A (exec (.Assign [.Name x pos'] value pos) env) Q s := by
  rw [exec_Assign_Name env x pos' value pos hs]
  exact N.standAt (N.bind (h.mono fun v s₁ h₁ => N.standAt (N.bind (N.bindName (h₁.mono fun _ _ h => N.pure h)))))
theorem n_aug {x : Str} {pos' pos : Pos} {op : Operator} {value : Expr} {Q : Flow → Shared → Prop}
    (h : N c A (loadName env x) (fun old s₁ => N c A (eval value env) (fun v s₂ => N c A (inplaceOp op old v) (fun r s₃ => N c A (storeName env x r) (fun _ => Q .next) s₃) s₂) s₁) s) :
    N c A (exec (.AugAssign (.Name x pos') op value pos) env) Q s := by
  rw [exec_AugAssign_Name]
  exact N.standAt (N.bind (h.mono fun _ _ h => N.bind (N.holding (h.mono fun _ _ h => N.standAt (N.bind (N.operate (h.mono fun _ _ h => N.standAt (N.bind (N.bindName (h.mono fun _ _ h => N.pure h))))))))))
theorem N.rel {vs keep : List Value} {Q : Unit → Shared → Prop} (h : Q () s) : N c A (PySem.release vs keep) Q s := fun Γ p _ _ => by rw [Sem.wp_release]; exact h
theorem n_setattr {o value : Expr} {attr : Str} {pos' pos : Pos} {Q : Flow → Shared → Prop}
    (h : N c A (eval value env) (fun v s₁ => N c A (eval o env) (fun ov s₂ => N c A (setAttr ov attr v) (fun _ => Q .next) s₂) s₁) s)
    (hs : swapsWith value (some (.Attribute o attr pos')) pos.line env = pure false := by rfl) : N c A (exec (.Assign [.Attribute o attr pos'] value pos) env) Q s := by
  rw [plainObj_exec_Assign_Attribute o attr pos' value pos hs]
  refine N.standAt (N.bind (h.mono fun v s₁ h₁ => N.bind ?_))
  rw [assign_Attribute]
  exact N.bind (N.holding (h₁.mono fun ov s₂ h₂ => N.standAt (N.bind (N.holding (h₂.mono fun _ _ h => N.rel (N.pure h))))))
theorem n_setitem {o i value : Expr} {pos' pos : Pos} {Q : Flow → Shared → Prop}
    (h : N c A (eval value env) (fun v s₁ => N c A (eval o env) (fun ov s₂ => N c A (eval i env) (fun iv s₃ => N c A (setItem ov iv v) (fun _ => Q .next) s₃) s₂) s₁) s)
    (hs : swapsWith value (some (.Subscript o i pos')) pos.line env = pure false := by rfl) : N c A (exec (.Assign [.Subscript o i pos'] value pos) env) Q s := by
  rw [exec_Assign_Subscript o i pos' value pos hs]
  refine N.standAt (N.bind (h.mono fun v s₁ h₁ => N.bind ?_))
  rw [assign_Subscript]
  exact N.bind (N.holding (h₁.mono fun ov s₂ h₂ => N.bind (N.holding (h₂.mono fun iv s₃ h₃ => N.standAt (N.bind (N.holding (h₃.mono fun _ _ h => N.rel (N.pure h))))))))
theorem n_if {test : Expr} {body orelse : List Stmt} {pos : Pos} {Q : Flow → Shared → Prop}
    (h : N c A (isTrue test env (eval test env)) (fun b s₂ => if b then N c A (execs body env) Q s₂ else N c A (execs orelse env) Q s₂) s) : N c A (exec (.If test body orelse pos) env) Q s := by
  rw [exec_If]
  refine N.standAt (N.bind (h.mono fun b s₂ h₂ => ?_))
  cases b <;> exact h₂
theorem n_ret {e : Expr} {pos : Pos} {Q : Flow → Shared → Prop} (h : N c A (eval e env) (fun v => Q (.ret v)) s) : N c A (exec (.Return (some e) pos) env) Q s := by
  rw [exec_Return_some]
  exact N.standAt (N.bind (h.mono fun _ _ h => N.pure h))
theorem n_ret0 {pos : Pos} {Q : Flow → Shared → Prop} (h : Q (.ret .none) s) : N c A (exec (.Return none pos) env) Q s := fun _ _ _ _ => h
theorem n_cont {pos : Pos} {Q : Flow → Shared → Prop} (h : Q .cont s) : N c A (exec (.Continue pos) env) Q s := fun _ _ _ _ => h
theorem n_while {test : Expr} {body orelse : List Stmt} {pos : Pos} {Q : Flow → Shared → Prop} (h : NC c A (.whileLoop test body orelse env) Q s) : N c A (exec (.While test body orelse pos) env) Q s := by
  rw [exec_While]
  exact N.standAt (N.runOwn h)
theorem NC.whl {test : Expr} {body orelse : List Stmt} {R : Flow → Shared → Prop}
    (h : N c A (isTrue test env (eval test env)) (fun b s₁ => if b then N c A (execs body env) (fun f s₂ => match f with
        | .next | .cont => NC c A (.whileLoop test body orelse env) R s₂ | .brk => R .next s₂ | .ret v => R (.ret v) s₂) s₁
      else N c A (execs orelse env) R s₁) s) : NC c A (.whileLoop test body orelse env) R s := by
  refine NC.tree rfl ?_
  rw [Around.under_of_weight rfl]
  show N c A ((whileTurn test body orelse env).onRaise _) _ s
  refine N.onRaise ?_
  show N c A (do
    if ← isTrue test env (eval test env) then
      match ← execs body env with
      | .next | .cont => again (.whileLoop test body orelse env)
      | .brk => pure (.done .next)
      | .ret v => pure (.done (.ret v))
    else return .done (← execs orelse env)) _ s
  refine N.bind (h.mono fun b s₁ h₁ => ?_)
  cases b with
  | true =>
    refine N.bind (N.mono (Q := fun f s₂ => match f with
        | .next | .cont => NC c A (.whileLoop test body orelse env) R s₂ | .brk => R .next s₂ | .ret v => R (.ret v) s₂) (by simpa using h₁) fun f s₂ h₂ => ?_)
    cases f <;> first | exact N.pure ⟨rfl, h₂⟩ | exact N.pure h₂
  | false => exact N.bind (N.mono (Q := R) (by simpa using h₁) fun f s₂ h₂ => N.pure h₂)
theorem n_for {target iter : Expr} {body orelse : List Stmt} {pos : Pos} {Q : Flow → Shared → Prop}
    (h : N c A (eval iter env) (fun x s₁ => N c A (pyIter x) (fun it s₂ => NC c A (.forLoop target it body orelse env) Q s₂) s₁) s)
    (hs : ∀ x, foldedSetIterable iter env x = pure x := by intro _; rfl) : N c A (exec (.For target iter body orelse pos) env) Q s := by
  show N c A (do
    standAt pos
    let x ← foldedSetIterable iter env (← eval iter env)
    standAt iter.pos
    runOwn (.forLoop target (← holding [x] (pyIter x)) body orelse env) env) Q s
  refine N.standAt (N.bind (h.mono fun x s₁ h₁ => ?_))
  rw [hs x]
  exact N.bind (N.pure (N.standAt (N.bind (N.holding (h₁.mono fun it s₂ h₂ => N.runOwn h₂)))))
theorem NC.block0 {R : Flow → Shared → Prop} (h : R .next s) : NC c A (.block [] env) R s := by
  refine NC.tree rfl ?_
  rw [Around.under_of_weight rfl]
  show N c A (do return PySem.Fin.done (← (execs [] env).onRaise (fun x => do noteFrame x env; theTreesLotGoes x)) : Sem PySem.Fin) _ s
  exact N.bind (N.onRaise (n_nil (N.pure h)))
/-- a turn of a for over a plain name -/
theorem NC.for_ {x : Str} {xp : Pos} {it : Value} {body : List Stmt} {R : Flow → Shared → Prop}
    (h : N c A (pyNext it) (fun o s₁ => match o with
      | none => R .next s₁
      | some v => N c A (storeName env x v) (fun _ s₂ => N c A (execs body env) (fun f s₃ => match f with
        | .next | .cont => NC c A (.forLoop (.Name x xp) it body [] env) R s₃ | .brk => R .next s₃ | .ret v => R (.ret v) s₃) s₂) s₁) s) :
    NC c A (.forLoop (.Name x xp) it body [] env) R s := by
  refine NC.tree rfl ?_
  rw [Around.under_of_weight rfl]
  show N c A ((forTurn (.Name x xp) it body [] env).onRaise _) _ s
  refine N.onRaise ?_
  show N c A (do
    standAt xp
    match ← (pyNext it).onRaise (fun _ => standAt { xp with line := 0 }) with
    | none => again (.block [] env)
    | some v =>
      (pure () : Sem Unit)
      (do standAt xp; bindName env x v)
      match ← execs body env with
      | .next | .cont => again (.forLoop (.Name x xp) it body [] env)
      | .brk => pure (.done .next)
      | .ret v => pure (.done (.ret v))) _ s
  refine N.standAt (N.bind (N.onRaise (h.mono fun o s₁ h₁ => ?_)))
  cases o with
  | none => exact N.pure ⟨rfl, NC.block0 h₁⟩
  | some v =>
    refine N.bind (N.standAt (N.bindName (N.mono h₁ fun _ s₂ h₂ => N.bind (N.mono h₂ fun f s₃ h₃ => ?_))))
    cases f <;> first | exact N.pure ⟨rfl, h₃⟩ | exact N.pure h₃

-- tests
theorem t_cmp {l r : Expr} {op : CmpOp} {pos : Pos} {whole : Sem Value} {Q : Bool → Shared → Prop}
    (h : N c A (eval l env) (fun a s₁ => N c A (eval r env) (fun b s₂ => N c A (compareOp op a b) (fun v s₃ => N c A (truthy v) Q s₃) s₂) s₁) s)
    (hm : behindInMarks op r = false := by with_unfolding_all rfl) : N c A (isTrue (.Compare l [op] [r] pos) env whole) Q s := by
  rw [isTrue_Compare1, markedBehindIn_of_false hm]
  exact N.bind (h.mono fun a s₁ h => N.bind (N.holding (h.mono fun b s₂ h => N.standAt (N.bind (N.operate (h.mono fun v s₃ h => N.holding h))))))
theorem t_chain2 {l r₁ r₂ : Expr} {o₁ o₂ : CmpOp} {pos : Pos} {whole : Sem Value} {Q : Bool → Shared → Prop}
    (h : N c A (eval l env) (fun a s₁ => N c A (eval r₁ env) (fun b s₂ => N c A (compareOp o₁ a b) (fun v s₃ => N c A (truthy v) (fun t s₄ =>
      if t then N c A (eval r₂ env) (fun d s₅ => N c A (compareOp o₂ b d) (fun v s₆ => N c A (truthy v) Q s₆) s₅) s₄ else Q false s₄) s₃) s₂) s₁) s)
    (hm : lastMarks [o₁, o₂] [r₁, r₂] = false := by with_unfolding_all rfl) : N c A (isTrue (.Compare l [o₁, o₂] [r₁, r₂] pos) env whole) Q s := by
  show N c A (do testChain pos (← eval l env) [o₁, o₂] (markedEach [o₁, o₂] [r₁, r₂] [eval r₁ env, eval r₂ env])) Q s
  rw [markedEach_of_false _ _ _ hm]
  refine N.bind (h.mono fun a s₁ h => ?_)
  show N c A (do
    let rv ← holding [a] (eval r₁ env)
    standAt pos
    let c ← holding [a, rv] (compareOp o₁ a rv)
    release [a, rv] [c]
    if ← holding [c, rv] (truthy c) then (do
      let rv₂ ← holding [rv] (eval r₂ env)
      standAt pos
      let c ← operate [rv, rv₂] (compareOp o₂ rv rv₂)
      holding [c] (truthy c)) else pure false) Q s₁
  refine N.bind (N.holding (h.mono fun b s₂ h => N.standAt (N.bind (N.holding (h.mono fun v s₃ h => N.release (N.bind (N.holding (h.mono fun t s₄ h => ?_))))))))
  cases t with
  | false => exact N.pure h
  | true => exact N.bind (N.holding (N.mono h fun d s₅ h => N.standAt (N.bind (N.operate (h.mono fun v s₆ h => N.holding h)))))
theorem t_not {x : Expr} {pos : Pos} {whole : Sem Value} {Q : Bool → Shared → Prop} (h : N c A (isTrue x env (eval x env)) (fun b s' => Q (!b) s') s) : N c A (isTrue (.UnaryOp .Not x pos) env whole) Q s := by
  show N c A (do return !(← isTrue x env (eval x env))) Q s
  exact N.bind (h.mono fun _ _ h => N.pure h)
theorem t_and0 {pos : Pos} {whole : Sem Value} {Q : Bool → Shared → Prop} (h : Q true s) : N c A (isTrue (.BoolOp .And [] pos) env whole) Q s := N.pure (a := true) h
theorem t_or0 {pos : Pos} {whole : Sem Value} {Q : Bool → Shared → Prop} (h : Q false s) : N c A (isTrue (.BoolOp .Or [] pos) env whole) Q s := N.pure (a := false) h
theorem t_and {x : Expr} {rest : List Expr} {pos : Pos} {whole : Sem Value} {Q : Bool → Shared → Prop}
    (h : N c A (isTrue x env (eval x env)) (fun b s' => if b then N c A (isTrue (.BoolOp .And rest pos) env whole) Q s' else Q false s') s) : N c A (isTrue (.BoolOp .And (x :: rest) pos) env whole) Q s := by
  show N c A (do
    match BoolOp.And, ← isTrue x env (eval x env) with
    | .And, false => pure false
    | .Or, true => pure true
    | _, _ => allTrue .And rest env) Q s
  refine N.bind (h.mono fun b s' h => ?_)
  cases b with
  | false => exact N.pure h
  | true => exact h
theorem t_or {x : Expr} {rest : List Expr} {pos : Pos} {whole : Sem Value} {Q : Bool → Shared → Prop}
    (h : N c A (isTrue x env (eval x env)) (fun b s' => if b then Q true s' else N c A (isTrue (.BoolOp .Or rest pos) env whole) Q s') s) : N c A (isTrue (.BoolOp .Or (x :: rest) pos) env whole) Q s := by
  show N c A (do
    match BoolOp.Or, ← isTrue x env (eval x env) with
    | .And, false => pure false
    | .Or, true => pure true
    | _, _ => allTrue .Or rest env) Q s
  refine N.bind (h.mono fun b s' h => ?_)
  cases b with
  | true => exact N.pure h
  | false => exact h
theorem t_plain {e : Expr} {whole : Sem Value} {Q : Bool → Shared → Prop} (h : N c A whole (fun v s₁ => N c A (truthy v) Q s₁) s)
    (he : isTrue e env whole = (do let v ← whole; standAt e.pos; holding [v] (truthy v)) := by rfl) : N c A (isTrue e env whole) Q s := by
  rw [he]
  exact N.bind (h.mono fun v s₁ h => N.standAt (N.holding h))

-- expressions
theorem e_bin {l r : Expr} {op : Operator} {pos : Pos} {Q : Value → Shared → Prop} (h : N c A (eval l env) (fun a s₁ => N c A (eval r env) (fun b s₂ => N c A (binaryOp op a b) Q s₂) s₁) s) :
    N c A (eval (.BinOp l op r pos) env) Q s := by
  rw [eval_BinOp]
  exact N.bind (h.mono fun a s₁ h => N.bind (N.holding (h.mono fun b s₂ h => N.standAt (N.operate h))))
theorem e_cmp {l r : Expr} {op : CmpOp} {pos : Pos} {Q : Value → Shared → Prop} (h : N c A (eval l env) (fun a s₁ => N c A (eval r env) (fun b s₂ => N c A (compareOp op a b) Q s₂) s₁) s)
    (hm : behindInMarks op r = false := by with_unfolding_all rfl) : N c A (eval (.Compare l [op] [r] pos) env) Q s := by
  rw [eval_Compare1, markedBehindIn_of_false hm]
  exact N.bind (h.mono fun a s₁ h => N.bind (N.holding (h.mono fun b s₂ h => N.standAt (N.operate h))))
theorem e_un {x : Expr} {op : PySem.UnaryOp} {pos : Pos} {Q : Value → Shared → Prop} (h : N c A (eval x env) (fun v s₁ => N c A (unaryOp op v) Q s₁) s) : N c A (eval (.UnaryOp op x pos) env) Q s := by
  show N c A (do let v ← eval x env; standAt pos; holding [v] (unaryOp op v)) Q s
  exact N.bind (h.mono fun v s₁ h => N.standAt (N.holding h))
theorem e_ifexp {t b o : Expr} {pos : Pos} {Q : Value → Shared → Prop} (h : N c A (isTrue t env (eval t env)) (fun k s' => if k then N c A (eval b env) Q s' else N c A (eval o env) Q s') s) : N c A (eval (.IfExp t b o pos) env) Q s := by
  show N c A (do if ← isTrue t env (eval t env) then eval b env else eval o env) Q s
  refine N.bind (h.mono fun k s' h => ?_)
  cases k <;> exact h
theorem e_attr {value : Expr} {attr : Str} {pos : Pos} {Q : Value → Shared → Prop} (h : N c A (eval value env) (fun o s₁ => N c A (getAttr o attr true) Q s₁) s)
    (he : eval (.Attribute value attr pos) env = (do
      let o ← eval value env
      standAt pos.atName
      let r ← holding [o] (getAttr o attr true)
      letTemporaryGo value o r
      pure r) := by with_unfolding_all rfl) : N c A (eval (.Attribute value attr pos) env) Q s := by
  rw [he]
  exact N.bind (h.mono fun o s₁ h => N.standAt (N.bind (N.holding (h.mono fun r s₂ h => N.bind (N.of (wpAny_letTemporaryGo (N.pure h)))))))
theorem e_sub {value slice : Expr} {pos : Pos} {Q : Value → Shared → Prop}
    (h : N c A (eval value env) (fun o s₁ => N c A (eval slice env) (fun i s₂ => N c A (getitemInPython o >>= fun b => subscripted slice b o i) Q s₂) s₁) s) : N c A (eval (.Subscript value slice pos) env) Q s := by
  show N c A (do
    let o ← eval value env
    let i ← holding [o] (eval slice env)
    standAt pos
    let r ← subscripted slice (← getitemInPython o) o i
    letTemporaryGo value o r
    pure r) Q s
  refine N.bind (h.mono fun o s₁ h => N.bind (N.holding (h.mono fun i s₂ h => N.standAt fun Γ p hΓ hc => ?_)))
  have z := h Γ p hΓ hc
  rw [Sem.wp_bind'] at z ⊢
  refine Sem.wp_mono c.M Γ _ (fun b p₁ s₃ z => ?_) (fun _ _ _ z => z) p s₂ z
  rw [Sem.wp_bind']
  refine Sem.wp_mono c.M Γ _ (fun r p₂ s₄ z => ?_) (fun _ _ _ z => z) p₁ s₃ z
  rw [Sem.wp_bind']
  exact wpAny_letTemporaryGo (Q := fun _ s' => Q r s') (E := fun _ _ => False) z Γ p₂ hΓ
theorem sp_nil {pos : Pos} {Q : List Value → Shared → Prop} (h : Q [] s) : N c A (spliced (backTo pos (starEach [] env))) Q s := N.pure h
theorem sp_cons {pos : Pos} {e : Expr} {rest : List Expr} {Q : List Value → Shared → Prop}
    (h : N c A (eval e env) (fun v s₁ => N c A (spliced (backTo pos (starEach rest env))) (fun vs s₂ => Q (v :: vs) s₂) s₁) s)
    (he : starEach (e :: rest) env = (false, eval e env) :: starEach rest env := by rfl) : N c A (spliced (backTo pos (starEach (e :: rest) env))) Q s := by
  rw [he]
  show N c A (do
    let v ← eval e env
    let here ← (pure [v] : Sem (List Value))
    return here ++ (← holding here (spliced (backTo pos (starEach rest env))))) Q s
  exact N.bind (h.mono fun v s₁ h => N.bind (N.pure (N.bind (N.holding (h.mono fun vs s₂ h => N.pure h)))))
theorem e_tuple {elts : List Expr} {k : Nat} {pos : Pos} {Q : Value → Shared → Prop} (h : N c A (spliced (backTo pos (starEach elts env))) (fun vs s₁ => N c A (newTuple vs) Q s₁) s) : N c A (eval (.Tuple elts k pos) env) Q s := by
  show N c A (do standAt pos; newTuple (← spliced (backTo pos (starEach elts env)))) Q s
  exact N.standAt (N.bind h)
theorem e_list {elts : List Expr} {pos : Pos} {Q : Value → Shared → Prop} (h : N c A (spliced (backTo pos (starEach elts env))) (fun vs s₁ => N c A (newList vs) Q s₁) s) : N c A (eval (.List elts pos) env) Q s := by
  show N c A (do standAt pos; newList (← spliced (backTo pos (starEach elts env)))) Q s
  exact N.standAt (N.bind h)

/-- what calls f is known -/
def Kp (c : Cx) (f : Value) (s : Shared) : Prop := ∃ k, (k = Keeper.frame ∨ k = Keeper.machine) ∧ Looks c.M s.heap (keeperOf f) k
theorem Kp.of_K {L : Addr} {m : Str → Option Value} {l k : List (Addr × Obj)} {f : Value} (S : St c L m l k s) (hk : keepIn c.K f = true) : Kp c f s := looks_keep hk S.X
theorem Kp.builtin {i : String} : Kp c (.builtin i) s := ⟨.machine, .inr rfl, Looks.of_pure rfl⟩
theorem Kp.type {i : String} : Kp c (.type i) s := ⟨.machine, .inr rfl, Looks.of_pure rfl⟩
theorem cw {pos : Pos} {f : Value} {first : List Value} {args : List (Bool × Sem Value)} {kws : List (Option Str × Sem Value)} {Q : Value → Shared → Prop} (hplain : (args.any (·.1) || kws.any (·.1.isNone)) = false)
    (h : N c A (evalArgs f true args kws) (fun a s₁ => Kp c f s₁ ∧ N c A (call f (first ++ a.pos) a.kw) Q s₁) s) : N c A (callWith pos f first args kws) Q s := by
  unfold callWith
  refine N.bind (N.holding (h.mono fun a s₁ h₁ => N.standAt ?_))
  obtain ⟨⟨k, hk, L⟩, h₂⟩ := h₁
  simp only [hplain]
  refine N.looks L ?_
  have tail : ∀ {t : Sem Value}, N c A t Q s₁ → N c A (t >>= fun r => holding [r] point >>= fun _ => pure r) Q s₁ :=
    fun ht => N.bind (ht.mono fun r s₂ hr => N.bind (N.holding (N.of (wpAny_point (N.pure hr)))))
  have marked (mk : Value) : N c A (callMarked mk f (first ++ a.pos) a.kw) Q s₁ := by unfold callMarked; exact N.keep h₂
  rcases hk with rfl | rfl <;> dsimp only <;> first | exact tail h₂ | (split <;> first | exact tail h₂ | exact tail (marked _))
theorem ea_plain {f : Value} {x : Sem Value} {rest : List (Bool × Sem Value)} {Q : Args → Shared → Prop} (h : N c A (spliced ((false, x) :: rest)) (fun vs s' => Q ⟨vs, []⟩ s') s) : N c A (evalArgs f true ((false, x) :: rest) []) Q s := by
  unfold evalArgs
  show N c A (spliced ((false, x) :: rest) >>= fun vs => (pure (vs, none) : Sem (List Value × Option Value)) >>= _) Q s
  exact N.bind (h.mono fun vs s' h => N.bind (N.pure (N.holding (N.bind (N.pure (N.bind (N.pure (N.pure h))))))))
theorem ea_nil {f : Value} {Q : Args → Shared → Prop} (h : Q ⟨[], []⟩ s) : N c A (evalArgs f true [] []) Q s := N.of (evalArgs_nil3 h)
theorem cw1 {pos : Pos} {f : Value} {first : List Value} {e : Expr} {rest : List Expr} {Q : Value → Shared → Prop}
    (h : N c A (spliced (backTo pos (starEach (e :: rest) env))) (fun vs s₁ => Kp c f s₁ ∧ N c A (call f (first ++ vs)) Q s₁) s)
    (he : starEach (e :: rest) env = (false, eval e env) :: starEach rest env := by rfl) (hplain : (backTo pos (starEach rest env)).any (·.1) = false := by rfl) :
    N c A (callWith pos f first (backTo pos (starEach (e :: rest) env)) (backToKw pos (keywordEach [] env))) Q s := by
  rw [he] at h ⊢
  exact cw (by show ((false || (backTo pos (starEach rest env)).any (·.1)) || false) = false; rw [hplain]; rfl) (ea_plain h)
theorem cw0 {pos : Pos} {f : Value} {first : List Value} {Q : Value → Shared → Prop} (hk : Kp c f s) (h : N c A (call f (first ++ [])) Q s) : N c A (callWith pos f first (backTo pos (starEach [] env)) (backToKw pos (keywordEach [] env))) Q s :=
  cw rfl (ea_nil ⟨hk, h⟩)
theorem e_call {x : Str} {xp pos : Pos} {args : List Expr} {kws : List Keyword} {Q : Value → Shared → Prop}
    (h : N c A (eval (.Name x xp) env) (fun f s₁ => N c A (callWith pos f [] (backTo pos (starEach args env)) (backToKw pos (keywordEach kws env))) Q s₁) s) : N c A (eval (.Call (.Name x xp) args kws pos) env) Q s := by
  show N c A (do callWith pos (← eval (.Name x xp) env) [] (backTo pos (starEach args env)) (backToKw pos (keywordEach kws env))) Q s
  exact N.bind h
theorem e_meth {o : Expr} {name : Str} {apos pos : Pos} {args : List Expr} {kws : List Keyword} {pl : Sem Bool} {Q : Value → Shared → Prop}
    (h : N c A (eval o env) (fun ov s₁ => N c A (getMethod ov name pl) (fun fx s₂ => N c A (callWith pos fx.1 fx.2 (backTo pos (starEach args env)) (backToKw pos (keywordEach kws env))) Q s₂) s₁) s)
    (he : eval (.Call (.Attribute o name apos) args kws pos) env = (do
      let ov ← eval o env
      standAt apos.atName
      let (f, first) ← holding [ov] (getMethod ov name pl)
      callWith pos f first (backTo pos (starEach args env)) (backToKw pos (keywordEach kws env))) := by rfl) : N c A (eval (.Call (.Attribute o name apos) args kws pos) env) Q s := by
  rw [he]
  exact N.bind (h.mono fun ov s₁ h => N.standAt (N.bind (N.holding (h.mono fun fx s₂ h => h))))
end
end Mine

end
-- M3
section
open PySem PySem.W PySem.Calls PyProof.Rows
set_option maxRecDepth 100000
namespace Mine
open PySem.Sem (wp)

section
variable {c : Cx} {A : Around} {s : Shared} {L a : Addr} {m : Str → Option Value} {l k : List (Addr × Obj)} {cn : Str} {cs : Scope} {ccd : Value}

-- names
theorem r_loc {x : Str} {pos : Pos} {v : Value} {Q : Value → Shared → Prop} (S : St c L m l k s) (hv : m x = some v) (h : Q v s)
    (hk : cs.kind = .function := by rfl) (hl : (envOf cn cs L a ccd).kindOf x = some .local := by rfl) (hd : (x == ("__debug__" : Str)) = false := by decide) :
    N c A (eval (.Name x pos) (envOf cn cs L a ccd)) Q s := N.of (ld S.fr hv h hk hl hd)
theorem r_ldn {x : Str} {v : Value} {Q : Value → Shared → Prop} (S : St c L m l k s) (hv : m x = some v) (h : Q v s)
    (hk : cs.kind = .function := by rfl) (hl : (envOf cn cs L a ccd).kindOf x = some .local := by rfl) : N c A (loadName (envOf cn cs L a ccd) x) Q s := N.of (ldn S.fr hv h hk hl)
theorem r_glob {x : Str} {pos : Pos} {v : Value} {Q : Value → Shared → Prop} (S : St c L m l k s) (e : nsIn c.K mainGlobals x = some (some v)) (h : Q v s)
    (hk : cs.kind = .function := by rfl) (hx : (envOf cn cs L a ccd).kindOf x = some .globalImplicit := by rfl) (hd : (x == ("__debug__" : Str)) = false := by decide) :
    N c A (eval (.Name x pos) (envOf cn cs L a ccd)) Q s := N.of (name_K S.fr S.kin S.top e h hk hx hd)
theorem r_blt {x : Str} {pos : Pos} {v : Value} {Q : Value → Shared → Prop} (S : St c L m l k s) (e : nsIn c.K mainGlobals x = some none) (hv : bootBuiltins x = some v) (hn : x ≠ "__name__") (h : Q v s)
    (hk : cs.kind = .function := by rfl) (hx : (envOf cn cs L a ccd).kindOf x = some .globalImplicit := by rfl) (hd : (x == ("__debug__" : Str)) = false := by decide) :
    N c A (eval (.Name x pos) (envOf cn cs L a ccd)) Q s := N.of (name_B S.fr S.kin S.top e hv hn h hk hx hd)
theorem r_st {x : Str} {v : Value} {Q : Unit → Shared → Prop} (S : St c L m l k s) (h : ∀ s', St c L (fun y => if y = x then some v else m y) l k s' → Q () s')
    (hk : cs.kind = .function := by rfl) (hl : (envOf cn cs L a ccd).kindOf x = some .local := by rfl) : N c A (storeName (envOf cn cs L a ccd) x v) Q s :=
  N.of (wpAny_storeName_local hl S.fr.ns (fun h' hn hs => h _ (S.set hn hs)) (by show (cs.kind == .class || (cs.kind == .module && L != mainGlobals)) = false; rw [hk]; rfl))

-- constants
theorem r_cint {i : Int} {q : Nat} {pos : Pos} {env : Env} {Q : Value → Shared → Prop} (S : St c L m l k s) (h : ∀ t s', St c L m l k s' → Q (.int i t) s') : N c A (eval (.Constant (.int i) q pos) env) Q s :=
  N.of (wpAny_Constant_int (h _ _ S.tok))
theorem r_cnone {q : Nat} {pos : Pos} {env : Env} {Q : Value → Shared → Prop} (h : Q .none s) : N c A (eval (.Constant .none q pos) env) Q s := fun _ _ _ _ => h
theorem r_cbool {b : Bool} {q : Nat} {pos : Pos} {env : Env} {Q : Value → Shared → Prop} (h : Q (.bool b) s) : N c A (eval (.Constant (.bool b) q pos) env) Q s := fun _ _ _ _ => h

-- ints
variable {x y : Int} {t u : Tok}
theorem i_add {Q : Value → Shared → Prop} (S : St c L m l k s) (h : ∀ t s', St c L m l k s' → Q (.int (x + y) t) s') : N c A (binaryOp .Add (.int x t) (.int y u)) Q s := N.of (PyProof.Rows.add_int (h _ _ S.tok))
theorem i_sub {Q : Value → Shared → Prop} (S : St c L m l k s) (h : ∀ t s', St c L m l k s' → Q (.int (x - y) t) s') : N c A (binaryOp .Sub (.int x t) (.int y u)) Q s := N.of (PyProof.Rows.sub_int (h _ _ S.tok))
theorem i_mul {Q : Value → Shared → Prop} (S : St c L m l k s) (hm : IntMulOk x y) (h : ∀ t s', St c L m l k s' → Q (.int (x * y) t) s') : N c A (binaryOp .Mult (.int x t) (.int y u)) Q s := N.of (PyProof.Rows.mul_int (h _ _ S.tok) hm)
theorem i_mod {Q : Value → Shared → Prop} (S : St c L m l k s) (hb : y ≠ 0) (h : ∀ t s', St c L m l k s' → Q (.int (x.fmod y) t) s') : N c A (binaryOp .Mod (.int x t) (.int y u)) Q s := N.of (PyProof.Rows.mod_int' hb (h _ _ S.tok))
theorem i_div {Q : Value → Shared → Prop} (S : St c L m l k s) (hb : y ≠ 0) (hp : Builtin.divisionGoesByPylong x y = false) (h : ∀ t s', St c L m l k s' → Q (.int (x.fdiv y) t) s') : N c A (binaryOp .FloorDiv (.int x t) (.int y u)) Q s := N.of (PyProof.Rows.floordiv_int hb (h _ _ S.tok) (.inl hp))
theorem i_and {Q : Value → Shared → Prop} (S : St c L m l k s) (h : ∀ t s', St c L m l k s' → Q (.int (Builtin.bitAnd x y) t) s') : N c A (binaryOp .BitAnd (.int x t) (.int y u)) Q s := N.of (PyProof.Rows.and_int (h _ _ S.tok))
theorem i_inv {Q : Value → Shared → Prop} (S : St c L m l k s) (h : ∀ t s', St c L m l k s' → Q (.int (Builtin.bitNot x) t) s') : N c A (unaryOp .Invert (.int x t)) Q s := N.of (PyProof.Rows.invert_int (h _ _ S.tok))
theorem i_neg {Q : Value → Shared → Prop} (S : St c L m l k s) (h : ∀ t s', St c L m l k s' → Q (.int (-x) t) s') : N c A (unaryOp .USub (.int x t)) Q s := N.of (PyProof.Rows.neg_int (h _ _ S.tok))
theorem c_lt {Q : Value → Shared → Prop} (h : Q (.bool (decide (x < y))) s) : N c A (compareOp .Lt (.int x t) (.int y u)) Q s := N.of (PyProof.Rows.lt_int h)
theorem c_le {Q : Value → Shared → Prop} (h : Q (.bool (decide (x ≤ y))) s) : N c A (compareOp .LtE (.int x t) (.int y u)) Q s := N.of (PyProof.Rows.le_int h)
theorem c_gt {Q : Value → Shared → Prop} (h : Q (.bool (decide (y < x))) s) : N c A (compareOp .Gt (.int x t) (.int y u)) Q s := N.of (PyProof.Rows.gt_int h)
theorem c_eq {Q : Value → Shared → Prop} (h : Q (.bool (x == y)) s) : N c A (compareOp .Eq (.int x t) (.int y u)) Q s := N.of (PyProof.Rows.eq_int h)
theorem c_ne {Q : Value → Shared → Prop} (h : Q (.bool (x != y)) s) : N c A (compareOp .NotEq (.int x t) (.int y u)) Q s := N.of (PyProof.Rows.ne_int h)
theorem c_is {v w : Value} {Q : Value → Shared → Prop} (hp : plainIs v w = true) (h : Q (.bool (v == w)) s) : N c A (compareOp .Is v w) Q s := N.of (wpAny_is_plain hp h)
theorem c_isnot {v w : Value} {Q : Value → Shared → Prop} (hp : plainIs v w = true) (h : Q (.bool (!(v == w))) s) : N c A (compareOp .IsNot v w) Q s := N.of (wpAny_isNot_plain hp h)
theorem tr_bool {b : Bool} {Q : Bool → Shared → Prop} (h : Q b s) : N c A (truthy (.bool b)) Q s := N.of (wpAny_truthy_bool h)
theorem tr_none {Q : Bool → Shared → Prop} (h : Q false s) : N c A (truthy .none) Q s := N.of (PyProof.Rows.truthy_none h)
end

section
variable {c : Cx} {A : Around} {s : Shared} {L x C p dx : Addr} {m : Str → Option Value} {l k : List (Addr × Obj)} {name : Str} {v : Value} {i : Nat}

theorem findObj_data0 {K : Frag} {a g : Value} {od : Option Obj} (hc : (clsIn K C).isSome = true) (ha : findIn K (.ref C) name = some (some a)) (hg : specialIn K a "__get__" = some (some g)) (ht : takesIn K a = some true) : findObj K C od name = some (.bind g a) := by
  obtain ⟨cd, hc⟩ := Option.isSome_iff_exists.mp hc
  unfold findObj
  rw [hc, Option.bind_some, ha, Option.bind_some]
  simp [hg, ht]

/-- a slot of an instance without a dict, read -/
theorem b_get {expr : Bool} {Q : Value → Shared → Prop} {sl : Array (Option Value)} (S : St c L m l k s) (hx : (x, (⟨.ref C, some dx, .plain, sl⟩ : Obj)) ∈ l) (hg : plainGet c.K C name = true) (hc : isClsIn c.K C = true)
    (ha : findIn c.K (.ref C) name = some (some (.ref p))) (hn : specialIn c.K (.ref p) "__get__" = some (some (.builtin "member_descriptor.__get__"))) (ht : takesIn c.K (.ref p) = some true) (hp : slotIn c.K p C = some i)
    (hv : (sl[i]?).join = some v) (hh : handedIn v = true) (h : ∀ s', St c L m l k s' → Q v s') : N c A (getAttr (.ref x) name expr) Q s :=
  have X := S.X
  have I : InstAt s.heap x ⟨.ref C, some dx, .plain, sl⟩ C (some emptyDict) := ⟨S.get hx, rfl, rfl, S.idict hx rfl rfl⟩
  N.of (get_bind X I (plainGet_of hg).1 (findObj_data0 hc ha hn ht) (plainGet_of hg).2 (wpAny_call (slot_get (s := { s with toks := s.toks + 1 }) X I hp hv (handed_on hh (h _ S.tok)))))

theorem b_set {Q : Unit → Shared → Prop} {sl sl' : Array (Option Value)} (S : St c L m ((x, (⟨.ref C, some dx, .plain, sl⟩ : Obj)) :: l) k s)
    (hs : findIn c.K (.ref C) "__setattr__" = some (some (.builtin "object.__setattr__"))) (hp : plainOver c.K C = true) (ht : takerIn c.K C name = some (some (.ref p))) (hT : typeIn c.K (.ref p) = some (.type "member_descriptor")) (hi : slotIn c.K p C = some i) (hz : i < 1000)
    (e : (sl ++ Array.replicate (i + 1 - sl.size) none).setIfInBounds i (some v) = sl')
    (h : ∀ s', St c L m ((x, (⟨.ref C, some dx, .plain, sl'⟩ : Obj)) :: l) k s' → Q () s') : N c A (setAttr (.ref x) name v) Q s := by
  have X := S.X
  have I : InstAt s.heap x ⟨.ref C, some dx, .plain, sl⟩ C (some emptyDict) := ⟨S.get (.head _), rfl, rfl, S.idict (.head _) rfl rfl⟩
  obtain ⟨D, hD, S⟩ := S
  have W := S.nw
  rw [List.cons_append] at W
  exact N.of (set_plain X I hs (osa_descr (s := { s with toks := s.toks + 1 }) KF.slot_mset X I hp ht hT
    (slot_set (s := { s with toks := s.toks + 1 }) (pre := []) (post := l ++ (k ++ dl D)) (ox' := ⟨.ref C, some dx, .plain, sl'⟩) S.fr W X I hi hz (fun _ h => nomatch h)
      S.head_apart (by rw [← e]) rfl fun h' F' N' => h _ ⟨D, hD.same (.inr ⟨rfl, rfl⟩), S.of_head F' N'⟩)))

/-- a method of such an instance -/
theorem b_meth {f : Addr} {pl : Sem Bool} {Q : Value × List Value → Shared → Prop} {sl : Array (Option Value)} (S : St c L m l k s) (hx : (x, (⟨.ref C, some dx, .plain, sl⟩ : Obj)) ∈ l) (hg : plainGet c.K C name = true)
    (hf : findIn c.K (.ref C) name = some (some (.ref f))) (ht : isFn c.K (.ref f) = true) (h : Q (.ref f, [.ref x]) s) : N c A (getMethod (.ref x) name pl) Q s :=
  have I : InstAt s.heap x ⟨.ref C, some dx, .plain, sl⟩ C (some emptyDict) := ⟨S.get hx, rfl, rfl, S.idict hx rfl rfl⟩
  N.of (method_fn S.X I (plainGet_of hg).1 (plainGet_of hg).2 hf (beq_iff_eq.mp ht) rfl h)

/-- an attribute of a class of the text -/
theorem k_attr {mc a : Value} {expr : Bool} {Q : Value → Shared → Prop} (S : St c L m l k s) (hm : typeIn c.K (.ref C) = some mc) (hr : readsIn c.K C mc = true) (e : findCls c.K (.ref C) mc name = some (.val a)) (hh : handedIn a = true)
    (h : ∀ s', St c L m l k s' → Q a s') : N c A (getAttr (.ref C) name expr) Q s := N.of (cls_val S.fr S.kin hm hr e hh (h _ S.tok))
/-- the same, called -/
theorem k_meth {mc a : Value} {pl : Sem Bool} {Q : Value × List Value → Shared → Prop} (S : St c L m l k s) (hg : specialIn c.K (.ref C) "__getattribute__" = some (some (.builtin "type.__getattribute__"))) (hm : typeIn c.K (.ref C) = some mc) (hr : readsIn c.K C mc = true) (e : findCls c.K (.ref C) mc name = some (.val a)) (hh : handedIn a = true)
    (h : ∀ s', St c L m l k s' → Q (a, []) s') : N c A (getMethod (.ref C) name pl) Q s := N.of (method_of_cls S.fr S.kin hg (cls_val S.fr S.kin hm hr e hh (h _ S.tok)))
end
end Mine

end
-- M3b
section
open PySem PySem.W PySem.Calls PyProof.Rows Builtin Builtin.ObjectAttr
set_option maxRecDepth 100000
namespace Mine
section
variable {prog : Program} {w : World} {A : Around} {E : Value → Shared → Prop} {s : Shared} {K : Frag} {C : Addr} {name : Str} {T : String}
theorem tga_type {tk : Tok} {Q : PySem.Fin → Shared → Prop} (X : K.In s.heap) (ho : Looks (model prog w) s.heap (opaqueClassAbove (.ref C)) none) (ht : Looks (model prog w) s.heap (typeOf (.ref C)) (.type "type"))
    (hm : findIn K (.type "type") name = some none) (hc : findIn K (.ref C) name = some (some (.type T))) (hheld : heldUnderItsOwnName name (.type T) = false) (hT : typeOf (.type T) = pure (.type "type"))
    (hg : findIn K (.type "type") "__get__" = some none) (h : Q (.done (.ret (.type T))) s) : wpAny (model prog w) A (Builtin.«type.__getattribute__» ⟨[.ref C, .str name tk], []⟩) Q E s := by
  obtain ⟨hh, g, d, t, os⟩ := s
  dsimp only at X ho ht
  have L1 := looks_findIn (M := model prog w) X hm
  have L2 := looks_findIn (M := model prog w) X hc
  have L3 : Looks (model prog w) hh (typeOf (.type T)) (.type "type") := Looks.of_pure hT
  have L4 := looks_findIn (M := model prog w) X hg
  unfold Builtin.«type.__getattribute__»
  refine wpAny_bind (wpAny_pure (wpAny_bind (ho.at (wpAny_bind (ht.at (wpAny_bind (L1.at ?_)))))))
  dsimp only
  refine wpAny_bind (wpAny_pure (wpAny_bind (L2.at ?_)))
  dsimp only
  rw [if_neg (by rw [hheld]; decide)]
  refine wpAny_bind (L3.at ?_)
  rw [if_neg (by decide)]
  unfold specialOf
  refine wpAny_bind (wpAny_bind (L3.at (L4.at ?_)))
  dsimp only
  exact wpAny_bind (handed_on rfl (wpAny_pure h))

theorem py_get {expr : Bool} {Q : Value → Shared → Prop} (X : K.In s.heap) (hr : readsIn K C (.type "type") = true)
    (hm : findIn K (.type "type") name = some none) (hc : findIn K (.ref C) name = some (some (.type T))) (hheld : heldUnderItsOwnName name (.type T) = false) (hT : typeOf (.type T) = pure (.type "type"))
    (hg : findIn K (.type "type") "__get__" = some none) (h : Q (.type T) { s with toks := s.toks + 1 }) : wpAny (model prog w) A (getAttr (.ref C) name expr) Q E s := by
  simp only [readsIn, Bool.and_eq_true, beq_iff_eq] at hr
  obtain ⟨⟨⟨⟨a, b⟩, c'⟩, d⟩, f⟩ := hr
  obtain ⟨hk, d⟩ := Option.isSome_iff_exists.mp d
  have ho := looks_opaque (M := model prog w) X (C := C) a
  have ht := looks_typeIn (M := model prog w) X b
  have hb := looks_hook (M := model prog w) X d
  refine wpAny_bind (wpAny_mkText (wpAny_holding (wpAny_bind (ht _ _ _ _ (fun _ _ e => e) (wpAny_bind (looks_findIn X c' _ _ _ _ (fun _ _ e => e) ?_))))))
  dsimp only
  rw [show (onTheHeap (.type "type") && Value.builtin "type.__getattribute__" == Value.builtin "object.__getattribute__") = false from rfl, if_neg (by decide)]
  refine wpAny_bind (hb _ _ _ _ (fun _ _ e => e) (wpAny_bind (wpAny_attempt (wpAny_holding ?_))))
  unfold callGetattribute
  rw [show (expr && onTheHeap (Value.builtin "type.__getattribute__")) = false from Bool.and_false _, if_neg (by decide)]
  unfold boundAndCalled
  rw [KF.slot_tga.bind]
  refine wpAny_bind (wpAny_pure (wpAny_call (codeAny_call_builtin KF.slot_tga.plain KF.entry_tga ?_)))
  refine @check_slot (model prog w) _ _ { s with toks := s.toks + 1 } "type.__getattribute__" "type" "__getattribute__" (.ref C) [.str name s.toks] [] _ (by decide +kernel) (by decide +kernel) (ht.andThen (looks_subIn X f)) (KF.args_tga (.ref C) (.str name s.toks)) ?_
  exact tga_type (s := { s with toks := s.toks + 1 }) X ho ht hm hc hheld hT hg (handed_on rfl h)
end
section
variable {c : Cx} {A : Around} {s : Shared} {L C : Addr} {m : Str → Option Value} {l k : List (Addr × Obj)} {name : Str} {T : String}
/-- a class's attribute that is a built-in type, called as a method would be -/
theorem t_meth {pl : Sem Bool} {Q : Value × List Value → Shared → Prop} (S : St c L m l k s) (hr : readsIn c.K C (.type "type") = true)
    (hm : findIn c.K (.type "type") name = some none) (hc : findIn c.K (.ref C) name = some (some (.type T))) (hheld : heldUnderItsOwnName name (.type T) = false) (hT : typeOf (.type T) = pure (.type "type"))
    (hg : findIn c.K (.type "type") "__get__" = some none) (h : ∀ s', St c L m l k s' → Q (.type T, []) s') : N c A (getMethod (.ref C) name pl) Q s := by
  have hr' := hr
  simp only [readsIn, Bool.and_eq_true, beq_iff_eq] at hr'
  obtain ⟨⟨⟨⟨_, b⟩, c'⟩, _⟩, _⟩ := hr'
  exact N.of (method_of_cls S.fr S.kin (show specialIn c.K (.ref C) "__getattribute__" = _ by unfold specialIn; rw [b]; exact c') (py_get S.X hr hm hc hheld hT hg (h _ S.tok)))
end
end Mine

end
-- M4
section
open PySem PySem.W PySem.Calls PyProof.Rows Builtin
set_option maxRecDepth 100000
namespace Mine
namespace BF
theorem mro : mroOf (.type "bytearray") = pure [.type "bytearray", .type "object"] := by rw [mroOf_type]; kernel_rfl
theorem lookup_new : typeLookup (.type "bytearray") "__new__" = pure (some (.builtin "bytearray.__new__")) := by rw [typeLookup_type, builtinLookup_eq_fast]; kernel_rfl
theorem slot_init : Slot "bytearray" "__init__" "bytearray.__init__" :=
  .of (owner := "bytearray") (n := "__init__") (by rw [typeLookup_type, builtinLookup_eq_fast]; kernel_rfl) (by decide +kernel) (by decide +kernel) (by decide +kernel)
    (by first | exact .inl (by decide +kernel) | exact .inr (by decide +kernel)) (by rw [isSubtype_type]; kernel_rfl)
theorem called : TypeCalled "bytearray" "bytearray.__new__" "bytearray.__init__" :=
  ⟨by decide +kernel, by decide +kernel, ⟨_, _, mro⟩, madeBy_type mro lookup_new (by decide +kernel), by decide +kernel, by rw [isSubtype_type]; kernel_rfl, slot_init⟩
theorem typeCall (a : Value) : checkTypeCall "bytearray" ⟨[a], []⟩ = pure () := by kernel_rfl
theorem newCall (a : Value) : checkBuiltinCall "bytearray.__new__" ⟨[.type "bytearray", a], []⟩ = pure () := by kernel_rfl
theorem plain_new : plainId "bytearray.__new__" = true := by decide +kernel
theorem entry_new : entryFor table "bytearray.__new__" = some Builtin.«list.__new__» := entryFor_alias (id' := "list.__new__") (by rw [fastTable_eq_tree]; kernel_rfl) (by first | rfl | decide +kernel) (by decide +kernel) (by rw [fastTable_eq_tree]; kernel_rfl)
theorem entry_init : entryFor table "bytearray.__init__" = some Builtin.«bytearray.__init__» := by first | exact entryFor_of_tree (by kernel_rfl) | exact entryFor_of_fast (by kernel_rfl)
theorem args_init (a b : Value) : argsOk "bytearray.__init__" ⟨[a, b], []⟩ := by unfold argsOk; kernel_rfl
theorem sub_self : isSubtype (.type "bytearray") (.type "bytearray") = pure true := by rw [isSubtype_type]; kernel_rfl
set_option maxRecDepth 1000000 in
set_option maxHeartbeats 4000000 in
theorem owner : ("bytearray.__new__".splitOn ".__new__").headD "" = "bytearray" := by simp +decide [String.splitOn, String.splitOnAux]
theorem bind (v : Value) : Bytes.bindOptional "bytearray.__init__" "bytearray" ["source", "encoding", "errors"] [v] [] = pure [some v, none, none] := by kernel_rfl
theorem look_release : typeLookup (.type "bytearray") "__release_buffer__" = pure (some (.builtin "bytearray.__release_buffer__")) := by rw [typeLookup_type, builtinLookup_eq_fast]; kernel_rfl
theorem look_buffer : typeLookup (.type "bytearray") "__buffer__" = pure (some (.builtin "bytearray.__buffer__")) := by rw [typeLookup_type, builtinLookup_eq_fast]; kernel_rfl
end BF

section
variable {prog : Program} {w : World} {A : Around} {E : Value → Shared → Prop} {s : Shared}
abbrev baObj (b : List UInt8) : Obj := { cls := .type "bytearray", data := .bytearray b.toArray 0 }
theorem code_ba_new (a : Value) {Q₁ : Value → Shared → Prop}
    (h : Q₁ (.ref s.heap.objs.size) { s with heap := s.heap.push (baObj []) }) :
    codeAny (model prog w) A (.call (.builtin "bytearray.__new__") ⟨[.type "bytearray", a], []⟩) (wants Q₁ E) s := by
  refine codeAny_of_tree ?_
  show wpAny _ A.in1 (do checkBuiltinCall "bytearray.__new__" ⟨[.type "bytearray", a], []⟩; again (.builtin "bytearray.__new__" ⟨[.type "bytearray", a], []⟩)) _ _ s
  refine wpAny_bind (wpAny_of_eq (BF.newCall a) (wpAny_pure ⟨plainId_quiet BF.plain_new _, codeAny_builtin_stack BF.entry_new rfl fun p st => ?_⟩))
  rw [Around.under_plainId BF.plain_new _]
  have hsub := BF.sub_self
  have hown := BF.owner
  obtain ⟨hp, g, d, tk, os⟩ := s
  simp only [hown]
  wp_walk
  exact h
end
end Mine

end
-- M4b
section
open PySem PySem.W PySem.Calls PyProof.Rows Builtin
set_option maxRecDepth 100000
set_option linter.unusedVariables false
set_option linter.deprecated false
namespace Mine
open PySem.Sem (wp)
theorem N.if_neg {c : Cx} {A : Around} {s : Shared} {α : Type} {p : Prop} [Decidable p] {t u : Sem α} {Q : α → Shared → Prop} (hp : ¬ p) (h : N c A u Q s) : N c A (if p then t else u) Q s := by rw [_root_.if_neg hp]; exact h
theorem N.if_pos {c : Cx} {A : Around} {s : Shared} {α : Type} {p : Prop} [Decidable p] {t u : Sem α} {Q : α → Shared → Prop} (hp : p) (h : N c A t Q s) : N c A (if p then t else u) Q s := by rw [_root_.if_pos hp]; exact h
theorem N.boolneg {c : Cx} {A : Around} {s : Shared} {α : Type} {b : Bool} {t u : Sem α} {Q : α → Shared → Prop} (hp : b = false) (h : N c A u Q s) : N c A (if b = true then t else u) Q s := by subst hp; exact h
theorem N.boolpos {c : Cx} {A : Around} {s : Shared} {α : Type} {b : Bool} {t u : Sem α} {Q : α → Shared → Prop} (hp : b = true) (h : N c A t Q s) : N c A (if b = true then t else u) Q s := by subst hp; exact h


section
variable {c : Cx} {A : Around} {s : Shared}

/-- the answer of a code's tree -/
def Ans (c : Cx) (A : Around) (R : Flow → Shared → Prop) (fin : PySem.Fin) (s' : Shared) : Prop := match fin with | .done f => R f s' | .again c' => c'.quiet = true ∧ NC c A c' R s'

theorem Ans.mono {R R' : Flow → Shared → Prop} {fin : PySem.Fin} (h : Ans c A R fin s) (hR : ∀ f s, R f s → R' f s) : Ans c A R' fin s := by
  cases fin with
  | done f => exact hR _ _ h
  | again c' => exact ⟨h.1, h.2.mono hR⟩
theorem NC.builtin {id : String} {args : Args} {b : Builtin} {R : Flow → Shared → Prop} (hd : Bytes.decodersThatHold.contains id = false) (hb : entryFor table id = some b)
    (h : N c (A.under (.builtin id args)) (b args) (Ans c A R) s) : NC c A (.builtin id args) R s := by
  refine NC.tree hd ?_
  show N c _ (match entryFor table id with | some b => b args | none => unsupported ((withoutEnding? id "#data").getD id)) _ s
  rw [hb]; exact h.mono fun fin s' h' => by cases fin <;> exact h'
theorem NC.callB {id : String} {args : Args} {b : Builtin} {R : Flow → Shared → Prop} (hq : plainId id = true) (hd : Bytes.decodersThatHold.contains id = false) (hb : entryFor table id = some b)
    (h : N c A.in1 (checkBuiltinCall id args) (fun _ s₁ => N c A.in1 (b args) (Ans c A R) s₁) s) : NC c A (.call (.builtin id) args) R s := by
  refine NC.tree rfl ?_
  show N c A.in1 (do checkBuiltinCall id args; again (.builtin id args)) _ s
  refine N.bind (h.mono fun _ s₁ h₁ => N.pure ⟨plainId_quiet hq args, NC.builtin hd hb (by rw [Around.under_plainId hq args]; exact h₁)⟩)

theorem notGuard {A : Around} {Γ : Ctx} (h : Γ.In A) (hg : A.guards = some []) : Γ.code.isGuard = false ∧ ∀ x ∈ Γ.below, x.1.isGuard = false := by
  have e := h.2.2.2.1 _ hg
  have e := List.append_eq_nil_iff.mp e
  constructor
  · have z := e.1
    unfold Code.guards at z
    split at z
    · cases z
    · simp_all
  · intro x hx
    have z := List.filter_eq_nil_iff.mp e.2 x.1 (List.mem_map_of_mem hx)
    simpa using z
def expP (self : Value) : Code × Pos → Bool
    | (.builtin "bytearray.__contains__" ⟨v :: _, _⟩, _) | (.builtin "bytearray.__mod__" ⟨v :: _, _⟩, _)
    | (.builtin "bytearray.__rmod__" ⟨_ :: v :: _, _⟩, _) | (.builtin "_struct.pack_into.held" ⟨v :: _, _⟩, _) => Bytes.sameRef v self
    | (.builtin "bytearray.find.held" ⟨_ :: _ :: held, _⟩, _) => held.any (Bytes.sameRef self)
    | (.builtin i ⟨v :: _, _⟩, _) => Bytes.sameRef v self && Bytes.decodersThatHold.contains i
    | _ => false
theorem not_exp {x : Code × Pos} {self : Value} (h1 : x.1.isGuard = false) (h2 : dec x.1 = false) : expP self x = false := by
  obtain ⟨cd, p⟩ := x
  unfold expP
  split
  · rename_i heq; cases heq; simp [Code.isGuard, guardIds] at h1
  · rename_i heq; cases heq; simp [Code.isGuard, guardIds] at h1
  · rename_i heq; cases heq; simp [Code.isGuard, guardIds] at h1
  · rename_i heq; cases heq; simp [Code.isGuard, guardIds] at h1
  · rename_i heq; cases heq; simp [Code.isGuard, guardIds] at h1
  · rename_i heq; cases heq
    have : Bytes.decodersThatHold.contains _ = false := h2
    rw [this, Bool.and_false]
  · rfl
theorem n_exported {self : Value} {Q : Bool → Shared → Prop} (hg : A.guards = some []) (h : Q false s) : N c A (Bytes.exported self) Q s := fun Γ p hΓ hc => by
  have g := notGuard hΓ hg
  have e : ((Γ.code, p) :: Γ.below).any (expP self) = false := by
    rw [List.any_cons, not_exp (x := (Γ.code, p)) g.1 hc.1, Bool.false_or, List.any_eq_false]
    intro x hx
    rw [not_exp (g.2 x hx) (hc.2 x hx)]
    decide
  rw [← e] at h
  exact h

theorem n_callType {T newId initId : String} {Bi : Builtin} {args : List Value} {Q : Value → Shared → Prop} (ft : TypeCalled T newId initId)
    (hct : checkTypeCall T ⟨args, []⟩ = pure ()) (hdi : Bytes.decodersThatHold.contains initId = false) (entryI : entryFor table initId = some Bi)
    (hnew : NC c A.in1 (.call (.builtin newId) ⟨.type T :: args, []⟩) (fun f s₁ => match f with
      | .ret obj => s₁.TypeIs obj T ∧ argsOk initId ⟨obj :: args, []⟩ ∧ N c A.in1.in1 (Bi ⟨obj :: args, []⟩) (Ans c A.in1 fun f s₂ => f = .ret .none ∧ Q obj s₂) s₁
      | _ => False) s) : N c A (call (.type T) args) Q s := by
  obtain ⟨cc, tl, hmro⟩ := ft.mro
  have hmade := ft.made
  have hsub := ft.sub
  refine N.call (NC.tree rfl ?_)
  show N c A.in1 (callAny (.type T) _) _ _
  refine N.pure ⟨Code.quiet_builtin _ (by decide +kernel), NC.builtin (by decide +kernel) F.entry_type_call ?_⟩
  rw [Around.under_plain (weight_type_call_type T args []) rfl]
  have h1 := ft.notType
  have h2 := ft.canCreate
  (unfold PySem.Builtin.«type.__call__»; try dsimp only)
  ((with_reducible apply N.if_neg); focus (simp [*]; done))
  ((with_reducible apply N.if_neg); focus (simp [*]; done))
  with_reducible refine N.bind ?_
  with_reducible refine N.of (wpAny_of_eq (by assumption) ?_)
  with_reducible refine N.bind ?_
  with_reducible refine N.of (wpAny_of_eq (by assumption) ?_)
  ((with_reducible apply N.boolneg); focus (rfl; done))
  with_reducible refine N.bind ?_
  with_reducible refine N.of (wpAny_of_eq (by assumption) ?_)
  with_reducible refine N.bind ?_
  with_reducible refine N.pure ?_
  with_reducible refine N.bind ?_
  with_reducible refine N.holding ?_
  refine N.call (hnew.mono fun f s₁ hr => ?_)
  cases f with
  | ret obj =>
    obtain ⟨hT, hok, hsi⟩ := hr
    have hli := ft.init.lookup
    have hbi := ft.init.bind obj
    with_reducible refine N.bind ?_
    with_reducible refine N.of (wpAny_isInstance (by assumption) (by assumption) ?_)
    ((with_reducible apply N.boolneg); focus (rfl; done))
    with_reducible refine N.bind ?_
    with_reducible refine N.holding ?_
    (unfold PySem.callSpecial?; try dsimp only)
    with_reducible refine N.bind ?_
    with_reducible refine N.of (wpAny_specialOf (by assumption) (by assumption) ?_)
    with_reducible refine N.holding ?_
    with_reducible refine N.bind ?_
    with_reducible refine N.of (wpAny_of_eq (by assumption) ?_)
    with_reducible refine N.bind ?_
    refine N.call (NC.callB ft.init.plain hdi entryI (N.of (ft.init.check _ _ _ _ _ _ _ _ hT hok (hsi.mono fun fin s₂ h₂ => h₂.mono ?_))))
    rintro f s₂ ⟨rfl, hq⟩
    with_reducible refine N.pure ?_
    ((with_reducible apply N.boolneg); focus (rfl; done))
    try dsimp only
    (unfold PySem.ret; try dsimp only)
    with_reducible refine N.pure ?_
    assumption
  | _ => exact hr.elim
end
end Mine

end
-- M4c
section
open PySem PySem.W PySem.Calls PyProof.Rows Builtin
set_option maxRecDepth 100000
set_option linter.unusedVariables false
set_option linter.deprecated false
namespace Mine
open PySem.Sem (wp)
namespace BF
theorem own_release : ("bytearray.__release_buffer__".dropRight (("__release_buffer__" : String).length + 1)) = "bytearray" := by decide +kernel
theorem ends_release : ("bytearray.__release_buffer__".endsWith ("." ++ "__release_buffer__")) = true := by decide +kernel
theorem int_index : typeLookup (.type "int") "__index__" = pure (some (.builtin "int.__index__")) := by rw [typeLookup_type, builtinLookup_eq_fast]; kernel_rfl
theorem bytes_index : typeLookup (.type "bytes") "__index__" = pure none := by rw [typeLookup_type, builtinLookup_eq_fast]; kernel_rfl
theorem ba_index : typeLookup (.type "bytearray") "__index__" = pure none := by rw [typeLookup_type, builtinLookup_eq_fast]; kernel_rfl
theorem bytes_buffer : typeLookup (.type "bytes") "__buffer__" = pure (some (.builtin "bytes.__buffer__")) := by rw [typeLookup_type, builtinLookup_eq_fast]; kernel_rfl
theorem bytes_release : typeLookup (.type "bytes") "__release_buffer__" = pure none := by rw [typeLookup_type, builtinLookup_eq_fast]; kernel_rfl
theorem bytes_own : ("bytes.__buffer__".dropRight (("__buffer__" : String).length + 1)) = "bytes" := by decide +kernel
theorem bytes_ends : ("bytes.__buffer__".endsWith ("." ++ "__buffer__")) = true := by decide +kernel
theorem bytes_sub : isSubtype (.type "bytes") (.type "bytes") = pure true := by rw [isSubtype_type]; kernel_rfl
theorem own_buffer : ("bytearray.__buffer__".dropRight (("__buffer__" : String).length + 1)) = "bytearray" := by decide +kernel
theorem ends_buffer : ("bytearray.__buffer__".endsWith ("." ++ "__buffer__")) = true := by decide +kernel
end BF
section
variable {M : Model} {A : Around} {E : Value → Shared → Prop} {s : Shared}
theorem wpAny_slotIsOwn {v : Value} {T name id owner : String} {Q : Bool → Shared → Prop} (hT : Looks M s.heap (typeOf v) (.type T)) (hl : typeLookup (.type T) (name : Str) = pure (some (.builtin id))) (he : id.endsWith ("." ++ name) = true)
    (ho : id.dropRight (name.length + 1) = owner) (hs : isSubtype (.type T) (.type owner) = pure true) (h : Q true s) : wpAny M A (Bytes.slotIsOwn v name) Q E s := by
  unfold Bytes.slotIsOwn
  refine wpAny_bind ?_
  unfold specialOf
  refine wpAny_bind (hT.at (wpAny_of_eq hl ?_))
  dsimp only
  rw [he, ho]
  refine wpAny_ite_false (by rfl) ?_
  unfold isInstance
  exact wpAny_bind (hT.at (wpAny_of_eq hs h))
end
section
variable {c : Cx} {A : Around} {s : Shared} {L d : Addr} {m : Str → Option Value} {l k : List (Addr × Obj)}
theorem ba_looks {b : List UInt8} {M : Model} {h : Heap} (ho : h.get? d = some (baObj b)) : Looks M h (typeOf (.ref d)) (.type "bytearray") := (Looks.ld ho).andThen .now
theorem ownRel {b : List UInt8} {Q : Bool → Shared → Prop} (ho : s.heap.get? d = some (baObj b)) (h : Q false s) : N c A (Bytes.ownRelease (.ref d)) Q s :=
  N.of (wpAny_bind (wpAny_slotIsOwn (ba_looks ho) BF.look_release BF.ends_release BF.own_release BF.sub_self (wpAny_pure h)))
theorem ba_exports {b : List UInt8} {Q : Nat → Shared → Prop} (ho : s.heap.get? d = some (baObj b)) (h : Q 0 s) : N c A (Bytes.exportsOf (.ref d)) Q s :=
  N.of (wpAny_bind (wpAny_load ho (wpAny_pure h)))
theorem ba_payload? {b : List UInt8} {Q : Option (Array UInt8) → Shared → Prop} (ho : s.heap.get? d = some (baObj b)) (h : Q (some b.toArray) s) : N c A (Bytes.payload? (.ref d)) Q s :=
  N.of (wpAny_bind (wpAny_load ho (wpAny_pure h)))
theorem ba_payload {b : List UInt8} {Q : Array UInt8 → Shared → Prop} (ho : s.heap.get? d = some (baObj b)) (h : Q b.toArray s) : N c A (Bytes.payload (.ref d)) Q s :=
  N.bind (ba_payload? ho (N.pure h))
theorem ba_write {b b' : List UInt8} {f : Array UInt8 → Array UInt8} {Q : Unit → Shared → Prop} (S : St c L m ((d, baObj b) :: l) k s) (e : (f b.toArray) = b'.toArray) (hz : b'.length ≤ 16777216)
    (h : ∀ s', St c L m ((d, baObj b') :: l) k s' → Q () s') : N c A (Bytes.write (.ref d) f) Q s := by
  have ho := S.get (.head _)
  have S' : St c L m ((d, baObj b') :: l) k { s with heap := s.heap.update d (Obj.mapBytearray f), toks := s.toks } :=
    St.upd (t := s.toks) (f := Obj.mapBytearray f) (o := baObj b) S (by show ({ cls := _, data := .bytearray (f b.toArray) 0 } : Obj) = _; rw [e]) rfl
  refine N.of ?_
  show wpAny _ _ (updateBytearray d f) _ _ _
  unfold updateBytearray
  refine wpAny_bind (wpAny_load ho ?_)
  refine wpAny_bind (wpAny_update ho ?_)
  refine wpAny_lookBehind (S'.get (.head _)) ?_ (h _ S')
  show (if b'.toArray.size > sizeLine then some "bytearray:memory" else none) = none
  rw [_root_.if_neg]
  rw [sizeLine_eq, List.size_toArray]; omega
theorem exp_both {b : List UInt8} {Q : Bool → Shared → Prop} (hg : A.guards = some []) (ho : s.heap.get? d = some (baObj b)) (h : Q false s) : N c A (Bytes.exported (.ref d) <||> (do return (← Bytes.exportsOf (.ref d)) > 0)) Q s :=
  N.bind (n_exported hg (N.bind (ba_exports ho (N.pure h))))
/-- the octets of a bytes-like thing -/
structure Octets (M : Model) (h : Heap) (v : Value) (x : Array UInt8) : Prop where
  ty : ∃ T id owner, Looks M h (typeOf v) (.type T) ∧ typeLookup (.type T) (("__buffer__" : String) : Str) = pure (some (.builtin id)) ∧ id.endsWith ("." ++ "__buffer__") = true ∧
    id.dropRight (("__buffer__" : String).length + 1) = owner ∧ isSubtype (.type T) (.type owner) = pure true ∧ (id = "bytes.__buffer__" ∨ id = "bytearray.__buffer__")
  own : Looks M h (Bytes.ownRelease v) false
  pay : Looks M h (Bytes.payload v) x
theorem Octets.bytes {M : Model} {h : Heap} {x : Array UInt8} {t : Tok} : Octets M h (.bytes x t) x where
  ty := ⟨"bytes", "bytes.__buffer__", "bytes", Looks.of_pure rfl, BF.bytes_buffer, BF.bytes_ends, BF.bytes_own, BF.bytes_sub, .inl rfl⟩
  own := fun A Q E s _ q => by
    unfold Bytes.ownRelease
    refine wpAny_bind ?_
    unfold Bytes.slotIsOwn
    refine wpAny_bind ?_
    unfold specialOf
    exact wpAny_bind (wpAny_pure (wpAny_of_eq BF.bytes_release (wpAny_pure (wpAny_pure q))))
  pay := Looks.of_pure rfl
theorem Octets.ba {M : Model} {h : Heap} {b : List UInt8} (ho : h.get? d = some (baObj b)) : Octets M h (.ref d) b.toArray where
  ty := ⟨"bytearray", "bytearray.__buffer__", "bytearray", ba_looks ho, BF.look_buffer, BF.ends_buffer, BF.own_buffer, BF.sub_self, .inr rfl⟩
  own := fun A Q E s k q => wpAny_bind (wpAny_slotIsOwn ((ba_looks ho).keeps k) BF.look_release BF.ends_release BF.own_release BF.sub_self (wpAny_pure q))
  pay := (show Looks M h (Bytes.payload? (.ref d)) (some b.toArray) from (Looks.ld ho).andThen .now).andThen .now
theorem buf_octets {M : Model} {E : Value → Shared → Prop} {v : Value} {x : Array UInt8} {i : String} {full : Bool} {Q : Option (Array UInt8) → Shared → Prop} (O : Octets M s.heap v x) (h : Q (some x) s) : wpAny M A (Bytes.buffer? i v full) Q E s := by
  obtain ⟨⟨T, id', owner, hT, hl, he, ho, hsub, hid⟩, own, pay⟩ := O
  have sp : Looks M s.heap (specialOf v "__buffer__") (some (.builtin id')) := hT.andThen (Looks.of_pure hl)
  unfold Bytes.buffer?
  refine wpAny_bind (sp.here ?_)
  dsimp only
  refine wpAny_bind (wpAny_slotIsOwn hT hl he ho hsub ?_)
  refine wpAny_ite_false rfl ?_
  refine wpAny_bind (sp.here ?_)
  rcases hid with rfl | rfl
  · exact wpAny_bind (own.here (wpAny_ite_false rfl (wpAny_bind (pay.here (wpAny_pure h)))))
  · exact wpAny_bind (own.here (wpAny_ite_false rfl (wpAny_bind (pay.here (wpAny_pure h)))))
theorem init_int {n : Int} {t : Tok} {Q : PySem.Fin → Shared → Prop} {b : List UInt8} (hg : A.guards = some []) (h0 : 0 ≤ n) (h1 : n ≤ 16777216) (S : St c L m ((d, baObj b) :: l) k s)
    (h : ∀ s', St c L m ((d, baObj (List.replicate n.toNat 0)) :: l) k s' → Q (.done (.ret .none)) s') : N c A (Builtin.«bytearray.__init__» ⟨[.ref d, .int n t], []⟩) Q s := by
  have ho := St.get S (.head _)
  have hb := BF.bind (.int n t)
  unfold Builtin.«bytearray.__init__»
  refine N.bind (ownRel ho ?_)
  refine N.boolneg rfl ?_
  refine N.bind (N.of (wpAny_of_eq hb ?_))
  refine N.bind (N.pure (N.bind (N.pure ?_)))
  refine N.bind (exp_both hg ho ?_)
  refine N.boolneg rfl ?_
  refine N.bind (ba_write S rfl (Nat.zero_le _) fun s' S' => ?_)
  refine N.bind (N.of (wpAny_of_eq (rfl : asStr? (.int n t) = pure none) ?_))
  refine N.boolneg rfl ?_
  refine N.bind (N.pure ?_)
  refine N.bind (N.of (wpAny_bind (wpAny_pure (wpAny_of_eq BF.int_index ?_))))
  refine N.boolpos rfl ?_
  rw [show asIndex (.int n t) = pure n from rfl]
  refine N.bind (N.of (wpAny_attempt (wpAny_pure ?_)))
  refine N.boolneg (by simp [Bytes.fitsIndex]; omega) ?_
  refine N.if_neg (by omega) ?_
  refine N.boolneg (by simp; omega) ?_
  refine N.boolneg (by simp [Bytes.tooLong, sizeLine_eq]; omega) ?_
  refine N.bind (N.of (wpAny_rule ?_))
  by_cases hn : n > 0
  · refine N.if_pos hn (N.bind (ba_write S' (b' := List.replicate n.toNat 0) ?_ (by simp; omega) fun s'' S'' => N.pure (h _ S'')))
    simp
  · refine N.if_neg hn (N.pure (h _ ?_))
    rw [show n.toNat = 0 by omega]
    exact S'
theorem init_bytes {v : Value} {x : Array UInt8} {Q : PySem.Fin → Shared → Prop} {b : List UInt8} (hg : A.guards = some []) (hz : x.size ≤ 16777216) (S : St c L m ((d, baObj b) :: l) k s) (hv : asStr? v = pure none)
    (hi : ∀ s', St c L m ((d, baObj []) :: l) k s' → Looks c.M s'.heap (specialOf v "__index__") none ∧ Octets c.M s'.heap v x)
    (h : ∀ s', St c L m ((d, baObj x.toList) :: l) k s' → Q (.done (.ret .none)) s') : N c A (Builtin.«bytearray.__init__» ⟨[.ref d, v], []⟩) Q s := by
  have ho := St.get S (.head _)
  have hb := BF.bind v
  unfold Builtin.«bytearray.__init__»
  refine N.bind (ownRel ho ?_)
  refine N.boolneg rfl ?_
  refine N.bind (N.of (wpAny_of_eq hb ?_))
  refine N.bind (N.pure (N.bind (N.pure ?_)))
  refine N.bind (exp_both hg ho ?_)
  refine N.boolneg rfl ?_
  refine N.bind (ba_write S rfl (Nat.zero_le _) fun s' S' => ?_)
  refine N.bind (N.of (wpAny_of_eq hv ?_))
  refine N.boolneg rfl ?_
  refine N.bind (N.pure ?_)
  obtain ⟨h1, h2⟩ := hi _ S'
  refine N.bind (N.of (h1.here ?_))
  refine N.boolneg rfl ?_
  refine N.bind (N.of (buf_octets h2 ?_))
  refine N.bind (N.of (wpAny_rule ?_))
  exact N.bind (ba_write S' (b' := x.toList) (by simp) (by simpa using hz) fun s'' S'' => N.pure (h _ S''))

/-- bytearray(v) -/
theorem n_ba {v : Value} {b' : List UInt8} {Q : Value → Shared → Prop} (S : St c L m l k s)
    (hi : ∀ (d : Addr) s' Q', St c L m ((d, baObj []) :: l) k s' → (∀ s'', St c L m ((d, baObj b') :: l) k s'' → Q' (.done (.ret .none)) s'') → N c A.in1.in1 (Builtin.«bytearray.__init__» ⟨[.ref d, v], []⟩) Q' s')
    (h : ∀ d s', St c L m ((d, baObj b') :: l) k s' → Q (.ref d) s') : N c A (call (.type "bytearray") [v]) Q s := by
  refine n_callType BF.called (BF.typeCall v) (by decide +kernel) BF.entry_init ?_
  refine NC.mono (R := fun f s₁ => f = .ret (.ref s.heap.objs.size) ∧ St c L m ((s.heap.objs.size, baObj []) :: l) k s₁) (NC.of (codeAny_mono (code_ba_new (E := fun _ _ => False) (Q₁ := fun v s₁ => v = .ref s.heap.objs.size ∧ St c L m ((s.heap.objs.size, baObj []) :: l) k s₁) v ⟨rfl, S.push (t := s.toks) (baObj [])⟩) fun r s₁ hr => ?_)) fun f s₁ hf => ?_
  · cases r with
    | ok f => cases f <;> first | exact ⟨by rw [hr.1], hr.2⟩ | exact hr.elim
    | error e => exact hr.elim
  · obtain ⟨rfl, S₁⟩ := hf
    exact ⟨⟨_, S₁.get (.head _), rfl⟩, BF.args_init _ _, hi _ _ _ S₁ fun s'' S'' => ⟨rfl, h _ _ S''⟩⟩
theorem n_ba_int {n : Int} {t : Tok} {Q : Value → Shared → Prop} (S : St c L m l k s) (hg : A.guards = some []) (h0 : 0 ≤ n) (h1 : n ≤ 16777216)
    (h : ∀ d s', St c L m ((d, baObj (List.replicate n.toNat 0)) :: l) k s' → Q (.ref d) s') : N c A (call (.type "bytearray") [.int n t]) Q s :=
  n_ba S (fun d s' Q' S' h' => init_int hg h0 h1 S' h') h
theorem n_ba_bytes {x : Array UInt8} {t : Tok} {Q : Value → Shared → Prop} (S : St c L m l k s) (hg : A.guards = some []) (h1 : x.size ≤ 16777216)
    (h : ∀ d s', St c L m ((d, baObj x.toList) :: l) k s' → Q (.ref d) s') : N c A (call (.type "bytearray") [.bytes x t]) Q s :=
  n_ba S (fun d s' Q' S' h' => init_bytes hg h1 S' rfl (fun s'' S'' => ⟨(Looks.of_pure rfl : Looks _ _ (typeOf (.bytes x t)) (.type "bytes")).andThen (Looks.of_pure BF.bytes_index), .bytes⟩) h') h
end
end Mine

end
-- M4d
section
open PySem PySem.W PySem.Calls PyProof.Rows Builtin
set_option maxRecDepth 100000
set_option linter.unusedVariables false
set_option linter.deprecated false
namespace Mine
open PySem.Sem (wp)
namespace BF
theorem slot_get : Slot "bytearray" "__getitem__" "bytearray.__getitem__" :=
  .of (owner := "bytearray") (n := "__getitem__") (by rw [typeLookup_type, builtinLookup_eq_fast]; kernel_rfl) (by decide +kernel) (by decide +kernel) (by decide +kernel)
    (by first | exact .inl (by decide +kernel) | exact .inr (by decide +kernel)) (by rw [isSubtype_type]; kernel_rfl)
theorem slot_set : Slot "bytearray" "__setitem__" "bytearray.__setitem__" :=
  .of (owner := "bytearray") (n := "__setitem__") (by rw [typeLookup_type, builtinLookup_eq_fast]; kernel_rfl) (by decide +kernel) (by decide +kernel) (by decide +kernel)
    (by first | exact .inl (by decide +kernel) | exact .inr (by decide +kernel)) (by rw [isSubtype_type]; kernel_rfl)
theorem slot_len : Slot "bytearray" "__len__" "bytearray.__len__" :=
  .of (owner := "bytearray") (n := "__len__") (by rw [typeLookup_type, builtinLookup_eq_fast]; kernel_rfl) (by decide +kernel) (by decide +kernel) (by decide +kernel)
    (by first | exact .inl (by decide +kernel) | exact .inr (by decide +kernel)) (by rw [isSubtype_type]; kernel_rfl)
theorem entry_get : entryFor table "bytearray.__getitem__" = some Builtin.«bytearray.__getitem__» := by first | exact entryFor_of_tree (by kernel_rfl) | exact entryFor_of_fast (by kernel_rfl)
theorem entry_set : entryFor table "bytearray.__setitem__" = some Builtin.«bytearray.__setitem__» := by first | exact entryFor_of_tree (by kernel_rfl) | exact entryFor_of_fast (by kernel_rfl)
theorem entry_len : entryFor table "bytearray.__len__" = some Builtin.«bytearray.__len__» := by first | exact entryFor_of_tree (by kernel_rfl) | exact entryFor_of_fast (by kernel_rfl)
theorem args_get (a b : Value) : argsOk "bytearray.__getitem__" ⟨[a, b], []⟩ := by unfold argsOk; kernel_rfl
theorem args_set (a b c : Value) : argsOk "bytearray.__setitem__" ⟨[a, b, c], []⟩ := by unfold argsOk; kernel_rfl
theorem args_len (a : Value) : argsOk "bytearray.__len__" ⟨[a], []⟩ := by unfold argsOk; kernel_rfl
theorem slice_index : typeLookup (.type "slice") "__index__" = pure none := by rw [typeLookup_type, builtinLookup_eq_fast]; kernel_rfl
theorem bytes_int : typeLookup (.type "bytes") "__int__" = pure none := by rw [typeLookup_type, builtinLookup_eq_fast]; kernel_rfl
theorem bytes_float : typeLookup (.type "bytes") "__float__" = pure none := by rw [typeLookup_type, builtinLookup_eq_fast]; kernel_rfl
theorem bytes_complex : isSubtype (.type "bytes") (.type "complex") = pure false := by rw [isSubtype_type]; kernel_rfl
theorem bytes_ba : isSubtype (.type "bytes") (.type "bytearray") = pure false := by rw [isSubtype_type]; kernel_rfl
end BF
section
variable {c : Cx} {A : Around} {s : Shared} {L d : Addr} {m : Str → Option Value} {l k : List (Addr × Obj)}
theorem n_callSpecial {T : String} {name : Str} {i : String} {Bi : Builtin} {o : Value} {args : List Value} {Q : Option Value → Shared → Prop} (hT : s.TypeIs o T) (slot : Slot T name i) (hdi : Bytes.decodersThatHold.contains i = false)
    (entry : entryFor table i = some Bi) (hok : argsOk i ⟨o :: args, []⟩)
    (h : N c A.in1 (Bi ⟨o :: args, []⟩) (Ans c A fun f s' => match f with | .ret v => Q (some v) s' | _ => False) s) : N c A (callSpecial? o name args) Q s := by
  have hl := slot.lookup
  have hb := slot.bind o
  (unfold PySem.callSpecial?; try dsimp only)
  with_reducible refine N.bind ?_
  with_reducible refine N.of (wpAny_specialOf (by assumption) (by assumption) ?_)
  with_reducible refine N.holding ?_
  with_reducible refine N.bind ?_
  with_reducible refine N.of (wpAny_of_eq (by assumption) ?_)
  with_reducible refine N.bind ?_
  refine N.call (NC.callB slot.plain hdi entry (N.of (slot.check _ _ _ _ _ _ _ _ hT hok (h.mono fun fin s₂ h₂ => h₂.mono fun f s₃ h₃ => ?_))))
  cases f with
  | ret v => with_reducible refine N.pure ?_
             assumption
  | _ => exact h₃
theorem n_getItem {T : String} {i : String} {Bi : Builtin} {o x : Value} {Q : Value → Shared → Prop} (hT : s.TypeIs o T) (hns : seqItemTypes.contains T = false) (slot : Slot T "__getitem__" i) (hdi : Bytes.decodersThatHold.contains i = false)
    (entry : entryFor table i = some Bi) (hok : argsOk i ⟨[o, x], []⟩) (h : N c A.in1 (Bi ⟨[o, x], []⟩) (Ans c A fun f s' => match f with | .ret v => Q v s' | _ => False) s) : N c A (getItem o x) Q s := by
  unfold getItem
  refine N.holding (N.bind (N.of (wpAny_sequenceKey hT hns ?_)))
  refine N.bind (n_callSpecial hT slot hdi entry hok (h.mono fun fin s₂ h₂ => h₂.mono fun f s₃ h₃ => ?_))
  cases f with
  | ret v => exact N.pure h₃
  | _ => exact h₃
theorem n_setItem {T : String} {i : String} {Bi : Builtin} {o x v : Value} {Q : Unit → Shared → Prop} (hT : s.TypeIs o T) (hns : seqItemTypes.contains T = false) (slot : Slot T "__setitem__" i) (hdi : Bytes.decodersThatHold.contains i = false)
    (entry : entryFor table i = some Bi) (hok : argsOk i ⟨[o, x, v], []⟩) (h : N c A.in1 (Bi ⟨[o, x, v], []⟩) (Ans c A fun f s' => match f with | .ret _ => Q () s' | _ => False) s) : N c A (setItem o x v) Q s := by
  unfold setItem
  refine N.holding (N.bind (N.of (wpAny_sequenceKey hT hns ?_)))
  refine N.bind (n_callSpecial hT slot hdi entry hok (h.mono fun fin s₂ h₂ => h₂.mono fun f s₃ h₃ => ?_))
  cases f with
  | ret v => exact N.pure h₃
  | _ => exact h₃
theorem St.swap {x y : Addr × Obj} (S : St c L m (x :: y :: l) k s) : St c L m (y :: x :: l) k s := S.perm (.swap _ _ _)
theorem St.drop {x : Addr × Obj} (S : St c L m (x :: l) k s) : St c L m l k s := S.sub (List.sublist_cons_self _ _)

abbrev sliceObj (l u : Value) : Obj := { cls := .type "slice", data := .fields #[l, u, .none] }
theorem parts_wp {M : Model} {E : Value → Shared → Prop} {a : Addr} {l u : Value} {lo hi : Option Int} {Q : Value × Value × Value → Shared → Prop} (hl : IsPart l lo) (hu : IsPart u hi) (ho : s.heap.get? a = some (sliceObj l u))
    (h : Q (rawPart lo, rawPart hi, rawPart none) s) : wpAny M A (Bytes.sliceParts (.ref a)) Q E s := by
  have hd : (sliceObj l u).data = .fields #[l, u, .none] := rfl
  unfold Bytes.sliceParts
  refine wpAny_bind (wpAny_field (x := .none) ho hd rfl ?_)
  kby_none
  refine wpAny_ite (KBy.ite_no (show ¬ ((Value.none == rawInt 0) = true) from Bool.false_ne_true) ?_)
  refine wpAny_bind (wpAny_field (x := l) ho hd rfl ?_)
  cases hl <;> cases hu <;> (first
    | (kby_none; (refine wpAny_bind (wpAny_field (x := .none) ho hd rfl ?_)); kby_none)
    | (kby_none; (refine wpAny_bind (wpAny_field (x := .int _ _) ho hd rfl ?_)); kby_int)
    | (kby_int; (refine wpAny_bind (wpAny_field (x := .none) ho hd rfl ?_)); kby_none)
    | (kby_int; (refine wpAny_bind (wpAny_field (x := .int _ _) ho hd rfl ?_)); kby_int)) <;> exact wpAny_pure h
def cutOf (b : List UInt8) (lo hi : Option Int) : List UInt8 := (b.drop (lo.elim 0 (clipAt b.length))).take (hi.elim b.length (clipAt b.length) - lo.elim 0 (clipAt b.length))
theorem picked_cut (b : List UInt8) (lo hi : Option Int) : KBy.picked b.toArray lo hi = (cutOf b lo hi).toArray := by rw [KBc.picked_eq]; simp [cutOf]
theorem noIdx {M : Model} {h : Heap} {a : Addr} {l u : Value} (ho : h.get? a = some (sliceObj l u)) : Looks M h (Bytes.subscript? (.ref a)) none := by
  unfold Bytes.subscript?
  exact (((Looks.ld ho).andThen (Looks.of_pure rfl) : Looks M h (typeOf (.ref a)) (.type "slice")).andThen (Looks.of_pure BF.slice_index)).andThen .now
/-- ba[lo:hi] -/
theorem n_ba_cut {a : Addr} {vl vu : Value} {lo hi : Option Int} {b : List UInt8} {Q : Value → Shared → Prop} (S : St c L m ((a, sliceObj vl vu) :: l) k s) (hm : (d, baObj b) ∈ l) (hl : IsPart vl lo) (hu : IsPart vu hi) (hz : b.length ≤ 16777216)
    (h : ∀ e s', St c L m ((e, baObj (cutOf b lo hi)) :: l) k s' → Q (.ref e) s') : N c A (getItem (.ref d) (.ref a)) Q s := by
  have ha := S.get (.head _)
  have ho := S.get (.tail _ hm)
  refine n_getItem (T := "bytearray") ⟨_, ho, rfl⟩ (by decide) BF.slot_get (by decide +kernel) BF.entry_get (BF.args_get _ _) (N.of ?_)
  show wpAny _ _ (Bytes.subscript? (.ref a) >>= _) _ _ s
  refine wpAny_bind ((noIdx ha).here ?_)
  refine wpAny_bind (wpAny_typeOf (T := "slice") ⟨_, ha, rfl⟩ ?_)
  refine wpAny_ite_false rfl ?_
  refine wpAny_bind (parts_wp hl hu ha ?_)
  unfold Bytes.payload Bytes.payload?
  refine wpAny_bind (wpAny_bind (wpAny_bind (wpAny_load ho (wpAny_pure (wpAny_pure ?_)))))
  refine wpAny_bind (wpAny_of_eq (sliceIndices_raw lo hi none _ (fun e => nomatch e)) ?_)
  have e : Bytes.sliced b.toArray (sliceBounds lo hi none b.toArray.size).1 (sliceBounds lo hi none b.toArray.size).2.1 (sliceBounds lo hi none b.toArray.size).2.2 = (cutOf b lo hi).toArray := picked_cut b lo hi
  rcases hsb : sliceBounds lo hi none b.toArray.size with ⟨x, y, z⟩
  rw [hsb] at e
  dsimp only at e ⊢
  rw [e]
  have hz' : (cutOf b lo hi).length ≤ b.length := by unfold cutOf; rw [List.length_take, List.length_drop]; omega
  unfold Bytes.newBytearray newObj
  refine wpAny_bind ?_
  dsimp only
  refine wpAny_ite_false (by rw [sizeLine_eq]; simp; omega) ?_
  unfold newObjAsIs
  refine wpAny_bind (wpAny_alloc (wpAny_pure ?_))
  exact wpAny_pure (h _ _ ((S.drop).push (t := s.toks) (baObj (cutOf b lo hi))))
/-- x is a source for a slice store -/
structure Source (c : Cx) (h : Heap) (d : Addr) (v : Value) (x : List UInt8) : Prop where
  pay : Looks c.M h (Bytes.payload v) x.toArray
theorem ba_store_end {i j : Nat} {b x : List UInt8} (hij : i ≤ j) (hj : j ≤ b.length) (hx : x.length = j - i) :
    (b.toArray.extract 0 ((i : Int)).toNat ++ x.toArray ++ b.toArray.extract (max (i : Int) (j : Int)).toNat b.toArray.size) = (b.take i ++ x ++ b.drop j).toArray := by
  have : (max (i : Int) (j : Int)).toNat = j := by omega
  rw [this]
  apply Array.ext'
  simp
  exact List.take_of_length_le (by simp)
/-- ba[i:j] = bytes of that size -/
theorem n_ba_put {a : Addr} {vl vu : Value} {lo hi : Option Int} {i j : Nat} {b : List UInt8} {x : Array UInt8} {t : Tok} {Q : Unit → Shared → Prop} (hg : A.guards = some []) (S : St c L m ((a, sliceObj vl vu) :: (d, baObj b) :: l) k s) (hl : IsPart vl lo) (hu : IsPart vu hi)
    (hb : sliceBounds lo hi none b.length = ((i : Int), (j : Int), 1)) (hij : i ≤ j) (hj : j ≤ b.length) (hx : x.size = j - i) (hz : b.length ≤ 16777216)
    (h : ∀ s', St c L m ((d, baObj (b.take i ++ x.toList ++ b.drop j)) :: l) k s' → Q () s') : N c A (setItem (.ref d) (.ref a) (.bytes x t)) Q s := by
  have ha := S.get (.head _)
  have ho := S.get (.tail _ (.head _))
  refine n_setItem (T := "bytearray") ⟨_, ho, rfl⟩ (by decide) BF.slot_set (by decide +kernel) BF.entry_set (BF.args_set _ _ _) ?_
  show N c _ (Bytes.subscript? (.ref a) >>= _) _ s
  refine N.bind (N.of ((noIdx ha).here ?_))
  refine N.bind (N.of (wpAny_typeOf (T := "slice") ⟨_, ha, rfl⟩ ?_))
  refine N.boolneg rfl ?_
  refine N.bind (N.of (parts_wp hl hu ha ?_))
  have T : s.TypeIs (.bytes x t) "bytes" := typeIs_bytes _ _ _
  refine N.boolneg rfl (N.bind (N.of (wpAny_isInstance T BF.bytes_ba ?_)))
  refine N.boolpos rfl ?_
  have l1 := BF.bytes_index
  have l2 := BF.bytes_int
  have l3 := BF.bytes_float
  have l4 := BF.bytes_complex
  with_reducible refine N.bind ?_
  with_reducible refine N.of (wpAny_isInstance (by assumption) (by assumption) ?_)
  with_reducible refine N.bind ?_
  (unfold PySem.asStr?; try dsimp only)
  with_reducible refine N.bind ?_
  (unfold PySem.notAStandIn; try dsimp only)
  with_reducible refine N.pure ?_
  with_reducible refine N.pure ?_
  ((with_reducible apply N.boolneg); focus (rfl; done))
  with_reducible refine N.bind ?_
  with_reducible refine N.of (wpAny_rule ?_)
  with_reducible refine N.bind ?_
  refine n_ba_bytes S hg (by omega) fun e s₁ S₁ => ?_
  have he := S₁.get (.head _)
  have ha := S₁.get (.tail _ (.head _))
  have ho := S₁.get (.tail _ (.tail _ (.head _)))
  refine N.bind (N.holding (N.of (parts_wp hl hu ha ?_)))
  refine N.bind (ba_payload he ?_)
  refine N.bind (ba_payload ho ?_)
  refine N.bind (N.of (wpAny_of_eq (sliceIndices_raw lo hi none _ (fun e => nomatch e)) ?_))
  rw [show b.toArray.size = b.length by simp, hb]
  refine N.boolpos rfl (N.bind (N.of (wpAny_rule ?_)))
  refine N.boolneg (by
    have : (x.toList.toArray.size : Int) = max (i : Int) j - i := by simp; omega
    rw [this]; simp) ?_
  refine N.bind (ba_write (b' := b.take i ++ x.toList ++ b.drop j) S₁.drop.drop (ba_store_end hij hj (by simpa using hx)) (by simp; omega) fun s₂ S₂ => N.pure (h _ S₂))
/-- ba[i:j] = another bytearray of that size -/
theorem n_ba_putA {a e : Addr} {vl vu : Value} {lo hi : Option Int} {i j : Nat} {b x : List UInt8} {Q : Unit → Shared → Prop} (S : St c L m ((a, sliceObj vl vu) :: (d, baObj b) :: l) k s) (hm : (e, baObj x) ∈ l) (hl : IsPart vl lo) (hu : IsPart vu hi)
    (hb : sliceBounds lo hi none b.length = ((i : Int), (j : Int), 1)) (hij : i ≤ j) (hj : j ≤ b.length) (hx : x.length = j - i) (hz : b.length ≤ 16777216)
    (h : ∀ s', St c L m ((d, baObj (b.take i ++ x ++ b.drop j)) :: l) k s' → Q () s') : N c A (setItem (.ref d) (.ref a) (.ref e)) Q s := by
  have ha := S.get (.head _)
  have ho := S.get (.tail _ (.head _))
  have he := S.get (.tail _ (.tail _ hm))
  have hne : e ≠ d := by
    obtain ⟨_, _, S⟩ := S
    have D := S.nd
    rw [List.cons_append, List.map_cons, List.nodup_cons, List.cons_append, List.map_cons, List.nodup_cons] at D
    rintro rfl
    exact D.2.1 (List.mem_map.mpr ⟨_, List.mem_append_left _ hm, rfl⟩)
  refine n_setItem (T := "bytearray") ⟨_, ho, rfl⟩ (by decide) BF.slot_set (by decide +kernel) BF.entry_set (BF.args_set _ _ _) ?_
  show N c _ (Bytes.subscript? (.ref a) >>= _) _ s
  refine N.bind (N.of ((noIdx ha).here ?_))
  refine N.bind (N.of (wpAny_typeOf (T := "slice") ⟨_, ha, rfl⟩ ?_))
  refine N.boolneg rfl ?_
  refine N.bind (N.of (parts_wp hl hu ha ?_))
  refine N.boolneg (by simp [Bytes.sameRef]; exact Ne.symm hne) ?_
  refine N.bind (N.of (wpAny_isInstance (T := "bytearray") ⟨_, he, rfl⟩ BF.sub_self ?_))
  refine N.boolneg rfl ?_
  refine N.bind (ba_payload he ?_)
  refine N.bind (ba_payload ho ?_)
  refine N.bind (N.of (wpAny_of_eq (sliceIndices_raw lo hi none _ (fun e => nomatch e)) ?_))
  rw [show b.toArray.size = b.length by simp, hb]
  refine N.boolpos rfl (N.bind (N.of (wpAny_rule ?_)))
  refine N.boolneg (by
    have : (x.toArray.size : Int) = max (i : Int) j - i := by simp; omega
    rw [this]; simp) ?_
  refine N.bind (ba_write (b' := b.take i ++ x ++ b.drop j) S.drop (ba_store_end hij hj hx) (by simp; omega) fun s₂ S₂ => N.pure (h _ S₂))
end
end Mine

end
-- M4e
section
open PySem PySem.W PySem.Calls PyProof.Rows Builtin
set_option maxRecDepth 100000
set_option linter.unusedVariables false
set_option linter.deprecated false
namespace Mine
open PySem.Sem (wp)
namespace SF
theorem slot_pack : Slot "_struct.Struct" "pack_into" "_struct.Struct.pack_into" :=
  .of (owner := "_struct.Struct") (n := "pack_into") (by rw [typeLookup_type, builtinLookup_eq_fast]; kernel_rfl) (by decide +kernel) (by decide +kernel) (by decide +kernel)
    (by first | exact .inl (by decide +kernel) | exact .inr (by decide +kernel)) (by rw [isSubtype_type]; kernel_rfl)
theorem entry_pack : entryFor table "_struct.Struct.pack_into" = some Builtin.«_struct.Struct.pack_into» := by first | exact entryFor_of_tree (by kernel_rfl) | exact entryFor_of_fast (by kernel_rfl)
theorem entry_held : entryFor table "_struct.pack_into.held" = some Builtin.«_struct.pack_into.held» := by first | exact entryFor_of_tree (by kernel_rfl) | exact entryFor_of_fast (by kernel_rfl)
theorem args_pack (a b c d : Value) : argsOk "_struct.Struct.pack_into" ⟨[a, b, c, d], []⟩ := by unfold argsOk; kernel_rfl
theorem parse_B : Struct.parse #[60, 66] = pure ⟨false, false, [⟨'B', 1, 0, 1⟩], 1, 1⟩ := by kernel_rfl
theorem parse_q : Struct.parse #[60, 113] = pure ⟨false, false, [⟨'q', 1, 0, 8⟩], 8, 1⟩ := by kernel_rfl
theorem ty_pack : typeOf (.builtin "_struct.Struct.pack_into") = pure (.type "method_descriptor") := by kernel_rfl
theorem plain : PlainAttrs "_struct.Struct" := ⟨⟨"_struct.Struct.__getattribute__", by rw [typeLookup_type, builtinLookup_eq_fast]; kernel_rfl, by decide +kernel⟩, by rw [typeLookup_type, builtinLookup_eq_fast]; kernel_rfl⟩
theorem quiet_held (a : Args) : (Code.builtin "_struct.pack_into.held" a).quiet = true := Code.quiet_builtin _ (by decide +kernel)
end SF
/-- the octets of i, w wide, the least first -/
def le (w : Nat) (i : Int) : List UInt8 := (Struct.intBytes false w i).toList
theorem le_length (w : Nat) (i : Int) : (le w i).length = w := by simp [le, Struct.intBytes, Memoryview.toLittleEndian]
/-- b with x laid over it from p on -/
def over (b : List UInt8) (p : Nat) (x : List UInt8) : List UInt8 := b.take p ++ x ++ b.drop (p + x.length)
theorem over_length {b x : List UInt8} {p : Nat} (h : p + x.length ≤ b.length) : (over b p x).length = b.length := by simp [over]; omega
theorem over_over {b x y : List UInt8} {p : Nat} (e : x.length = y.length) (h : p + x.length ≤ b.length) : over (over b p x) p y = over b p y := by
  have h1 : (b.take p).length = p := by simp; omega
  unfold over
  congr 1
  · congr 1
    rw [List.append_assoc, List.take_append_of_le_length (by omega), List.take_of_length_le (by omega)]
  · rw [← e, List.drop_append, List.drop_of_length_le (by rw [List.length_append]; omega), List.nil_append, List.length_append, h1, Nat.sub_self, List.drop_zero]
theorem fold_over (p : Nat) : ∀ (x : List UInt8) (j : Nat) (out : Array UInt8), p + j + x.length ≤ out.size →
    (x.zipIdx j).foldl (fun out (y : UInt8 × Nat) => out.setIfInBounds (p + y.2) y.1) out = (over out.toList (p + j) x).toArray
  | [], j, out, _ => by simp [over]
  | y :: x, j, out, h => by
    rw [List.length_cons] at h
    rw [List.zipIdx_cons, List.foldl_cons, fold_over p x (j + 1) _ (by rw [Array.size_setIfInBounds]; omega)]
    congr 1
    have hlt : p + j < out.toList.length := by rw [Array.length_toList]; omega
    unfold over
    rw [Array.toList_setIfInBounds]
    have e1 : (out.toList.set (p + j) y).take (p + (j + 1)) = out.toList.take (p + j) ++ [y] := by
      rw [show p + (j + 1) = (p + j) + 1 by omega, List.take_add_one, List.take_set_of_le (by omega), List.getElem?_set_self hlt]
      rfl
    have e2 : (out.toList.set (p + j) y).drop (p + (j + 1) + x.length) = out.toList.drop (p + j + (y :: x).length) := by
      rw [List.drop_set_of_lt (by omega)]
      congr 1
      simp; omega
    rw [e1, e2]
    simp
section
variable {c : Cx} {A : Around} {s : Shared} {L d st : Addr} {m : Str → Option Value} {l k : List (Addr × Obj)}
/-- what a struct of one number takes -/
structure Pk (fmt : Array UInt8) (w : Nat) (lo hi : Int) : Prop where
  parse : ∃ ch : Char, Struct.parse fmt = pure ⟨false, false, [⟨ch, 1, 0, w⟩], w, 1⟩ ∧ (ch = 'B' ∧ w = 1 ∧ lo = 0 ∧ hi = 255 ∨ ch = 'H' ∧ w = 2 ∧ lo = 0 ∧ hi = 65535 ∨ ch = 'I' ∧ w = 4 ∧ lo = 0 ∧ hi = 4294967295 ∨
    ch = 'Q' ∧ w = 8 ∧ lo = 0 ∧ hi = 18446744073709551615 ∨ ch = 'i' ∧ w = 4 ∧ lo = -2147483648 ∧ hi = 2147483647 ∨ ch = 'q' ∧ w = 8 ∧ lo = -9223372036854775808 ∧ hi = 9223372036854775807)
theorem Pk.B : Pk #[60, 66] 1 0 255 := ⟨'B', by kernel_rfl, .inl ⟨rfl, rfl, rfl, rfl⟩⟩
theorem Pk.H : Pk #[60, 72] 2 0 65535 := ⟨'H', by kernel_rfl, .inr (.inl ⟨rfl, rfl, rfl, rfl⟩)⟩
theorem Pk.I : Pk #[60, 73] 4 0 4294967295 := ⟨'I', by kernel_rfl, .inr (.inr (.inl ⟨rfl, rfl, rfl, rfl⟩))⟩
theorem Pk.Q : Pk #[60, 81] 8 0 18446744073709551615 := ⟨'Q', by kernel_rfl, .inr (.inr (.inr (.inl ⟨rfl, rfl, rfl, rfl⟩)))⟩
theorem Pk.i : Pk #[60, 105] 4 (-2147483648) 2147483647 := ⟨'i', by kernel_rfl, .inr (.inr (.inr (.inr (.inl ⟨rfl, rfl, rfl, rfl⟩))))⟩
theorem Pk.q : Pk #[60, 113] 8 (-9223372036854775808) 9223372036854775807 := ⟨'q', by kernel_rfl, .inr (.inr (.inr (.inr (.inr ⟨rfl, rfl, rfl, rfl⟩))))⟩

theorem held {own : Value} {fmt : Array UInt8} {w p : Nat} {lo hi i : Int} {tp ti tf : Tok} {b : List UInt8} {Q : PySem.Fin → Shared → Prop} (hf : Pk fmt w lo hi) (S : St c L m ((d, baObj b) :: l) k s) (hp : p + w ≤ b.length) (hz : b.length ≤ 16777216)
    (h0 : lo ≤ i) (h1 : i ≤ hi) (h : ∀ s', St c L m ((d, baObj (over b p (le w i))) :: l) k s' → Q (.done (.ret .none)) s') :
    N c A (Builtin.«_struct.pack_into.held» ⟨[.ref d, .ref d, rawInt 0, rawInt b.length, own, .bytes fmt tf, .int p tp, .int i ti], []⟩) Q s := by
  obtain ⟨ch, hparse, hc⟩ := hf.parse
  show N c A (Bytes.payload (.bytes fmt tf) >>= fun x => Struct.parse x >>= fun f => Struct.packHeld _ f (.ref d) (0 : Int).toNat ((b.length : Nat) : Int).toNat (.int p tp) [.int i ti]) Q s
  refine N.bind (N.of (wpAny_of_eq (a := fmt) rfl ?_))
  refine N.bind (N.of (wpAny_of_eq hparse ?_))
  unfold Struct.packHeld
  rw [show asIndex (.int p tp) = pure (p : Int) from rfl]
  rw [pure_bind]
  have hfi : (!Bytes.fitsIndex (p : Int)) = false := by unfold Bytes.fitsIndex; simp only [Bool.not_eq_false', Bool.and_eq_true, decide_eq_true_eq]; omega
  rw [hfi]
  refine N.boolneg rfl ?_
  have hpl : Struct.placeIn "pack_into" "packing" "no space to pack" ⟨false, false, [⟨ch, 1, 0, w⟩], w, 1⟩ (b.length : Int).toNat p = pure p := by
    have h2 : ¬ ((((b.length : Nat) : Int).toNat : Int) - (p : Int) < (w : Int)) := by omega
    have h3 : ¬ ((p : Int) < 0) := by omega
    unfold Struct.placeIn
    simp only [if_neg h3, if_neg h2]
    rfl
  refine N.bind (N.of (wpAny_of_eq hpl ?_))
  rw [show Int.toNat 0 + p = p by simp]
  have hzl : p + (List.replicate w (0 : UInt8)).length ≤ b.length := by rw [List.length_replicate]; exact hp
  have hol : (over b p (List.replicate w 0)).length = b.length := over_length hzl
  refine N.bind (ba_write (b' := over b p (List.replicate w 0)) S ?_ (by omega) fun s₁ S₁ => ?_)
  · exact fold_over p (List.replicate w 0) 0 b.toArray (by simpa using hp)
  have hll := le_length w i
  have hlt : ¬ (i < lo ∨ i > hi) := by omega
  have hb' : p + (le w i).length ≤ (over b p (List.replicate w 0)).toArray.size := by rw [hll, List.size_toArray, hol]; omega
  have fin : ((le w i).zipIdx 0).foldl (fun out (y : UInt8 × Nat) => out.setIfInBounds (p + y.2) y.1) (over b p (List.replicate w 0)).toArray = (over b p (le w i)).toArray := by
    rw [fold_over p (le w i) 0 _ (by simpa using hb')]
    show (over (over b p (List.replicate w 0)) p (le w i)).toArray = _
    rw [over_over (by rw [List.length_replicate, hll]) hzl]
  unfold Struct.packEach
  rcases hc with ⟨rfl, rfl, rfl, rfl⟩ | ⟨rfl, rfl, rfl, rfl⟩ | ⟨rfl, rfl, rfl, rfl⟩ | ⟨rfl, rfl, rfl, rfl⟩ | ⟨rfl, rfl, rfl, rfl⟩ | ⟨rfl, rfl, rfl, rfl⟩
  all_goals
    simp only [Std.Legacy.Range.forIn_eq_forIn_range', Std.Legacy.Range.size, Nat.sub_zero, Nat.add_sub_cancel, Nat.div_one, List.range', List.forIn_cons, List.forIn_nil]
    with_reducible refine N.bind ?_
    with_reducible refine N.bind ?_
    with_reducible refine N.bind ?_
    refine N.boolneg (by decide) (N.boolneg (by decide) ?_)
    refine N.bind (N.bind (N.bind ?_))
    k_delta "packOne"
    try dsimp only
    refine N.bind ?_
    k_delta "intArg"
    refine N.of (wpAny_attempt (wpAny_bind (wpAny_pure (wpAny_pure ?_))))
    dsimp only
    refine N.bind (N.pure ?_)
    refine N.boolneg (by simp [-Int.reducePow] <;> omega) ?_
    refine N.pure (N.bind (ba_write S₁ fin (by rw [over_length (by rw [hll]; exact hp)]; exact hz) fun s₂ S₂ => ?_))
    exact N.pure (N.pure (N.pure (N.pure (N.pure (N.pure (h _ S₂))))))

theorem n_pack {dd : Option Addr} {vs : Array Value} {sl : Array (Option Value)} {fmt : Array UInt8} {w p : Nat} {lo hi i : Int} {tp ti tf : Tok} {b : List UInt8} {Q : Value → Shared → Prop} (hf : Pk fmt w lo hi) (S : St c L m ((d, baObj b) :: l) k s)
    (hst : s.heap.get? st = some ⟨.type "_struct.Struct", dd, .fields vs, sl⟩) (hv : vs[0]? = some (.bytes fmt tf)) (hp : p + w ≤ b.length) (hz : b.length ≤ 16777216)
    (h0 : lo ≤ i) (h1 : i ≤ hi) (h : ∀ s', St c L m ((d, baObj (over b p (le w i))) :: l) k s' → Q .none s') :
    N c A (call (.builtin "_struct.Struct.pack_into") [.ref st, .ref d, .int p tp, .int i ti]) Q s := by
  obtain ⟨ch, hparse, hc⟩ := id hf.parse
  have ho := S.get (.head _)
  have hT : s.TypeIs (.ref d) "bytearray" := ⟨_, ho, rfl⟩
  have hlb := BF.look_buffer
  refine N.call (NC.callB SF.slot_pack.plain (by decide +kernel) SF.entry_pack (N.of (SF.slot_pack.check _ _ _ _ _ _ _ _ ⟨_, hst, rfl⟩ (SF.args_pack _ _ _ _) ?_)))
  have fl : Looks c.M s.heap (field (.ref st) 0) (.bytes fmt tf) := looks_field hst 0 hv
  show N c _ (Struct.structFormat (.ref st) >>= fun x => (field (.ref st) 0 >>= fun v => Struct.packInto (.ref st) v x.2 [.ref d, .int p tp, .int i ti])) _ s
  refine N.bind ?_
  unfold Struct.structFormat
  refine N.bind (N.of (fl.here ?_))
  refine N.boolneg rfl ?_
  refine N.bind (N.of (wpAny_of_eq (a := fmt) rfl ?_))
  refine N.bind (N.of (wpAny_of_eq hparse (N.pure ?_)))
  refine N.bind (N.of (fl.here ?_))
  unfold Struct.packInto
  refine N.boolneg rfl ?_
  refine N.bind (N.of (wpAny_specialOf hT hlb ?_))
  refine N.bind (ba_payload ho (N.bind (N.pure ?_)))
  refine N.pure ⟨SF.quiet_held _, NC.builtin (by decide +kernel) SF.entry_held ?_⟩
  rw [show b.toArray.size = b.length by simp]
  exact held hf S hp hz h0 h1 fun s' S' => h _ S'
theorem n_pack_meth {dd : Option Addr} {vs : Array Value} {sl : Array (Option Value)} {pl : Sem Bool} {Q : Value × List Value → Shared → Prop} (hst : s.heap.get? st = some ⟨.type "_struct.Struct", none, .fields vs, sl⟩)
    (h : Q (.builtin "_struct.Struct.pack_into", [.ref st]) s) : N c A (getMethod (.ref st) "pack_into" pl) Q s :=
  N.of (getMethod_builtin ⟨_, hst, rfl⟩ SF.plain SF.slot_pack SF.ty_pack (fun a e => by cases e; exact ⟨_, hst, rfl⟩) h)
theorem n_ba_len {b : List UInt8} {Q : Value → Shared → Prop} (S : St c L m l k s) (hm : (d, baObj b) ∈ l) (hz : b.length ≤ 16777216) (h : ∀ t s', St c L m l k s' → Q (.int b.length t) s') : N c A (call (.builtin "len") [.ref d]) Q s := by
  have ho := S.get hm
  have hT : s.TypeIs (.ref d) "bytearray" := ⟨_, ho, rfl⟩
  refine N.of (call_len_slot hT BF.slot_len (fun Q' hq => wpAny_call_entry BF.slot_len hT BF.entry_len ?_ (BF.args_len _)) (n := (b.length : Int)) (by omega) (by omega) (h _ _ S.tok))
  show wpAny _ _ (Bytes.payload (.ref d) >>= fun b => retInt b.size) _ _ _
  unfold Bytes.payload Bytes.payload?
  refine wpAny_bind (wpAny_bind (wpAny_bind (wpAny_load ho (wpAny_pure (wpAny_pure ?_)))))
  refine wpAny_ret_mkInt ?_
  simpa using hq
end
end Mine

end
-- M5
section
open PySem PySem.W PySem.Calls PyProof.Rows
set_option maxRecDepth 100000
set_option linter.unusedVariables false
set_option linter.deprecated false
namespace Mine
open PySem.Sem (wp)
/-- room for n calls, one in the other -/
structure Rm (A : Around) (n : Nat) : Prop where
  d : A.depth + n < recursionLimit
  u : A.units + 8 * n < cLine
  g : A.guards = some []
  h : A.handled = none
theorem Rm.le {A : Around} {n n' : Nat} (R : Rm A n) (h : n' ≤ n) : Rm A n' := ⟨by have := R.d; omega, by have := R.u; omega, R.g, R.h⟩
theorem Rm.deep {A : Around} {env : Env} {n : Nat} (R : Rm A (n + 1)) : Rm (A.deeper env) n := ⟨by have := R.d; show A.depth + 1 + n < _; omega, by have := R.u; show A.units + 3 + 8 * n < _; omega, R.g, R.h⟩
theorem Rm.depth {A : Around} {n : Nat} (R : Rm A n) : A.depth < recursionLimit := by have := R.d; omega
section
variable {c : Cx} {A : Around} {s : Shared} {L d : Addr} {m : Str → Option Value} {l k : List (Addr × Obj)} {x y : Int} {t u : Tok} {env : Env}
theorem ii_add {Q : Value → Shared → Prop} (S : St c L m l k s) (h : ∀ t s', St c L m l k s' → Q (.int (x + y) t) s') : N c A (inplaceOp .Add (.int x t) (.int y u)) Q s := N.of (PyProof.Rows.iadd_int (h _ _ S.tok))
theorem ii_sub {Q : Value → Shared → Prop} (S : St c L m l k s) (h : ∀ t s', St c L m l k s' → Q (.int (x - y) t) s') : N c A (inplaceOp .Sub (.int x t) (.int y u)) Q s := N.of (PyProof.Rows.isub_int (h _ _ S.tok))
theorem ii_and {Q : Value → Shared → Prop} (S : St c L m l k s) (h : ∀ t s', St c L m l k s' → Q (.int (Builtin.bitAnd x y) t) s') : N c A (inplaceOp .BitAnd (.int x t) (.int y u)) Q s := N.of (PyProof.Rows.iand_int (h _ _ S.tok))
theorem ii_mul {Q : Value → Shared → Prop} (S : St c L m l k s) (hm : IntMulOk x y) (h : ∀ t s', St c L m l k s' → Q (.int (x * y) t) s') : N c A (inplaceOp .Mult (.int x t) (.int y u)) Q s := N.of (PyProof.Rows.imul_int (h _ _ S.tok) hm)
theorem c_ge {Q : Value → Shared → Prop} (h : Q (.bool (decide (y ≤ x))) s) : N c A (compareOp .GtE (.int x t) (.int y u)) Q s := N.of (PyProof.Rows.ge_int h)
theorem e_slice_lo {e : Expr} {p : Pos} {Q : Value → Shared → Prop} (h : N c A (eval e env) (fun v s₁ => N c A (newFields "slice" [v, .none, .none]) Q s₁) s) : N c A (eval (.Slice (some e) none none p) env) Q s := by
  rw [arm_eval_Slice]
  exact N.bind (h.mono fun v s₁ h => N.bind (N.holding (N.pure (N.bind (N.holding (N.pure h))))))
theorem e_slice_up {e : Expr} {p : Pos} {Q : Value → Shared → Prop} (h : N c A (eval e env) (fun v s₁ => N c A (newFields "slice" [.none, v, .none]) Q s₁) s) : N c A (eval (.Slice none (some e) none p) env) Q s := by
  rw [arm_eval_Slice]
  exact N.bind (N.pure (N.bind (N.holding (h.mono fun v s₁ h => N.bind (N.holding (N.pure h))))))
theorem e_slice_lu {e e' : Expr} {p : Pos} {Q : Value → Shared → Prop} (h : N c A (eval e env) (fun v s₁ => N c A (eval e' env) (fun v' s₂ => N c A (newFields "slice" [v, v', .none]) Q s₂) s₁) s) : N c A (eval (.Slice (some e) (some e') none p) env) Q s := by
  rw [arm_eval_Slice]
  exact N.bind (h.mono fun v s₁ h => N.bind (N.holding (h.mono fun v s₁ h => N.bind (N.holding (N.pure h)))))
theorem r_slice {v v' : Value} {Q : Value → Shared → Prop} (S : St c L m l k s) (h : ∀ a s', St c L m ((a, sliceObj v v') :: l) k s' → Q (.ref a) s') : N c A (newFields "slice" [v, v', .none]) Q s :=
  N.of (wpAny_newObj_type (h _ _ (S.push (t := s.toks) (sliceObj v v'))))
/-- o[i] of a thing whose type keeps its own __getitem__ -/
theorem r_item {T id : String} {o i : Value} {slice : Expr} {Q : Value → Shared → Prop} (hT : s.TypeIs o T) (hl : typeLookup (.type T) "__getitem__" = pure (some (.builtin id))) (h : N c A (getItem o i) Q s)
    (hs : ∀ o i, subscripted slice false o i = operate [i, o] (getItem o i) ∨ subscripted slice false o i = operate [o, i] (getItem o i)) : N c A (getitemInPython o >>= fun b => subscripted slice b o i) Q s := by
  refine N.bind ?_
  unfold getitemInPython
  refine N.bind (N.of (wpAny_specialOf hT hl ?_))
  refine N.pure ?_
  rcases hs o i with e | e <;> (rw [e]; exact N.operate h)
theorem r_item_ba {b : List UInt8} {i : Value} {slice : Expr} {Q : Value → Shared → Prop} (S : St c L m l k s) (hm : (d, baObj b) ∈ l) (h : N c A (getItem (.ref d) i) Q s)
    (hs : ∀ o i, subscripted slice false o i = operate [i, o] (getItem o i) ∨ subscripted slice false o i = operate [o, i] (getItem o i)) : N c A (getitemInPython (.ref d) >>= fun b => subscripted slice b (.ref d) i) Q s :=
  r_item ⟨_, S.get hm, rfl⟩ BF.slot_get.lookup h hs
end
end Mine


namespace Mine

theorem g_no {b : Bool} {P Q : Prop} (h : b = false) (q : Q) : if b = true then P else Q := by rw [if_neg (by rw [h]; decide)]; exact q
theorem g_yes {b : Bool} {P Q : Prop} (h : b = true) (p : P) : if b = true then P else Q := by rw [if_pos h]; exact p
end Mine

end
-- M6
section
open PySem PySem.W PySem.Calls PyProof.Rows
set_option maxRecDepth 100000
set_option linter.unusedVariables false
set_option linter.deprecated false
namespace Mine
/-- room doubled till it is t at least -/
def growN (t room : Nat) : Nat := if h : t ≤ room then room else growN t (if room = 0 then 1 else 2 * room)
termination_by t - room
decreasing_by split <;> omega
theorem growN_pos {t room : Nat} (h : t ≤ room) : growN t room = room := by rw [growN, dif_pos h]
theorem growN_neg {t room : Nat} (h : ¬ t ≤ room) : growN t room = growN t (if room = 0 then 1 else 2 * room) := by rw [growN, dif_neg h]
theorem growN_ge (t room : Nat) : t ≤ growN t room ∧ room ≤ growN t room := by
  induction room using growN.induct (t := t) with
  | case1 room h => rw [growN_pos h]; exact ⟨h, Nat.le_refl _⟩
  | case2 room h ih => rw [growN_neg h]; refine ⟨ih.1, Nat.le_trans ?_ ih.2⟩; split <;> omega
theorem growN_le (t room : Nat) : growN t room ≤ max room (2 * t) := by
  induction room using growN.induct (t := t) with
  | case1 room h => rw [growN_pos h]; omega
  | case2 room h ih => rw [growN_neg h]; refine Nat.le_trans ih ?_; split <;> omega
/-- the buffer holds out at its end; hd tells where it begins -/
structure BufOk (hd : Int) (buf out : List UInt8) (room : Nat) : Prop where
  len : buf.length = room
  small : room ≤ 16777216
  le : out.length ≤ room
  hd : hd = ((room - out.length : Nat) : Int)
  tail : buf.drop (room - out.length) = out
theorem BufOk.push {hd hd' : Int} {buf out x : List UInt8} {room : Nat} (B : BufOk hd buf out room) (hx : x.length + out.length ≤ room) (e : hd' = hd - x.length) : BufOk hd' (over buf hd'.toNat x) (x ++ out) room := by
  obtain ⟨h1, h2, h3, h4, h5⟩ := B
  have e' : hd' = ((room - out.length - x.length : Nat) : Int) := by omega
  have en : hd'.toNat = room - out.length - x.length := by omega
  have ov : over buf hd'.toNat x = buf.take (room - out.length - x.length) ++ (x ++ out) := by
    rw [en]
    unfold over
    rw [List.append_assoc, show room - out.length - x.length + x.length = room - out.length by omega, h5]
  have ht : (buf.take (room - out.length - x.length)).length = room - out.length - x.length := by rw [List.length_take]; omega
  have hr : room - (x ++ out).length = room - out.length - x.length := by rw [List.length_append]; omega
  refine ⟨?_, h2, by rw [List.length_append]; omega, by rw [hr]; exact e', ?_⟩
  · rw [ov, List.length_append, List.length_append, ht]; omega
  · rw [ov, hr, List.drop_left' ht]
/-- what Prep puts ahead -/
def fillN (size o : Nat) : Nat := ((-(o : Int)) % (size : Int)).toNat
theorem fillN_lt {size o : Nat} (h : 0 < size) : fillN size o < size := by
  have := Int.emod_lt_of_pos (-(o : Int)) (show (0 : Int) < size by omega)
  have := Int.emod_nonneg (-(o : Int)) (show (size : Int) ≠ 0 by omega)
  unfold fillN; omega
theorem fillN_cast {size o : Nat} (h : 0 < size) : ((fillN size o : Nat) : Int) = (-(o : Int)) % (size : Int) := by
  have := Int.emod_nonneg (-(o : Int)) (show (size : Int) ≠ 0 by omega)
  unfold fillN; omega
def Width (size : Nat) : Prop := size = 1 ∨ size = 2 ∨ size = 4 ∨ size = 8
theorem and_fill {size : Nat} (hs : Width size) (o : Nat) : Builtin.bitAnd (Builtin.bitNot (o : Int) + 1) ((size : Int) - 1) = (fillN size o : Nat) := by
  have e : Builtin.bitNot (o : Int) + 1 = -(o : Int) := by
    show (-(o : Int) - 1) + 1 = _
    omega
  rw [e]
  rcases hs with rfl | rfl | rfl | rfl <;> rw [fillN_cast (by decide)]
  · show Builtin.bitAnd (-(o : Int)) 0 = (-(o : Int)) % 1
    rw [Int.emod_one, bitAnd_zero]
  · exact bitAnd_m1 _
  · exact bitAnd_m2 _
  · exact bitAnd_m3 _

section
variable {c : Cx} {A : Around} {s : Shared} {L d a e : Addr} {m : Str → Option Value} {l k : List (Addr × Obj)} {t u : Tok} {env : Env}
theorem r_cbytes {x : List UInt8} {q : Nat} {pos : Pos} {Q : Value → Shared → Prop} (S : St c L m l k s) (h : ∀ t s', St c L m l k s' → Q (.bytes x.toArray t) s') : N c A (eval (.Constant (.bytes x) q pos) env) Q s := N.of (Constant_bytes (h _ _ S.tok))
theorem y_mul {x : List UInt8} {n : Int} {Q : Value → Shared → Prop} (S : St c L m l k s) (hx : x ≠ []) (hs : x.length ≤ 16) (h0 : 0 ≤ n) (h1 : n ≤ 1048576) (h : ∀ t s', St c L m l k s' → Q (.bytes ((List.replicate n.toNat x).flatten).toArray t) s') :
    N c A (binaryOp .Mult (.bytes x.toArray t) (.int n u)) Q s := N.of (bytes_mul_any hx (by omega) h1 hs fun t' k' => h _ _ S.tok)
theorem y_mul1 {x : UInt8} {n : Nat} {Q : Value → Shared → Prop} (S : St c L m l k s) (h1 : n ≤ 1048576) (h : ∀ t s', St c L m l k s' → Q (.bytes (List.replicate n x).toArray t) s') :
    N c A (binaryOp .Mult (.bytes [x].toArray t) (.int n u)) Q s := y_mul S (by simp) (by simp) (by omega) (by omega) fun t s' S' => by
  have e : (List.replicate ((n : Int).toNat) [x]).flatten = List.replicate n x := by rw [Int.toNat_natCast, List.flatten_replicate_singleton]
  rw [e]; exact h t s' S'
theorem bounds_lu {i j : Int} {n p q : Nat} (hi : i = p) (hj : j = q) (h1 : p ≤ n) (h2 : q ≤ n) : sliceBounds (some i) (some j) none n = ((p : Int), (q : Int), 1) := by
  subst hi hj
  rw [sliceBounds_plain]
  simp only [Option.elim, clipAt_nat, Nat.min_eq_left h1, Nat.min_eq_left h2]
theorem bounds_l {i : Int} {n p : Nat} (hi : i = p) (h1 : p ≤ n) : sliceBounds (some i) none none n = ((p : Int), (n : Int), 1) := by
  subst hi
  rw [sliceBounds_plain]
  simp only [Option.elim, clipAt_nat, Nat.min_eq_left h1]
/-- ba[i:j] = bytes of that size; another object stands ahead -/
theorem put_b {o : Addr × Obj} {i j : Int} {ti tj : Tok} {b x : List UInt8} {Q : Unit → Shared → Prop} (hg : A.guards = some []) (S : St c L m ((a, sliceObj (.int i ti) (.int j tj)) :: o :: (d, baObj b) :: l) k s)
    (h0 : 0 ≤ i) (hx : j = i + x.length) (hj : j ≤ b.length) (hz : b.length ≤ 16777216) (h : ∀ s', St c L m (o :: (d, baObj (over b i.toNat x)) :: l) k s' → Q () s') : N c A (setItem (.ref d) (.ref a) (.bytes x.toArray t)) Q s := by
  refine n_ba_put (i := i.toNat) (j := j.toNat) hg (S.perm (.cons _ (.swap _ _ _))) (.int _ _) (.int _ _) (bounds_lu (by omega) (by omega) (by omega) (by omega)) (by omega) (by omega) (by rw [List.size_toArray]; omega) hz fun s' S' => h _ ?_
  have e : j.toNat = i.toNat + x.length := by omega
  rw [e] at S'
  exact S'.swap
end

theorem mulOk {x y : Int} (h : y.natAbs < 2 ^ 64) : IntMulOk x y := by
  refine IntMulOk.of_right ?_
  unfold Builtin.Int.intBits
  split
  · omega
  · rename_i h0
    have : y.natAbs ≠ 0 := by simpa using h0
    have := (Nat.log2_lt this).mpr h
    omega
section
variable {c : Cx} {A : Around} {s : Shared} {L d a e : Addr} {m : Str → Option Value} {l k : List (Addr × Obj)} {t u : Tok} {env : Env} {x y : Int}
theorem k_int {Q : Value → Shared → Prop} (h : Q (.int x t) s) : N c A (call (.type "int") [.int x t]) Q s := N.of (call_int_int h)

theorem St.grown {h' : Heap} {tk : Nat} (S : St c L m l k s) (hk : ∀ a o, s.heap.get? a = some o → h'.get? a = some o) : St c L m l k { s with heap := h', toks := tk } :=
  let ⟨D, hD, S⟩ := S; ⟨D, hD, S.fr.keptAll hk, S.nw.grown hk, S.nd, S.gens, S.os, S.kin, S.top⟩
theorem k_min {Q : Value → Shared → Prop} (S : St c L m l k s) (hh : A.handled = none) (h : ∀ s', St c L m l k s' → Q (if y < x then .int y u else .int x t) s') : N c A (call (.builtin "min") [.int x t, .int y u]) Q s :=
  N.of (min_two_ints hh fun h' tk hk => h _ (S.grown hk))
end

theorem NC.whl_ind {c : Cx} {A : Around} {test : Expr} {body : List Stmt} {env : Env} {R : Flow → Shared → Prop} (I : Nat → Shared → Prop)
    (step : ∀ n s, I n s → N c A (isTrue test env (eval test env)) (fun b s₁ => if b then N c A (execs body env) (fun f s₂ => match f with
      | .next | .cont => ∃ n', n' < n ∧ I n' s₂ | .brk => R .next s₂ | .ret v => R (.ret v) s₂) s₁ else N c A (execs [] env) R s₁) s) : ∀ n s, I n s → NC c A (.whileLoop test body [] env) R s := by
  intro n
  induction n using Nat.strongRecOn with
  | ind n ih =>
    intro s hI
    refine NC.whl ((step n s hI).mono fun b s₁ h => ?_)
    cases b with
    | false => simpa using h
    | true =>
      refine N.mono (Q := fun f s₂ => match f with
      | .next | .cont => ∃ n', n' < n ∧ I n' s₂ | .brk => R .next s₂ | .ret v => R (.ret v) s₂) (by simpa using h) fun f s₂ h₂ => ?_
      cases f with
      | next => obtain ⟨n', hn, hI'⟩ := h₂; exact ih n' hn _ hI'
      | cont => obtain ⟨n', hn, hI'⟩ := h₂; exact ih n' hn _ hI'
      | brk => exact h₂
      | ret v => exact h₂
theorem n_consJ {c : Cx} {A : Around} {s : Shared} {env : Env} {st : Stmt} {rest : List Stmt} {Q : Flow → Shared → Prop} (I : Shared → Prop) (h : N c A (exec st env) (fun f s' => f = .next ∧ I s') s) (h' : ∀ s', I s' → N c A (execs rest env) Q s') : N c A (execs (st :: rest) env) Q s :=
  n_cons (h.mono fun f s' hf => by obtain ⟨rfl, hi⟩ := hf; exact h' _ hi)
/-- what Prep asks for: the filling, the number, what comes behind it -/
def needN (w o a : Nat) : Nat := fillN w (o + a) + w + a
/-- what stands, and the room, after Prep -/
def prepO (w a : Nat) (out : List UInt8) : List UInt8 := List.replicate (fillN w (out.length + a)) 0 ++ out
def prepR (w a : Nat) (out : List UInt8) (room : Nat) : Nat := growN (out.length + needN w out.length a) room
theorem Width.pos {w : Nat} (h : Width w) : 0 < w ∧ w ≤ 8 := by rcases h with rfl | rfl | rfl | rfl <;> omega
theorem prepO_len {w a : Nat} {out : List UInt8} (h : Width w) : (prepO w a out).length = fillN w (out.length + a) + out.length ∧ (prepO w a out).length ≤ out.length + 7 := by
  have := fillN_lt (o := out.length + a) h.pos.1
  have := h.pos
  simp [prepO]; omega
theorem prepR_ge {w a room : Nat} {out : List UInt8} : (prepO w a out).length + w + a ≤ prepR w a out room := by
  have := (growN_ge (out.length + needN w out.length a) room).1
  simp [prepO, prepR, needN] at *; omega
theorem prepR_le {w a room : Nat} {out : List UInt8} (h : Width w) (hs : out.length + a ≤ 4000000) (hr : room ≤ 8388608) : prepR w a out room ≤ 8388608 := by
  have := growN_le (out.length + needN w out.length a) room
  have := fillN_lt (o := out.length + a) h.pos.1
  have := h.pos
  simp [prepR, needN] at *; omega
section
variable {c : Cx} {A : Around} {s : Shared} {L d a e : Addr} {m : Str → Option Value} {l k : List (Addr × Obj)} {t u : Tok} {env : Env} {x y : Int}
/-- an object that is a list of these -/
def LsO (o : Obj) (vs : List Value) : Prop := o.cls = .type "list" ∧ ∃ n, o.data = .seq vs.toArray n
theorem LsO.of {vs : List Value} {n : Nat} : LsO (listOf vs.toArray n) vs := ⟨rfl, n, rfl⟩
theorem LsO.isList {o : Obj} {vs : List Value} {h : Heap} (X : LsO o vs) (ho : h.get? d = some o) : h.IsList d vs.toArray := ⟨o, ho, X.1, X.2⟩
theorem St.same {o o' : Obj} {h' : Heap} {tk : Nat} (S : St c L m ((d, o) :: l) k s) (hs : Heap.SameBut d s.heap h') (ho : h'.get? d = some o') (hi : instO o' = false) : St c L m ((d, o') :: l) k { s with heap := h', toks := tk } := by
  obtain ⟨D, hD, S⟩ := S
  have W := S.nw
  have z := W (d, o) (.head _)
  exact ⟨D, hD.same (.inl hi), S.fr.change hs z.2.1 z.2.2, news_set (pre := []) W (fun _ q => nomatch q) S.head_apart hs ho, S.nd, S.gens, S.os, S.kin, S.top⟩
theorem noInst {o : Obj} {T : String} (h : o.cls = .type T) : instO o = false := by unfold instO; rw [h]
theorem n_list_set {o : Obj} {vs : List Value} {i : Nat} {v : Value} {Q : Unit → Shared → Prop} (X : LsO o vs) (S : St c L m ((d, o) :: l) k s) (hi : i < vs.length) (hz : vs.length ≤ 1000000)
    (h : ∀ o' s', LsO o' (vs.set i v) → St c L m ((d, o') :: l) k s' → Q () s') : N c A (setItem (.ref d) (.int i t) v) Q s :=
  N.of (wpAny_setItem_list (X.isList (S.get (.head _))) (by omega) (by omega) (by simpa using hi) fun h' hl hs => by
    obtain ⟨o', ho', hc, n', hd⟩ := hl
    refine h o' _ ⟨hc, n', ?_⟩ (S.same (tk := s.toks) hs ho' (noInst hc))
    rw [hd]; simp)
theorem n_list_get {o : Obj} {vs : List Value} {i : Nat} {v : Value} {Q : Value → Shared → Prop} (X : LsO o vs) (S : St c L m l k s) (hm : (d, o) ∈ l) (hi : vs[i]? = some v) (hz : vs.length ≤ 1000000)
    (h : Q v s) : N c A (getItem (.ref d) (.int i t)) Q s := by
  have := (List.getElem?_eq_some_iff.mp hi).1
  exact N.of (wpAny_getItem_list (X.isList (S.get hm)) (by omega) (by omega) (by simpa using hi) h)
theorem k_isi {tp : Addr} {dd : Option Addr} {its : List Value} {n : Nat} {sl : Array (Option Value)} {bb : Bool} {z : Array UInt8} {Q : Value → Shared → Prop} (S : St c L m l k s) (hl : c.K.lookup tp = some ⟨.type "tuple", dd, .seq its.toArray n, sl⟩)
    (e : kitAny c.K (.type "bytes") its = some bb) (h : ∀ s', St c L m l k s' → Q (.bool bb) s') : N c A (call (.builtin "isinstance") [.bytes z t, .ref tp]) Q s :=
  N.of (kia_tup kitx_bytes S.X trivial (S.X _ _ hl) e (fun q => nomatch q) fun tk => h _ S.tok)
theorem k_leny {z : List UInt8} {Q : Value → Shared → Prop} (S : St c L m l k s) (hz : z.length ≤ 16777216) (h : ∀ t s', St c L m l k s' → Q (.int (z.length : Nat) t) s') : N c A (call (.builtin "len") [.bytes z.toArray t]) Q s :=
  N.of (len_bytes (by rw [List.size_toArray]; omega) (h _ _ S.tok))
end
end Mine

end
-- M7
section
open PySem PySem.W PySem.Calls PyProof.Rows
set_option maxRecDepth 100000
set_option linter.unusedVariables false
set_option linter.deprecated false
namespace Mine
section
variable {c : Cx} {A : Around} {s : Shared} {L d a e : Addr} {m : Str → Option Value} {l k : List (Addr × Obj)} {t u : Tok} {env : Env} {x y : Int} {vs : List Value} {o : Obj}
theorem St0.cons {h' : Heap} {tk : Nat} (S : St0 c L m l k s) (F' : Fr c.h₀ L h' m) (N' : News c.h₀ L h' ((d, o) :: (l ++ k))) (lt : ∀ p ∈ l ++ k, p.1 < d) : St0 c L m ((d, o) :: l) k { s with heap := h', toks := tk } := by
  refine ⟨F', N', ?_, S.gens, S.os, S.kin, S.top⟩
  show (List.map _ ((d, o) :: (l ++ k))).Nodup
  rw [List.map_cons, List.nodup_cons]
  refine ⟨fun q => ?_, S.nd⟩
  obtain ⟨p, hp, e⟩ := List.mem_map.mp q
  exact absurd (lt p hp) (by rw [e]; exact Nat.lt_irrefl _)
theorem k_newlist {Q : Value → Shared → Prop} (S : St c L m l k s) (hz : vs.length ≤ 16777216) (h : ∀ d s', St c L m ((d, listOf vs.toArray 0) :: l) k s' → Q (.ref d) s') : N c A (newList vs) Q s :=
  by obtain ⟨D, hD, S⟩ := S; exact N.of (newList_K S.fr S.nw (fun d h' F' N' lt => h d _ ⟨D, hD.no rfl, S.cons (tk := s.toks) F' N' lt⟩) (by rw [sizeLine_eq]; exact hz))
theorem k_listmul {n : Nat} {Q : Value → Shared → Prop} (X : LsO o vs) (S : St c L m l k s) (hm : (d, o) ∈ l) (hz : vs.length * n ≤ 256) (hn : n ≤ 256) (h : ∀ e s', St c L m ((e, listOf ((List.replicate n vs).flatten).toArray 0) :: l) k s' → Q (.ref e) s') :
    N c A (binaryOp .Mult (.ref d) (.int n u)) Q s :=
  by obtain ⟨D, hD, S⟩ := S; exact N.of (KMa.mul (x := (n : Int)) S.fr S.nw (X.isList (S.get hm)) (by omega) (by omega) (by simpa using hz) (by rw [Int.toNat_natCast]) fun B h' F' N' lt => h B _ ⟨D, hD.no rfl, S.cons (tk := s.toks) F' N' lt⟩)
theorem k_reversed {Q : Value → Shared → Prop} (X : LsO o vs) (S : St c L m l k s) (hm : (d, o) ∈ l) (h : ∀ e s', St c L m ((e, revObj d ((vs.length : Int) - 1)) :: l) k s' → Q (.ref e) s') : N c A (call (.type "reversed") [.ref d]) Q s :=
  by obtain ⟨D, hD, S⟩ := S; exact N.of (krv_reversed S.fr S.nw (X.isList (S.get hm)) fun B h' F' N' lt => h B _ ⟨D, hD.no rfl, S.cons (tk := s.toks) F' N' lt⟩)
theorem k_tuple {Q : Value → Shared → Prop} (X : LsO o vs) (S : St c L m l k s) (hm : (d, o) ∈ l) (hz : vs.length ≤ 16384) (h : ∀ e s', St c L m ((e, ({ cls := .type "tuple", data := .seq vs.toArray } : Obj)) :: l) k s' → Q (.ref e) s') : N c A (call (.type "tuple") [.ref d]) Q s :=
  by obtain ⟨D, hD, S⟩ := S; exact N.of (kde_tupleOf S.fr S.nw (X.isList (S.get hm)) (by simpa using hz) (by simp) fun B h' F' N' lt => h B _ ⟨D, hD.no rfl, S.cons (tk := s.toks) F' N' lt⟩)
theorem k_append {v : Value} {n : Nat} {Q : Value → Shared → Prop} (S : St c L m ((d, listOf vs.toArray n) :: l) k s) (hz : vs.length ≤ 1000000) (h : ∀ s', St c L m ((d, listOf (vs ++ [v]).toArray (n + 1)) :: l) k s' → Q .none s') : N c A (call (.builtin "list.append") [.ref d, v]) Q s :=
  N.of (append_at (hsz := by rw [sizeLine_eq, List.size_toArray]; omega) (S.get (.head _)) fun h' hs ho' => h _ (S.same (tk := s.toks) hs (by rw [ho']; simp) rfl))
theorem k_append_meth {n : Nat} {pl : Sem Bool} {Q : Value × List Value → Shared → Prop} (S : St c L m l k s) (hm : (d, listOf vs.toArray n) ∈ l) (h : Q (.builtin "list.append", [.ref d]) s) : N c A (getMethod (.ref d) "append" pl) Q s :=
  N.of (getMethod_list_append (S.get hm) rfl rfl h)
theorem k_lenlist {Q : Value → Shared → Prop} (X : LsO o vs) (S : St c L m l k s) (hm : (d, o) ∈ l) (hz : vs.length ≤ 1000000) (h : ∀ t s', St c L m l k s' → Q (.int (vs.length : Nat) t) s') : N c A (call (.builtin "len") [.ref d]) Q s :=
  N.of (call_len_list (X.isList (S.get hm)) (by rw [List.size_toArray]; omega) (by rw [List.size_toArray]; exact h _ _ S.tok))
/-- a walk back over a list, at place i -/
def RevO (o : Obj) (d : Addr) (i : Int) : Prop := o.cls = .type "list_reverseiterator" ∧ o.data = .fields #[.ref d, rawInt i]
theorem St0.ext {o : Obj} {h' : Heap} {tk : Nat} (S : St0 c L m ((d, o) :: l) k s) (hx : Heap.ExtBut d s.heap h') : St0 c L m l k { s with heap := h', toks := tk } := by
  have z := S.nw (d, o) (.head _)
  have D := S.head_apart
  obtain ⟨oL, es, ep, hL, r⟩ := S.fr.ns
  refine ⟨⟨⟨oL, es, ep, hx _ _ (Ne.symm z.2.1) hL, r⟩, fun b o' e => hx _ _ (fun q => ?_) (S.fr.keep b o' e), S.fr.above⟩, fun p hp => ?_, (S.sub (List.sublist_cons_self _ _)).nd, S.gens, S.os, S.kin, S.top⟩
  · rw [q, z.2.2] at e; cases e
  · have w := S.nw p (List.mem_cons_of_mem _ hp)
    exact ⟨hx _ _ (D p hp) w.1, w.2⟩
theorem St.ext {o : Obj} {h' : Heap} {tk : Nat} (S : St c L m ((d, o) :: l) k s) (hx : Heap.ExtBut d s.heap h') : St c L m l k { s with heap := h', toks := tk } :=
  let ⟨D, hD, S⟩ := S; ⟨D, fun p hp => hD p (.tail _ hp), S.ext hx⟩
theorem k_iter_rev {i : Int} {io : Obj} {Q : Value → Shared → Prop} (Y : RevO io d i) (S : St c L m l k s) (hm : (e, io) ∈ l) (h : Q (.ref e) s) : N c A (pyIter (.ref e)) Q s :=
  N.of (wpAny_pyIter_revIter ⟨_, S.get hm, Y.1, Y.2⟩ h)
theorem k_next_rev {i : Nat} {io : Obj} {v : Value} {Q : Option Value → Shared → Prop} (Y : RevO io d (i : Int)) (X : LsO o vs) (S : St c L m ((e, io) :: l) k s) (hm : (d, o) ∈ l) (hv : vs[i]? = some v)
    (h : ∀ io' s', RevO io' d ((i : Int) - 1) → St c L m ((e, io') :: l) k s' → Q (some v) s') : N c A (pyNext (.ref e)) Q s :=
  N.of (wpAny_pyNext_rev_item (i := i) ⟨_, S.get (.head _), Y.1, Y.2⟩ (X.isList (S.get (.tail _ hm))) (by simpa using hv) fun h' hi hs => by
    obtain ⟨io', ho', hc, hd⟩ := hi
    exact h io' _ ⟨hc, hd⟩ (S.same (tk := s.toks) hs ho' (noInst hc)))
theorem k_next_rev_end {io : Obj} {Q : Option Value → Shared → Prop} (Y : RevO io d (-1)) (S : St c L m ((e, io) :: l) k s) (hh : A.handled = none) (h : ∀ s', St c L m l k s' → Q none s') : N c A (pyNext (.ref e)) Q s :=
  N.of (wpAny_pyNext_rev_end hh ⟨_, S.get (.head _), Y.1, Y.2⟩ fun h' hx => h _ (S.ext (tk := s.toks) hx))
abbrev dict0 : Obj := { cls := .type "dict", data := .dict #[] }
theorem k_newdict {pos : Pos} {Q : Value → Shared → Prop} (S : St c L m l k s) (h : ∀ d s', (d == sysModules) = false → St c L m ((d, dict0) :: l) k s' → Q (.ref d) s') : N c A (eval (.Dict [] [] pos) env) Q s := by
  rw [eval_Dict_empty]
  refine N.standAt (N.of ?_)
  exact wpAny_newObj_type (h _ _ (S.fr.notModules (modules_low S.top.nolimit)) (S.push (t := s.toks) dict0))
/-- a dict by tuples of ints -/
structure VtO (c : Cx) (l : List (Addr × Obj)) (o : Obj) (d : Addr) (xs : List (List Int × Addr × Value)) : Prop where
  lo : (d == sysModules) = false
  ex : o.ExactDict
  da : ∃ es ep, o.data = .dict es ep ∧ es.toList = xs.map (entryOfKey (tupleKind (intKind c.prog c.w)))
  ks : ∀ x ∈ xs, ∃ to items n, (x.2.1, to) ∈ l ∧ to.cls = .type "tuple" ∧ to.data = .seq items n ∧ ItemsAre (intKind c.prog c.w) x.1 items.toList
  nd : (xs.map (·.1)).Nodup
theorem VtO.sub {l' : List (Addr × Obj)} {xs : List (List Int × Addr × Value)} (V : VtO c l o d xs) (h : ∀ p ∈ l, p ∈ l') : VtO c l' o d xs :=
  ⟨V.lo, V.ex, V.da, fun x hx => let ⟨to, items, n, a, b⟩ := V.ks x hx; ⟨to, items, n, h _ a, b⟩, V.nd⟩
theorem VtO.new (lo : (d == sysModules) = false) : VtO c l dict0 d [] := ⟨lo, ⟨rfl, rfl, rfl⟩, ⟨_, _, rfl, rfl⟩, (fun _ h => nomatch h), List.nodup_nil⟩
theorem VtO.dict {xs : List (List Int × Addr × Value)} (V : VtO c l o d xs) (S : St c L m l k s) (hm : (d, o) ∈ l) : s.heap.DictOfH (tupleKind (intKind c.prog c.w)) d xs := by
  obtain ⟨es, ep, h1, h2⟩ := V.da
  refine ⟨o, es, ep, S.get hm, V.ex, h1, h2, fun x hx => ?_, V.nd⟩
  obtain ⟨to, items, n, a, b, e, f⟩ := V.ks x hx
  exact ⟨to, items, n, S.get a, b, e, f⟩
/-- a tuple of ints -/
def TupO (o : Obj) (ns : List Int) : Prop := o.cls = .type "tuple" ∧ ∃ items n, o.data = .seq items n ∧ ∀ (c : Cx), ItemsAre (intKind c.prog c.w) ns items.toList
theorem k_vget {to : Obj} {ns : List Int} {xs : List (List Int × Addr × Value)} {Q : Value → Shared → Prop} (V : VtO c l o d xs) (T : TupO to ns) (S : St c L m l k s) (hm : (d, o) ∈ l) (ht : (e, to) ∈ l) (hu : A.units + 8 < cLine)
    (h : ∀ s', St c L m l k s' → Q (((atKey xs ns).map (·.2)).getD .none) s') : N c A (call (.builtin "dict.get") [.ref d, .ref e]) Q s := by
  have hD := V.dict S hm
  obtain ⟨tc, items, n, td, ti⟩ := T
  exact N.of (call_meetsIn PySem.F.slot_dict_get hD.typeIs PySem.F.entry_dict_get (PySem.F.args_dict_get_2 _ _) (meetsH_dict_get (tupleKind (intKind c.prog c.w)) d e V.lo)
    ⟨by show A.units + 1 < _; omega, ns, xs, ⟨to, items, n, S.get ht, tc, td, ti c⟩, hD, h _ S.tok⟩)
theorem atKey_none {xs : List (List Int × Addr × Value)} {ns : List Int} (h : ∀ x ∈ xs, x.1 ≠ ns) : atKey xs ns = none := by
  unfold atKey
  rw [Option.map_eq_none_iff, List.find?_eq_none]
  intro x hx q
  exact h x hx (of_decide_eq_true q)
/-- a new key -/
theorem k_vset {to : Obj} {ns : List Int} {v : Value} {xs : List (List Int × Addr × Value)} {Q : Unit → Shared → Prop} (V : VtO c l o d xs) (T : TupO to ns) (S : St c L m ((d, o) :: l) k s) (ht : (e, to) ∈ l) (hu : A.units + 8 < cLine) (hz : xs.length ≤ 1000000) (hn : atKey xs ns = none)
    (h : ∀ o' s', VtO c l o' d (xs ++ [(ns, e, v)]) → St c L m ((d, o') :: l) k s' → Q () s') : N c A (setItem (.ref d) (.ref e) v) Q s := by
  have hD := (V.sub (l' := (d, o) :: l) fun p hp => .tail _ hp).dict S (.head _)
  obtain ⟨tc, items, n, td, ti⟩ := T
  have S0 := S
  refine N.of (wpAny_setItem_heap (knd := tupleKind (intKind c.prog c.w)) (by show A.units + 1 < _; omega) ⟨to, items, n, S.get (.tail _ ht), tc, td, ti c⟩ hD (fun h' hd hs => ?_) (by rw [sizeLine_eq]; omega))
  obtain ⟨o', es, ep, ho', hex, hda, hes, hk, hnd⟩ := hd
  rw [storedH_new hn] at hes hk hnd
  refine h o' _ ⟨V.lo, hex, ⟨es, ep, hda, hes⟩, fun x hx => ?_, hnd⟩ (S.same (tk := _) hs ho' (noInst hex.1))
  rcases List.mem_append.mp hx with q | q
  · exact V.ks x q
  · rw [List.mem_singleton.mp q]
    exact ⟨to, items, n, ht, tc, td, ti c⟩
theorem k_dict_meth {pl : Sem Bool} {Q : Value × List Value → Shared → Prop} (S : St c L m l k s) (hm : (d, o) ∈ l) (hx : o.ExactDict) (h : Q (.builtin "dict.get", [.ref d]) s) : N c A (getMethod (.ref d) "get" pl) Q s :=
  N.of (getMethod_builtin ⟨_, S.get hm, hx.1⟩ PySem.F.plainAttrs_dict PySem.F.slot_dict_get PySem.F.type_dict_get (fun a e => by cases e; exact ⟨_, S.get hm, hx.2.1⟩) h)
theorem NC.for_ind {x : Str} {xp : Pos} {it : Value} {body : List Stmt} {R : Flow → Shared → Prop} (I : Nat → Shared → Prop)
    (step : ∀ n s, I n s → N c A (pyNext it) (fun o s₁ => match o with
      | none => R .next s₁
      | some v => N c A (storeName env x v) (fun _ s₂ => N c A (execs body env) (fun f s₃ => match f with
        | .next | .cont => ∃ n', n' < n ∧ I n' s₃ | .brk => R .next s₃ | .ret v => R (.ret v) s₃) s₂) s₁) s) : ∀ n s, I n s → NC c A (.forLoop (.Name x xp) it body [] env) R s := by
  intro n
  induction n using Nat.strongRecOn with
  | ind n ih =>
    intro s hI
    refine NC.for_ ((step n s hI).mono fun o s₁ h => ?_)
    cases o with
    | none => exact h
    | some v =>
      refine N.mono h fun _ s₂ h => N.mono h fun f s₃ h => ?_
      cases f with
      | next => obtain ⟨n', hn, hI'⟩ := h; exact ih n' hn _ hI'
      | cont => obtain ⟨n', hn, hI'⟩ := h; exact ih n' hn _ hI'
      | brk => exact h
      | ret v => exact h
/-- one turn of the making of a vtable's key -/
def stepK (oo : Int) (p : Bool × List Int) (e : Int) : Bool × List Int := if e = 0 then (if p.1 then p else (p.1, p.2 ++ [0])) else (false, p.2 ++ [oo - e])
theorem St.under {p q z : Addr × Obj} (S : St c L m (z :: p :: q :: l) k s) : St c L m (p :: q :: z :: l) k s := S.perm ((List.Perm.swap _ _ _).trans (.cons _ (.swap _ _ _)))
theorem St.over {p q z : Addr × Obj} (S : St c L m (p :: q :: z :: l) k s) : St c L m (z :: p :: q :: l) k s := S.perm ((List.Perm.cons _ (.swap _ _ _)).trans (.swap _ _ _))
theorem ints_rep {t : Tok} : ∀ n : Nat, IntsAre (List.replicate n (Value.int 0 t)) (List.replicate n 0)
  | 0 => .nil
  | n + 1 => by rw [List.replicate_succ, List.replicate_succ]; exact .cons 0 t (ints_rep n)
theorem rev_take {cvs : List Int} {n : Nat} {e : Int} (h : cvs[n]? = some e) : cvs.reverse.take (cvs.length - n) = cvs.reverse.take (cvs.length - (n + 1)) ++ [e] := by
  have hl := (List.getElem?_eq_some_iff.mp h).1
  have e1 : cvs.length - n = (cvs.length - (n + 1)) + 1 := by omega
  rw [e1, List.take_add_one]
  congr 1
  rw [List.getElem?_reverse (by omega), show cvs.length - 1 - (cvs.length - (n + 1)) = n by omega, h]
  rfl
theorem St.up3 {p q z v : Addr × Obj} (S : St c L m (p :: q :: z :: v :: l) k s) : St c L m (v :: p :: q :: z :: l) k s := S.perm ((List.Perm.cons _ ((List.Perm.cons _ (.swap _ _ _)).trans (.swap _ _ _))).trans (.swap _ _ _))
theorem St.down3 {p q z v : Addr × Obj} (S : St c L m (v :: p :: q :: z :: l) k s) : St c L m (p :: q :: z :: v :: l) k s := S.perm ((List.Perm.swap _ _ _).trans (.cons _ ((List.Perm.swap _ _ _).trans (.cons _ (.swap _ _ _)))))
/-- the words of a vtable, the last slot first, the empty tail left out -/
def keyL (cvs : List Int) (oo : Int) : List Int := (cvs.reverse.foldl (stepK oo) (true, [])).2
theorem ints_items {ns : List Int} (h : IntsAre vs ns) (c : Cx) : ItemsAre (intKind c.prog c.w) ns vs := by
  induction h with
  | nil => exact .nil
  | cons n t h ih => exact .cons (by show Value.isInt n (.int n t) = true; simp [Value.isInt]) ih
theorem tupO_of {ns : List Int} (h : IntsAre vs ns) : TupO ({ cls := .type "tuple", data := .seq vs.toArray } : Obj) ns := ⟨rfl, _, _, rfl, fun c => ints_items h c⟩
theorem r_item_ls {i : Value} {slice : Expr} {Q : Value → Shared → Prop} (X : LsO o vs) (S : St c L m l k s) (hm : (d, o) ∈ l) (h : N c A (getItem (.ref d) i) Q s)
    (hs : ∀ o i, subscripted slice false o i = operate [i, o] (getItem o i) ∨ subscripted slice false o i = operate [o, i] (getItem o i)) : N c A (getitemInPython (.ref d) >>= fun b => subscripted slice b (.ref d) i) Q s :=
  r_item ⟨_, S.get hm, X.1⟩ slot_list_getitem.lookup h hs
/-- a word of two octets ahead -/
def stepV (p : List UInt8 × Nat) (off : Int) : List UInt8 × Nat := (le 2 off ++ prepO 2 0 p.1, prepR 2 0 p.1 p.2)
end
theorem BufOk.over {hd : Int} {buf out x : List UInt8} {room p : Nat} (B : BufOk hd buf out room) (hx : p + x.length ≤ out.length) : BufOk hd (over buf (room - out.length + p) x) (over out p x) room := by
  obtain ⟨h1, h2, h3, h4, h5⟩ := B
  have hol : (Mine.over out p x).length = out.length := over_length hx
  have ht : (buf.take (room - out.length)).length = room - out.length := by rw [List.length_take]; omega
  have eb : buf = buf.take (room - out.length) ++ out := by
    conv => lhs; rw [← List.take_append_drop (room - out.length) buf]
    rw [h5]
  have e : Mine.over buf (room - out.length + p) x = buf.take (room - out.length) ++ Mine.over out p x := by
    have h6 : buf.take (room - out.length + p) = buf.take (room - out.length) ++ out.take p := by
      conv => lhs; rw [eb]
      rw [List.take_append, ht, List.take_of_length_le (by omega), Nat.add_sub_cancel_left]
    have h7 : buf.drop (room - out.length + p + x.length) = out.drop (p + x.length) := by
      have : out.drop (p + x.length) = (buf.drop (room - out.length)).drop (p + x.length) := by rw [h5]
      rw [this, List.drop_drop]; congr 1; omega
    unfold Mine.over
    rw [h6, h7, List.append_assoc, List.append_assoc, List.append_assoc]
  refine ⟨by rw [over_length (by omega)]; exact h1, h2, by rw [hol]; exact h3, by rw [hol]; exact h4, ?_⟩
  rw [hol, e, List.drop_left' ht]
theorem stepV_len {p : List UInt8 × Nat} {off : Int} : (stepV p off).1.length ≤ p.1.length + 3 ∧ p.1.length ≤ (stepV p off).1.length := by
  have := fillN_lt (o := p.1.length) (show 0 < 2 by omega)
  simp [stepV, prepO, le_length]; omega
end Mine

end
-- M8
section
open PySem PySem.W PySem.Calls PyProof.Rows
set_option maxRecDepth 100000
set_option linter.unusedVariables false
set_option linter.deprecated false
namespace Mine
section
variable {c : Cx} {A : Around} {s : Shared} {L d a e : Addr} {m : Str → Option Value} {l k : List (Addr × Obj)} {t u : Tok} {env : Env} {x y : Int} {vs : List Value} {o : Obj}
/-- a call with starred things behind the first -/
theorem cwS {pos : Pos} {f : Value} {first : List Value} {e : Expr} {rest : List Expr} {Q : Value → Shared → Prop}
    (h : N c A (spliced (backTo pos (starEach (e :: rest) env))) (fun vs s₁ => Kp c f s₁ ∧ N c A (call f (first ++ vs)) Q s₁) s)
    (he : starEach (e :: rest) env = (false, eval e env) :: starEach rest env := by rfl) (hst : (backTo pos (starEach rest env)).any (·.1) = true := by rfl) :
    N c A (callWith pos f first (backTo pos (starEach (e :: rest) env)) (backToKw pos (keywordEach [] env))) Q s := by
  rw [he] at h ⊢
  have hst' : (backTo pos ((false, eval e env) :: starEach rest env)).any (·.1) = true := by show (false || (backTo pos (starEach rest env)).any (·.1)) = true; rw [hst]; rfl
  have h0 : N c A (evalArgs f true (backTo pos ((false, eval e env) :: starEach rest env)) []) (fun a s₁ => Kp c f s₁ ∧ N c A (call f (first ++ a.pos) a.kw) Q s₁) s := ea_plain h
  show N c A (callWith pos f first (backTo pos ((false, eval e env) :: starEach rest env)) []) Q s
  unfold callWith
  refine N.bind (N.holding (h0.mono fun a s₁ h₁ => N.standAt ?_))
  obtain ⟨⟨k, hk, L⟩, h₂⟩ := h₁
  simp only [hst', Bool.true_or]
  refine N.looks L ?_
  have tail : ∀ {t : Sem Value}, N c A t Q s₁ → N c A (t >>= fun r => holding [r] point >>= fun _ => pure r) Q s₁ :=
    fun ht => N.bind (ht.mono fun r s₂ hr => N.bind (N.holding (N.of (wpAny_point (N.pure hr)))))
  have marked (mk : Value) : N c A (callMarked mk f (first ++ a.pos) a.kw) Q s₁ := by unfold callMarked; exact N.keep h₂
  rcases hk with rfl | rfl <;> dsimp only <;> first | exact tail (marked _) | exact tail (N.operate h₂)
theorem sp_star {pos p : Pos} {e : Expr} {rest : List Expr} {Q : List Value → Shared → Prop}
    (h : N c A (eval e env) (fun v s₁ => N c A (notIterableAtAll v) (fun b s₂ => b = false ∧ N c A (collect v) (fun here s₃ => N c A (spliced (backTo pos (starEach rest env))) (fun vs s₄ => Q (here ++ vs) s₄) s₃) s₂) s₁) s)
    (he : starEach (.Starred e p :: rest) env = (true, eval e env) :: starEach rest env := by rfl) : N c A (spliced (backTo pos (starEach (.Starred e p :: rest) env))) Q s := by
  rw [he]
  show N c A (spliced ((true, (do let v ← eval e env; standAt pos; pure v)) :: backTo pos (starEach rest env))) Q s
  rw [spliced]
  refine N.bind (N.bind (h.mono fun v s₁ h₁ => N.standAt (N.pure ?_)))
  refine N.bind (h₁.mono fun b s₂ h₂ => ?_)
  obtain ⟨rfl, h₂⟩ := h₂
  simp only [Bool.false_eq_true, if_false]
  exact N.bind (h₂.mono fun here s₃ h₃ => N.bind (N.holding (h₃.mono fun vs s₄ h₄ => N.pure h₄)))
theorem st_tup {its : Array Value} {n : Nat} {Q : List Value → Shared → Prop} (S : St c L m l k s) (hm : (a, ({ cls := .type "tuple", data := .seq its n } : Obj)) ∈ l) (hz : its.size ≤ 1000) (h : ∀ s', St c L m l k s' → Q its.toList s') :
    N c A (notIterableAtAll (.ref a)) (fun b s₂ => b = false ∧ N c A (collect (.ref a)) Q s₂) s := by
  have ho := S.get hm
  unfold notIterableAtAll
  refine N.bind (N.of (wpAny_specialOf (T := "tuple") ⟨_, ho, rfl⟩ PySem.F.slot_tuple_iter.lookup ?_))
  exact N.pure ⟨rfl, N.of (wpAny_collect_seq a (.inr rfl) ho rfl rfl (fun h' hk => h _ (S.grown (tk := s.toks) hk)) (by rw [sizeLine_eq]; omega))⟩

-- keywords
theorem kw_nil {pos : Pos} {Q : List Value → Shared → Prop} (h : Q [] s) : N c A (evalAll ((backToKw pos (keywordEach [] env)).map (·.2))) Q s := N.pure h
theorem kw_cons {pos p : Pos} {name : Str} {value : Expr} {rest : List Keyword} {Q : List Value → Shared → Prop}
    (h : N c A (eval value env) (fun v s₁ => N c A (evalAll ((backToKw pos (keywordEach rest env)).map (·.2))) (fun vs s₂ => Q (v :: vs) s₂) s₁) s) :
    N c A (evalAll ((backToKw pos (keywordEach (⟨some name, value, p⟩ :: rest) env)).map (·.2))) Q s := by
  show N c A (evalAll ((do let v ← eval value env; standAt pos; pure v) :: (backToKw pos (keywordEach rest env)).map (·.2))) Q s
  rw [evalAll]
  exact N.bind (N.bind (h.mono fun v s₁ h₁ => N.standAt (N.pure (N.bind (N.holding (h₁.mono fun vs s₂ h₂ => N.pure h₂))))))
theorem cwK {pos : Pos} {f : Value} {first : List Value} {e : Expr} {rest : List Expr} {kws : List Keyword} {Q : Value → Shared → Prop}
    (h : N c A (spliced (backTo pos (starEach (e :: rest) env))) (fun vs s₁ => N c A (evalAll ((backToKw pos (keywordEach kws env)).map (·.2))) (fun ks s₂ =>
      Kp c f s₂ ∧ N c A (call f (first ++ vs) (((backToKw pos (keywordEach kws env)).filterMap (·.1)).zip ks)) Q s₂) s₁) s)
    (hall : (backToKw pos (keywordEach kws env)).all (·.1.isSome) = true := by rfl) (hplain : ((backTo pos (starEach (e :: rest) env)).any (·.1) || (backToKw pos (keywordEach kws env)).any (·.1.isNone)) = false := by rfl)
    (he : starEach (e :: rest) env = (false, eval e env) :: starEach rest env := by rfl) :
    N c A (callWith pos f first (backTo pos (starEach (e :: rest) env)) (backToKw pos (keywordEach kws env))) Q s := by
  refine cw hplain ?_
  rw [he] at h ⊢
  show N c A (evalArgs f true ((false, eval e env) :: backTo pos (starEach rest env)) (backToKw pos (keywordEach kws env))) _ s
  unfold evalArgs
  show N c A (spliced ((false, eval e env) :: backTo pos (starEach rest env)) >>= fun vs => (pure (vs, none) : Sem (List Value × Option Value)) >>= _) _ s
  refine N.bind (N.mono h fun vs s₁ h₁ => N.bind (N.pure (N.holding ?_)))
  simp only [hall, if_true]
  exact N.bind (h₁.mono fun ks s₂ h₂ => N.bind (N.pure (N.pure h₂)))

/-- a call of a def that takes the rest of the arguments as a tuple -/
theorem n_callV {f : Addr} {name qual : Str} {params : Arguments} {body : List Stmt} {scope : Scope} {dV kV doc pm cdv ct oc : Value} {an od : Option Addr} {osl : Array (Option Value)} {pos : List Value} {kw : List (Str × Value)} {binds : Addr → List (Str × Value)} {g₁ : Addr → Option (List (Str × Value))}
    {Q : Value → Shared → Prop} (S : St c L m l k s) (ho : c.K.lookup f = some ⟨oc, od, .func (fnOf name qual params body scope dV kV doc pm an cdv ct), osl⟩) (hcd : codeIn c.K cdv qual = true) (hroom : A.depth < recursionLimit)
    (hp : peek1 c.K ⟨c.prog, c.w.params⟩ (bindArgs (fnOf name qual params body scope dV kV doc pm an cdv ct) ⟨pos, kw⟩) = some (({ cls := .type "tuple", data := .seq vs.toArray } : Obj), g₁)) (hg : ∀ D, g₁ D = some (binds D))
    (hloc : ∀ D, ∀ y ∈ binds D, scope.names.lookup y.1 = some .local)
    (h : ∀ D L' oL s₁, St c L' (fun y => (binds D).reverse.lookup y) ((D, ({ cls := .type "tuple", data := .seq vs.toArray } : Obj)) :: l) ((L, oL) :: k) s₁ → N c (A.deeper (envOf qual scope L' f cdv)) (execs body (envOf qual scope L' f cdv)) (Back c L m oL k Q) s₁)
    (hcell : ∀ x ∈ scope.names, x.2 ≠ .cell) (hco : scope.isCoroutine = false := by rfl) (hgen : scope.isGenerator = false := by rfl) (hk : scope.kind = .function := by rfl) :
    N c A (call (.ref f) pos kw) Q s := by
  have X := S.X
  obtain ⟨D0, hD, S0⟩ := S
  refine N.call (NC.def_ (fd := fnOf name qual params body scope dV kV doc pm an cdv ct) (body := body) hroom (X _ _ ho) rfl hco hgen rfl (codeRec_of X hcd) ?_)
  refine wp_of_peek1 (o := ({ cls := .type "tuple", data := .seq vs.toArray } : Obj)) (r := binds) S0.fr S0.nw X rfl (fun D h' F' N' lt => ?_) _ g₁ hp hg
  have S₁ : St c L m ((D, ({ cls := .type "tuple", data := .seq vs.toArray } : Obj)) :: l) k { s with heap := h' } := ⟨D0, hD.no rfl, S0.cons (tk := s.toks) F' N' lt⟩
  refine wpAny_newFunctionEnv hcell (hloc D) (fun h₁ hns hsb => ?_) hk
  have hk₁ : ∀ b o, h'.get? b = some o → h₁.get? b = some o := fun b o e => hsb.extBut b o (Nat.ne_of_lt (Heap.lt_size e)) (Heap.get?_push_of_some _ e)
  obtain ⟨oL, S₂, back⟩ := S₁.enter (t := s.toks + (binds D).length) hns hk₁
  refine ⟨(S₁.top.nolimit.keeps S₁.fr.keep).fresh _ hsb, NC.func ((h D _ oL _ S₂).mono fun fl s' hb => ?_)⟩
  obtain ⟨L', m', l', S', q⟩ := hb
  cases fl <;> exact q (back _ _ _ _ S')

/-- the same as n_call, for a callee that a method object hands on to -/
theorem n_callC {f : Addr} {name qual : Str} {params : Arguments} {body : List Stmt} {scope : Scope} {dV kV doc pm cdv ct oc : Value} {an od : Option Addr} {osl : Array (Option Value)} {pos : List Value} {kw : List (Str × Value)} {binds : List (Str × Value)}
    {Q : Value → Shared → Prop} (S : St c L m l k s) (ho : c.K.lookup f = some ⟨oc, od, .func (fnOf name qual params body scope dV kV doc pm an cdv ct), osl⟩) (hcd : codeIn c.K cdv qual = true) (hroom : A.depth < recursionLimit)
    (hbind : BindsTo s (fnOf name qual params body scope dV kV doc pm an cdv ct) ⟨pos, kw⟩ binds)
    (hloc : ∀ y ∈ binds, scope.names.lookup y.1 = some .local)
    (h : ∀ L' oL s₁, St c L' (fun y => binds.reverse.lookup y) l ((L, oL) :: k) s₁ → N c (A.deeper (envOf qual scope L' f cdv)) (execs body (envOf qual scope L' f cdv)) (Back c L m oL k Q) s₁)
    (hcell : ∀ x ∈ scope.names, x.2 ≠ .cell) (hco : scope.isCoroutine = false := by rfl) (hgen : scope.isGenerator = false := by rfl) (hk : scope.kind = .function := by rfl) :
    NC c A (.call (.ref f) ⟨pos, kw⟩) (fun f s' => match f with | .ret v => Q v s' | _ => False) s := by
  have X := S.X
  refine NC.def_ (fd := fnOf name qual params body scope dV kV doc pm an cdv ct) (body := body) hroom (X _ _ ho) rfl hco hgen rfl (codeRec_of X hcd) (hbind _ _ _ _ ?_)
  refine wpAny_newFunctionEnv hcell hloc (fun h₁ hns hsb => ?_) hk
  have hk₁ : ∀ b o, s.heap.get? b = some o → h₁.get? b = some o := fun b o e => hsb.extBut b o (Nat.ne_of_lt (Heap.lt_size e)) (Heap.get?_push_of_some _ e)
  obtain ⟨oL, S₂, back⟩ := S.enter (t := s.toks + binds.length) hns hk₁
  refine ⟨(S.top.nolimit.keeps S.fr.keep).fresh _ hsb, NC.func ((h _ oL _ S₂).mono fun fl s' hb => ?_)⟩
  obtain ⟨L', m', l', S', q⟩ := hb
  cases fl <;> exact q (back _ _ _ _ S')
theorem n_callM {q : Addr} {f self : Value} {pos : List Value} {kw : List (Str × Value)} {Q : Value → Shared → Prop} (S : St c L m l k s) (hq : (q, methodObj f self) ∈ l) (h : NC c A (.call f ⟨self :: pos, kw⟩) (fun f s' => match f with | .ret v => Q v s' | _ => False) s) : N c A (call (.ref q) pos kw) Q s := by
  refine N.call (NC.tree rfl ?_)
  show N c A.in1 (load q >>= _) _ s
  refine N.bind (N.of (wpAny_load (S.get hq) ?_))
  cases f <;> exact N.pure ⟨rfl, h⟩
/-- a method bound: o.f(*rest) makes a method object first -/
theorem e_methS {o : Expr} {name : Str} {apos pos : Pos} {args : List Expr} {kws : List Keyword} {Q : Value → Shared → Prop}
    (h : N c A (eval o env) (fun ov s₁ => N c A (getAttr ov name true) (fun f s₂ => N c A (callWith pos f [] (backTo pos (starEach args env)) (backToKw pos (keywordEach kws env))) Q s₂) s₁) s)
    (he : eval (.Call (.Attribute o name apos) args kws pos) env = (do
      let ov ← eval o env
      standAt apos.atName
      let (f, first) ← holding [ov] (do pure (← getAttr ov name true, []))
      callWith pos f first (backTo pos (starEach args env)) (backToKw pos (keywordEach kws env))) := by rfl) : N c A (eval (.Call (.Attribute o name apos) args kws pos) env) Q s := by
  rw [he]
  exact N.bind (h.mono fun ov s₁ h => N.standAt (N.bind (N.holding (N.bind (h.mono fun f s₂ h => N.pure h)))))
theorem b_bound {x C dx : Addr} {name : Str} {f : Addr} {expr : Bool} {Q : Value → Shared → Prop} {sl : Array (Option Value)} (S : St c L m l k s) (hx : (x, (⟨.ref C, some dx, .plain, sl⟩ : Obj)) ∈ l) (hg : plainGet c.K C name = true)
    (hcl : isClsIn c.K C = true) (hnd : hasDictIn c.K C = false) (ha : findIn c.K (.ref C) name = some (some (.ref f))) (hf : isFn c.K (.ref f) = true)
    (hgf : specialIn c.K (.ref f) "__get__" = some (some (.builtin "function.__get__"))) (ht : takesIn c.K (.ref f) = some false) (hc : copiedNames.contains name = false)
    (h : ∀ q s', St c L m ((q, methodObj (.ref f) (.ref x)) :: l) k s' → Q (.ref q) s') : N c A (getAttr (.ref x) name expr) Q s := by
  have X := S.X
  have I : InstAt s.heap x ⟨.ref C, some dx, .plain, sl⟩ C (some emptyDict) := ⟨S.get hx, rfl, rfl, S.idict hx rfl rfl⟩
  have hfo : findObj c.K C (some emptyDict) name = some (.bind (.builtin "function.__get__") (.ref f)) := by
    obtain ⟨cd, hc'⟩ := Option.isSome_iff_exists.mp hcl
    have hd' : cd.hasDict = false := by
      unfold hasDictIn at hnd
      rw [hc'] at hnd
      simpa using hnd
    unfold findObj
    have ho : W.ownOf cd (some emptyDict) name = some none := by unfold W.ownOf; rw [if_neg (by rw [hd']; decide)]
    rw [hc', Option.bind_some, ha, Option.bind_some]
    simp only [hgf, ht, Option.bind_some, ho, hc, Bool.false_and, Bool.false_eq_true, if_false]
  exact N.of (get_bind X I (plainGet_of hg).1 hfo (plainGet_of hg).2
    (wpAny_call (fn_get (s := { s with toks := s.toks + 1 }) X (beq_iff_eq.mp hf) (handed_on rfl (h s.heap.objs.size _ (S.push (t := s.toks + 1) (methodObj (.ref f) (.ref x))))))))
theorem cwM {pos : Pos} {q f : Addr} {self : Value} {fst : List Value} {e : Expr} {rest : List Expr} {Q : Value → Shared → Prop} (hf : fnIn c.K f = true)
    (h : N c A (spliced (backTo pos (starEach (e :: rest) env))) (fun vs s₁ => MethP c.K q f self s₁.heap ∧ N c A (call (.ref q) (fst ++ vs)) Q s₁) s)
    (he : starEach (e :: rest) env = (false, eval e env) :: starEach rest env := by rfl) (hst : (backTo pos (starEach rest env)).any (·.1) = true := by rfl) :
    N c A (callWith pos (.ref q) fst (backTo pos (starEach (e :: rest) env)) (backToKw pos (keywordEach [] env))) Q s := by
  rw [he] at h ⊢
  have hst' : (backTo pos ((false, eval e env) :: starEach rest env)).any (·.1) = true := by show (false || (backTo pos (starEach rest env)).any (·.1)) = true; rw [hst]; rfl
  have h0 : N c A (evalArgs (.ref q) true (backTo pos ((false, eval e env) :: starEach rest env)) []) (fun a s₁ => MethP c.K q f self s₁.heap ∧ N c A (call (.ref q) (fst ++ a.pos) a.kw) Q s₁) s := ea_plain h
  show N c A (callWith pos (.ref q) fst (backTo pos ((false, eval e env) :: starEach rest env)) []) Q s
  unfold callWith
  refine N.bind (N.holding (h0.mono fun a s₁ h₁ => N.standAt ?_))
  obtain ⟨hM, h₂⟩ := h₁
  obtain ⟨k, hk, L⟩ := keeps_M (M := c.M) hf _ hM
  simp only [hst', Bool.true_or]
  refine N.looks L ?_
  have tail : ∀ {t : Sem Value}, N c A t Q s₁ → N c A (t >>= fun r => holding [r] point >>= fun _ => pure r) Q s₁ :=
    fun ht => N.bind (ht.mono fun r s₂ hr => N.bind (N.holding (N.of (wpAny_point (N.pure hr)))))
  have marked (mk : Value) : N c A (callMarked mk (.ref q) (fst ++ a.pos) a.kw) Q s₁ := by unfold callMarked; exact N.keep h₂
  rcases hk with rfl | rfl | rfl <;> dsimp only <;> first | exact tail (marked _) | exact tail (N.operate h₂)

theorem Rm.typ {A : Around} {args : Args} {n : Nat} (R : Rm A (n + 1)) (h : (Code.builtin "type.__call__" args).weight ≤ 1) (h2 : (Code.builtin "type.__call__" args).cUnits ≤ 7) (h3 : (Code.builtin "type.__call__" args).isGuard = false) : Rm (A.under (.builtin "type.__call__" args)) n := by
  refine ⟨?_, ?_, ?_, R.h⟩
  · have := R.d; show A.depth + _ + n < _; omega
  · have := R.u; show A.units + _ + 8 * n < _; omega
  · show pushGuards (Code.guards (.builtin "type.__call__" args)) A.guards = some []
    unfold Code.guards; rw [h3, R.g]; rfl
/-- an instance of a class of the text, its __init__ run -/
theorem n_make {C fI : Addr} {args : List Value} {Q : Value → Shared → Prop} (S : St c L m l k s) (hm : makesIn c.K C = true) (hi : findIn c.K (.ref C) "__init__" = some (some (.ref fI))) (hf : isFn c.K (.ref fI) = true)
    (h : ∀ x dx s', St c L m ((x, instObj C dx) :: l) k s' → N c (A.under (.builtin "type.__call__" ⟨.ref C :: args, []⟩)) (call (.ref fI) (.ref x :: args)) (fun v s'' => v = .none ∧ Q (.ref x) s'') s') : N c A (call (.ref C) args) Q s := by
  have X := S.X
  have Y := makes_of (M := c.M) X hm
  have Y' := Y
  obtain ⟨⟨oc, od, cd, sl, hC, e1, e2, e4⟩, made, base, self, top, call, typ⟩ := Y
  refine N.call (NC.tree rfl ?_)
  show N c A.in1 (load C >>= _) _ s
  refine N.bind (N.of (wpAny_load hC ?_))
  show N c A.in1 (callAny.viaDunder (.ref C) _) _ _
  unfold callAny.viaDunder
  refine N.bind (N.of (call.here ?_))
  dsimp only
  rw [tc_bind]
  refine N.bind (N.pure (N.bind (N.pure ?_)))
  refine N.pure (a := Fin.again (.call (.builtin "type.__call__") ⟨.ref C :: args, []⟩)) (And.intro rfl ?_)
  refine NC.tree rfl ?_
  show N c A.in1 (do checkBuiltinCall "type.__call__" ⟨.ref C :: args, []⟩; again (.builtin "type.__call__" ⟨.ref C :: args, []⟩)) _ s
  refine N.bind (N.of (check_slot tc_kind tc_split typ (tc_args _ _ _) ?_))
  refine N.pure ⟨Code.quiet_builtin _ (by decide +kernel), NC.builtin (by decide +kernel) entry_typeCall ?_⟩
  unfold Builtin.«type.__call__»
  have hmr : Looks c.M s.heap (mroOf (.ref C)) cd.mro := ((Looks.ld (part := none) hC).andThen .now).andThen .now
  refine N.boolneg rfl ?_
  refine N.looks hmr ?_
  refine N.boolneg (by simpa using e4) ?_
  refine N.looks made ?_
  have hil := looks_findIn (M := c.M) X hi
  have hbi := bind_fn (M := c.M) X (h := s.heap) (f := fI)
  have S₁ := S.inst (C := C) (t := s.toks)
  obtain ⟨hh, gg, d, t, os⟩ := s
  refine N.bind (N.pure (N.bind (N.holding (N.of (wpAny_call (new_K Y' hil (.inl rfl) ?_))))))
  have kk : ∀ b o, hh.get? b = some o → ((hh.push emptyDict).push (instObj C hh.objs.size)).get? b = some o := fun b o e => Heap.get?_push_of_some _ (Heap.get?_push_of_some _ e)
  have hx : ((hh.push emptyDict).push (instObj C hh.objs.size)).get? (hh.objs.size + 1) = some (instObj C hh.objs.size) := by heap_get
  have t1 : Looks c.M ((hh.push emptyDict).push (instObj C hh.objs.size)) (typeOf (.ref (hh.objs.size + 1))) (.ref C) := (Looks.ld hx).andThen .now
  refine N.looks (a := true) (t1.andThen (self.keeps kk)) ?_
  refine N.boolneg rfl ?_
  unfold callSpecial? specialOf
  refine N.bind (N.holding (N.bind (N.looks t1 (N.of ((hil.keeps kk).here ?_)))))
  refine N.holding ?_
  refine N.bind (N.of (((hbi (.ref (hh.objs.size + 1)) (beq_iff_eq.mp hf)).keeps kk).here ?_))
  dsimp only
  refine N.bind ((h _ _ _ S₁).mono fun v s'' hv => ?_)
  obtain ⟨rfl, hv⟩ := hv
  refine N.pure ?_
  exact N.pure hv
theorem mk_w {C : Addr} {v : Value} : (Code.builtin "type.__call__" ⟨[.ref C, v], []⟩).weight ≤ 1 := by
  rw [show (Code.builtin "type.__call__" ⟨[.ref C, v], []⟩).weight = 1 from rfl]; decide
theorem mk_u {C : Addr} {v : Value} : (Code.builtin "type.__call__" ⟨[.ref C, v], []⟩).cUnits ≤ 7 := by
  rw [show (Code.builtin "type.__call__" ⟨[.ref C, v], []⟩).cUnits = 1 from rfl]; decide
theorem mk_g {C : Addr} {v : Value} : (Code.builtin "type.__call__" ⟨[.ref C, v], []⟩).isGuard = false := by kernel_rfl
end
end Mine
end
local macro_rules | `(tactic| walk_at "n_leaf") => `(tactic| ((with_reducible show Mine.N _ _ (PySem.callWith _ _ _ _ _) _ _); first | refine Mine.cwS ?_ | refine Mine.cwK ?_))
section
open PySem PySem.W PySem.Calls PyProof.Rows
set_option maxRecDepth 100000
set_option linter.unusedVariables false
set_option linter.deprecated false
end
local macro_rules | `(tactic| walk_at "n_leaf") => `(tactic| ((with_reducible show Mine.N _ _ (PySem.spliced _) _ _); refine Mine.sp_star ?_))
section
open PySem PySem.W PySem.Calls PyProof.Rows
set_option maxRecDepth 100000
set_option linter.unusedVariables false
set_option linter.deprecated false
end
local macro_rules | `(tactic| walk_at "n_leaf") => `(tactic| ((with_reducible show Mine.N _ _ (PySem.evalAll _) _ _); first | refine Mine.kw_nil ?_ | refine Mine.kw_cons ?_))
section
open PySem PySem.W PySem.Calls PyProof.Rows
set_option maxRecDepth 100000
set_option linter.unusedVariables false
set_option linter.deprecated false

end
-- M9
section
open PySem PySem.W PySem.Calls PyProof.Rows
set_option maxRecDepth 100000
set_option linter.unusedVariables false
set_option linter.deprecated false
namespace Mine
/-- a tuple of these -/
abbrev tup (vs : List Value) : Obj := { cls := .type "tuple", data := .seq vs.toArray }
/-- a range's walk at x, so many left -/
abbrev rit (x left : Int) : Obj := { cls := .type "range_iterator", dict := none, data := .fields #[rawInt x, rawInt left, rawInt 1], slots := #[] }
section
variable {c : Cx} {A : Around} {s : Shared} {L d a e : Addr} {m : Str → Option Value} {l k : List (Addr × Obj)} {t u : Tok} {env : Env} {x y : Int} {vs : List Value} {o : Obj}
-- targets that are tuples
theorem n_assignT {elts : List Expr} {kk : Nat} {tpos pos : Pos} {value : Expr} {Q : Flow → Shared → Prop}
    (h : N c A (eval value env) (fun v s₁ => N c A (assign (.Tuple elts kk tpos) env v) (fun _ => Q .next) s₁) s)
    (hs : swapsWithSole [.Tuple elts kk tpos] value pos.line env = pure false := by rfl)
    (hw : swappedStores [.Tuple elts kk tpos] value env = pure none := by rfl) : N c A (exec (.Assign [.Tuple elts kk tpos] value pos) env) Q s := by
  rw [exec_Assign]
  refine N.standAt ?_
  rw [hs]
  refine N.bind (N.pure ?_)
  rw [if_neg (by decide)]
  refine N.bind (h.mono fun v s₁ h₁ => ?_)
  rw [hw]
  refine N.bind (N.pure ?_)
  show N c A (do assignAll v [assign (.Tuple elts kk tpos) env]; pure .next) Q s₁
  exact N.bind (h₁.mono fun _ _ x => N.pure x)
theorem as_tup {elts : List Expr} {kk : Nat} {pos : Pos} {Q : Unit → Shared → Prop} (S : St c L m l k s) (hm : (a, tup vs) ∈ l) (hh : A.handled = none)
    (h : ∀ s', St c L m l k s' → N c A (assignInOrder ((assignEach elts env).map (·.2)) vs) Q s')
    (hn : (assignEach elts env).length = vs.length := by rfl) (hstar : (assignEach elts env).findIdx? (·.1) = none := by rfl) : N c A (assign (.Tuple elts kk pos) env (.ref a)) Q s := by
  rw [assign_Tuple]
  refine N.standAt ?_
  unfold unpack
  rw [hn, hstar]
  obtain ⟨D, hD, S0⟩ := S
  exact N.bind (N.holding (N.of (unpackItemsN_ S0.fr S0.nw (t := a) (items := vs.toArray) ⟨_, S0.get hm, rfl, 0, rfl⟩ hh (by simp) fun h' F' N' => h _ ⟨D, hD, F', N', S0.nd, S0.gens, S0.os, S0.kin, S0.top⟩)))
theorem ao_nil {vs : List Value} {Q : Unit → Shared → Prop} (h : Q () s) : N c A (assignInOrder ((assignEach [] env).map (·.2)) vs) Q s := by
  cases vs <;> exact N.pure h
theorem ao_name {nm : Str} {np : Pos} {rest : List Expr} {v : Value} {vs : List Value} {Q : Unit → Shared → Prop}
    (h : N c A (storeName env nm v) (fun _ s₁ => N c A (assignInOrder ((assignEach rest env).map (·.2)) vs) Q s₁) s) : N c A (assignInOrder ((assignEach (.Name nm np :: rest) env).map (·.2)) (v :: vs)) Q s := by
  show N c A (do holding vs (do standAt np; bindName env nm v); assignInOrder ((assignEach rest env).map (·.2)) vs) Q s
  exact N.bind (N.holding (N.standAt (N.bindName (h.mono fun _ _ h => h))))
theorem k_newtuple {Q : Value → Shared → Prop} (S : St c L m l k s) (hz : vs.length ≤ 16777216) (h : ∀ d s', St c L m ((d, tup vs) :: l) k s' → Q (.ref d) s') : N c A (newTuple vs) Q s := by
  obtain ⟨D, hD, S⟩ := S
  exact N.of (kup_newTuple S.fr S.nw (fun B h' F' N' lt => h B _ ⟨D, hD.no rfl, S.cons (tk := s.toks) F' N' lt⟩) (by rw [sizeLine_eq]; exact hz))
theorem t_get {i : Nat} {v : Value} {Q : Value → Shared → Prop} (S : St c L m l k s) (hm : (a, tup vs) ∈ l) (hz : vs.length ≤ 1000) (hv : vs[i]? = some v) (h : Q v s) : N c A (getItem (.ref a) (.int i t)) Q s := by
  have := (List.getElem?_eq_some_iff.mp hv).1
  exact N.of (getItem_tuple (items := vs.toArray) (j := i) ⟨_, S.get hm, rfl, 0, rfl⟩ (by omega) (by omega) (by rw [List.size_toArray]; unfold seqIndex?; simp; omega) (by simpa using hv) h)
theorem r_item_tup {i : Value} {slice : Expr} {Q : Value → Shared → Prop} (S : St c L m l k s) (hm : (a, tup vs) ∈ l) (h : N c A (getItem (.ref a) i) Q s)
    (hs : ∀ o i, subscripted slice false o i = operate [i, o] (getItem o i) ∨ subscripted slice false o i = operate [o, i] (getItem o i)) : N c A (getitemInPython (.ref a) >>= fun b => subscripted slice b (.ref a) i) Q s :=
  r_item ⟨_, S.get hm, rfl⟩ slot_tuple_getitem.lookup h hs
-- ranges
theorem k_range {n : Nat} {Q : Value → Shared → Prop} (S : St c L m l k s) (h : ∀ r s' t₁ u₁ v₁, St c L m ((r, ({ cls := .type "range", dict := none, data := .fields #[.int 0 t₁, .int n u₁, .int 1 v₁], slots := #[] } : Obj)) :: l) k s' → Q (.ref r) s') :
    N c A (call (.type "range") [.int n t]) Q s := by
  obtain ⟨hp, g, dr, tk, os⟩ := s
  exact N.of (call_range_1 (h _ _ _ _ _ (S.push (t := tk + 1 + 1) _)))
theorem k_iter_range {n : Nat} {r : Addr} {t₁ u₁ v₁ : Tok} {Q : Value → Shared → Prop} (S : St c L m ((r, ({ cls := .type "range", dict := none, data := .fields #[.int 0 t₁, .int n u₁, .int 1 v₁], slots := #[] } : Obj)) :: l) k s) (hn : n ≤ 1000000)
    (h : ∀ i s', St c L m ((i, rit 0 n) :: l) k s' → Q (.ref i) s') : N c A (pyIter (.ref r)) Q s := by
  have hsz : Builtin.Range.rangeSize 0 (n : Int) 1 = (n : Int) := by rw [rangeSize_nat]; omega
  refine N.of (wpAny_pyIter_range (S.get (.head _)) ?_ ?_)
  · unfold Builtin.Range.small
    rw [hsz]
    simp [Builtin.Range.rangeFitsLong]; omega
  · rw [hsz]
    have S' := S.push (t := s.toks) (rit 0 n)
    exact h _ _ (S'.sub (.cons_cons _ (.cons _ (.refl _))))
theorem k_next_range {x : Int} {left : Int} {Q : Option Value → Shared → Prop} (S : St c L m ((e, rit x left) :: l) k s) (hl : 0 < left) (h : ∀ t s', St c L m ((e, rit (x + 1) (left - 1)) :: l) k s' → Q (some (.int x t)) s') : N c A (pyNext (.ref e)) Q s :=
  N.of (wpAny_pyNext_range_item (S.get (.head _)) hl fun h' hi hs => h _ _ (S.same hs hi rfl))
theorem k_next_range_end {x : Int} {Q : Option Value → Shared → Prop} (S : St c L m ((e, rit x 0) :: l) k s) (hh : A.handled = none) (h : ∀ s', St c L m l k s' → Q none s') : N c A (pyNext (.ref e)) Q s :=
  N.of (wpAny_pyNext_range_end hh (S.get (.head _)) (by omega) fun h' hx => h _ (S.ext (tk := s.toks) hx))
-- ints
theorem i_shl {n : Int} {Q : Value → Shared → Prop} (S : St c L m l k s) (h0 : 0 ≤ n) (h1 : n ≤ 1000) (ha : x.natAbs < 2 ^ 64) (h : ∀ t s', St c L m l k s' → Q (.int (x * 2 ^ n.toNat) t) s') : N c A (binaryOp .LShift (.int x t) (.int n u)) Q s :=
  N.of (lshift_int_small h0 (by omega) ha (h _ _ S.tok))
theorem k_max {Q : Value → Shared → Prop} (S : St c L m l k s) (hh : A.handled = none) (h : ∀ t s', St c L m l k s' → Q (.int (max x y) t) s') : N c A (call (.builtin "max") [.int x t, .int y u]) Q s :=
  N.of (max_two_ints hh fun h' tk hk => by
    by_cases q : y > x
    · rw [if_pos q]; have := h u _ (S.grown (tk := tk) hk); rwa [show max x y = y by omega] at this
    · rw [if_neg q]; have := h t _ (S.grown (tk := tk) hk); rwa [show max x y = x by omega] at this)
-- bytes
theorem k_bytes_list {ns : List Int} {Q : Value → Shared → Prop} (X : LsO o vs) (S : St c L m l k s) (hm : (d, o) ∈ l) (hi : IntsAre vs ns) (hr : ∀ n ∈ ns, 0 ≤ n ∧ n < 256) (hz : vs.length ≤ 1000000) (hh : A.handled = none)
    (h : ∀ t s', St c L m l k s' → Q (.bytes (byteArr ns) t) s') : N c A (call (.type "bytes") [.ref d]) Q s :=
  N.of (call_bytes_ints (X.isList (S.get hm)) hi hr (by rw [sizeLine_eq]; omega) hh fun h' t k' hk => h t _ (S.grown (tk := k') hk))
theorem y_ne {p q : Array UInt8} {Q : Value → Shared → Prop} (h : Q (.bool (p.toList != q.toList)) s) : N c A (compareOp .NotEq (.bytes p t) (.bytes q u)) Q s := N.of (ne_bytes h)
theorem y_eq {p q : Array UInt8} {Q : Value → Shared → Prop} (h : Q (.bool (p.toList == q.toList)) s) : N c A (compareOp .Eq (.bytes p t) (.bytes q u)) Q s := N.of (eq_bytes h)
end
namespace BF
theorem ba_no_bytes : typeLookup (.type "bytearray") "__bytes__" = pure none := by rw [typeLookup_type, builtinLookup_eq_fast]; kernel_rfl
end BF
section
variable {prog : Program} {w : World} {A : Around} {E : Value → Shared → Prop} {s : Shared}
theorem new_of_ba {d : Addr} {b : List UInt8} {Q : Value → Shared → Prop} (ho : s.heap.get? d = some (baObj b)) (hz : b.length ≤ 16777216)
    (hQ : Q (.bytes b.toArray s.toks) { s with toks := s.toks + 1 }) :
    codeAny (model prog w) A (.call (.builtin "bytes.__new__") ⟨[.type "bytes", .ref d], []⟩) (wants Q E) s := by
  refine codeAny_of_tree ?_
  show wpAny _ A.in1 (do checkBuiltinCall "bytes.__new__" ⟨[.type "bytes", .ref d], []⟩; again (.builtin "bytes.__new__" ⟨[.type "bytes", .ref d], []⟩)) _ _ s
  refine wpAny_bind (wpAny_of_eq (F.bm_newCall _) (wpAny_pure ⟨plainId_quiet F.bm_plain _, codeAny_builtin F.bm_entry ?_⟩))
  rw [Around.under_plainId F.bm_plain _]
  have hT : s.TypeIs (.ref d) "bytearray" := ⟨_, ho, rfl⟩
  unfold Builtin.«bytes.__new__»
  refine wpAny_bind (wpAny_of_eq (a := true) rfl ?_)
  refine bm_if_false rfl ?_
  refine wpAny_bind (wpAny_of_eq F.bm_sub ?_)
  refine bm_if_false rfl ?_
  refine wpAny_bind (wpAny_of_eq (F.bm_bind _) ?_)
  refine wpAny_bind (wpAny_of_eq (a := ()) rfl ?_)
  refine wpAny_bind (wpAny_of_eq (a := ()) rfl ?_)
  refine bm_if_false rfl ?_
  refine wpAny_bind (wpAny_specialOf hT BF.ba_no_bytes ?_)
  refine wpAny_bind (wpAny_bind ?_)
  show wpAny _ _ (load d >>= _) _ _ _
  refine wpAny_bind (wpAny_load ho ?_)
  refine wpAny_pure (wpAny_pure ?_)
  refine bm_if_false rfl ?_
  refine wpAny_bind (wpAny_specialOf hT BF.ba_index ?_)
  refine bm_if_true rfl ?_
  first
    | show wpAny _ _ (Builtin.Bytes.buffer? "bytes.__new__" (.ref d) true >>= _) _ _ _
    | (refine wpAny_bind ?_; show wpAny _ _ (Builtin.Bytes.buffer? "bytes.__new__" (.ref d) true >>= _) _ _ _)
  refine wpAny_bind (buf_octets (Octets.ba ho) ?_)
  refine wpAny_bind (wpAny_rule ?_)
  refine wpAny_bind (wpAny_mkBytes ?_ (by rw [sizeLine_eq, List.size_toArray]; omega))
  first
    | (show wpAny _ _ (if (Value.type "bytes" == Value.type "bytes") = true then _ else _) _ _ _
       refine bm_if_true (by decide) ?_
       first
         | exact wpAny_pure hQ
         | exact wpAny_bind (wpAny_pure (wpAny_pure hQ)))
    | (refine wpAny_bind ?_
       show wpAny _ _ (if (Value.type "bytes" == Value.type "bytes") = true then _ else _) _ _ _
       refine bm_if_true (by decide) ?_
       first
         | exact wpAny_pure (wpAny_pure hQ)
         | exact wpAny_bind (wpAny_pure (wpAny_pure (wpAny_pure hQ))))
end
section
variable {c : Cx} {A : Around} {s : Shared} {L d a e : Addr} {m : Str → Option Value} {l k : List (Addr × Obj)} {t u : Tok} {env : Env} {x y : Int} {vs : List Value} {o : Obj}
theorem k_bytes_ba {b : List UInt8} {Q : Value → Shared → Prop} (S : St c L m l k s) (hm : (d, baObj b) ∈ l) (hz : b.length ≤ 16777216) (h : ∀ t s', St c L m l k s' → Q (.bytes b.toArray t) s') : N c A (call (.type "bytes") [.ref d]) Q s :=
  N.of (callType_codes (Q₁ := fun obj s₁ => s₁.TypeIs obj "bytes" ∧ Q obj s₁) F.bm_called (F.bm_typeCall _) F.entry_object_init
    (new_of_ba (S.get hm) hz ⟨PySem.W.typeIs_bytes _ _ _, h _ _ S.tok⟩) fun obj s₁ h₁ =>
      ⟨h₁.1, F.args_object_init_2 obj _, object_init_meets F.bm_called.init.lookup F.bm_called.made (by decide) c.prog c.w A.in1 _ s₁ ⟨h₁.1, rfl, h₁.2⟩⟩)
end
end Mine

end
-- M10
section
open PySem PySem.W PySem.Calls PyProof.Rows
set_option maxRecDepth 100000
set_option linter.unusedVariables false
set_option linter.deprecated false
namespace Mine
section
variable {c : Cx} {A : Around} {s : Shared} {L d a e : Addr} {m : Str → Option Value} {l k : List (Addr × Obj)} {t u : Tok} {env : Env} {x y : Int} {vs us : List Value} {o o' : Obj}
theorem l_eq {ns ms : List Int} {Q : Value → Shared → Prop} (X : LsO o vs) (X' : LsO o' us) (S : St c L m l k s) (hm : (a, o) ∈ l) (hm' : (d, o') ∈ l) (hi : IntsAre vs ns) (hi' : IntsAre us ms) (hu : A.units + 64 < cLine)
    (h : Q (.bool (decide (ns = ms))) s) : N c A (compareOp .Eq (.ref a) (.ref d)) Q s :=
  N.of (eq_intsK (X.isList (S.get hm)) hi (X'.isList (S.get hm')) hi' hu h)
theorem l_ne {ns ms : List Int} {Q : Value → Shared → Prop} (X : LsO o vs) (X' : LsO o' us) (S : St c L m l k s) (hm : (a, o) ∈ l) (hm' : (d, o') ∈ l) (hi : IntsAre vs ns) (hi' : IntsAre us ms) (hu : A.units + 64 < cLine)
    (h : Q (.bool (!decide (ns = ms))) s) : N c A (compareOp .NotEq (.ref a) (.ref d)) Q s :=
  N.of (ne_intsK (X.isList (S.get hm)) hi (X'.isList (S.get hm')) hi' hu h)
theorem t_ne {ns ms : List Int} {Q : Value → Shared → Prop} (S : St c L m l k s) (hm : (a, tup vs) ∈ l) (hm' : (d, tup us) ∈ l) (hi : IntsAre vs ns) (hi' : IntsAre us ms) (hu : A.units + 64 < cLine)
    (h : Q (.bool (!decide (ns = ms))) s) : N c A (compareOp .NotEq (.ref a) (.ref d)) Q s := by
  have sh : ∀ ns : List Int, SeqAt.shaped (.tuple (ns.map PyData.int)) = true := fun ns => by
    have h1 := W.depthAll_ints ns
    have h2 : PyData.depth (.tuple (ns.map PyData.int)) ≤ 64 := by simp only [PyData.depth]; omega
    show (PyData.canLay0 (.tuple (ns.map PyData.int)) && decide (PyData.depth (.tuple (ns.map PyData.int)) ≤ 64)) = true
    rw [Bool.and_eq_true]
    exact ⟨by simp only [PyData.canLay0]; exact canLayAll0_ints ns, decide_eq_true h2⟩
  exact N.of (ne_dataH_same (reads_tuple_at (S.get hm) rfl rfl (by simpa using readsAll_of_ints hi)) (reads_tuple_at (S.get hm') rfl rfl (by simpa using readsAll_of_ints hi')) (sh ns) (sh ms) hu
    (by simp only [SeqAt.noMix]; exact noMix_ints ns ms) (by simp only [PySem.Spec.same]; rw [same_ints]; exact h))
theorem k_truthy_int {Q : Bool → Shared → Prop} (h : Q (x != 0) s) : N c A (truthy (.int x t)) Q s := N.of (PyProof.Rows.truthy_int h)
theorem k_sum {ns : List Int} {Q : Value → Shared → Prop} (S : St c L m l k s) (hl : s.heap.IsList d vs.toArray) (hi : IntsAre vs ns) (hh : A.handled = none) (h : ∀ t s', St c L m l k s' → Q (.int ns.sum t) s') : N c A (call (.builtin "sum") [.ref d]) Q s := by
  have ha := hi.allInts
  obtain ⟨xs, e⟩ := ha.items
  have en : (numsOf (intItems xs).toList) = ns := by rw [← e]; exact hi.numsOf
  rw [nums_intItems] at en
  rw [e] at hl
  refine N.of (sum_intListG hh hl fun h' tk t' hk => ?_)
  have := h t' _ (S.grown (tk := tk) hk)
  rw [preSum_eq, List.take_of_length_le (by simp)]
  rw [← en] at this
  exact this
/-- x[lo:hi] of a list: a list of its own -/
theorem l_cut {items : Array Value} {vl vu : Value} {lo hi : Option Int} {Q : Value → Shared → Prop} (S : St c L m ((a, sliceObj vl vu) :: l) k s) (hl : s.heap.IsList d items) (pl : IsPart vl lo) (pu : IsPart vu hi) (hz : items.size ≤ 1000000)
    (h : ∀ e s', St c L m ((e, listOf (slicePick items lo hi none) 0) :: l) k s' → Q (.ref e) s') : N c A (getItem (.ref d) (.ref a)) Q s := by
  refine N.of (wpAny_getItem_list_slice hl ⟨_, S.get (.head _), rfl, rfl⟩ pl pu .none (by simp) ?_ (by rw [sizeLine_eq]; omega))
  exact h _ _ (S.drop.push (t := s.toks) (listOf (slicePick items lo hi none) 0))
/-- x[lo:hi] of bytes -/
theorem y_cut {b : List UInt8} {vl vu : Value} {lo hi : Option Int} {Q : Value → Shared → Prop} (S : St c L m ((a, sliceObj vl vu) :: l) k s) (pl : IsPart vl lo) (pu : IsPart vu hi) (hz : b.length ≤ 16777216)
    (h : ∀ t s', St c L m l k s' → Q (.bytes (cutOf b lo hi).toArray t) s') : N c A (getItem (.bytes b.toArray t) (.ref a)) Q s := by
  refine N.of (getItem_meets (typeIs_bytes _ _ _) (by decide) FB.slot_bytes_getitem FB.entry_bytes_getitem (FB.args_bytes_getitem_2 _ _) (KBc.meets_slice2 b.toArray t _ pl pu) ⟨⟨_, S.get (.head _), rfl, rfl⟩, ?_, fun t' k' => ?_⟩)
  · rw [picked_cut, List.size_toArray, sizeLine_eq]
    have : (cutOf b lo hi).length ≤ b.length := by unfold cutOf; rw [List.length_take, List.length_drop]; omega
    omega
  · rw [picked_cut]
    exact h _ _ (S.drop.tok (t := k'))
theorem r_item_y {b : Array UInt8} {i : Value} {slice : Expr} {Q : Value → Shared → Prop} (h : N c A (getItem (.bytes b t) i) Q s)
    (hs : ∀ o i, subscripted slice false o i = operate [i, o] (getItem o i) ∨ subscripted slice false o i = operate [o, i] (getItem o i)) : N c A (getitemInPython (.bytes b t) >>= fun b' => subscripted slice b' (.bytes b t) i) Q s :=
  r_item (typeIs_bytes _ _ _) FB.slot_bytes_getitem.lookup h hs
theorem r_item_list {items : Array Value} {i : Value} {slice : Expr} {Q : Value → Shared → Prop} (hl : s.heap.IsList d items) (h : N c A (getItem (.ref d) i) Q s)
    (hs : ∀ o i, subscripted slice false o i = operate [i, o] (getItem o i) ∨ subscripted slice false o i = operate [o, i] (getItem o i)) : N c A (getitemInPython (.ref d) >>= fun b' => subscripted slice b' (.ref d) i) Q s :=
  r_item hl.typeIs slot_list_getitem.lookup h hs
/-- a key of ints, sought in a dict -/
theorem k_notin {to : Obj} {ns : List Int} {l0 : List (Addr × Obj)} {xs : List (List Int × Addr × Value)} {Q : Value → Shared → Prop} (V : VtO c l0 o d xs) (hsub : ∀ p ∈ l0, p ∈ l) (T : TupO to ns) (S : St c L m l k s) (hm : (d, o) ∈ l) (ht : (e, to) ∈ l) (hu : A.units + 8 < cLine)
    (h : ∀ s', St c L m l k s' → Q (.bool (!(atKey xs ns).isSome)) s') : N c A (compareOp .NotIn (.ref e) (.ref d)) Q s := by
  have hD := (V.sub hsub).dict S hm
  obtain ⟨tc, items, n, td, ti⟩ := T
  exact N.of (wpAny_notIn_heap (knd := tupleKind (intKind c.prog c.w)) (by show A.units + 1 < _; omega) ⟨to, items, n, S.get ht, tc, td, ti c⟩ V.lo hD (h _ (S.tok (t := _))))
-- or, and
theorem e_or2 {x z : Expr} {pos : Pos} {Q : Value → Shared → Prop} (h : N c A (eval x env) (fun v s₁ => N c A (truthy v) (fun b s₂ => if b then Q v s₂ else N c A (eval z env) Q s₂) s₁) s) : N c A (eval (.BoolOp .Or [x, z] pos) env) Q s := by
  show N c A (do
    let v ← eval x env
    standAt pos
    let t ← holding [v] (truthy v)
    match BoolOp.Or, t with
    | .And, false | .Or, true => pure v
    | _, _ => boolOp pos .Or [eval z env]) Q s
  refine N.bind (h.mono fun v s₁ h => N.standAt (N.bind (N.holding (h.mono fun b s₂ h => ?_))))
  cases b with
  | true => exact N.pure h
  | false => exact h
theorem e_and1 {x : Expr} {pos : Pos} {Q : Value → Shared → Prop} (h : N c A (eval x env) Q s) : N c A (eval (.BoolOp .And [x] pos) env) Q s := h
theorem e_and {x z : Expr} {rest : List Expr} {pos : Pos} {Q : Value → Shared → Prop} (h : N c A (eval x env) (fun v s₁ => N c A (truthy v) (fun b s₂ => if b then N c A (eval (.BoolOp .And (z :: rest) pos) env) Q s₂ else Q v s₂) s₁) s) :
    N c A (eval (.BoolOp .And (x :: z :: rest) pos) env) Q s := by
  show N c A (do
    let v ← eval x env
    standAt pos
    let t ← holding [v] (truthy v)
    match BoolOp.And, t with
    | .And, false | .Or, true => pure v
    | _, _ => boolOp pos .And (evalEach (z :: rest) env)) Q s
  refine N.bind (h.mono fun v s₁ h => N.standAt (N.bind (N.holding (h.mono fun b s₂ h => ?_))))
  cases b with
  | true => exact h
  | false => exact N.pure h
-- lists walked
abbrev lit (l : Addr) (i : Nat) : Obj := { cls := .type "list_iterator", data := .fields #[.ref l, .int i 0] }
theorem k_iter_list {items : Array Value} {Q : Value → Shared → Prop} (S : St c L m l k s) (hl : s.heap.IsList d items) (h : ∀ i s', St c L m ((i, lit d 0) :: l) k s' → Q (.ref i) s') : N c A (pyIter (.ref d)) Q s :=
  N.of (wpAny_pyIter_list hl (h _ _ (S.push (t := s.toks) (lit d 0))))
/-- a walk over a list, at i -/
def LitO (o : Obj) (d : Addr) (i : Nat) : Prop := o.cls = .type "list_iterator" ∧ o.data = .fields #[.ref d, .int i 0]
theorem k_next_list {items : Array Value} {i : Nat} {v : Value} {Q : Option Value → Shared → Prop} (Y : LitO o d i) (S : St c L m ((e, o) :: l) k s) (hl : s.heap.IsList d items) (hv : items[i]? = some v) (h : ∀ o' s', LitO o' d (i + 1) → St c L m ((e, o') :: l) k s' → Q (some v) s') : N c A (pyNext (.ref e)) Q s :=
  N.of (wpAny_pyNext_list_item ⟨_, S.get (.head _), Y.1, Y.2⟩ hl hv fun h' hi hs => by
    obtain ⟨o', ho', hc, hd⟩ := hi
    exact h o' _ ⟨hc, hd⟩ (S.same (tk := s.toks) hs ho' (noInst hc)))
theorem k_next_list_end {items : Array Value} {i : Nat} {Q : Option Value → Shared → Prop} (Y : LitO o d i) (S : St c L m ((e, o) :: l) k s) (hl : s.heap.IsList d items) (hh : A.handled = none) (hv : items[i]? = none) (h : ∀ s', St c L m l k s' → Q none s') : N c A (pyNext (.ref e)) Q s :=
  N.of (wpAny_pyNext_list_end hh ⟨_, S.get (.head _), Y.1, Y.2⟩ hl hv fun h' hx => h _ (S.ext (tk := s.toks) hx))
theorem k_owned {i : Nat} {elts : List Expr} {kk : Nat} {pos : Pos} {Q : Unit → Shared → Prop} (Y : LitO o d i) (S : St c L m l k s) (hm : (e, o) ∈ l) (h : Q () s) : N c A (letOwnedTupleGo (.Tuple elts kk pos) (.ref e) (.ref a)) Q s :=
  N.of (wpAny_letOwnedTupleGo_listiter ⟨_, S.get hm, Y.1, Y.2⟩ h)
/-- a turn of a for over a target that is a tuple -/
theorem NC.forT {elts : List Expr} {kk : Nat} {xp : Pos} {it : Value} {body : List Stmt} {R : Flow → Shared → Prop}
    (h : N c A (pyNext it) (fun o s₁ => match o with
      | none => R .next s₁
      | some v => N c A (letOwnedTupleGo (.Tuple elts kk xp) it v) (fun _ s₁' => N c A (assign (.Tuple elts kk xp) env v) (fun _ s₂ => N c A (execs body env) (fun f s₃ => match f with
        | .next | .cont => NC c A (.forLoop (.Tuple elts kk xp) it body [] env) R s₃ | .brk => R .next s₃ | .ret v => R (.ret v) s₃) s₂) s₁') s₁) s) :
    NC c A (.forLoop (.Tuple elts kk xp) it body [] env) R s := by
  refine NC.tree rfl ?_
  rw [Around.under_of_weight rfl]
  show N c A ((forTurn (.Tuple elts kk xp) it body [] env).onRaise _) _ s
  refine N.onRaise ?_
  show N c A (do
    standAt xp
    match ← (pyNext it).onRaise (fun _ => standAt { xp with line := 0 }) with
    | none => again (.block [] env)
    | some v =>
      letOwnedTupleGo (.Tuple elts kk xp) it v
      assign (.Tuple elts kk xp) env v
      match ← execs body env with
      | .next | .cont => again (.forLoop (.Tuple elts kk xp) it body [] env)
      | .brk => pure (.done .next)
      | .ret v => pure (.done (.ret v))) _ s
  refine N.standAt (N.bind (N.onRaise (h.mono fun o s₁ h₁ => ?_)))
  cases o with
  | none => exact N.pure ⟨rfl, NC.block0 h₁⟩
  | some v =>
    refine N.bind (N.mono h₁ fun _ s₁' h₁' => N.bind (N.mono h₁' fun _ s₂ h₂ => N.bind (N.mono h₂ fun f s₃ h₃ => ?_)))
    cases f <;> first | exact N.pure ⟨rfl, h₃⟩ | exact N.pure h₃
theorem NC.forT_ind {elts : List Expr} {kk : Nat} {xp : Pos} {it : Value} {body : List Stmt} {R : Flow → Shared → Prop} (I : Nat → Shared → Prop)
    (step : ∀ n s, I n s → N c A (pyNext it) (fun o s₁ => match o with
      | none => R .next s₁
      | some v => N c A (letOwnedTupleGo (.Tuple elts kk xp) it v) (fun _ s₁' => N c A (assign (.Tuple elts kk xp) env v) (fun _ s₂ => N c A (execs body env) (fun f s₃ => match f with
        | .next | .cont => ∃ n', n' < n ∧ I n' s₃ | .brk => R .next s₃ | .ret v => R (.ret v) s₃) s₂) s₁') s₁) s) : ∀ n s, I n s → NC c A (.forLoop (.Tuple elts kk xp) it body [] env) R s := by
  intro n
  induction n using Nat.strongRecOn with
  | ind n ih =>
    intro s hI
    refine NC.forT ((step n s hI).mono fun o s₁ h => ?_)
    cases o with
    | none => exact h
    | some v =>
      refine N.mono h fun _ s₁' h => N.mono h fun _ s₂ h => N.mono h fun f s₃ h => ?_
      cases f with
      | next => obtain ⟨n', hn, hI'⟩ := h; exact ih n' hn _ hI'
      | cont => obtain ⟨n', hn, hI'⟩ := h; exact ih n' hn _ hI'
      | brk => exact h
      | ret v => exact h
end
end Mine

end
-- PA2
section
open PySem PySem.W PySem.Calls PyProof.Rows
set_option maxRecDepth 100000
namespace Mine
example : (fun (_ : OpenLaw) (_ : Params → Frag) => True) PySem.Challenge.rw_fb0004_02 hd.heap_39 := by k_fill; trivial
structure Cy where
  prog : Program
  w : World
  p : Program
  loose : List Str
  mg : Str → Option Value
  mb : Str → Option Value
  h₀ : Heap
  os : OsState
noncomputable abbrev Cy.cx (y : Cy) : Cx := ⟨y.prog, y.w, hd.heap_39 y.w.params, y.p, y.loose, y.mg, y.mb, y.h₀, y.os⟩
structure Fa (P : Params) : Prop where
  cls : isClsIn (hd.heap_39 P) 671 = true
  sa : findIn (hd.heap_39 P) (.ref 671) "__setattr__" = some (some (.builtin "object.__setattr__"))
  po : plainOver (hd.heap_39 P) 671 = true
  pg : plainGet (hd.heap_39 P) 671 "head" = true
  mkb : makesIn (hd.heap_39 P) 671 = true
  ini : findIn (hd.heap_39 P) (.ref 671) "__init__" = some (some (.ref 285))
  tpy : findIn (hd.heap_39 P) (.type "type") "py_type" = some none
  tgt : findIn (hd.heap_39 P) (.type "type") "__get__" = some none
  mdg : findIn (hd.heap_39 P) (.type "member_descriptor") "__get__" = some (some (.builtin "member_descriptor.__get__"))
  mds : findIn (hd.heap_39 P) (.type "member_descriptor") "__set__" = some (some (.builtin "member_descriptor.__set__"))
  at_Bytes : findIn (hd.heap_39 P) (.ref 671) "Bytes" = some (some (.ref 672))
  ty_Bytes : typeIn (hd.heap_39 P) (.ref 672) = some (.type "member_descriptor")
  sl_Bytes : slotIn (hd.heap_39 P) 672 671 = some 0
  at_current_vtable : findIn (hd.heap_39 P) (.ref 671) "current_vtable" = some (some (.ref 673))
  ty_current_vtable : typeIn (hd.heap_39 P) (.ref 673) = some (.type "member_descriptor")
  sl_current_vtable : slotIn (hd.heap_39 P) 673 671 = some 1
  at_finished : findIn (hd.heap_39 P) (.ref 671) "finished" = some (some (.ref 674))
  ty_finished : typeIn (hd.heap_39 P) (.ref 674) = some (.type "member_descriptor")
  sl_finished : slotIn (hd.heap_39 P) 674 671 = some 2
  at_forceDefaults : findIn (hd.heap_39 P) (.ref 671) "forceDefaults" = some (some (.ref 675))
  ty_forceDefaults : typeIn (hd.heap_39 P) (.ref 675) = some (.type "member_descriptor")
  sl_forceDefaults : slotIn (hd.heap_39 P) 675 671 = some 3
  at_head : findIn (hd.heap_39 P) (.ref 671) "head" = some (some (.ref 676))
  ty_head : typeIn (hd.heap_39 P) (.ref 676) = some (.type "member_descriptor")
  sl_head : slotIn (hd.heap_39 P) 676 671 = some 4
  at_minalign : findIn (hd.heap_39 P) (.ref 671) "minalign" = some (some (.ref 677))
  ty_minalign : typeIn (hd.heap_39 P) (.ref 677) = some (.type "member_descriptor")
  sl_minalign : slotIn (hd.heap_39 P) 677 671 = some 5
  at_nested : findIn (hd.heap_39 P) (.ref 671) "nested" = some (some (.ref 678))
  ty_nested : typeIn (hd.heap_39 P) (.ref 678) = some (.type "member_descriptor")
  sl_nested : slotIn (hd.heap_39 P) 678 671 = some 6
  at_objectEnd : findIn (hd.heap_39 P) (.ref 671) "objectEnd" = some (some (.ref 679))
  ty_objectEnd : typeIn (hd.heap_39 P) (.ref 679) = some (.type "member_descriptor")
  sl_objectEnd : slotIn (hd.heap_39 P) 679 671 = some 7
  at_sharedStrings : findIn (hd.heap_39 P) (.ref 671) "sharedStrings" = some (some (.ref 680))
  ty_sharedStrings : typeIn (hd.heap_39 P) (.ref 680) = some (.type "member_descriptor")
  sl_sharedStrings : slotIn (hd.heap_39 P) 680 671 = some 8
  at_vectorNumElems : findIn (hd.heap_39 P) (.ref 671) "vectorNumElems" = some (some (.ref 681))
  ty_vectorNumElems : typeIn (hd.heap_39 P) (.ref 681) = some (.type "member_descriptor")
  sl_vectorNumElems : slotIn (hd.heap_39 P) 681 671 = some 9
  at_vtables : findIn (hd.heap_39 P) (.ref 671) "vtables" = some (some (.ref 682))
  ty_vtables : typeIn (hd.heap_39 P) (.ref 682) = some (.type "member_descriptor")
  sl_vtables : slotIn (hd.heap_39 P) 682 671 = some 10
  at_Head : findIn (hd.heap_39 P) (.ref 671) "Head" = some (some (.ref 334))
  fn_Head : isFn (hd.heap_39 P) (.ref 334) = true
  kp_Head : keepIn (hd.heap_39 P) (.ref 334) = true
  at_Offset : findIn (hd.heap_39 P) (.ref 671) "Offset" = some (some (.ref 341))
  fn_Offset : isFn (hd.heap_39 P) (.ref 341) = true
  kp_Offset : keepIn (hd.heap_39 P) (.ref 341) = true
  at_Output : findIn (hd.heap_39 P) (.ref 671) "Output" = some (some (.ref 299))
  fn_Output : isFn (hd.heap_39 P) (.ref 299) = true
  kp_Output : keepIn (hd.heap_39 P) (.ref 299) = true
  at_StartObject : findIn (hd.heap_39 P) (.ref 671) "StartObject" = some (some (.ref 306))
  fn_StartObject : isFn (hd.heap_39 P) (.ref 306) = true
  kp_StartObject : keepIn (hd.heap_39 P) (.ref 306) = true
  at_WriteVtable : findIn (hd.heap_39 P) (.ref 671) "WriteVtable" = some (some (.ref 313))
  fn_WriteVtable : isFn (hd.heap_39 P) (.ref 313) = true
  kp_WriteVtable : keepIn (hd.heap_39 P) (.ref 313) = true
  at_EndObject : findIn (hd.heap_39 P) (.ref 671) "EndObject" = some (some (.ref 320))
  fn_EndObject : isFn (hd.heap_39 P) (.ref 320) = true
  kp_EndObject : keepIn (hd.heap_39 P) (.ref 320) = true
  at_GrowByteBuffer : findIn (hd.heap_39 P) (.ref 671) "GrowByteBuffer" = some (some (.ref 327))
  fn_GrowByteBuffer : isFn (hd.heap_39 P) (.ref 327) = true
  kp_GrowByteBuffer : keepIn (hd.heap_39 P) (.ref 327) = true
  at_Pad : findIn (hd.heap_39 P) (.ref 671) "Pad" = some (some (.ref 348))
  fn_Pad : isFn (hd.heap_39 P) (.ref 348) = true
  kp_Pad : keepIn (hd.heap_39 P) (.ref 348) = true
  at_Prep : findIn (hd.heap_39 P) (.ref 671) "Prep" = some (some (.ref 355))
  fn_Prep : isFn (hd.heap_39 P) (.ref 355) = true
  kp_Prep : keepIn (hd.heap_39 P) (.ref 355) = true
  at_PrependSOffsetTRelative : findIn (hd.heap_39 P) (.ref 671) "PrependSOffsetTRelative" = some (some (.ref 362))
  fn_PrependSOffsetTRelative : isFn (hd.heap_39 P) (.ref 362) = true
  kp_PrependSOffsetTRelative : keepIn (hd.heap_39 P) (.ref 362) = true
  at_PrependUOffsetTRelative : findIn (hd.heap_39 P) (.ref 671) "PrependUOffsetTRelative" = some (some (.ref 369))
  fn_PrependUOffsetTRelative : isFn (hd.heap_39 P) (.ref 369) = true
  kp_PrependUOffsetTRelative : keepIn (hd.heap_39 P) (.ref 369) = true
  at_StartVector : findIn (hd.heap_39 P) (.ref 671) "StartVector" = some (some (.ref 376))
  fn_StartVector : isFn (hd.heap_39 P) (.ref 376) = true
  kp_StartVector : keepIn (hd.heap_39 P) (.ref 376) = true
  at_EndVector : findIn (hd.heap_39 P) (.ref 671) "EndVector" = some (some (.ref 384))
  fn_EndVector : isFn (hd.heap_39 P) (.ref 384) = true
  kp_EndVector : keepIn (hd.heap_39 P) (.ref 384) = true
  at_CreateString : findIn (hd.heap_39 P) (.ref 671) "CreateString" = some (some (.ref 398))
  fn_CreateString : isFn (hd.heap_39 P) (.ref 398) = true
  kp_CreateString : keepIn (hd.heap_39 P) (.ref 398) = true
  at_assertNested : findIn (hd.heap_39 P) (.ref 671) "assertNested" = some (some (.ref 412))
  fn_assertNested : isFn (hd.heap_39 P) (.ref 412) = true
  kp_assertNested : keepIn (hd.heap_39 P) (.ref 412) = true
  at_assertNotNested : findIn (hd.heap_39 P) (.ref 671) "assertNotNested" = some (some (.ref 419))
  fn_assertNotNested : isFn (hd.heap_39 P) (.ref 419) = true
  kp_assertNotNested : keepIn (hd.heap_39 P) (.ref 419) = true
  at_Slot : findIn (hd.heap_39 P) (.ref 671) "Slot" = some (some (.ref 433))
  fn_Slot : isFn (hd.heap_39 P) (.ref 433) = true
  kp_Slot : keepIn (hd.heap_39 P) (.ref 433) = true
  at_Finish : findIn (hd.heap_39 P) (.ref 671) "Finish" = some (some (.ref 449))
  fn_Finish : isFn (hd.heap_39 P) (.ref 449) = true
  kp_Finish : keepIn (hd.heap_39 P) (.ref 449) = true
  at_Prepend : findIn (hd.heap_39 P) (.ref 671) "Prepend" = some (some (.ref 464))
  fn_Prepend : isFn (hd.heap_39 P) (.ref 464) = true
  kp_Prepend : keepIn (hd.heap_39 P) (.ref 464) = true
  at_PrependSlot : findIn (hd.heap_39 P) (.ref 671) "PrependSlot" = some (some (.ref 471))
  fn_PrependSlot : isFn (hd.heap_39 P) (.ref 471) = true
  kp_PrependSlot : keepIn (hd.heap_39 P) (.ref 471) = true
  at_PrependUint8 : findIn (hd.heap_39 P) (.ref 671) "PrependUint8" = some (some (.ref 576))
  fn_PrependUint8 : isFn (hd.heap_39 P) (.ref 576) = true
  kp_PrependUint8 : keepIn (hd.heap_39 P) (.ref 576) = true
  at_PrependUint32 : findIn (hd.heap_39 P) (.ref 671) "PrependUint32" = some (some (.ref 590))
  fn_PrependUint32 : isFn (hd.heap_39 P) (.ref 590) = true
  kp_PrependUint32 : keepIn (hd.heap_39 P) (.ref 590) = true
  at_PrependVOffsetT : findIn (hd.heap_39 P) (.ref 671) "PrependVOffsetT" = some (some (.ref 639))
  fn_PrependVOffsetT : isFn (hd.heap_39 P) (.ref 639) = true
  kp_PrependVOffsetT : keepIn (hd.heap_39 P) (.ref 639) = true
  at_Place : findIn (hd.heap_39 P) (.ref 671) "Place" = some (some (.ref 646))
  fn_Place : isFn (hd.heap_39 P) (.ref 646) = true
  kp_Place : keepIn (hd.heap_39 P) (.ref 646) = true
  at_PlaceSOffsetT : findIn (hd.heap_39 P) (.ref 671) "PlaceSOffsetT" = some (some (.ref 660))
  fn_PlaceSOffsetT : isFn (hd.heap_39 P) (.ref 660) = true
  kp_PlaceSOffsetT : keepIn (hd.heap_39 P) (.ref 660) = true
  at_PlaceUOffsetT : findIn (hd.heap_39 P) (.ref 671) "PlaceUOffsetT" = some (some (.ref 667))
  fn_PlaceUOffsetT : isFn (hd.heap_39 P) (.ref 667) = true
  kp_PlaceUOffsetT : keepIn (hd.heap_39 P) (.ref 667) = true
  at___Finish : findIn (hd.heap_39 P) (.ref 671) "_Builder__Finish" = some (some (.ref 441))
  fn___Finish : isFn (hd.heap_39 P) (.ref 441) = true
  kp___Finish : keepIn (hd.heap_39 P) (.ref 441) = true
  at_Clear : findIn (hd.heap_39 P) (.ref 671) "Clear" = some (some (.ref 292))
  fn_Clear : isFn (hd.heap_39 P) (.ref 292) = true
  kp_Clear : keepIn (hd.heap_39 P) (.ref 292) = true
  at_CreateByteVector : findIn (hd.heap_39 P) (.ref 671) "CreateByteVector" = some (some (.ref 405))
  fn_CreateByteVector : isFn (hd.heap_39 P) (.ref 405) = true
  kp_CreateByteVector : keepIn (hd.heap_39 P) (.ref 405) = true
  at_PrependInt32Slot : findIn (hd.heap_39 P) (.ref 671) "PrependInt32Slot" = some (some (.ref 534))
  fn_PrependInt32Slot : isFn (hd.heap_39 P) (.ref 534) = true
  kp_PrependInt32Slot : keepIn (hd.heap_39 P) (.ref 534) = true
  at_PrependUint16 : findIn (hd.heap_39 P) (.ref 671) "PrependUint16" = some (some (.ref 583))
  fn_PrependUint16 : isFn (hd.heap_39 P) (.ref 583) = true
  kp_PrependUint16 : keepIn (hd.heap_39 P) (.ref 583) = true
  at_PrependUint64 : findIn (hd.heap_39 P) (.ref 671) "PrependUint64" = some (some (.ref 597))
  fn_PrependUint64 : isFn (hd.heap_39 P) (.ref 597) = true
  kp_PrependUint64 : keepIn (hd.heap_39 P) (.ref 597) = true
  at_PrependInt64 : findIn (hd.heap_39 P) (.ref 671) "PrependInt64" = some (some (.ref 625))
  fn_PrependInt64 : isFn (hd.heap_39 P) (.ref 625) = true
  kp_PrependInt64 : keepIn (hd.heap_39 P) (.ref 625) = true
  kp_Builder : keepIn (hd.heap_39 P) (.ref 671) = true
  kp_Write : keepIn (hd.heap_39 P) (.ref 191) = true
  kp_enforce_number : keepIn (hd.heap_39 P) (.ref 184) = true
  kp__law_deed : keepIn (hd.heap_39 P) (.ref 691) = true
  kp__law_need : keepIn (hd.heap_39 P) (.ref 698) = true
  kp__law_step : keepIn (hd.heap_39 P) (.ref 705) = true
  kp__law_run : keepIn (hd.heap_39 P) (.ref 712) = true
  ct_Uint8Flags : typeIn (hd.heap_39 P) (.ref 67) = some (.type "type")
  cr_Uint8Flags : readsIn (hd.heap_39 P) 67 (.type "type") = true
  ci_Uint8Flags : findIn (hd.heap_39 P) (.ref 67) "py_type" = some (some (.type "int"))
  ca_Uint8Flags_bytewidth : findCls (hd.heap_39 P) (.ref 67) (.type "type") "bytewidth" = some (.val (.int 1 368))
  ca_Uint8Flags_min_val : findCls (hd.heap_39 P) (.ref 67) (.type "type") "min_val" = some (.val (.int 0 370))
  ca_Uint8Flags_max_val : findCls (hd.heap_39 P) (.ref 67) (.type "type") "max_val" = some (.val (.int 255 376))
  ca_Uint8Flags_packer_type : findCls (hd.heap_39 P) (.ref 67) (.type "type") "packer_type" = some (.val (.ref 52))
  ct_Uint16Flags : typeIn (hd.heap_39 P) (.ref 81) = some (.type "type")
  cr_Uint16Flags : readsIn (hd.heap_39 P) 81 (.type "type") = true
  ci_Uint16Flags : findIn (hd.heap_39 P) (.ref 81) "py_type" = some (some (.type "int"))
  ca_Uint16Flags_bytewidth : findCls (hd.heap_39 P) (.ref 81) (.type "type") "bytewidth" = some (.val (.int 2 402))
  ca_Uint16Flags_min_val : findCls (hd.heap_39 P) (.ref 81) (.type "type") "min_val" = some (.val (.int 0 404))
  ca_Uint16Flags_max_val : findCls (hd.heap_39 P) (.ref 81) (.type "type") "max_val" = some (.val (.int 65535 410))
  ca_Uint16Flags_packer_type : findCls (hd.heap_39 P) (.ref 81) (.type "type") "packer_type" = some (.val (.ref 53))
  ct_Uint32Flags : typeIn (hd.heap_39 P) (.ref 95) = some (.type "type")
  cr_Uint32Flags : readsIn (hd.heap_39 P) 95 (.type "type") = true
  ci_Uint32Flags : findIn (hd.heap_39 P) (.ref 95) "py_type" = some (some (.type "int"))
  ca_Uint32Flags_bytewidth : findCls (hd.heap_39 P) (.ref 95) (.type "type") "bytewidth" = some (.val (.int 4 436))
  ca_Uint32Flags_min_val : findCls (hd.heap_39 P) (.ref 95) (.type "type") "min_val" = some (.val (.int 0 438))
  ca_Uint32Flags_max_val : findCls (hd.heap_39 P) (.ref 95) (.type "type") "max_val" = some (.val (.int 4294967295 444))
  ca_Uint32Flags_packer_type : findCls (hd.heap_39 P) (.ref 95) (.type "type") "packer_type" = some (.val (.ref 54))
  ct_Uint64Flags : typeIn (hd.heap_39 P) (.ref 109) = some (.type "type")
  cr_Uint64Flags : readsIn (hd.heap_39 P) 109 (.type "type") = true
  ci_Uint64Flags : findIn (hd.heap_39 P) (.ref 109) "py_type" = some (some (.type "int"))
  ca_Uint64Flags_bytewidth : findCls (hd.heap_39 P) (.ref 109) (.type "type") "bytewidth" = some (.val (.int 8 470))
  ca_Uint64Flags_min_val : findCls (hd.heap_39 P) (.ref 109) (.type "type") "min_val" = some (.val (.int 0 472))
  ca_Uint64Flags_max_val : findCls (hd.heap_39 P) (.ref 109) (.type "type") "max_val" = some (.val (.int 18446744073709551615 478))
  ca_Uint64Flags_packer_type : findCls (hd.heap_39 P) (.ref 109) (.type "type") "packer_type" = some (.val (.ref 55))
  ct_Int32Flags : typeIn (hd.heap_39 P) (.ref 123) = some (.type "type")
  cr_Int32Flags : readsIn (hd.heap_39 P) 123 (.type "type") = true
  ci_Int32Flags : findIn (hd.heap_39 P) (.ref 123) "py_type" = some (some (.type "int"))
  ca_Int32Flags_bytewidth : findCls (hd.heap_39 P) (.ref 123) (.type "type") "bytewidth" = some (.val (.int 4 504))
  ca_Int32Flags_min_val : findCls (hd.heap_39 P) (.ref 123) (.type "type") "min_val" = some (.val (.int (-2147483648) 509))
  ca_Int32Flags_max_val : findCls (hd.heap_39 P) (.ref 123) (.type "type") "max_val" = some (.val (.int 2147483647 515))
  ca_Int32Flags_packer_type : findCls (hd.heap_39 P) (.ref 123) (.type "type") "packer_type" = some (.val (.ref 56))
  ct_Int64Flags : typeIn (hd.heap_39 P) (.ref 137) = some (.type "type")
  cr_Int64Flags : readsIn (hd.heap_39 P) 137 (.type "type") = true
  ci_Int64Flags : findIn (hd.heap_39 P) (.ref 137) "py_type" = some (some (.type "int"))
  ca_Int64Flags_bytewidth : findCls (hd.heap_39 P) (.ref 137) (.type "type") "bytewidth" = some (.val (.int 8 541))
  ca_Int64Flags_min_val : findCls (hd.heap_39 P) (.ref 137) (.type "type") "min_val" = some (.val (.int (-9223372036854775808) 546))
  ca_Int64Flags_max_val : findCls (hd.heap_39 P) (.ref 137) (.type "type") "max_val" = some (.val (.int 9223372036854775807 552))
  ca_Int64Flags_packer_type : findCls (hd.heap_39 P) (.ref 137) (.type "type") "packer_type" = some (.val (.ref 57))
  ct_SOffsetTFlags : typeIn (hd.heap_39 P) (.ref 151) = some (.type "type")
  cr_SOffsetTFlags : readsIn (hd.heap_39 P) 151 (.type "type") = true
  ci_SOffsetTFlags : findIn (hd.heap_39 P) (.ref 151) "py_type" = some (some (.type "int"))
  ca_SOffsetTFlags_bytewidth : findCls (hd.heap_39 P) (.ref 151) (.type "type") "bytewidth" = some (.val (.int 4 504))
  ca_SOffsetTFlags_min_val : findCls (hd.heap_39 P) (.ref 151) (.type "type") "min_val" = some (.val (.int (-2147483648) 509))
  ca_SOffsetTFlags_max_val : findCls (hd.heap_39 P) (.ref 151) (.type "type") "max_val" = some (.val (.int 2147483647 515))
  ca_SOffsetTFlags_packer_type : findCls (hd.heap_39 P) (.ref 151) (.type "type") "packer_type" = some (.val (.ref 56))
  ct_UOffsetTFlags : typeIn (hd.heap_39 P) (.ref 163) = some (.type "type")
  cr_UOffsetTFlags : readsIn (hd.heap_39 P) 163 (.type "type") = true
  ci_UOffsetTFlags : findIn (hd.heap_39 P) (.ref 163) "py_type" = some (some (.type "int"))
  ca_UOffsetTFlags_bytewidth : findCls (hd.heap_39 P) (.ref 163) (.type "type") "bytewidth" = some (.val (.int 4 436))
  ca_UOffsetTFlags_min_val : findCls (hd.heap_39 P) (.ref 163) (.type "type") "min_val" = some (.val (.int 0 438))
  ca_UOffsetTFlags_max_val : findCls (hd.heap_39 P) (.ref 163) (.type "type") "max_val" = some (.val (.int 4294967295 444))
  ca_UOffsetTFlags_packer_type : findCls (hd.heap_39 P) (.ref 163) (.type "type") "packer_type" = some (.val (.ref 54))
  ct_VOffsetTFlags : typeIn (hd.heap_39 P) (.ref 175) = some (.type "type")
  cr_VOffsetTFlags : readsIn (hd.heap_39 P) 175 (.type "type") = true
  ci_VOffsetTFlags : findIn (hd.heap_39 P) (.ref 175) "py_type" = some (some (.type "int"))
  ca_VOffsetTFlags_bytewidth : findCls (hd.heap_39 P) (.ref 175) (.type "type") "bytewidth" = some (.val (.int 2 402))
  ca_VOffsetTFlags_min_val : findCls (hd.heap_39 P) (.ref 175) (.type "type") "min_val" = some (.val (.int 0 404))
  ca_VOffsetTFlags_max_val : findCls (hd.heap_39 P) (.ref 175) (.type "type") "max_val" = some (.val (.int 65535 410))
  ca_VOffsetTFlags_packer_type : findCls (hd.heap_39 P) (.ref 175) (.type "type") "packer_type" = some (.val (.ref 53))
  ct_Builder : typeIn (hd.heap_39 P) (.ref 671) = some (.type "type")
  cr_Builder : readsIn (hd.heap_39 P) 671 (.type "type") = true
  ca_Builder_MAX_BUFFER_SIZE : findCls (hd.heap_39 P) (.ref 671) (.type "type") "MAX_BUFFER_SIZE" = some (.val (.int 2147483648 775))
  gl_string_types : nsIn (hd.heap_39 P) mainGlobals "string_types" = some (some (.ref 50))
  gl_binary_types : nsIn (hd.heap_39 P) mainGlobals "binary_types" = some (some (.ref 51))
  gl_uoffset : nsIn (hd.heap_39 P) mainGlobals "uoffset" = some (some (.ref 54))
  gl_soffset : nsIn (hd.heap_39 P) mainGlobals "soffset" = some (some (.ref 56))
  gl_FILE_IDENTIFIER_LENGTH : nsIn (hd.heap_39 P) mainGlobals "FILE_IDENTIFIER_LENGTH" = some (some (.int 4 624))
  gl_VtableMetadataFields : nsIn (hd.heap_39 P) mainGlobals "VtableMetadataFields" = some (some (.int 2 746))
  gl_Write : nsIn (hd.heap_39 P) mainGlobals "Write" = some (some (.ref 191))
  gl_enforce_number : nsIn (hd.heap_39 P) mainGlobals "enforce_number" = some (some (.ref 184))
  gl_Builder : nsIn (hd.heap_39 P) mainGlobals "Builder" = some (some (.ref 671))
  gl_unpack : nsIn (hd.heap_39 P) mainGlobals "unpack" = some (some (.builtin "_struct.unpack"))
  gl__law_deed : nsIn (hd.heap_39 P) mainGlobals "_law_deed" = some (some (.ref 691))
  gl__law_need : nsIn (hd.heap_39 P) mainGlobals "_law_need" = some (some (.ref 698))
  gl__law_step : nsIn (hd.heap_39 P) mainGlobals "_law_step" = some (some (.ref 705))
  gl__law_run : nsIn (hd.heap_39 P) mainGlobals "_law_run" = some (some (.ref 712))
  gl_Uint8Flags : nsIn (hd.heap_39 P) mainGlobals "Uint8Flags" = some (some (.ref 67))
  gl_Uint16Flags : nsIn (hd.heap_39 P) mainGlobals "Uint16Flags" = some (some (.ref 81))
  gl_Uint32Flags : nsIn (hd.heap_39 P) mainGlobals "Uint32Flags" = some (some (.ref 95))
  gl_Uint64Flags : nsIn (hd.heap_39 P) mainGlobals "Uint64Flags" = some (some (.ref 109))
  gl_Int32Flags : nsIn (hd.heap_39 P) mainGlobals "Int32Flags" = some (some (.ref 123))
  gl_Int64Flags : nsIn (hd.heap_39 P) mainGlobals "Int64Flags" = some (some (.ref 137))
  gl_SOffsetTFlags : nsIn (hd.heap_39 P) mainGlobals "SOffsetTFlags" = some (some (.ref 151))
  gl_UOffsetTFlags : nsIn (hd.heap_39 P) mainGlobals "UOffsetTFlags" = some (some (.ref 163))
  gl_VOffsetTFlags : nsIn (hd.heap_39 P) mainGlobals "VOffsetTFlags" = some (some (.ref 175))
  gb_len : nsIn (hd.heap_39 P) mainGlobals "len" = some none
  gb_bytearray : nsIn (hd.heap_39 P) mainGlobals "bytearray" = some none
  gb_min : nsIn (hd.heap_39 P) mainGlobals "min" = some none
  gb_reversed : nsIn (hd.heap_39 P) mainGlobals "reversed" = some none
  gb_tuple : nsIn (hd.heap_39 P) mainGlobals "tuple" = some none
  gb_isinstance : nsIn (hd.heap_39 P) mainGlobals "isinstance" = some none
  gb_range : nsIn (hd.heap_39 P) mainGlobals "range" = some none
  gb_bytes : nsIn (hd.heap_39 P) mainGlobals "bytes" = some none
  gb_sum : nsIn (hd.heap_39 P) mainGlobals "sum" = some none
  gb_max : nsIn (hd.heap_39 P) mainGlobals "max" = some none
theorem fa (P : Params) : Fa P := by constructor <;> k_is

/-- a reference or None -/
def refO : Option Addr → Value
  | none => .none
  | some a => .ref a
def intO : Option (Int × Tok) → Value
  | none => .none
  | some p => .int p.1 p.2
theorem handed_refO (v : Option Addr) : handedIn (refO v) = true := by cases v <;> rfl
theorem handed_intO (v : Option (Int × Tok)) : handedIn (intO v) = true := by cases v <;> rfl
/-- what a builder's slots hold -/
structure Raw where
  dx : Addr
  ba : Addr
  cv : Option Addr
  fin : Bool
  head : Int × Tok
  ma : Int × Tok
  nested : Bool
  oe : Option (Int × Tok)
  ss : Option Addr
  vne : Option (Option (Int × Tok))
  vt : Addr
abbrev Raw.slots (r : Raw) : Array (Option Value) := #[some (.ref r.ba), some (refO r.cv), some (.bool r.fin), some (.bool false), some (.int r.head.1 r.head.2), some (.int r.ma.1 r.ma.2), some (.bool r.nested), some (intO r.oe), some (refO r.ss), r.vne.map intO, some (.ref r.vt)]
abbrev Raw.obj (r : Raw) : Obj := ⟨.ref 671, some r.dx, .plain, r.slots⟩

section
variable {y : Cy} {A : Around} {s : Shared} {L b p : Addr} {m : Str → Option Value} {l k : List (Addr × Obj)} {r : Raw} {name : Str} {v : Value} {i : Nat}
theorem md_gt {K : Frag} (ht : typeIn K (.ref p) = some (.type "member_descriptor")) (hg : findIn K (.type "member_descriptor") "__get__" = some (some (.builtin "member_descriptor.__get__"))) : specialIn K (.ref p) "__get__" = some (some (.builtin "member_descriptor.__get__")) := by
  unfold specialIn; rw [ht]; exact hg
theorem md_tk {K : Frag} (ht : typeIn K (.ref p) = some (.type "member_descriptor")) (hg : findIn K (.type "member_descriptor") "__set__" = some (some (.builtin "member_descriptor.__set__"))) : takesIn K (.ref p) = some true := by
  unfold takesIn specialIn; rw [ht, Option.bind_some, hg]
theorem md_tr {K : Frag} {C : Addr} (ha : findIn K (.ref C) name = some (some (.ref p))) (ht : typeIn K (.ref p) = some (.type "member_descriptor")) (hg : findIn K (.type "member_descriptor") "__set__" = some (some (.builtin "member_descriptor.__set__"))) : takerIn K C name = some (some (.ref p)) := by
  unfold takerIn; rw [ha, Option.bind_some]; dsimp only; rw [md_tk ht hg]; rfl
theorem p_get {ex : Bool} {Q : Value → Shared → Prop} (S : St y.cx L m ((b, r.obj) :: l) k s) (ha : findIn (hd.heap_39 y.w.params) (.ref 671) name = some (some (.ref p))) (ht : typeIn (hd.heap_39 y.w.params) (.ref p) = some (.type "member_descriptor")) (hp : slotIn (hd.heap_39 y.w.params) p 671 = some i)
    (hv : (r.slots[i]?).join = some v) (hh : handedIn v = true) (h : ∀ s', St y.cx L m ((b, r.obj) :: l) k s' → Q v s') : N y.cx A (getAttr (.ref b) name ex) Q s :=
  b_get S (.head _) (fa _).pg (fa _).cls ha (md_gt ht (fa _).mdg) (md_tk ht (fa _).mds) hp hv hh h
theorem p_set {Q : Unit → Shared → Prop} {r' : Raw} (S : St y.cx L m ((b, r.obj) :: l) k s) (ha : findIn (hd.heap_39 y.w.params) (.ref 671) name = some (some (.ref p))) (ht : typeIn (hd.heap_39 y.w.params) (.ref p) = some (.type "member_descriptor")) (hp : slotIn (hd.heap_39 y.w.params) p 671 = some i) (hz : i < 1000)
    (e : (r.slots ++ Array.replicate (i + 1 - r.slots.size) none).setIfInBounds i (some v) = r'.slots)
    (h : ∀ s', St y.cx L m ((b, r'.obj) :: l) k s' → Q () s') (hdx : r'.dx = r.dx := by rfl) : N y.cx A (setAttr (.ref b) name v) Q s :=
  b_set S (fa _).sa (fa _).po (md_tr ha ht (fa _).mds) ht hp hz e (fun s' S' => h s' (by rw [Raw.obj, hdx]; exact S'))
theorem p_meth {pl : Sem Bool} {f : Addr} {Q : Value × List Value → Shared → Prop} (S : St y.cx L m ((b, r.obj) :: l) k s) (ha : findIn (hd.heap_39 y.w.params) (.ref 671) name = some (some (.ref f))) (hf : isFn (hd.heap_39 y.w.params) (.ref f) = true) (h : Q (.ref f, [.ref b]) s) : N y.cx A (getMethod (.ref b) name pl) Q s :=
  b_meth S (.head _) (fa _).pg ha hf h
theorem p_attr {C : Addr} {a : Value} {ex : Bool} {Q : Value → Shared → Prop} (S : St y.cx L m l k s) (hm : typeIn (hd.heap_39 y.w.params) (.ref C) = some (.type "type")) (hr : readsIn (hd.heap_39 y.w.params) C (.type "type") = true) (e : findCls (hd.heap_39 y.w.params) (.ref C) (.type "type") name = some (.val a)) (hh : handedIn a = true)
    (h : ∀ s', St y.cx L m l k s' → Q a s') : N y.cx A (getAttr (.ref C) name ex) Q s := k_attr S hm hr e hh h
theorem held_py : Builtin.heldUnderItsOwnName "py_type" (.type "int") = false := by decide +kernel
theorem ty_int : typeOf (.type "int") = pure (.type "type") := by kernel_rfl
theorem p_pyt {C : Addr} {pl : Sem Bool} {Q : Value × List Value → Shared → Prop} (S : St y.cx L m l k s) (hr : readsIn (hd.heap_39 y.w.params) C (.type "type") = true) (hc : findIn (hd.heap_39 y.w.params) (.ref C) "py_type" = some (some (.type "int")))
    (h : ∀ s', St y.cx L m l k s' → Q (.type "int", []) s') : N y.cx A (getMethod (.ref C) "py_type" pl) Q s := t_meth S hr (fa _).tpy hc held_py ty_int (fa _).tgt h
theorem p_glob {a : Addr} {cn : Str} {cs : Scope} {ccd : Value} {pos : Pos} {Q : Value → Shared → Prop} (S : St y.cx L m l k s) (e : nsIn (hd.heap_39 y.w.params) mainGlobals name = some (some v)) (h : Q v s)
    (hk : cs.kind = .function := by rfl) (hx : (envOf cn cs L a ccd).kindOf name = some .globalImplicit := by rfl) (hd : (name == ("__debug__" : Str)) = false := by decide) :
    N y.cx A (eval (.Name name pos) (envOf cn cs L a ccd)) Q s := r_glob S e h hk hx hd
theorem p_blt {a : Addr} {cn : Str} {cs : Scope} {ccd : Value} {pos : Pos} {Q : Value → Shared → Prop} (S : St y.cx L m l k s) (e : nsIn (hd.heap_39 y.w.params) mainGlobals name = some none) (hv : bootBuiltins name = some v) (hn : name ≠ "__name__") (h : Q v s)
    (hk : cs.kind = .function := by rfl) (hx : (envOf cn cs L a ccd).kindOf name = some .globalImplicit := by rfl) (hd : (name == ("__debug__" : Str)) = false := by decide) :
    N y.cx A (eval (.Name name pos) (envOf cn cs L a ccd)) Q s := r_blt S e hv hn h hk hx hd
theorem p_call {f : Addr} {nm qual : Str} {params : Arguments} {body : List Stmt} {scope : Scope} {dV kV doc pm cdv ct oc : Value} {an od : Option Addr} {osl : Array (Option Value)} {pos : List Value} {kw : List (Str × Value)} {binds : List (Str × Value)}
    {Q : Value → Shared → Prop} (S : St y.cx L m l k s) (ho : (hd.heap_39 y.w.params).lookup f = some ⟨oc, od, .func (fnOf nm qual params body scope dV kV doc pm an cdv ct), osl⟩) (hcd : codeIn (hd.heap_39 y.w.params) cdv qual = true) (hroom : A.depth < recursionLimit)
    (hbind : BindsTo s (fnOf nm qual params body scope dV kV doc pm an cdv ct) ⟨pos, kw⟩ binds)
    (hloc : ∀ y ∈ binds, scope.names.lookup y.1 = some .local)
    (h : ∀ L' oL s₁, St y.cx L' (fun y => binds.reverse.lookup y) l ((L, oL) :: k) s₁ → N y.cx (A.deeper (envOf qual scope L' f cdv)) (execs body (envOf qual scope L' f cdv)) (Back y.cx L m oL k Q) s₁)
    (hcell : ∀ x ∈ scope.names, x.2 ≠ .cell) (hco : scope.isCoroutine = false) (hgen : scope.isGenerator = false) (hk : scope.kind = .function) :
    N y.cx A (call (.ref f) pos kw) Q s := n_call S ho hcd hroom hbind hloc h hcell hco hgen hk

theorem g_Bytes {ex : Bool} {Q : Value → Shared → Prop} (S : St y.cx L m ((b, r.obj) :: l) k s) (h : ∀ s', St y.cx L m ((b, r.obj) :: l) k s' → Q (.ref r.ba) s') : N y.cx A (getAttr (.ref b) "Bytes" ex) Q s :=
  p_get S (fa _).at_Bytes (fa _).ty_Bytes (fa _).sl_Bytes rfl (rfl) h
theorem g_current_vtable {ex : Bool} {Q : Value → Shared → Prop} (S : St y.cx L m ((b, r.obj) :: l) k s) (h : ∀ s', St y.cx L m ((b, r.obj) :: l) k s' → Q (refO r.cv) s') : N y.cx A (getAttr (.ref b) "current_vtable" ex) Q s :=
  p_get S (fa _).at_current_vtable (fa _).ty_current_vtable (fa _).sl_current_vtable rfl (handed_refO _) h
theorem g_finished {ex : Bool} {Q : Value → Shared → Prop} (S : St y.cx L m ((b, r.obj) :: l) k s) (h : ∀ s', St y.cx L m ((b, r.obj) :: l) k s' → Q (.bool r.fin) s') : N y.cx A (getAttr (.ref b) "finished" ex) Q s :=
  p_get S (fa _).at_finished (fa _).ty_finished (fa _).sl_finished rfl (rfl) h
theorem g_forceDefaults {ex : Bool} {Q : Value → Shared → Prop} (S : St y.cx L m ((b, r.obj) :: l) k s) (h : ∀ s', St y.cx L m ((b, r.obj) :: l) k s' → Q (.bool false) s') : N y.cx A (getAttr (.ref b) "forceDefaults" ex) Q s :=
  p_get S (fa _).at_forceDefaults (fa _).ty_forceDefaults (fa _).sl_forceDefaults rfl (rfl) h
theorem g_head {ex : Bool} {Q : Value → Shared → Prop} (S : St y.cx L m ((b, r.obj) :: l) k s) (h : ∀ s', St y.cx L m ((b, r.obj) :: l) k s' → Q (.int r.head.1 r.head.2) s') : N y.cx A (getAttr (.ref b) "head" ex) Q s :=
  p_get S (fa _).at_head (fa _).ty_head (fa _).sl_head rfl (rfl) h
theorem g_minalign {ex : Bool} {Q : Value → Shared → Prop} (S : St y.cx L m ((b, r.obj) :: l) k s) (h : ∀ s', St y.cx L m ((b, r.obj) :: l) k s' → Q (.int r.ma.1 r.ma.2) s') : N y.cx A (getAttr (.ref b) "minalign" ex) Q s :=
  p_get S (fa _).at_minalign (fa _).ty_minalign (fa _).sl_minalign rfl (rfl) h
theorem g_nested {ex : Bool} {Q : Value → Shared → Prop} (S : St y.cx L m ((b, r.obj) :: l) k s) (h : ∀ s', St y.cx L m ((b, r.obj) :: l) k s' → Q (.bool r.nested) s') : N y.cx A (getAttr (.ref b) "nested" ex) Q s :=
  p_get S (fa _).at_nested (fa _).ty_nested (fa _).sl_nested rfl (rfl) h
theorem g_objectEnd {ex : Bool} {Q : Value → Shared → Prop} (S : St y.cx L m ((b, r.obj) :: l) k s) (h : ∀ s', St y.cx L m ((b, r.obj) :: l) k s' → Q (intO r.oe) s') : N y.cx A (getAttr (.ref b) "objectEnd" ex) Q s :=
  p_get S (fa _).at_objectEnd (fa _).ty_objectEnd (fa _).sl_objectEnd rfl (handed_intO _) h
theorem g_sharedStrings {ex : Bool} {Q : Value → Shared → Prop} (S : St y.cx L m ((b, r.obj) :: l) k s) (h : ∀ s', St y.cx L m ((b, r.obj) :: l) k s' → Q (refO r.ss) s') : N y.cx A (getAttr (.ref b) "sharedStrings" ex) Q s :=
  p_get S (fa _).at_sharedStrings (fa _).ty_sharedStrings (fa _).sl_sharedStrings rfl (handed_refO _) h
theorem g_vtables {ex : Bool} {Q : Value → Shared → Prop} (S : St y.cx L m ((b, r.obj) :: l) k s) (h : ∀ s', St y.cx L m ((b, r.obj) :: l) k s' → Q (.ref r.vt) s') : N y.cx A (getAttr (.ref b) "vtables" ex) Q s :=
  p_get S (fa _).at_vtables (fa _).ty_vtables (fa _).sl_vtables rfl (rfl) h
theorem g_vectorNumElems {ex : Bool} {i : Int} {t : Tok} {Q : Value → Shared → Prop} (S : St y.cx L m ((b, r.obj) :: l) k s) (hv : r.vne = some (some (i, t))) (h : ∀ s', St y.cx L m ((b, r.obj) :: l) k s' → Q (.int i t) s') : N y.cx A (getAttr (.ref b) "vectorNumElems" ex) Q s :=
  p_get S (fa _).at_vectorNumElems (fa _).ty_vectorNumElems (fa _).sl_vectorNumElems (show (some (r.vne.map intO)).join = some (.int i t) from by rw [hv]; rfl) rfl h
theorem s_Bytes {a : Addr} {Q : Unit → Shared → Prop} (S : St y.cx L m ((b, r.obj) :: l) k s) (h : ∀ s', St y.cx L m ((b, { r with ba := a }.obj) :: l) k s' → Q () s') : N y.cx A (setAttr (.ref b) "Bytes" (.ref a)) Q s :=
  p_set (r' := { r with ba := a }) S (fa _).at_Bytes (fa _).ty_Bytes (fa _).sl_Bytes (by decide) rfl h
theorem s_current_vtable {a : Addr} {Q : Unit → Shared → Prop} (S : St y.cx L m ((b, r.obj) :: l) k s) (h : ∀ s', St y.cx L m ((b, { r with cv := some a }.obj) :: l) k s' → Q () s') : N y.cx A (setAttr (.ref b) "current_vtable" (.ref a)) Q s :=
  p_set (r' := { r with cv := some a }) S (fa _).at_current_vtable (fa _).ty_current_vtable (fa _).sl_current_vtable (by decide) rfl h
theorem s_finished {v : Bool} {Q : Unit → Shared → Prop} (S : St y.cx L m ((b, r.obj) :: l) k s) (h : ∀ s', St y.cx L m ((b, { r with fin := v }.obj) :: l) k s' → Q () s') : N y.cx A (setAttr (.ref b) "finished" (.bool v)) Q s :=
  p_set (r' := { r with fin := v }) S (fa _).at_finished (fa _).ty_finished (fa _).sl_finished (by decide) rfl h
theorem s_head {i : Int} {t : Tok} {Q : Unit → Shared → Prop} (S : St y.cx L m ((b, r.obj) :: l) k s) (h : ∀ s', St y.cx L m ((b, { r with head := (i, t) }.obj) :: l) k s' → Q () s') : N y.cx A (setAttr (.ref b) "head" (.int i t)) Q s :=
  p_set (r' := { r with head := (i, t) }) S (fa _).at_head (fa _).ty_head (fa _).sl_head (by decide) rfl h
theorem s_minalign {i : Int} {t : Tok} {Q : Unit → Shared → Prop} (S : St y.cx L m ((b, r.obj) :: l) k s) (h : ∀ s', St y.cx L m ((b, { r with ma := (i, t) }.obj) :: l) k s' → Q () s') : N y.cx A (setAttr (.ref b) "minalign" (.int i t)) Q s :=
  p_set (r' := { r with ma := (i, t) }) S (fa _).at_minalign (fa _).ty_minalign (fa _).sl_minalign (by decide) rfl h
theorem s_nested {v : Bool} {Q : Unit → Shared → Prop} (S : St y.cx L m ((b, r.obj) :: l) k s) (h : ∀ s', St y.cx L m ((b, { r with nested := v }.obj) :: l) k s' → Q () s') : N y.cx A (setAttr (.ref b) "nested" (.bool v)) Q s :=
  p_set (r' := { r with nested := v }) S (fa _).at_nested (fa _).ty_nested (fa _).sl_nested (by decide) rfl h
theorem s_objectEnd {i : Int} {t : Tok} {Q : Unit → Shared → Prop} (S : St y.cx L m ((b, r.obj) :: l) k s) (h : ∀ s', St y.cx L m ((b, { r with oe := some (i, t) }.obj) :: l) k s' → Q () s') : N y.cx A (setAttr (.ref b) "objectEnd" (.int i t)) Q s :=
  p_set (r' := { r with oe := some (i, t) }) S (fa _).at_objectEnd (fa _).ty_objectEnd (fa _).sl_objectEnd (by decide) rfl h
theorem s_sharedStrings {a : Addr} {Q : Unit → Shared → Prop} (S : St y.cx L m ((b, r.obj) :: l) k s) (h : ∀ s', St y.cx L m ((b, { r with ss := some a }.obj) :: l) k s' → Q () s') : N y.cx A (setAttr (.ref b) "sharedStrings" (.ref a)) Q s :=
  p_set (r' := { r with ss := some a }) S (fa _).at_sharedStrings (fa _).ty_sharedStrings (fa _).sl_sharedStrings (by decide) rfl h
theorem s_vectorNumElems {i : Int} {t : Tok} {Q : Unit → Shared → Prop} (S : St y.cx L m ((b, r.obj) :: l) k s) (h : ∀ s', St y.cx L m ((b, { r with vne := some (some (i, t)) }.obj) :: l) k s' → Q () s') : N y.cx A (setAttr (.ref b) "vectorNumElems" (.int i t)) Q s :=
  p_set (r' := { r with vne := some (some (i, t)) }) S (fa _).at_vectorNumElems (fa _).ty_vectorNumElems (fa _).sl_vectorNumElems (by decide) rfl h
theorem s_vtables {a : Addr} {Q : Unit → Shared → Prop} (S : St y.cx L m ((b, r.obj) :: l) k s) (h : ∀ s', St y.cx L m ((b, { r with vt := a }.obj) :: l) k s' → Q () s') : N y.cx A (setAttr (.ref b) "vtables" (.ref a)) Q s :=
  p_set (r' := { r with vt := a }) S (fa _).at_vtables (fa _).ty_vtables (fa _).sl_vtables (by decide) rfl h
theorem s_current_vtable0  {Q : Unit → Shared → Prop} (S : St y.cx L m ((b, r.obj) :: l) k s) (h : ∀ s', St y.cx L m ((b, { r with cv := none }.obj) :: l) k s' → Q () s') : N y.cx A (setAttr (.ref b) "current_vtable" (.none)) Q s :=
  p_set (r' := { r with cv := none }) S (fa _).at_current_vtable (fa _).ty_current_vtable (fa _).sl_current_vtable (by decide) rfl h
theorem s_objectEnd0  {Q : Unit → Shared → Prop} (S : St y.cx L m ((b, r.obj) :: l) k s) (h : ∀ s', St y.cx L m ((b, { r with oe := none }.obj) :: l) k s' → Q () s') : N y.cx A (setAttr (.ref b) "objectEnd" (.none)) Q s :=
  p_set (r' := { r with oe := none }) S (fa _).at_objectEnd (fa _).ty_objectEnd (fa _).sl_objectEnd (by decide) rfl h
theorem s_sharedStrings0  {Q : Unit → Shared → Prop} (S : St y.cx L m ((b, r.obj) :: l) k s) (h : ∀ s', St y.cx L m ((b, { r with ss := none }.obj) :: l) k s' → Q () s') : N y.cx A (setAttr (.ref b) "sharedStrings" (.none)) Q s :=
  p_set (r' := { r with ss := none }) S (fa _).at_sharedStrings (fa _).ty_sharedStrings (fa _).sl_sharedStrings (by decide) rfl h
theorem s_vectorNumElems0  {Q : Unit → Shared → Prop} (S : St y.cx L m ((b, r.obj) :: l) k s) (h : ∀ s', St y.cx L m ((b, { r with vne := some none }.obj) :: l) k s' → Q () s') : N y.cx A (setAttr (.ref b) "vectorNumElems" (.none)) Q s :=
  p_set (r' := { r with vne := some none }) S (fa _).at_vectorNumElems (fa _).ty_vectorNumElems (fa _).sl_vectorNumElems (by decide) rfl h
theorem m_Head {pl : Sem Bool} {Q : Value × List Value → Shared → Prop} (S : St y.cx L m ((b, r.obj) :: l) k s) (h : Q (.ref 334, [.ref b]) s) : N y.cx A (getMethod (.ref b) "Head" pl) Q s := p_meth S (fa _).at_Head (fa _).fn_Head h
theorem m_Offset {pl : Sem Bool} {Q : Value × List Value → Shared → Prop} (S : St y.cx L m ((b, r.obj) :: l) k s) (h : Q (.ref 341, [.ref b]) s) : N y.cx A (getMethod (.ref b) "Offset" pl) Q s := p_meth S (fa _).at_Offset (fa _).fn_Offset h
theorem m_Output {pl : Sem Bool} {Q : Value × List Value → Shared → Prop} (S : St y.cx L m ((b, r.obj) :: l) k s) (h : Q (.ref 299, [.ref b]) s) : N y.cx A (getMethod (.ref b) "Output" pl) Q s := p_meth S (fa _).at_Output (fa _).fn_Output h
theorem m_StartObject {pl : Sem Bool} {Q : Value × List Value → Shared → Prop} (S : St y.cx L m ((b, r.obj) :: l) k s) (h : Q (.ref 306, [.ref b]) s) : N y.cx A (getMethod (.ref b) "StartObject" pl) Q s := p_meth S (fa _).at_StartObject (fa _).fn_StartObject h
theorem m_WriteVtable {pl : Sem Bool} {Q : Value × List Value → Shared → Prop} (S : St y.cx L m ((b, r.obj) :: l) k s) (h : Q (.ref 313, [.ref b]) s) : N y.cx A (getMethod (.ref b) "WriteVtable" pl) Q s := p_meth S (fa _).at_WriteVtable (fa _).fn_WriteVtable h
theorem m_EndObject {pl : Sem Bool} {Q : Value × List Value → Shared → Prop} (S : St y.cx L m ((b, r.obj) :: l) k s) (h : Q (.ref 320, [.ref b]) s) : N y.cx A (getMethod (.ref b) "EndObject" pl) Q s := p_meth S (fa _).at_EndObject (fa _).fn_EndObject h
theorem m_GrowByteBuffer {pl : Sem Bool} {Q : Value × List Value → Shared → Prop} (S : St y.cx L m ((b, r.obj) :: l) k s) (h : Q (.ref 327, [.ref b]) s) : N y.cx A (getMethod (.ref b) "GrowByteBuffer" pl) Q s := p_meth S (fa _).at_GrowByteBuffer (fa _).fn_GrowByteBuffer h
theorem m_Pad {pl : Sem Bool} {Q : Value × List Value → Shared → Prop} (S : St y.cx L m ((b, r.obj) :: l) k s) (h : Q (.ref 348, [.ref b]) s) : N y.cx A (getMethod (.ref b) "Pad" pl) Q s := p_meth S (fa _).at_Pad (fa _).fn_Pad h
theorem m_Prep {pl : Sem Bool} {Q : Value × List Value → Shared → Prop} (S : St y.cx L m ((b, r.obj) :: l) k s) (h : Q (.ref 355, [.ref b]) s) : N y.cx A (getMethod (.ref b) "Prep" pl) Q s := p_meth S (fa _).at_Prep (fa _).fn_Prep h
theorem m_PrependSOffsetTRelative {pl : Sem Bool} {Q : Value × List Value → Shared → Prop} (S : St y.cx L m ((b, r.obj) :: l) k s) (h : Q (.ref 362, [.ref b]) s) : N y.cx A (getMethod (.ref b) "PrependSOffsetTRelative" pl) Q s := p_meth S (fa _).at_PrependSOffsetTRelative (fa _).fn_PrependSOffsetTRelative h
theorem m_PrependUOffsetTRelative {pl : Sem Bool} {Q : Value × List Value → Shared → Prop} (S : St y.cx L m ((b, r.obj) :: l) k s) (h : Q (.ref 369, [.ref b]) s) : N y.cx A (getMethod (.ref b) "PrependUOffsetTRelative" pl) Q s := p_meth S (fa _).at_PrependUOffsetTRelative (fa _).fn_PrependUOffsetTRelative h
theorem m_StartVector {pl : Sem Bool} {Q : Value × List Value → Shared → Prop} (S : St y.cx L m ((b, r.obj) :: l) k s) (h : Q (.ref 376, [.ref b]) s) : N y.cx A (getMethod (.ref b) "StartVector" pl) Q s := p_meth S (fa _).at_StartVector (fa _).fn_StartVector h
theorem m_EndVector {pl : Sem Bool} {Q : Value × List Value → Shared → Prop} (S : St y.cx L m ((b, r.obj) :: l) k s) (h : Q (.ref 384, [.ref b]) s) : N y.cx A (getMethod (.ref b) "EndVector" pl) Q s := p_meth S (fa _).at_EndVector (fa _).fn_EndVector h
theorem m_CreateString {pl : Sem Bool} {Q : Value × List Value → Shared → Prop} (S : St y.cx L m ((b, r.obj) :: l) k s) (h : Q (.ref 398, [.ref b]) s) : N y.cx A (getMethod (.ref b) "CreateString" pl) Q s := p_meth S (fa _).at_CreateString (fa _).fn_CreateString h
theorem m_assertNested {pl : Sem Bool} {Q : Value × List Value → Shared → Prop} (S : St y.cx L m ((b, r.obj) :: l) k s) (h : Q (.ref 412, [.ref b]) s) : N y.cx A (getMethod (.ref b) "assertNested" pl) Q s := p_meth S (fa _).at_assertNested (fa _).fn_assertNested h
theorem m_assertNotNested {pl : Sem Bool} {Q : Value × List Value → Shared → Prop} (S : St y.cx L m ((b, r.obj) :: l) k s) (h : Q (.ref 419, [.ref b]) s) : N y.cx A (getMethod (.ref b) "assertNotNested" pl) Q s := p_meth S (fa _).at_assertNotNested (fa _).fn_assertNotNested h
theorem m_Slot {pl : Sem Bool} {Q : Value × List Value → Shared → Prop} (S : St y.cx L m ((b, r.obj) :: l) k s) (h : Q (.ref 433, [.ref b]) s) : N y.cx A (getMethod (.ref b) "Slot" pl) Q s := p_meth S (fa _).at_Slot (fa _).fn_Slot h
theorem m_Finish {pl : Sem Bool} {Q : Value × List Value → Shared → Prop} (S : St y.cx L m ((b, r.obj) :: l) k s) (h : Q (.ref 449, [.ref b]) s) : N y.cx A (getMethod (.ref b) "Finish" pl) Q s := p_meth S (fa _).at_Finish (fa _).fn_Finish h
theorem m_Prepend {pl : Sem Bool} {Q : Value × List Value → Shared → Prop} (S : St y.cx L m ((b, r.obj) :: l) k s) (h : Q (.ref 464, [.ref b]) s) : N y.cx A (getMethod (.ref b) "Prepend" pl) Q s := p_meth S (fa _).at_Prepend (fa _).fn_Prepend h
theorem m_PrependSlot {pl : Sem Bool} {Q : Value × List Value → Shared → Prop} (S : St y.cx L m ((b, r.obj) :: l) k s) (h : Q (.ref 471, [.ref b]) s) : N y.cx A (getMethod (.ref b) "PrependSlot" pl) Q s := p_meth S (fa _).at_PrependSlot (fa _).fn_PrependSlot h
theorem m_PrependUint8 {pl : Sem Bool} {Q : Value × List Value → Shared → Prop} (S : St y.cx L m ((b, r.obj) :: l) k s) (h : Q (.ref 576, [.ref b]) s) : N y.cx A (getMethod (.ref b) "PrependUint8" pl) Q s := p_meth S (fa _).at_PrependUint8 (fa _).fn_PrependUint8 h
theorem m_PrependUint32 {pl : Sem Bool} {Q : Value × List Value → Shared → Prop} (S : St y.cx L m ((b, r.obj) :: l) k s) (h : Q (.ref 590, [.ref b]) s) : N y.cx A (getMethod (.ref b) "PrependUint32" pl) Q s := p_meth S (fa _).at_PrependUint32 (fa _).fn_PrependUint32 h
theorem m_PrependVOffsetT {pl : Sem Bool} {Q : Value × List Value → Shared → Prop} (S : St y.cx L m ((b, r.obj) :: l) k s) (h : Q (.ref 639, [.ref b]) s) : N y.cx A (getMethod (.ref b) "PrependVOffsetT" pl) Q s := p_meth S (fa _).at_PrependVOffsetT (fa _).fn_PrependVOffsetT h
theorem m_Place {pl : Sem Bool} {Q : Value × List Value → Shared → Prop} (S : St y.cx L m ((b, r.obj) :: l) k s) (h : Q (.ref 646, [.ref b]) s) : N y.cx A (getMethod (.ref b) "Place" pl) Q s := p_meth S (fa _).at_Place (fa _).fn_Place h
theorem m_PlaceSOffsetT {pl : Sem Bool} {Q : Value × List Value → Shared → Prop} (S : St y.cx L m ((b, r.obj) :: l) k s) (h : Q (.ref 660, [.ref b]) s) : N y.cx A (getMethod (.ref b) "PlaceSOffsetT" pl) Q s := p_meth S (fa _).at_PlaceSOffsetT (fa _).fn_PlaceSOffsetT h
theorem m_PlaceUOffsetT {pl : Sem Bool} {Q : Value × List Value → Shared → Prop} (S : St y.cx L m ((b, r.obj) :: l) k s) (h : Q (.ref 667, [.ref b]) s) : N y.cx A (getMethod (.ref b) "PlaceUOffsetT" pl) Q s := p_meth S (fa _).at_PlaceUOffsetT (fa _).fn_PlaceUOffsetT h
theorem m___Finish {pl : Sem Bool} {Q : Value × List Value → Shared → Prop} (S : St y.cx L m ((b, r.obj) :: l) k s) (h : Q (.ref 441, [.ref b]) s) : N y.cx A (getMethod (.ref b) "_Builder__Finish" pl) Q s := p_meth S (fa _).at___Finish (fa _).fn___Finish h
theorem m_Clear {pl : Sem Bool} {Q : Value × List Value → Shared → Prop} (S : St y.cx L m ((b, r.obj) :: l) k s) (h : Q (.ref 292, [.ref b]) s) : N y.cx A (getMethod (.ref b) "Clear" pl) Q s := p_meth S (fa _).at_Clear (fa _).fn_Clear h
theorem m_CreateByteVector {pl : Sem Bool} {Q : Value × List Value → Shared → Prop} (S : St y.cx L m ((b, r.obj) :: l) k s) (h : Q (.ref 405, [.ref b]) s) : N y.cx A (getMethod (.ref b) "CreateByteVector" pl) Q s := p_meth S (fa _).at_CreateByteVector (fa _).fn_CreateByteVector h
theorem m_PrependInt32Slot {pl : Sem Bool} {Q : Value × List Value → Shared → Prop} (S : St y.cx L m ((b, r.obj) :: l) k s) (h : Q (.ref 534, [.ref b]) s) : N y.cx A (getMethod (.ref b) "PrependInt32Slot" pl) Q s := p_meth S (fa _).at_PrependInt32Slot (fa _).fn_PrependInt32Slot h
theorem m_PrependUint16 {pl : Sem Bool} {Q : Value × List Value → Shared → Prop} (S : St y.cx L m ((b, r.obj) :: l) k s) (h : Q (.ref 583, [.ref b]) s) : N y.cx A (getMethod (.ref b) "PrependUint16" pl) Q s := p_meth S (fa _).at_PrependUint16 (fa _).fn_PrependUint16 h
theorem m_PrependUint64 {pl : Sem Bool} {Q : Value × List Value → Shared → Prop} (S : St y.cx L m ((b, r.obj) :: l) k s) (h : Q (.ref 597, [.ref b]) s) : N y.cx A (getMethod (.ref b) "PrependUint64" pl) Q s := p_meth S (fa _).at_PrependUint64 (fa _).fn_PrependUint64 h
theorem m_PrependInt64 {pl : Sem Bool} {Q : Value × List Value → Shared → Prop} (S : St y.cx L m ((b, r.obj) :: l) k s) (h : Q (.ref 625, [.ref b]) s) : N y.cx A (getMethod (.ref b) "PrependInt64" pl) Q s := p_meth S (fa _).at_PrependInt64 (fa _).fn_PrependInt64 h
theorem a_Uint8Flags_bytewidth {ex : Bool} {Q : Value → Shared → Prop} (S : St y.cx L m l k s) (h : ∀ s', St y.cx L m l k s' → Q (.int 1 368) s') : N y.cx A (getAttr (.ref 67) "bytewidth" ex) Q s := p_attr S (fa _).ct_Uint8Flags (fa _).cr_Uint8Flags (fa _).ca_Uint8Flags_bytewidth (by decide +kernel) h
theorem a_Uint8Flags_min_val {ex : Bool} {Q : Value → Shared → Prop} (S : St y.cx L m l k s) (h : ∀ s', St y.cx L m l k s' → Q (.int 0 370) s') : N y.cx A (getAttr (.ref 67) "min_val" ex) Q s := p_attr S (fa _).ct_Uint8Flags (fa _).cr_Uint8Flags (fa _).ca_Uint8Flags_min_val (by decide +kernel) h
theorem a_Uint8Flags_max_val {ex : Bool} {Q : Value → Shared → Prop} (S : St y.cx L m l k s) (h : ∀ s', St y.cx L m l k s' → Q (.int 255 376) s') : N y.cx A (getAttr (.ref 67) "max_val" ex) Q s := p_attr S (fa _).ct_Uint8Flags (fa _).cr_Uint8Flags (fa _).ca_Uint8Flags_max_val (by decide +kernel) h
theorem a_Uint8Flags_packer_type {ex : Bool} {Q : Value → Shared → Prop} (S : St y.cx L m l k s) (h : ∀ s', St y.cx L m l k s' → Q (.ref 52) s') : N y.cx A (getAttr (.ref 67) "packer_type" ex) Q s := p_attr S (fa _).ct_Uint8Flags (fa _).cr_Uint8Flags (fa _).ca_Uint8Flags_packer_type (by decide +kernel) h
theorem y_Uint8Flags {pl : Sem Bool} {Q : Value × List Value → Shared → Prop} (S : St y.cx L m l k s) (h : ∀ s', St y.cx L m l k s' → Q (.type "int", []) s') : N y.cx A (getMethod (.ref 67) "py_type" pl) Q s := p_pyt S (fa _).cr_Uint8Flags (fa _).ci_Uint8Flags h
theorem a_Uint16Flags_bytewidth {ex : Bool} {Q : Value → Shared → Prop} (S : St y.cx L m l k s) (h : ∀ s', St y.cx L m l k s' → Q (.int 2 402) s') : N y.cx A (getAttr (.ref 81) "bytewidth" ex) Q s := p_attr S (fa _).ct_Uint16Flags (fa _).cr_Uint16Flags (fa _).ca_Uint16Flags_bytewidth (by decide +kernel) h
theorem a_Uint16Flags_min_val {ex : Bool} {Q : Value → Shared → Prop} (S : St y.cx L m l k s) (h : ∀ s', St y.cx L m l k s' → Q (.int 0 404) s') : N y.cx A (getAttr (.ref 81) "min_val" ex) Q s := p_attr S (fa _).ct_Uint16Flags (fa _).cr_Uint16Flags (fa _).ca_Uint16Flags_min_val (by decide +kernel) h
theorem a_Uint16Flags_max_val {ex : Bool} {Q : Value → Shared → Prop} (S : St y.cx L m l k s) (h : ∀ s', St y.cx L m l k s' → Q (.int 65535 410) s') : N y.cx A (getAttr (.ref 81) "max_val" ex) Q s := p_attr S (fa _).ct_Uint16Flags (fa _).cr_Uint16Flags (fa _).ca_Uint16Flags_max_val (by decide +kernel) h
theorem a_Uint16Flags_packer_type {ex : Bool} {Q : Value → Shared → Prop} (S : St y.cx L m l k s) (h : ∀ s', St y.cx L m l k s' → Q (.ref 53) s') : N y.cx A (getAttr (.ref 81) "packer_type" ex) Q s := p_attr S (fa _).ct_Uint16Flags (fa _).cr_Uint16Flags (fa _).ca_Uint16Flags_packer_type (by decide +kernel) h
theorem y_Uint16Flags {pl : Sem Bool} {Q : Value × List Value → Shared → Prop} (S : St y.cx L m l k s) (h : ∀ s', St y.cx L m l k s' → Q (.type "int", []) s') : N y.cx A (getMethod (.ref 81) "py_type" pl) Q s := p_pyt S (fa _).cr_Uint16Flags (fa _).ci_Uint16Flags h
theorem a_Uint32Flags_bytewidth {ex : Bool} {Q : Value → Shared → Prop} (S : St y.cx L m l k s) (h : ∀ s', St y.cx L m l k s' → Q (.int 4 436) s') : N y.cx A (getAttr (.ref 95) "bytewidth" ex) Q s := p_attr S (fa _).ct_Uint32Flags (fa _).cr_Uint32Flags (fa _).ca_Uint32Flags_bytewidth (by decide +kernel) h
theorem a_Uint32Flags_min_val {ex : Bool} {Q : Value → Shared → Prop} (S : St y.cx L m l k s) (h : ∀ s', St y.cx L m l k s' → Q (.int 0 438) s') : N y.cx A (getAttr (.ref 95) "min_val" ex) Q s := p_attr S (fa _).ct_Uint32Flags (fa _).cr_Uint32Flags (fa _).ca_Uint32Flags_min_val (by decide +kernel) h
theorem a_Uint32Flags_max_val {ex : Bool} {Q : Value → Shared → Prop} (S : St y.cx L m l k s) (h : ∀ s', St y.cx L m l k s' → Q (.int 4294967295 444) s') : N y.cx A (getAttr (.ref 95) "max_val" ex) Q s := p_attr S (fa _).ct_Uint32Flags (fa _).cr_Uint32Flags (fa _).ca_Uint32Flags_max_val (by decide +kernel) h
theorem a_Uint32Flags_packer_type {ex : Bool} {Q : Value → Shared → Prop} (S : St y.cx L m l k s) (h : ∀ s', St y.cx L m l k s' → Q (.ref 54) s') : N y.cx A (getAttr (.ref 95) "packer_type" ex) Q s := p_attr S (fa _).ct_Uint32Flags (fa _).cr_Uint32Flags (fa _).ca_Uint32Flags_packer_type (by decide +kernel) h
theorem y_Uint32Flags {pl : Sem Bool} {Q : Value × List Value → Shared → Prop} (S : St y.cx L m l k s) (h : ∀ s', St y.cx L m l k s' → Q (.type "int", []) s') : N y.cx A (getMethod (.ref 95) "py_type" pl) Q s := p_pyt S (fa _).cr_Uint32Flags (fa _).ci_Uint32Flags h
theorem a_Uint64Flags_bytewidth {ex : Bool} {Q : Value → Shared → Prop} (S : St y.cx L m l k s) (h : ∀ s', St y.cx L m l k s' → Q (.int 8 470) s') : N y.cx A (getAttr (.ref 109) "bytewidth" ex) Q s := p_attr S (fa _).ct_Uint64Flags (fa _).cr_Uint64Flags (fa _).ca_Uint64Flags_bytewidth (by decide +kernel) h
theorem a_Uint64Flags_min_val {ex : Bool} {Q : Value → Shared → Prop} (S : St y.cx L m l k s) (h : ∀ s', St y.cx L m l k s' → Q (.int 0 472) s') : N y.cx A (getAttr (.ref 109) "min_val" ex) Q s := p_attr S (fa _).ct_Uint64Flags (fa _).cr_Uint64Flags (fa _).ca_Uint64Flags_min_val (by decide +kernel) h
theorem a_Uint64Flags_max_val {ex : Bool} {Q : Value → Shared → Prop} (S : St y.cx L m l k s) (h : ∀ s', St y.cx L m l k s' → Q (.int 18446744073709551615 478) s') : N y.cx A (getAttr (.ref 109) "max_val" ex) Q s := p_attr S (fa _).ct_Uint64Flags (fa _).cr_Uint64Flags (fa _).ca_Uint64Flags_max_val (by decide +kernel) h
theorem a_Uint64Flags_packer_type {ex : Bool} {Q : Value → Shared → Prop} (S : St y.cx L m l k s) (h : ∀ s', St y.cx L m l k s' → Q (.ref 55) s') : N y.cx A (getAttr (.ref 109) "packer_type" ex) Q s := p_attr S (fa _).ct_Uint64Flags (fa _).cr_Uint64Flags (fa _).ca_Uint64Flags_packer_type (by decide +kernel) h
theorem y_Uint64Flags {pl : Sem Bool} {Q : Value × List Value → Shared → Prop} (S : St y.cx L m l k s) (h : ∀ s', St y.cx L m l k s' → Q (.type "int", []) s') : N y.cx A (getMethod (.ref 109) "py_type" pl) Q s := p_pyt S (fa _).cr_Uint64Flags (fa _).ci_Uint64Flags h
theorem a_Int32Flags_bytewidth {ex : Bool} {Q : Value → Shared → Prop} (S : St y.cx L m l k s) (h : ∀ s', St y.cx L m l k s' → Q (.int 4 504) s') : N y.cx A (getAttr (.ref 123) "bytewidth" ex) Q s := p_attr S (fa _).ct_Int32Flags (fa _).cr_Int32Flags (fa _).ca_Int32Flags_bytewidth (by decide +kernel) h
theorem a_Int32Flags_min_val {ex : Bool} {Q : Value → Shared → Prop} (S : St y.cx L m l k s) (h : ∀ s', St y.cx L m l k s' → Q (.int (-2147483648) 509) s') : N y.cx A (getAttr (.ref 123) "min_val" ex) Q s := p_attr S (fa _).ct_Int32Flags (fa _).cr_Int32Flags (fa _).ca_Int32Flags_min_val (by decide +kernel) h
theorem a_Int32Flags_max_val {ex : Bool} {Q : Value → Shared → Prop} (S : St y.cx L m l k s) (h : ∀ s', St y.cx L m l k s' → Q (.int 2147483647 515) s') : N y.cx A (getAttr (.ref 123) "max_val" ex) Q s := p_attr S (fa _).ct_Int32Flags (fa _).cr_Int32Flags (fa _).ca_Int32Flags_max_val (by decide +kernel) h
theorem a_Int32Flags_packer_type {ex : Bool} {Q : Value → Shared → Prop} (S : St y.cx L m l k s) (h : ∀ s', St y.cx L m l k s' → Q (.ref 56) s') : N y.cx A (getAttr (.ref 123) "packer_type" ex) Q s := p_attr S (fa _).ct_Int32Flags (fa _).cr_Int32Flags (fa _).ca_Int32Flags_packer_type (by decide +kernel) h
theorem y_Int32Flags {pl : Sem Bool} {Q : Value × List Value → Shared → Prop} (S : St y.cx L m l k s) (h : ∀ s', St y.cx L m l k s' → Q (.type "int", []) s') : N y.cx A (getMethod (.ref 123) "py_type" pl) Q s := p_pyt S (fa _).cr_Int32Flags (fa _).ci_Int32Flags h
theorem a_Int64Flags_bytewidth {ex : Bool} {Q : Value → Shared → Prop} (S : St y.cx L m l k s) (h : ∀ s', St y.cx L m l k s' → Q (.int 8 541) s') : N y.cx A (getAttr (.ref 137) "bytewidth" ex) Q s := p_attr S (fa _).ct_Int64Flags (fa _).cr_Int64Flags (fa _).ca_Int64Flags_bytewidth (by decide +kernel) h
theorem a_Int64Flags_min_val {ex : Bool} {Q : Value → Shared → Prop} (S : St y.cx L m l k s) (h : ∀ s', St y.cx L m l k s' → Q (.int (-9223372036854775808) 546) s') : N y.cx A (getAttr (.ref 137) "min_val" ex) Q s := p_attr S (fa _).ct_Int64Flags (fa _).cr_Int64Flags (fa _).ca_Int64Flags_min_val (by decide +kernel) h
theorem a_Int64Flags_max_val {ex : Bool} {Q : Value → Shared → Prop} (S : St y.cx L m l k s) (h : ∀ s', St y.cx L m l k s' → Q (.int 9223372036854775807 552) s') : N y.cx A (getAttr (.ref 137) "max_val" ex) Q s := p_attr S (fa _).ct_Int64Flags (fa _).cr_Int64Flags (fa _).ca_Int64Flags_max_val (by decide +kernel) h
theorem a_Int64Flags_packer_type {ex : Bool} {Q : Value → Shared → Prop} (S : St y.cx L m l k s) (h : ∀ s', St y.cx L m l k s' → Q (.ref 57) s') : N y.cx A (getAttr (.ref 137) "packer_type" ex) Q s := p_attr S (fa _).ct_Int64Flags (fa _).cr_Int64Flags (fa _).ca_Int64Flags_packer_type (by decide +kernel) h
theorem y_Int64Flags {pl : Sem Bool} {Q : Value × List Value → Shared → Prop} (S : St y.cx L m l k s) (h : ∀ s', St y.cx L m l k s' → Q (.type "int", []) s') : N y.cx A (getMethod (.ref 137) "py_type" pl) Q s := p_pyt S (fa _).cr_Int64Flags (fa _).ci_Int64Flags h
theorem a_SOffsetTFlags_bytewidth {ex : Bool} {Q : Value → Shared → Prop} (S : St y.cx L m l k s) (h : ∀ s', St y.cx L m l k s' → Q (.int 4 504) s') : N y.cx A (getAttr (.ref 151) "bytewidth" ex) Q s := p_attr S (fa _).ct_SOffsetTFlags (fa _).cr_SOffsetTFlags (fa _).ca_SOffsetTFlags_bytewidth (by decide +kernel) h
theorem a_SOffsetTFlags_min_val {ex : Bool} {Q : Value → Shared → Prop} (S : St y.cx L m l k s) (h : ∀ s', St y.cx L m l k s' → Q (.int (-2147483648) 509) s') : N y.cx A (getAttr (.ref 151) "min_val" ex) Q s := p_attr S (fa _).ct_SOffsetTFlags (fa _).cr_SOffsetTFlags (fa _).ca_SOffsetTFlags_min_val (by decide +kernel) h
theorem a_SOffsetTFlags_max_val {ex : Bool} {Q : Value → Shared → Prop} (S : St y.cx L m l k s) (h : ∀ s', St y.cx L m l k s' → Q (.int 2147483647 515) s') : N y.cx A (getAttr (.ref 151) "max_val" ex) Q s := p_attr S (fa _).ct_SOffsetTFlags (fa _).cr_SOffsetTFlags (fa _).ca_SOffsetTFlags_max_val (by decide +kernel) h
theorem a_SOffsetTFlags_packer_type {ex : Bool} {Q : Value → Shared → Prop} (S : St y.cx L m l k s) (h : ∀ s', St y.cx L m l k s' → Q (.ref 56) s') : N y.cx A (getAttr (.ref 151) "packer_type" ex) Q s := p_attr S (fa _).ct_SOffsetTFlags (fa _).cr_SOffsetTFlags (fa _).ca_SOffsetTFlags_packer_type (by decide +kernel) h
theorem y_SOffsetTFlags {pl : Sem Bool} {Q : Value × List Value → Shared → Prop} (S : St y.cx L m l k s) (h : ∀ s', St y.cx L m l k s' → Q (.type "int", []) s') : N y.cx A (getMethod (.ref 151) "py_type" pl) Q s := p_pyt S (fa _).cr_SOffsetTFlags (fa _).ci_SOffsetTFlags h
theorem a_UOffsetTFlags_bytewidth {ex : Bool} {Q : Value → Shared → Prop} (S : St y.cx L m l k s) (h : ∀ s', St y.cx L m l k s' → Q (.int 4 436) s') : N y.cx A (getAttr (.ref 163) "bytewidth" ex) Q s := p_attr S (fa _).ct_UOffsetTFlags (fa _).cr_UOffsetTFlags (fa _).ca_UOffsetTFlags_bytewidth (by decide +kernel) h
theorem a_UOffsetTFlags_min_val {ex : Bool} {Q : Value → Shared → Prop} (S : St y.cx L m l k s) (h : ∀ s', St y.cx L m l k s' → Q (.int 0 438) s') : N y.cx A (getAttr (.ref 163) "min_val" ex) Q s := p_attr S (fa _).ct_UOffsetTFlags (fa _).cr_UOffsetTFlags (fa _).ca_UOffsetTFlags_min_val (by decide +kernel) h
theorem a_UOffsetTFlags_max_val {ex : Bool} {Q : Value → Shared → Prop} (S : St y.cx L m l k s) (h : ∀ s', St y.cx L m l k s' → Q (.int 4294967295 444) s') : N y.cx A (getAttr (.ref 163) "max_val" ex) Q s := p_attr S (fa _).ct_UOffsetTFlags (fa _).cr_UOffsetTFlags (fa _).ca_UOffsetTFlags_max_val (by decide +kernel) h
theorem a_UOffsetTFlags_packer_type {ex : Bool} {Q : Value → Shared → Prop} (S : St y.cx L m l k s) (h : ∀ s', St y.cx L m l k s' → Q (.ref 54) s') : N y.cx A (getAttr (.ref 163) "packer_type" ex) Q s := p_attr S (fa _).ct_UOffsetTFlags (fa _).cr_UOffsetTFlags (fa _).ca_UOffsetTFlags_packer_type (by decide +kernel) h
theorem y_UOffsetTFlags {pl : Sem Bool} {Q : Value × List Value → Shared → Prop} (S : St y.cx L m l k s) (h : ∀ s', St y.cx L m l k s' → Q (.type "int", []) s') : N y.cx A (getMethod (.ref 163) "py_type" pl) Q s := p_pyt S (fa _).cr_UOffsetTFlags (fa _).ci_UOffsetTFlags h
theorem a_VOffsetTFlags_bytewidth {ex : Bool} {Q : Value → Shared → Prop} (S : St y.cx L m l k s) (h : ∀ s', St y.cx L m l k s' → Q (.int 2 402) s') : N y.cx A (getAttr (.ref 175) "bytewidth" ex) Q s := p_attr S (fa _).ct_VOffsetTFlags (fa _).cr_VOffsetTFlags (fa _).ca_VOffsetTFlags_bytewidth (by decide +kernel) h
theorem a_VOffsetTFlags_min_val {ex : Bool} {Q : Value → Shared → Prop} (S : St y.cx L m l k s) (h : ∀ s', St y.cx L m l k s' → Q (.int 0 404) s') : N y.cx A (getAttr (.ref 175) "min_val" ex) Q s := p_attr S (fa _).ct_VOffsetTFlags (fa _).cr_VOffsetTFlags (fa _).ca_VOffsetTFlags_min_val (by decide +kernel) h
theorem a_VOffsetTFlags_max_val {ex : Bool} {Q : Value → Shared → Prop} (S : St y.cx L m l k s) (h : ∀ s', St y.cx L m l k s' → Q (.int 65535 410) s') : N y.cx A (getAttr (.ref 175) "max_val" ex) Q s := p_attr S (fa _).ct_VOffsetTFlags (fa _).cr_VOffsetTFlags (fa _).ca_VOffsetTFlags_max_val (by decide +kernel) h
theorem a_VOffsetTFlags_packer_type {ex : Bool} {Q : Value → Shared → Prop} (S : St y.cx L m l k s) (h : ∀ s', St y.cx L m l k s' → Q (.ref 53) s') : N y.cx A (getAttr (.ref 175) "packer_type" ex) Q s := p_attr S (fa _).ct_VOffsetTFlags (fa _).cr_VOffsetTFlags (fa _).ca_VOffsetTFlags_packer_type (by decide +kernel) h
theorem y_VOffsetTFlags {pl : Sem Bool} {Q : Value × List Value → Shared → Prop} (S : St y.cx L m l k s) (h : ∀ s', St y.cx L m l k s' → Q (.type "int", []) s') : N y.cx A (getMethod (.ref 175) "py_type" pl) Q s := p_pyt S (fa _).cr_VOffsetTFlags (fa _).ci_VOffsetTFlags h
theorem a_Builder_MAX_BUFFER_SIZE {ex : Bool} {Q : Value → Shared → Prop} (S : St y.cx L m l k s) (h : ∀ s', St y.cx L m l k s' → Q (.int 2147483648 775) s') : N y.cx A (getAttr (.ref 671) "MAX_BUFFER_SIZE" ex) Q s := p_attr S (fa _).ct_Builder (fa _).cr_Builder (fa _).ca_Builder_MAX_BUFFER_SIZE (by decide +kernel) h
theorem m__Builder__Finish {pl : Sem Bool} {Q : Value × List Value → Shared → Prop} (S : St y.cx L m ((b, r.obj) :: l) k s) (h : Q (.ref 441, [.ref b]) s) : N y.cx A (getMethod (.ref b) "_Builder__Finish" pl) Q s := m___Finish S h
end
theorem gl_string_types (P : Params) : nsIn (hd.heap_39 P) mainGlobals "string_types" = some (some (.ref 50)) := (fa P).gl_string_types
theorem gl_binary_types (P : Params) : nsIn (hd.heap_39 P) mainGlobals "binary_types" = some (some (.ref 51)) := (fa P).gl_binary_types
theorem gl_uoffset (P : Params) : nsIn (hd.heap_39 P) mainGlobals "uoffset" = some (some (.ref 54)) := (fa P).gl_uoffset
theorem gl_soffset (P : Params) : nsIn (hd.heap_39 P) mainGlobals "soffset" = some (some (.ref 56)) := (fa P).gl_soffset
theorem gl_FILE_IDENTIFIER_LENGTH (P : Params) : nsIn (hd.heap_39 P) mainGlobals "FILE_IDENTIFIER_LENGTH" = some (some (.int 4 624)) := (fa P).gl_FILE_IDENTIFIER_LENGTH
theorem gl_VtableMetadataFields (P : Params) : nsIn (hd.heap_39 P) mainGlobals "VtableMetadataFields" = some (some (.int 2 746)) := (fa P).gl_VtableMetadataFields
theorem gl_Write (P : Params) : nsIn (hd.heap_39 P) mainGlobals "Write" = some (some (.ref 191)) := (fa P).gl_Write
theorem gl_enforce_number (P : Params) : nsIn (hd.heap_39 P) mainGlobals "enforce_number" = some (some (.ref 184)) := (fa P).gl_enforce_number
theorem gl_Builder (P : Params) : nsIn (hd.heap_39 P) mainGlobals "Builder" = some (some (.ref 671)) := (fa P).gl_Builder
theorem gl_unpack (P : Params) : nsIn (hd.heap_39 P) mainGlobals "unpack" = some (some (.builtin "_struct.unpack")) := (fa P).gl_unpack
theorem gl__law_deed (P : Params) : nsIn (hd.heap_39 P) mainGlobals "_law_deed" = some (some (.ref 691)) := (fa P).gl__law_deed
theorem gl__law_need (P : Params) : nsIn (hd.heap_39 P) mainGlobals "_law_need" = some (some (.ref 698)) := (fa P).gl__law_need
theorem gl__law_step (P : Params) : nsIn (hd.heap_39 P) mainGlobals "_law_step" = some (some (.ref 705)) := (fa P).gl__law_step
theorem gl__law_run (P : Params) : nsIn (hd.heap_39 P) mainGlobals "_law_run" = some (some (.ref 712)) := (fa P).gl__law_run
theorem gl_Uint8Flags (P : Params) : nsIn (hd.heap_39 P) mainGlobals "Uint8Flags" = some (some (.ref 67)) := (fa P).gl_Uint8Flags
theorem gl_Uint16Flags (P : Params) : nsIn (hd.heap_39 P) mainGlobals "Uint16Flags" = some (some (.ref 81)) := (fa P).gl_Uint16Flags
theorem gl_Uint32Flags (P : Params) : nsIn (hd.heap_39 P) mainGlobals "Uint32Flags" = some (some (.ref 95)) := (fa P).gl_Uint32Flags
theorem gl_Uint64Flags (P : Params) : nsIn (hd.heap_39 P) mainGlobals "Uint64Flags" = some (some (.ref 109)) := (fa P).gl_Uint64Flags
theorem gl_Int32Flags (P : Params) : nsIn (hd.heap_39 P) mainGlobals "Int32Flags" = some (some (.ref 123)) := (fa P).gl_Int32Flags
theorem gl_Int64Flags (P : Params) : nsIn (hd.heap_39 P) mainGlobals "Int64Flags" = some (some (.ref 137)) := (fa P).gl_Int64Flags
theorem gl_SOffsetTFlags (P : Params) : nsIn (hd.heap_39 P) mainGlobals "SOffsetTFlags" = some (some (.ref 151)) := (fa P).gl_SOffsetTFlags
theorem gl_UOffsetTFlags (P : Params) : nsIn (hd.heap_39 P) mainGlobals "UOffsetTFlags" = some (some (.ref 163)) := (fa P).gl_UOffsetTFlags
theorem gl_VOffsetTFlags (P : Params) : nsIn (hd.heap_39 P) mainGlobals "VOffsetTFlags" = some (some (.ref 175)) := (fa P).gl_VOffsetTFlags
theorem gb_len (P : Params) : nsIn (hd.heap_39 P) mainGlobals "len" = some none := (fa P).gb_len
theorem gb_bytearray (P : Params) : nsIn (hd.heap_39 P) mainGlobals "bytearray" = some none := (fa P).gb_bytearray
theorem gb_min (P : Params) : nsIn (hd.heap_39 P) mainGlobals "min" = some none := (fa P).gb_min
theorem gb_reversed (P : Params) : nsIn (hd.heap_39 P) mainGlobals "reversed" = some none := (fa P).gb_reversed
theorem gb_tuple (P : Params) : nsIn (hd.heap_39 P) mainGlobals "tuple" = some none := (fa P).gb_tuple
theorem gb_isinstance (P : Params) : nsIn (hd.heap_39 P) mainGlobals "isinstance" = some none := (fa P).gb_isinstance
theorem gb_range (P : Params) : nsIn (hd.heap_39 P) mainGlobals "range" = some none := (fa P).gb_range
theorem gb_bytes (P : Params) : nsIn (hd.heap_39 P) mainGlobals "bytes" = some none := (fa P).gb_bytes
theorem gb_sum (P : Params) : nsIn (hd.heap_39 P) mainGlobals "sum" = some none := (fa P).gb_sum
theorem gb_max (P : Params) : nsIn (hd.heap_39 P) mainGlobals "max" = some none := (fa P).gb_max
theorem kp_334 (P : Params) : keepIn (hd.heap_39 P) (.ref 334) = true := (fa P).kp_Head
theorem kp_341 (P : Params) : keepIn (hd.heap_39 P) (.ref 341) = true := (fa P).kp_Offset
theorem kp_299 (P : Params) : keepIn (hd.heap_39 P) (.ref 299) = true := (fa P).kp_Output
theorem kp_306 (P : Params) : keepIn (hd.heap_39 P) (.ref 306) = true := (fa P).kp_StartObject
theorem kp_313 (P : Params) : keepIn (hd.heap_39 P) (.ref 313) = true := (fa P).kp_WriteVtable
theorem kp_320 (P : Params) : keepIn (hd.heap_39 P) (.ref 320) = true := (fa P).kp_EndObject
theorem kp_327 (P : Params) : keepIn (hd.heap_39 P) (.ref 327) = true := (fa P).kp_GrowByteBuffer
theorem kp_348 (P : Params) : keepIn (hd.heap_39 P) (.ref 348) = true := (fa P).kp_Pad
theorem kp_355 (P : Params) : keepIn (hd.heap_39 P) (.ref 355) = true := (fa P).kp_Prep
theorem kp_362 (P : Params) : keepIn (hd.heap_39 P) (.ref 362) = true := (fa P).kp_PrependSOffsetTRelative
theorem kp_369 (P : Params) : keepIn (hd.heap_39 P) (.ref 369) = true := (fa P).kp_PrependUOffsetTRelative
theorem kp_376 (P : Params) : keepIn (hd.heap_39 P) (.ref 376) = true := (fa P).kp_StartVector
theorem kp_384 (P : Params) : keepIn (hd.heap_39 P) (.ref 384) = true := (fa P).kp_EndVector
theorem kp_398 (P : Params) : keepIn (hd.heap_39 P) (.ref 398) = true := (fa P).kp_CreateString
theorem kp_412 (P : Params) : keepIn (hd.heap_39 P) (.ref 412) = true := (fa P).kp_assertNested
theorem kp_419 (P : Params) : keepIn (hd.heap_39 P) (.ref 419) = true := (fa P).kp_assertNotNested
theorem kp_433 (P : Params) : keepIn (hd.heap_39 P) (.ref 433) = true := (fa P).kp_Slot
theorem kp_449 (P : Params) : keepIn (hd.heap_39 P) (.ref 449) = true := (fa P).kp_Finish
theorem kp_464 (P : Params) : keepIn (hd.heap_39 P) (.ref 464) = true := (fa P).kp_Prepend
theorem kp_471 (P : Params) : keepIn (hd.heap_39 P) (.ref 471) = true := (fa P).kp_PrependSlot
theorem kp_576 (P : Params) : keepIn (hd.heap_39 P) (.ref 576) = true := (fa P).kp_PrependUint8
theorem kp_590 (P : Params) : keepIn (hd.heap_39 P) (.ref 590) = true := (fa P).kp_PrependUint32
theorem kp_639 (P : Params) : keepIn (hd.heap_39 P) (.ref 639) = true := (fa P).kp_PrependVOffsetT
theorem kp_646 (P : Params) : keepIn (hd.heap_39 P) (.ref 646) = true := (fa P).kp_Place
theorem kp_660 (P : Params) : keepIn (hd.heap_39 P) (.ref 660) = true := (fa P).kp_PlaceSOffsetT
theorem kp_667 (P : Params) : keepIn (hd.heap_39 P) (.ref 667) = true := (fa P).kp_PlaceUOffsetT
theorem kp_441 (P : Params) : keepIn (hd.heap_39 P) (.ref 441) = true := (fa P).kp___Finish
theorem kp_292 (P : Params) : keepIn (hd.heap_39 P) (.ref 292) = true := (fa P).kp_Clear
theorem kp_405 (P : Params) : keepIn (hd.heap_39 P) (.ref 405) = true := (fa P).kp_CreateByteVector
theorem kp_534 (P : Params) : keepIn (hd.heap_39 P) (.ref 534) = true := (fa P).kp_PrependInt32Slot
theorem kp_583 (P : Params) : keepIn (hd.heap_39 P) (.ref 583) = true := (fa P).kp_PrependUint16
theorem kp_597 (P : Params) : keepIn (hd.heap_39 P) (.ref 597) = true := (fa P).kp_PrependUint64
theorem kp_625 (P : Params) : keepIn (hd.heap_39 P) (.ref 625) = true := (fa P).kp_PrependInt64
theorem kp_191 (P : Params) : keepIn (hd.heap_39 P) (.ref 191) = true := (fa P).kp_Write
theorem kp_184 (P : Params) : keepIn (hd.heap_39 P) (.ref 184) = true := (fa P).kp_enforce_number
theorem kp_691 (P : Params) : keepIn (hd.heap_39 P) (.ref 691) = true := (fa P).kp__law_deed
theorem kp_698 (P : Params) : keepIn (hd.heap_39 P) (.ref 698) = true := (fa P).kp__law_need
theorem kp_705 (P : Params) : keepIn (hd.heap_39 P) (.ref 705) = true := (fa P).kp__law_step
theorem kp_712 (P : Params) : keepIn (hd.heap_39 P) (.ref 712) = true := (fa P).kp__law_run
theorem kp_671 (P : Params) : keepIn (hd.heap_39 P) (.ref 671) = true := (fa P).kp_Builder
theorem a_67_bytewidth : type_of% @a_Uint8Flags_bytewidth := @a_Uint8Flags_bytewidth
theorem a_67_min_val : type_of% @a_Uint8Flags_min_val := @a_Uint8Flags_min_val
theorem a_67_max_val : type_of% @a_Uint8Flags_max_val := @a_Uint8Flags_max_val
theorem a_67_packer_type : type_of% @a_Uint8Flags_packer_type := @a_Uint8Flags_packer_type
theorem y_67 : type_of% @y_Uint8Flags := @y_Uint8Flags
theorem a_81_bytewidth : type_of% @a_Uint16Flags_bytewidth := @a_Uint16Flags_bytewidth
theorem a_81_min_val : type_of% @a_Uint16Flags_min_val := @a_Uint16Flags_min_val
theorem a_81_max_val : type_of% @a_Uint16Flags_max_val := @a_Uint16Flags_max_val
theorem a_81_packer_type : type_of% @a_Uint16Flags_packer_type := @a_Uint16Flags_packer_type
theorem y_81 : type_of% @y_Uint16Flags := @y_Uint16Flags
theorem a_95_bytewidth : type_of% @a_Uint32Flags_bytewidth := @a_Uint32Flags_bytewidth
theorem a_95_min_val : type_of% @a_Uint32Flags_min_val := @a_Uint32Flags_min_val
theorem a_95_max_val : type_of% @a_Uint32Flags_max_val := @a_Uint32Flags_max_val
theorem a_95_packer_type : type_of% @a_Uint32Flags_packer_type := @a_Uint32Flags_packer_type
theorem y_95 : type_of% @y_Uint32Flags := @y_Uint32Flags
theorem a_109_bytewidth : type_of% @a_Uint64Flags_bytewidth := @a_Uint64Flags_bytewidth
theorem a_109_min_val : type_of% @a_Uint64Flags_min_val := @a_Uint64Flags_min_val
theorem a_109_max_val : type_of% @a_Uint64Flags_max_val := @a_Uint64Flags_max_val
theorem a_109_packer_type : type_of% @a_Uint64Flags_packer_type := @a_Uint64Flags_packer_type
theorem y_109 : type_of% @y_Uint64Flags := @y_Uint64Flags
theorem a_123_bytewidth : type_of% @a_Int32Flags_bytewidth := @a_Int32Flags_bytewidth
theorem a_123_min_val : type_of% @a_Int32Flags_min_val := @a_Int32Flags_min_val
theorem a_123_max_val : type_of% @a_Int32Flags_max_val := @a_Int32Flags_max_val
theorem a_123_packer_type : type_of% @a_Int32Flags_packer_type := @a_Int32Flags_packer_type
theorem y_123 : type_of% @y_Int32Flags := @y_Int32Flags
theorem a_137_bytewidth : type_of% @a_Int64Flags_bytewidth := @a_Int64Flags_bytewidth
theorem a_137_min_val : type_of% @a_Int64Flags_min_val := @a_Int64Flags_min_val
theorem a_137_max_val : type_of% @a_Int64Flags_max_val := @a_Int64Flags_max_val
theorem a_137_packer_type : type_of% @a_Int64Flags_packer_type := @a_Int64Flags_packer_type
theorem y_137 : type_of% @y_Int64Flags := @y_Int64Flags
theorem a_151_bytewidth : type_of% @a_SOffsetTFlags_bytewidth := @a_SOffsetTFlags_bytewidth
theorem a_151_min_val : type_of% @a_SOffsetTFlags_min_val := @a_SOffsetTFlags_min_val
theorem a_151_max_val : type_of% @a_SOffsetTFlags_max_val := @a_SOffsetTFlags_max_val
theorem a_151_packer_type : type_of% @a_SOffsetTFlags_packer_type := @a_SOffsetTFlags_packer_type
theorem y_151 : type_of% @y_SOffsetTFlags := @y_SOffsetTFlags
theorem a_163_bytewidth : type_of% @a_UOffsetTFlags_bytewidth := @a_UOffsetTFlags_bytewidth
theorem a_163_min_val : type_of% @a_UOffsetTFlags_min_val := @a_UOffsetTFlags_min_val
theorem a_163_max_val : type_of% @a_UOffsetTFlags_max_val := @a_UOffsetTFlags_max_val
theorem a_163_packer_type : type_of% @a_UOffsetTFlags_packer_type := @a_UOffsetTFlags_packer_type
theorem y_163 : type_of% @y_UOffsetTFlags := @y_UOffsetTFlags
theorem a_175_bytewidth : type_of% @a_VOffsetTFlags_bytewidth := @a_VOffsetTFlags_bytewidth
theorem a_175_min_val : type_of% @a_VOffsetTFlags_min_val := @a_VOffsetTFlags_min_val
theorem a_175_max_val : type_of% @a_VOffsetTFlags_max_val := @a_VOffsetTFlags_max_val
theorem a_175_packer_type : type_of% @a_VOffsetTFlags_packer_type := @a_VOffsetTFlags_packer_type
theorem y_175 : type_of% @y_VOffsetTFlags := @y_VOffsetTFlags
theorem a_671_MAX_BUFFER_SIZE : type_of% @a_Builder_MAX_BUFFER_SIZE := @a_Builder_MAX_BUFFER_SIZE

end Mine

end
-- PC2
section
open PySem PySem.W PySem.Calls PyProof.Rows
set_option maxRecDepth 100000
set_option linter.unusedVariables false
set_option linter.deprecated false
namespace Mine
end Mine
end
local macro_rules | `(tactic| walk_at "n_leafcall") => `(tactic| ((with_reducible show N _ _ (call (.builtin "len") [.ref _]) _ _); refine n_ba_len (by assumption) (by walk_at "in_l") (by omega) ?_; intro _ _ _))
section
open PySem PySem.W PySem.Calls PyProof.Rows
set_option maxRecDepth 100000
set_option linter.unusedVariables false
set_option linter.deprecated false
namespace Mine
end Mine
end
local macro_rules | `(tactic| walk_at "n_leafitem") => `(tactic| refine r_item_ba (by assumption) (by walk_at "in_l") ?_ (fun _ _ => by first | exact .inl rfl | exact .inr rfl))
section
open PySem PySem.W PySem.Calls PyProof.Rows
set_option maxRecDepth 100000
set_option linter.unusedVariables false
set_option linter.deprecated false
namespace Mine
end Mine
end
local macro_rules | `(tactic| walk_at "n_leaf") => `(tactic| ((with_reducible show N _ _ (eval (.Constant (.bytes _) _ _) _) _ _); refine r_cbytes (by assumption) ?_; intro _ _ _))
section
open PySem PySem.W PySem.Calls PyProof.Rows
set_option maxRecDepth 100000
set_option linter.unusedVariables false
set_option linter.deprecated false
namespace Mine
section
variable {y : Cy} {A : Around} {s : Shared} {L b : Addr} {m : Str → Option Value} {l k : List (Addr × Obj)} {r : Raw} {Q : Value → Shared → Prop}
theorem ct_Head (S : St y.cx L m ((b, r.obj) :: l) k s) (R : Rm A 1)
    (h : ∀ s', St y.cx L m ((b, r.obj) :: l) k s' → Q (.int r.head.1 r.head.2) s') : N y.cx A (call (.ref 334) [.ref b]) Q s := by
  refine p_call (binds := [("self", .ref b)]) S (by rfl) (by rfl) (Rm.depth R) (BindsTo.of_eq rfl) (locs rfl) (fun Lx oLx s₁ S₁ => ?_) (by decide) rfl rfl rfl
  refine n_cons ?_
  refine n_ret ?_
  refine e_attr ?_
  refine r_loc (by assumption) (by exact rfl) ?_
  (refine g_head (by assumption) ?_; intro _ _)
  refine Back.mk (by assumption) (fun S' => ?_)
  exact h _ S'
theorem ct_Offset {buf : List UInt8} (S : St y.cx L m ((b, r.obj) :: (r.ba, baObj buf) :: l) k s) (R : Rm A 1) (hz : buf.length ≤ 16777216)
    (h : ∀ t s', St y.cx L m ((b, r.obj) :: (r.ba, baObj buf) :: l) k s' → Q (.int (buf.length - r.head.1) t) s') : N y.cx A (call (.ref 341) [.ref b]) Q s := by
  refine p_call (binds := [("self", .ref b)]) S (by rfl) (by rfl) (Rm.depth R) (BindsTo.of_eq rfl) (locs rfl) (fun Lx oLx s₁ S₁ => ?_) (by decide) rfl rfl rfl
  refine n_cons ?_
  refine n_ret ?_
  refine e_bin ?_
  refine e_call ?_
  refine p_blt (by assumption) (gb_len _) (by boot_by_name) (by decide) ?_ rfl rfl
  refine cw1 ?_
  refine sp_cons ?_
  refine e_attr ?_
  refine r_loc (by assumption) (by exact rfl) ?_
  (refine g_Bytes (by assumption) ?_; intro _ _)
  refine sp_nil ?_
  refine ⟨Kp.builtin, ?_⟩
  show N _ _ (call _ [_] _) _ _
  walk_at "n_leafcall"
  refine e_attr ?_
  refine r_loc (by assumption) (by exact rfl) ?_
  (refine g_head (by assumption) ?_; intro _ _)
  (refine i_sub (by assumption) ?_; intro _ _ _)
  refine Back.mk (by assumption) (fun S' => ?_)
  exact h _ _ S'
theorem ct_assertNested (S : St y.cx L m ((b, r.obj) :: l) k s) (R : Rm A 1) (hn : r.nested = true)
    (h : ∀ s', St y.cx L m ((b, r.obj) :: l) k s' → Q .none s') : N y.cx A (call (.ref 412) [.ref b]) Q s := by
  refine p_call (binds := [("self", .ref b)]) S (by rfl) (by rfl) (Rm.depth R) (BindsTo.of_eq rfl) (locs rfl) (fun Lx oLx s₁ S₁ => ?_) (by decide) rfl rfl rfl
  refine n_cons ?_
  refine n_if ?_
  refine t_not ?_
  refine t_plain ?_
  refine e_attr ?_
  refine r_loc (by assumption) (by exact rfl) ?_
  (refine g_nested (by assumption) ?_; intro _ _)
  refine tr_bool ?_
  refine g_no (by rw [hn]; rfl) ?_
  refine n_nil ?_
  show N _ _ _ _ _
  refine n_nil ?_
  refine Back.mk (by assumption) (fun S' => ?_)
  exact h _ S'
theorem ct_assertNotNested (S : St y.cx L m ((b, r.obj) :: l) k s) (R : Rm A 1) (hn : r.nested = false)
    (h : ∀ s', St y.cx L m ((b, r.obj) :: l) k s' → Q .none s') : N y.cx A (call (.ref 419) [.ref b]) Q s := by
  refine p_call (binds := [("self", .ref b)]) S (by rfl) (by rfl) (Rm.depth R) (BindsTo.of_eq rfl) (locs rfl) (fun Lx oLx s₁ S₁ => ?_) (by decide) rfl rfl rfl
  refine n_cons ?_
  refine n_if ?_
  refine t_plain ?_
  refine e_attr ?_
  refine r_loc (by assumption) (by exact rfl) ?_
  (refine g_nested (by assumption) ?_; intro _ _)
  refine tr_bool ?_
  refine   g_no     (by       first       | rfl       | assumption)     ?_
  refine n_nil ?_
  show N _ _ _ _ _
  refine n_nil ?_
  refine Back.mk (by assumption) (fun S' => ?_)
  exact h _ S'
theorem ct_Pad {buf out : List UInt8} {room n : Nat} {t : Tok} (S : St y.cx L m ((b, r.obj) :: (r.ba, baObj buf) :: l) k s) (R : Rm A 1) (B : BufOk r.head.1 buf out room) (hn : n + out.length ≤ room) (hn8 : n < 8)
    (h : ∀ hd buf' s', St y.cx L m ((b, { r with head := hd }.obj) :: (r.ba, baObj buf') :: l) k s' → BufOk hd.1 buf' (List.replicate n 0 ++ out) room → Q .none s') : N y.cx A (call (.ref 348) [.ref b, .int n t]) Q s := by
  refine p_call (binds := [("self", .ref b), ("n", .int n t)]) S (by rfl) (by rfl) (Rm.depth R) (BindsTo.of_eq rfl) (locs rfl) (fun Lx oLx s₁ S₁ => ?_) (by decide) rfl rfl rfl
  refine n_cons ?_
  refine n_if ?_
  refine t_cmp ?_
  refine r_loc (by assumption) (by exact rfl) ?_
  (refine r_cint (by assumption) ?_; intro _ _ _)
  refine c_le ?_
  refine tr_bool ?_
  by_cases h0 : n = 0
  · refine g_yes (by simp [h0]) ?_
    refine n_cons ?_
    refine n_ret0 ?_
    refine Back.mk (by assumption) (fun S' => ?_)
    subst h0
    exact h _ _ _ S' B
  refine g_no (by simp; omega) ?_
  refine n_nil ?_
  show N _ _ _ _ _
  refine n_cons ?_
  refine n_assign ?_
  refine e_bin ?_
  refine e_attr ?_
  refine r_loc (by assumption) (by exact rfl) ?_
  (refine g_head (by assumption) ?_; intro _ _)
  refine r_loc (by assumption) (by exact rfl) ?_
  (refine i_sub (by assumption) ?_; intro _ _ _)
  (refine r_st (by assumption) ?_; intro _ _)
  show N _ _ _ _ _
  refine n_cons ?_
  refine n_setitem ?_
  refine e_bin ?_
  walk_at "n_leaf"
  refine r_loc (by assumption) (by exact rfl) ?_
  refine y_mul1 (by assumption) (by omega) ?_
  intro _ _ _
  refine e_attr ?_
  refine r_loc (by assumption) (by exact rfl) ?_
  (refine g_Bytes (by assumption) ?_; intro _ _)
  refine e_slice_lu ?_
  refine r_loc (by assumption) (by exact rfl) ?_
  refine e_attr ?_
  refine r_loc (by assumption) (by exact rfl) ?_
  (refine g_head (by assumption) ?_; intro _ _)
  (refine r_slice (by assumption) ?_; intro _ _ _)
  obtain ⟨b1, b2, b3, b4, b5⟩ := id B
  refine put_b R.g (by assumption) (by omega) (by rw [List.length_replicate]; omega) (by omega) (by omega) fun s₂ S₂ => ?_
  show N _ _ _ _ _
  refine n_cons ?_
  refine n_setattr ?_
  refine r_loc (by assumption) (by exact rfl) ?_
  refine r_loc (by assumption) (by exact rfl) ?_
  (refine s_head (by assumption) ?_; intro _ _)
  show N _ _ _ _ _
  refine n_nil ?_
  refine Back.mk (by assumption) (fun S' => ?_)
  exact h (_, _) _ _ S' (B.push (by rw [List.length_replicate]; omega) (by rw [List.length_replicate]))
/-- after Grow -/
theorem ct_Grow {buf : List UInt8} (S : St y.cx L m ((b, r.obj) :: (r.ba, baObj buf) :: l) k s) (R : Rm A 1) (hz : 2 * buf.length ≤ 16777216)
    (h : ∀ ba s', St y.cx L m ((b, { r with ba := ba }.obj) :: (ba, baObj (List.replicate ((if buf.length = 0 then 1 else 2 * buf.length) - buf.length) 0 ++ buf)) :: l) k s' → Q .none s') : N y.cx A (call (.ref 327) [.ref b]) Q s := by
  refine p_call (binds := [("self", .ref b)]) S (by rfl) (by rfl) (Rm.depth R) (BindsTo.of_eq rfl) (locs rfl) (fun Lx oLx s₁ S₁ => ?_) (by decide) rfl rfl rfl
  refine n_cons ?_
  refine n_if ?_
  refine t_cmp ?_
  refine e_call ?_
  refine p_blt (by assumption) (gb_len _) (by boot_by_name) (by decide) ?_ rfl rfl
  refine cw1 ?_
  refine sp_cons ?_
  refine e_attr ?_
  refine r_loc (by assumption) (by exact rfl) ?_
  (refine g_Bytes (by assumption) ?_; intro _ _)
  refine sp_nil ?_
  refine ⟨Kp.builtin, ?_⟩
  show N _ _ (call _ [_] _) _ _
  walk_at "n_leafcall"
  refine e_attr ?_
  refine p_glob (by assumption) (gl_Builder _) ?_ rfl rfl
  (refine a_671_MAX_BUFFER_SIZE (by assumption) ?_; intro _ _)
  refine c_eq ?_
  refine tr_bool ?_
  refine g_no (by simp; omega) ?_
  refine n_nil ?_
  show N _ _ _ _ _
  refine n_cons ?_
  refine n_assign ?_
  refine e_call ?_
  refine p_blt (by assumption) (gb_min _) (by boot_by_name) (by decide) ?_ rfl rfl
  refine cw1 ?_
  refine sp_cons ?_
  refine e_bin ?_
  refine e_call ?_
  refine p_blt (by assumption) (gb_len _) (by boot_by_name) (by decide) ?_ rfl rfl
  refine cw1 ?_
  refine sp_cons ?_
  refine e_attr ?_
  refine r_loc (by assumption) (by exact rfl) ?_
  (refine g_Bytes (by assumption) ?_; intro _ _)
  refine sp_nil ?_
  refine ⟨Kp.builtin, ?_⟩
  show N _ _ (call _ [_] _) _ _
  walk_at "n_leafcall"
  (refine r_cint (by assumption) ?_; intro _ _ _)
  refine i_mul (by assumption) (mulOk (by decide)) ?_
  intro _ _ _
  refine sp_cons ?_
  refine e_attr ?_
  refine p_glob (by assumption) (gl_Builder _) ?_ rfl rfl
  (refine a_671_MAX_BUFFER_SIZE (by assumption) ?_; intro _ _)
  refine sp_nil ?_
  refine ⟨Kp.builtin, ?_⟩
  show N _ _ (call _ [_, _] _) _ _
  refine k_min (by assumption) R.h ?_
  intro _ _
  rw [if_neg (by omega)]
  (refine r_st (by assumption) ?_; intro _ _)
  show N _ _ _ _ _
  refine n_cons ?_
  refine n_if ?_
  refine t_cmp ?_
  refine r_loc (by assumption) (by exact rfl) ?_
  (refine r_cint (by assumption) ?_; intro _ _ _)
  refine c_eq ?_
  refine tr_bool ?_
  have tl : ∀ {nw : Nat}, buf.length ≤ nw → (List.replicate nw (0 : UInt8)).take (nw - buf.length) ++ buf ++ (List.replicate nw (0 : UInt8)).drop nw = List.replicate (nw - buf.length) 0 ++ buf := fun {nw} hl => by
    rw [List.take_replicate, List.drop_replicate]; simp
  by_cases h0 : buf.length = 0
  · refine g_yes (by simp [h0]) ?_
    refine n_cons ?_
    refine n_assign ?_
    (refine r_cint (by assumption) ?_; intro _ _ _)
    (refine r_st (by assumption) ?_; intro _ _)
    show N _ _ _ _ _
    refine n_nil ?_
    show N _ _ _ _ _
    refine n_cons ?_
    refine n_assign ?_
    refine e_call ?_
    refine p_blt (by assumption) (gb_bytearray _) (by boot_by_name) (by decide) ?_ rfl rfl
    refine cw1 ?_
    refine sp_cons ?_
    refine r_loc (by assumption) (by exact rfl) ?_
    refine sp_nil ?_
    refine ⟨Kp.type, ?_⟩
    show N _ _ (call _ [_] _) _ _
    refine n_ba_int (by assumption) R.g (by decide) (by decide) fun d s₂ S₂ => ?_
    have S₂ := S₂.swap
    show N _ _ _ _ _
    (refine r_st (by assumption) ?_; intro _ _)
    show N _ _ _ _ _
    refine n_cons ?_
    refine n_setitem ?_
    refine e_attr ?_
    refine r_loc (by assumption) (by exact rfl) ?_
    (refine g_Bytes (by assumption) ?_; intro _ _)
    refine r_loc (by assumption) (by exact rfl) ?_
    refine e_slice_lo ?_
    refine e_bin ?_
    refine r_loc (by assumption) (by exact rfl) ?_
    refine e_call ?_
    refine p_blt (by assumption) (gb_len _) (by boot_by_name) (by decide) ?_ rfl rfl
    refine cw1 ?_
    refine sp_cons ?_
    refine e_attr ?_
    refine r_loc (by assumption) (by exact rfl) ?_
    (refine g_Bytes (by assumption) ?_; intro _ _)
    refine sp_nil ?_
    refine ⟨Kp.builtin, ?_⟩
    show N _ _ (call _ [_] _) _ _
    walk_at "n_leafcall"
    (refine i_sub (by assumption) ?_; intro _ _ _)
    (refine r_slice (by assumption) ?_; intro _ _ _)
    rename_i S₃
    refine n_ba_putA (i := 1 - buf.length) (j := 1) (S₃.perm (.cons _ (.swap _ _ _))) (by walk_at "in_l") (.int _ _) .none (bounds_l (by omega) (by simp)) (by omega) (by simp) (by omega) (by simp) fun s₄ S₄ => ?_
    have S₄ := S₄.swap
    show N _ _ _ _ _
    refine n_cons ?_
    refine n_setattr ?_
    refine r_loc (by assumption) (by exact rfl) ?_
    refine r_loc (by assumption) (by exact rfl) ?_
    (refine s_Bytes (by assumption) ?_; intro _ _)
    show N _ _ _ _ _
    refine n_nil ?_
    refine Back.mk (by assumption) (fun S' => ?_)
    have S' := S'.sub (.cons_cons _ (.cons_cons _ (.cons _ (.refl _))))
    have e := tl (nw := 1) (by omega)
    rw [show ((1 : Int).toNat) = 1 from rfl, e] at S'
    rw [if_pos h0] at h
    exact h _ _ S'
  · refine g_no (beq_eq_false_iff_ne.mpr (by omega)) ?_
    refine n_nil ?_
    show N _ _ _ _ _
    refine n_cons ?_
    refine n_assign ?_
    refine e_call ?_
    refine p_blt (by assumption) (gb_bytearray _) (by boot_by_name) (by decide) ?_ rfl rfl
    refine cw1 ?_
    refine sp_cons ?_
    refine r_loc (by assumption) (by exact rfl) ?_
    refine sp_nil ?_
    refine ⟨Kp.type, ?_⟩
    show N _ _ (call _ [_] _) _ _
    refine n_ba_int (by assumption) R.g (by omega) (by omega) fun d s₂ S₂ => ?_
    have S₂ := S₂.swap
    show N _ _ _ _ _
    (refine r_st (by assumption) ?_; intro _ _)
    show N _ _ _ _ _
    refine n_cons ?_
    refine n_setitem ?_
    refine e_attr ?_
    refine r_loc (by assumption) (by exact rfl) ?_
    (refine g_Bytes (by assumption) ?_; intro _ _)
    refine r_loc (by assumption) (by exact rfl) ?_
    refine e_slice_lo ?_
    refine e_bin ?_
    refine r_loc (by assumption) (by exact rfl) ?_
    refine e_call ?_
    refine p_blt (by assumption) (gb_len _) (by boot_by_name) (by decide) ?_ rfl rfl
    refine cw1 ?_
    refine sp_cons ?_
    refine e_attr ?_
    refine r_loc (by assumption) (by exact rfl) ?_
    (refine g_Bytes (by assumption) ?_; intro _ _)
    refine sp_nil ?_
    refine ⟨Kp.builtin, ?_⟩
    show N _ _ (call _ [_] _) _ _
    walk_at "n_leafcall"
    (refine i_sub (by assumption) ?_; intro _ _ _)
    (refine r_slice (by assumption) ?_; intro _ _ _)
    rename_i S₃
    have en : ((buf.length : Int) * 2).toNat = 2 * buf.length := by omega
    rw [en] at S₃
    refine n_ba_putA (i := 2 * buf.length - buf.length) (j := 2 * buf.length) (S₃.perm (.cons _ (.swap _ _ _))) (by walk_at "in_l") (.int _ _) .none (by rw [List.length_replicate]; exact bounds_l (by omega) (by omega)) (by omega) (by simp) (by omega) (by simp; omega) fun s₄ S₄ => ?_
    have S₄ := S₄.swap
    show N _ _ _ _ _
    refine n_cons ?_
    refine n_setattr ?_
    refine r_loc (by assumption) (by exact rfl) ?_
    refine r_loc (by assumption) (by exact rfl) ?_
    (refine s_Bytes (by assumption) ?_; intro _ _)
    show N _ _ _ _ _
    refine n_nil ?_
    refine Back.mk (by assumption) (fun S' => ?_)
    have S' := S'.sub (.cons_cons _ (.cons_cons _ (.cons _ (.refl _))))
    rw [tl (nw := 2 * buf.length) (by omega)] at S'
    rw [if_neg h0] at h
    exact h _ _ S'
end

end Mine

end
-- PC22
section
open PySem PySem.W PySem.Calls PyProof.Rows
set_option maxRecDepth 100000
set_option linter.unusedVariables false
set_option linter.deprecated false
namespace Mine
/-- a struct that packs one number -/
def Sx (y : Cy) (st : Addr) (w : Nat) (lo hi : Int) : Prop := ∃ (fmt : Array UInt8) (tf : Tok) (vs : Array Value) (sl : Array (Option Value)), (hd.heap_39 y.w.params).lookup st = some ⟨.type "_struct.Struct", none, .fields vs, sl⟩ ∧ vs[0]? = some (.bytes fmt tf) ∧ Pk fmt w lo hi
/-- a class that tells of a kind of number -/
structure Fl (y : Cy) (F : Addr) (w : Nat) (lo hi : Int) : Prop where
  bw : ∃ t : Tok, ∀ {A : Around} {s : Shared} {L : Addr} {m : Str → Option Value} {l k : List (Addr × Obj)} {ex : Bool} {Q : Value → Shared → Prop}, St y.cx L m l k s → (∀ s', St y.cx L m l k s' → Q (.int w t) s') → N y.cx A (getAttr (.ref F) "bytewidth" ex) Q s
  mn : ∃ t : Tok, ∀ {A : Around} {s : Shared} {L : Addr} {m : Str → Option Value} {l k : List (Addr × Obj)} {ex : Bool} {Q : Value → Shared → Prop}, St y.cx L m l k s → (∀ s', St y.cx L m l k s' → Q (.int lo t) s') → N y.cx A (getAttr (.ref F) "min_val" ex) Q s
  mx : ∃ t : Tok, ∀ {A : Around} {s : Shared} {L : Addr} {m : Str → Option Value} {l k : List (Addr × Obj)} {ex : Bool} {Q : Value → Shared → Prop}, St y.cx L m l k s → (∀ s', St y.cx L m l k s' → Q (.int hi t) s') → N y.cx A (getAttr (.ref F) "max_val" ex) Q s
  pk : ∃ st : Addr, Sx y st w lo hi ∧ ∀ {A : Around} {s : Shared} {L : Addr} {m : Str → Option Value} {l k : List (Addr × Obj)} {ex : Bool} {Q : Value → Shared → Prop}, St y.cx L m l k s → (∀ s', St y.cx L m l k s' → Q (.ref st) s') → N y.cx A (getAttr (.ref F) "packer_type" ex) Q s
section
variable {y : Cy}
theorem fl_Uint8Flags : Fl y 67 1 0 255 := ⟨⟨_, a_Uint8Flags_bytewidth⟩, ⟨_, a_Uint8Flags_min_val⟩, ⟨_, a_Uint8Flags_max_val⟩, ⟨_, ⟨_, _, _, _, rfl, rfl, Pk.B⟩, a_Uint8Flags_packer_type⟩⟩
theorem fl_Uint16Flags : Fl y 81 2 0 65535 := ⟨⟨_, a_Uint16Flags_bytewidth⟩, ⟨_, a_Uint16Flags_min_val⟩, ⟨_, a_Uint16Flags_max_val⟩, ⟨_, ⟨_, _, _, _, rfl, rfl, Pk.H⟩, a_Uint16Flags_packer_type⟩⟩
theorem fl_Uint32Flags : Fl y 95 4 0 4294967295 := ⟨⟨_, a_Uint32Flags_bytewidth⟩, ⟨_, a_Uint32Flags_min_val⟩, ⟨_, a_Uint32Flags_max_val⟩, ⟨_, ⟨_, _, _, _, rfl, rfl, Pk.I⟩, a_Uint32Flags_packer_type⟩⟩
theorem fl_Uint64Flags : Fl y 109 8 0 18446744073709551615 := ⟨⟨_, a_Uint64Flags_bytewidth⟩, ⟨_, a_Uint64Flags_min_val⟩, ⟨_, a_Uint64Flags_max_val⟩, ⟨_, ⟨_, _, _, _, rfl, rfl, Pk.Q⟩, a_Uint64Flags_packer_type⟩⟩
theorem fl_Int32Flags : Fl y 123 4 (-2147483648) 2147483647 := ⟨⟨_, a_Int32Flags_bytewidth⟩, ⟨_, a_Int32Flags_min_val⟩, ⟨_, a_Int32Flags_max_val⟩, ⟨_, ⟨_, _, _, _, rfl, rfl, Pk.i⟩, a_Int32Flags_packer_type⟩⟩
theorem fl_Int64Flags : Fl y 137 8 (-9223372036854775808) 9223372036854775807 := ⟨⟨_, a_Int64Flags_bytewidth⟩, ⟨_, a_Int64Flags_min_val⟩, ⟨_, a_Int64Flags_max_val⟩, ⟨_, ⟨_, _, _, _, rfl, rfl, Pk.q⟩, a_Int64Flags_packer_type⟩⟩
theorem fl_SOffsetTFlags : Fl y 151 4 (-2147483648) 2147483647 := ⟨⟨_, a_SOffsetTFlags_bytewidth⟩, ⟨_, a_SOffsetTFlags_min_val⟩, ⟨_, a_SOffsetTFlags_max_val⟩, ⟨_, ⟨_, _, _, _, rfl, rfl, Pk.i⟩, a_SOffsetTFlags_packer_type⟩⟩
theorem fl_UOffsetTFlags : Fl y 163 4 0 4294967295 := ⟨⟨_, a_UOffsetTFlags_bytewidth⟩, ⟨_, a_UOffsetTFlags_min_val⟩, ⟨_, a_UOffsetTFlags_max_val⟩, ⟨_, ⟨_, _, _, _, rfl, rfl, Pk.I⟩, a_UOffsetTFlags_packer_type⟩⟩
theorem fl_VOffsetTFlags : Fl y 175 2 0 65535 := ⟨⟨_, a_VOffsetTFlags_bytewidth⟩, ⟨_, a_VOffsetTFlags_min_val⟩, ⟨_, a_VOffsetTFlags_max_val⟩, ⟨_, ⟨_, _, _, _, rfl, rfl, Pk.H⟩, a_VOffsetTFlags_packer_type⟩⟩
end
theorem St.at {c : Cx} {s : Shared} {L a : Addr} {m : Str → Option Value} {l k : List (Addr × Obj)} {o : Obj} (S : St c L m l k s) (e : c.K.lookup a = some o) : s.heap.get? a = some o := S.X _ _ e
section
variable {y : Cy} {A : Around} {s : Shared} {L b st F d : Addr} {m : Str → Option Value} {l k : List (Addr × Obj)} {r : Raw} {Q : Value → Shared → Prop} {w : Nat} {lo hi : Int}
/-- enforce_number, within the bounds -/
theorem ct_enf {n : Int} {t : Tok} (FL : Fl y F w lo hi) (S : St y.cx L m l k s) (R : Rm A 1) (h0 : lo ≤ n) (h1 : n ≤ hi) (h : ∀ s', St y.cx L m l k s' → Q .none s') : N y.cx A (call (.ref 184) [.int n t, .ref F]) Q s := by
  obtain ⟨t1, g_min_val⟩ := FL.mn
  obtain ⟨t2, g_max_val⟩ := FL.mx
  refine p_call (binds := [("n", .int n t), ("flags", .ref F)]) S (by rfl) (by rfl) (Rm.depth R) (BindsTo.of_eq rfl) (locs rfl) (fun Lx oLx s₁ S₁ => ?_) (by decide) rfl rfl rfl
  refine n_cons ?_
  refine n_if ?_
  refine t_and ?_
  refine t_cmp ?_
  refine e_attr ?_
  refine r_loc (by assumption) (by exact rfl) ?_
  (refine g_min_val (by assumption) ?_; intro _ _)
  refine r_cnone ?_
  refine c_is (by rfl) ?_
  refine tr_bool ?_
  refine   g_no     (by       first       | rfl       | assumption)     ?_
  refine   g_no     (by       first       | rfl       | assumption)     ?_
  refine n_nil ?_
  show N _ _ _ _ _
  refine n_cons ?_
  refine n_if ?_
  refine t_not ?_
  refine t_chain2 ?_
  refine e_attr ?_
  refine r_loc (by assumption) (by exact rfl) ?_
  (refine g_min_val (by assumption) ?_; intro _ _)
  refine r_loc (by assumption) (by exact rfl) ?_
  refine c_le ?_
  refine tr_bool ?_
  refine g_yes (decide_eq_true h0) ?_
  refine e_attr ?_
  refine r_loc (by assumption) (by exact rfl) ?_
  (refine g_max_val (by assumption) ?_; intro _ _)
  refine c_le ?_
  refine tr_bool ?_
  refine g_no (by simp; exact h1) ?_
  refine n_nil ?_
  show N _ _ _ _ _
  refine n_nil ?_
  refine Back.mk (by assumption) (fun S' => ?_)
  exact h _ S'
theorem ct_Write {buf : List UInt8} {p i : Int} {tp ti : Tok} (X : Sx y st w lo hi) (S : St y.cx L m ((d, baObj buf) :: l) k s) (R : Rm A 1) (hp : 0 ≤ p) (hp' : p + w ≤ buf.length) (hz : buf.length ≤ 16777216) (h0 : lo ≤ i) (h1 : i ≤ hi)
    (h : ∀ s', St y.cx L m ((d, baObj (over buf p.toNat (le w i))) :: l) k s' → Q .none s') : N y.cx A (call (.ref 191) [.ref st, .ref d, .int p tp, .int i ti]) Q s := by
  obtain ⟨fmt, tf, vs, sl, e1, e2, e3⟩ := X
  obtain ⟨p, rfl⟩ := Int.eq_ofNat_of_zero_le hp
  refine p_call (binds := [("packer_type", .ref st), ("buf", .ref d), ("head", .int p tp), ("n", .int i ti)]) S (by rfl) (by rfl) (Rm.depth R) (BindsTo.of_eq rfl) (locs rfl) (fun Lx oLx s₁ S₁ => ?_) (by decide) rfl rfl rfl
  refine n_cons ?_
  refine n_expr ?_
  refine e_meth ?_
  refine r_loc (by assumption) (by exact rfl) ?_
  refine n_pack_meth (dd := none) (St.at (c := y.cx) (by assumption) e1) ?_
  refine cw1 ?_
  refine sp_cons ?_
  refine r_loc (by assumption) (by exact rfl) ?_
  refine sp_cons ?_
  refine r_loc (by assumption) (by exact rfl) ?_
  refine sp_cons ?_
  refine r_loc (by assumption) (by exact rfl) ?_
  refine sp_nil ?_
  refine ⟨Kp.builtin, ?_⟩
  show N _ _ (call _ [_, _, _, _] _) _ _
  refine n_pack e3 (by assumption) (St.at (c := y.cx) (by assumption) e1) e2 (by omega) hz h0 h1 fun s₄ S₄ => ?_
  refine ⟨(by intro _ h; cases h), ?_⟩
  show N _ _ _ _ _
  refine n_nil ?_
  refine Back.mk (by assumption) (fun S' => ?_)
  exact h _ S'

/-- Place: x, w wide, ahead of what stands -/
theorem ct_Place {buf out : List UInt8} {room : Nat} {n : Int} {t : Tok} (FL : Fl y F w lo hi) (S : St y.cx L m ((b, r.obj) :: (r.ba, baObj buf) :: l) k s) (R : Rm A 2) (B : BufOk r.head.1 buf out room) (hn : w + out.length ≤ room) (h0 : lo ≤ n) (h1 : n ≤ hi)
    (h : ∀ hd buf' s', St y.cx L m ((b, { r with head := hd }.obj) :: (r.ba, baObj buf') :: l) k s' → BufOk hd.1 buf' (le w n ++ out) room → Q .none s') : N y.cx A (call (.ref 646) [.ref b, .int n t, .ref F]) Q s := by
  obtain ⟨t1, g_bytewidth⟩ := FL.bw
  obtain ⟨st, X, g_packer_type⟩ := FL.pk
  obtain ⟨b1, b2, b3, b4, b5⟩ := id B
  refine p_call (binds := [("self", .ref b), ("x", .int n t), ("flags", .ref F)]) S (by rfl) (by rfl) (Rm.depth R) (BindsTo.of_eq rfl) (locs rfl) (fun Lx oLx s₁ S₁ => ?_) (by decide) rfl rfl rfl
  refine n_cons ?_
  refine n_expr ?_
  refine e_call ?_
  refine p_glob (by assumption) (gl_enforce_number _) ?_ rfl rfl
  refine cw1 ?_
  refine sp_cons ?_
  refine r_loc (by assumption) (by exact rfl) ?_
  refine sp_cons ?_
  refine r_loc (by assumption) (by exact rfl) ?_
  refine sp_nil ?_
  refine ⟨Kp.of_K (by assumption) (kp_184 _), ?_⟩
  show N _ _ (call _ [_, _] _) _ _
  refine ct_enf FL (by assumption) R.deep h0 h1 ?_
  intro _
  intro _
  refine ⟨(by intro _ h; cases h), ?_⟩
  show N _ _ _ _ _
  refine n_cons ?_
  refine n_assign ?_
  refine e_bin ?_
  refine e_attr ?_
  refine r_loc (by assumption) (by exact rfl) ?_
  (refine g_head (by assumption) ?_; intro _ _)
  refine e_attr ?_
  refine r_loc (by assumption) (by exact rfl) ?_
  (refine g_bytewidth (by assumption) ?_; intro _ _)
  (refine i_sub (by assumption) ?_; intro _ _ _)
  (refine r_st (by assumption) ?_; intro _ _)
  show N _ _ _ _ _
  refine n_cons ?_
  refine n_setattr ?_
  refine r_loc (by assumption) (by exact rfl) ?_
  refine r_loc (by assumption) (by exact rfl) ?_
  (refine s_head (by assumption) ?_; intro _ _)
  show N _ _ _ _ _
  refine n_cons ?_
  refine n_expr ?_
  refine e_call ?_
  refine p_glob (by assumption) (gl_Write _) ?_ rfl rfl
  refine cw1 ?_
  refine sp_cons ?_
  refine e_attr ?_
  refine r_loc (by assumption) (by exact rfl) ?_
  (refine g_packer_type (by assumption) ?_; intro _ _)
  refine sp_cons ?_
  refine e_attr ?_
  refine r_loc (by assumption) (by exact rfl) ?_
  (refine g_Bytes (by assumption) ?_; intro _ _)
  refine sp_cons ?_
  refine r_loc (by assumption) (by exact rfl) ?_
  refine sp_cons ?_
  refine r_loc (by assumption) (by exact rfl) ?_
  refine sp_nil ?_
  refine ⟨Kp.of_K (by assumption) (kp_191 _), ?_⟩
  show N _ _ (call _ [_, _, _, _] _) _ _
  rename_i S₂
  refine ct_Write X S₂.swap R.deep (by omega) (by omega) (by omega) h0 h1 fun s₃ S₃ => ?_
  have S₃ := S₃.swap
  refine ⟨(by intro _ h; cases h), ?_⟩
  show N _ _ _ _ _
  refine n_nil ?_
  refine Back.mk (by assumption) (fun S' => ?_)
  exact h (_, _) _ _ S' (B.push (by rw [le_length]; omega) (by rw [le_length]))
theorem ct_PlaceU {buf out : List UInt8} {room : Nat} {n : Int} {t : Tok} (S : St y.cx L m ((b, r.obj) :: (r.ba, baObj buf) :: l) k s) (R : Rm A 2) (B : BufOk r.head.1 buf out room) (hn : 4 + out.length ≤ room) (h0 : 0 ≤ n) (h1 : n ≤ 4294967295)
    (h : ∀ hd buf' s', St y.cx L m ((b, { r with head := hd }.obj) :: (r.ba, baObj buf') :: l) k s' → BufOk hd.1 buf' (le 4 n ++ out) room → Q .none s') : N y.cx A (call (.ref 667) [.ref b, .int n t]) Q s := by
  obtain ⟨b1, b2, b3, b4, b5⟩ := id B
  refine p_call (binds := [("self", .ref b), ("x", .int n t)]) S (by rfl) (by rfl) (Rm.depth R) (BindsTo.of_eq rfl) (locs rfl) (fun Lx oLx s₁ S₁ => ?_) (by decide) rfl rfl rfl
  refine n_cons ?_
  refine n_expr ?_
  refine e_call ?_
  refine p_glob (by assumption) (gl_enforce_number _) ?_ rfl rfl
  refine cw1 ?_
  refine sp_cons ?_
  refine r_loc (by assumption) (by exact rfl) ?_
  refine sp_cons ?_
  refine p_glob (by assumption) (gl_UOffsetTFlags _) ?_ rfl rfl
  refine sp_nil ?_
  refine ⟨Kp.of_K (by assumption) (kp_184 _), ?_⟩
  show N _ _ (call _ [_, _] _) _ _
  refine ct_enf fl_UOffsetTFlags (by assumption) R.deep h0 h1 ?_
  intro _
  intro _
  refine ⟨(by intro _ h; cases h), ?_⟩
  show N _ _ _ _ _
  refine n_cons ?_
  refine n_assign ?_
  refine e_bin ?_
  refine e_attr ?_
  refine r_loc (by assumption) (by exact rfl) ?_
  (refine g_head (by assumption) ?_; intro _ _)
  refine e_attr ?_
  refine p_glob (by assumption) (gl_UOffsetTFlags _) ?_ rfl rfl
  (refine a_163_bytewidth (by assumption) ?_; intro _ _)
  (refine i_sub (by assumption) ?_; intro _ _ _)
  (refine r_st (by assumption) ?_; intro _ _)
  show N _ _ _ _ _
  refine n_cons ?_
  refine n_setattr ?_
  refine r_loc (by assumption) (by exact rfl) ?_
  refine r_loc (by assumption) (by exact rfl) ?_
  (refine s_head (by assumption) ?_; intro _ _)
  show N _ _ _ _ _
  refine n_cons ?_
  refine n_expr ?_
  refine e_call ?_
  refine p_glob (by assumption) (gl_Write _) ?_ rfl rfl
  refine cw1 ?_
  refine sp_cons ?_
  refine p_glob (by assumption) (gl_uoffset _) ?_ rfl rfl
  refine sp_cons ?_
  refine e_attr ?_
  refine r_loc (by assumption) (by exact rfl) ?_
  (refine g_Bytes (by assumption) ?_; intro _ _)
  refine sp_cons ?_
  refine r_loc (by assumption) (by exact rfl) ?_
  refine sp_cons ?_
  refine r_loc (by assumption) (by exact rfl) ?_
  refine sp_nil ?_
  refine ⟨Kp.of_K (by assumption) (kp_191 _), ?_⟩
  show N _ _ (call _ [_, _, _, _] _) _ _
  rename_i S₂
  refine ct_Write (show Sx y 54 4 0 4294967295 from ⟨_, _, _, _, rfl, rfl, Pk.I⟩) S₂.swap R.deep (by omega) (by omega) (by omega) h0 h1 fun s₃ S₃ => ?_
  have S₃ := S₃.swap
  refine ⟨(by intro _ h; cases h), ?_⟩
  show N _ _ _ _ _
  refine n_nil ?_
  refine Back.mk (by assumption) (fun S' => ?_)
  exact h (_, _) _ _ S' (B.push (by rw [le_length]; omega) (by rw [le_length]; rfl))
theorem ct_PlaceS {buf out : List UInt8} {room : Nat} {n : Int} {t : Tok} (S : St y.cx L m ((b, r.obj) :: (r.ba, baObj buf) :: l) k s) (R : Rm A 2) (B : BufOk r.head.1 buf out room) (hn : 4 + out.length ≤ room) (h0 : -2147483648 ≤ n) (h1 : n ≤ 2147483647)
    (h : ∀ hd buf' s', St y.cx L m ((b, { r with head := hd }.obj) :: (r.ba, baObj buf') :: l) k s' → BufOk hd.1 buf' (le 4 n ++ out) room → Q .none s') : N y.cx A (call (.ref 660) [.ref b, .int n t]) Q s := by
  obtain ⟨b1, b2, b3, b4, b5⟩ := id B
  refine p_call (binds := [("self", .ref b), ("x", .int n t)]) S (by rfl) (by rfl) (Rm.depth R) (BindsTo.of_eq rfl) (locs rfl) (fun Lx oLx s₁ S₁ => ?_) (by decide) rfl rfl rfl
  refine n_cons ?_
  refine n_expr ?_
  refine e_call ?_
  refine p_glob (by assumption) (gl_enforce_number _) ?_ rfl rfl
  refine cw1 ?_
  refine sp_cons ?_
  refine r_loc (by assumption) (by exact rfl) ?_
  refine sp_cons ?_
  refine p_glob (by assumption) (gl_SOffsetTFlags _) ?_ rfl rfl
  refine sp_nil ?_
  refine ⟨Kp.of_K (by assumption) (kp_184 _), ?_⟩
  show N _ _ (call _ [_, _] _) _ _
  refine ct_enf fl_SOffsetTFlags (by assumption) R.deep h0 h1 ?_
  intro _
  intro _
  refine ⟨(by intro _ h; cases h), ?_⟩
  show N _ _ _ _ _
  refine n_cons ?_
  refine n_assign ?_
  refine e_bin ?_
  refine e_attr ?_
  refine r_loc (by assumption) (by exact rfl) ?_
  (refine g_head (by assumption) ?_; intro _ _)
  refine e_attr ?_
  refine p_glob (by assumption) (gl_SOffsetTFlags _) ?_ rfl rfl
  (refine a_151_bytewidth (by assumption) ?_; intro _ _)
  (refine i_sub (by assumption) ?_; intro _ _ _)
  (refine r_st (by assumption) ?_; intro _ _)
  show N _ _ _ _ _
  refine n_cons ?_
  refine n_setattr ?_
  refine r_loc (by assumption) (by exact rfl) ?_
  refine r_loc (by assumption) (by exact rfl) ?_
  (refine s_head (by assumption) ?_; intro _ _)
  show N _ _ _ _ _
  refine n_cons ?_
  refine n_expr ?_
  refine e_call ?_
  refine p_glob (by assumption) (gl_Write _) ?_ rfl rfl
  refine cw1 ?_
  refine sp_cons ?_
  refine p_glob (by assumption) (gl_soffset _) ?_ rfl rfl
  refine sp_cons ?_
  refine e_attr ?_
  refine r_loc (by assumption) (by exact rfl) ?_
  (refine g_Bytes (by assumption) ?_; intro _ _)
  refine sp_cons ?_
  refine r_loc (by assumption) (by exact rfl) ?_
  refine sp_cons ?_
  refine r_loc (by assumption) (by exact rfl) ?_
  refine sp_nil ?_
  refine ⟨Kp.of_K (by assumption) (kp_191 _), ?_⟩
  show N _ _ (call _ [_, _, _, _] _) _ _
  rename_i S₂
  refine ct_Write (show Sx y 56 4 (-2147483648) 2147483647 from ⟨_, _, _, _, rfl, rfl, Pk.i⟩) S₂.swap R.deep (by omega) (by omega) (by omega) h0 h1 fun s₃ S₃ => ?_
  have S₃ := S₃.swap
  refine ⟨(by intro _ h; cases h), ?_⟩
  show N _ _ _ _ _
  refine n_nil ?_
  refine Back.mk (by assumption) (fun S' => ?_)
  exact h (_, _) _ _ S' (B.push (by rw [le_length]; omega) (by rw [le_length]; rfl))
end

end Mine

end
-- PC32
section
open PySem PySem.W PySem.Calls PyProof.Rows
set_option maxRecDepth 100000
set_option linter.unusedVariables false
set_option linter.deprecated false
namespace Mine
section
variable {y : Cy} {A : Around} {s : Shared} {L b st F d : Addr} {m : Str → Option Value} {l k : List (Addr × Obj)} {r : Raw} {Q : Value → Shared → Prop} {w : Nat} {lo hi : Int}
theorem ct_Prep {buf out : List UInt8} {room ma a : Nat} {tw ta : Tok} (S : St y.cx L m ((b, r.obj) :: (r.ba, baObj buf) :: l) k s) (R : Rm A 2) (B : BufOk r.head.1 buf out room) (hma : r.ma.1 = ma) (hw : Width w) (hs : out.length + a ≤ 4000000) (hr : room ≤ 8388608)
    (h : ∀ ba hd ma' buf' s', St y.cx L m ((b, { r with ba := ba, head := hd, ma := ma' }.obj) :: (ba, baObj buf') :: l) k s' → ma'.1 = ((max ma w : Nat) : Int) → BufOk hd.1 buf' (List.replicate (fillN w (out.length + a)) 0 ++ out) (growN (out.length + needN w out.length a) room) → Q .none s') :
    N y.cx A (call (.ref 355) [.ref b, .int w tw, .int a ta]) Q s := by
  obtain ⟨b1, b2, b3, b4, b5⟩ := id B
  have hw0 : 0 < w ∧ w ≤ 8 := by rcases hw with rfl | rfl | rfl | rfl <;> omega
  have hf := fillN_lt (o := out.length + a) hw0.1
  refine p_call (binds := [("self", .ref b), ("size", .int w tw), ("additionalBytes", .int a ta)]) S (by rfl) (by rfl) (Rm.depth R) (BindsTo.of_eq rfl) (locs rfl) (fun Lx oLx s₁ S₁ => ?_) (by decide) rfl rfl rfl
  refine n_consJ (fun s' => ∃ ma' : Int × Tok, ma'.1 = ((max ma w : Nat) : Int) ∧ St y.cx Lx (fun y => List.lookup y [(("self" : Str), Value.ref b), ("size", .int w tw), ("additionalBytes", .int a ta)].reverse) ((b, { r with ma := ma' }.obj) :: (r.ba, baObj buf) :: l) ((L, oLx) :: k) s') ?_ ?_
  · refine n_if ?_
    refine t_cmp ?_
    refine r_loc (by assumption) (by exact rfl) ?_
    refine e_attr ?_
    refine r_loc (by assumption) (by exact rfl) ?_
    (refine g_minalign (by assumption) ?_; intro _ _)
    refine c_gt ?_
    refine tr_bool ?_
    by_cases hlt : ma < w
    · refine g_yes (by rw [hma]; exact decide_eq_true (by omega)) ?_
      refine n_cons ?_
      refine n_setattr ?_
      refine r_loc (by assumption) (by exact rfl) ?_
      refine r_loc (by assumption) (by exact rfl) ?_
      (refine s_minalign (by assumption) ?_; intro _ _)
      show N _ _ _ _ _
      refine n_nil ?_
      exact ⟨rfl, ((w : Int), tw), by dsimp only; omega, by assumption⟩
    · refine g_no (by rw [hma]; exact decide_eq_false (by omega)) ?_
      refine n_nil ?_
      exact ⟨rfl, r.ma, by omega, by assumption⟩
  rintro s₂ ⟨ma', hma', S₂⟩
  refine n_cons ?_
  refine n_assign ?_
  refine e_attr ?_
  refine r_loc (by assumption) (by exact rfl) ?_
  (refine g_head (by assumption) ?_; intro _ _)
  (refine r_st (by assumption) ?_; intro _ _)
  show N _ _ _ _ _
  refine n_cons ?_
  refine n_assign ?_
  refine e_call ?_
  refine p_blt (by assumption) (gb_len _) (by boot_by_name) (by decide) ?_ rfl rfl
  refine cw1 ?_
  refine sp_cons ?_
  refine e_attr ?_
  refine r_loc (by assumption) (by exact rfl) ?_
  (refine g_Bytes (by assumption) ?_; intro _ _)
  refine sp_nil ?_
  refine ⟨Kp.builtin, ?_⟩
  show N _ _ (call _ [_] _) _ _
  walk_at "n_leafcall"
  (refine r_st (by assumption) ?_; intro _ _)
  show N _ _ _ _ _
  refine n_cons ?_
  refine n_assign ?_
  refine e_bin ?_
  refine e_un ?_
  refine e_bin ?_
  refine e_bin ?_
  refine r_loc (by assumption) (by exact rfl) ?_
  refine r_loc (by assumption) (by exact rfl) ?_
  (refine i_sub (by assumption) ?_; intro _ _ _)
  refine r_loc (by assumption) (by exact rfl) ?_
  (refine i_add (by assumption) ?_; intro _ _ _)
  (refine i_inv (by assumption) ?_; intro _ _ _)
  (refine r_cint (by assumption) ?_; intro _ _ _)
  (refine i_add (by assumption) ?_; intro _ _ _)
  (refine r_st (by assumption) ?_; intro _ _)
  show N _ _ _ _ _
  refine n_cons ?_
  refine n_aug ?_
  refine r_ldn (by assumption) (by exact rfl) ?_
  refine e_bin ?_
  refine r_loc (by assumption) (by exact rfl) ?_
  (refine r_cint (by assumption) ?_; intro _ _ _)
  (refine i_sub (by assumption) ?_; intro _ _ _)
  (refine ii_and (by assumption) ?_; intro _ _ _)
  (refine r_st (by assumption) ?_; intro _ _)
  show N _ _ _ _ _
  refine n_cons ?_
  refine n_assign ?_
  refine e_bin ?_
  refine e_bin ?_
  refine r_loc (by assumption) (by exact rfl) ?_
  refine r_loc (by assumption) (by exact rfl) ?_
  (refine i_add (by assumption) ?_; intro _ _ _)
  refine r_loc (by assumption) (by exact rfl) ?_
  (refine i_add (by assumption) ?_; intro _ _ _)
  (refine r_st (by assumption) ?_; intro _ _)
  show N _ _ _ _ _
  refine n_cons ?_
  refine n_while ?_
  have eal : Builtin.bitAnd (Builtin.bitNot ((buf.length : Int) - r.head.1 + a) + 1) ((w : Int) - 1) = ((fillN w (out.length + a) : Nat) : Int) := by
    rw [show (buf.length : Int) - r.head.1 + a = ((out.length + a : Nat) : Int) by omega]; exact and_fill hw _
  refine NC.whl_ind (fun n s' => ∃ (ba : Addr) (buf' : List UInt8) (m' : Str → Option Value) (hv bv nv av : Int) (th tb tn tl : Tok), St y.cx Lx m' ((b, { r with ba := ba, ma := ma' }.obj) :: (ba, baObj buf') :: l) ((L, oLx) :: k) s' ∧
    m' "self" = some (.ref b) ∧ m' "head" = some (.int hv th) ∧ m' "buf_len" = some (.int bv tb) ∧ m' "needed" = some (.int nv tn) ∧ m' "alignSize" = some (.int av tl) ∧
    hv = (buf'.length : Int) - out.length ∧ bv = buf'.length ∧ nv = (fillN w (out.length + a) : Nat) + w + a ∧ av = (fillN w (out.length + a) : Nat) ∧
    out.length ≤ buf'.length ∧ buf'.drop (buf'.length - out.length) = out ∧ buf'.length ≤ 8388608 ∧ growN (out.length + needN w out.length a) buf'.length = growN (out.length + needN w out.length a) room ∧ n = out.length + needN w out.length a - buf'.length) ?_ _ _
    ⟨r.ba, buf, _, _, _, _, _, _, _, _, _, by assumption, by exact rfl, by exact rfl, by exact rfl, by exact rfl, by exact rfl, by dsimp only; omega, by omega, by rw [eal], by rw [eal], by omega, by rw [b1]; exact b5, by omega, by rw [b1], rfl⟩
  rintro n s₃ ⟨ba, buf', m', hv, bv, nv, av, th, tb, tn, tl, S₃, e1, e2, e3, e4, e5, f1, f2, f3, f4, f5, f6, f7, f8, f9⟩
  subst f1 f2 f3 f4
  have hne : needN w out.length a = fillN w (out.length + a) + w + a := rfl
  show N _ _ _ _ _
  refine t_cmp ?_
  refine r_loc (by assumption) (by exact e2) ?_
  refine r_loc (by assumption) (by exact e4) ?_
  refine c_lt ?_
  refine tr_bool ?_
  by_cases hlt : (buf'.length : Int) - out.length < (fillN w (out.length + a) : Nat) + w + a
  · refine g_yes (decide_eq_true hlt) ?_
    refine n_cons ?_
    refine n_assign ?_
    refine r_loc (by assumption) (by exact e3) ?_
    (refine r_st (by assumption) ?_; intro _ _)
    show N _ _ _ _ _
    refine n_cons ?_
    refine n_expr ?_
    refine e_meth ?_
    refine r_loc (by assumption) (by exact e1) ?_
    refine m_GrowByteBuffer (by assumption) ?_
    refine cw0 ?_ ?_
    exact Kp.of_K (by assumption) (kp_327 _)
    show N _ _ (call _ [_] _) _ _
    refine ct_Grow (by assumption) R.deep (by omega) fun ba2 s₄ S₄ => ?_
    have hgl : (List.replicate ((if buf'.length = 0 then 1 else 2 * buf'.length) - buf'.length) (0 : UInt8) ++ buf').length = (if buf'.length = 0 then 1 else 2 * buf'.length) := by
      rw [List.length_append, List.length_replicate]; split <;> omega
    have hgt : ¬ out.length + needN w out.length a ≤ buf'.length := by omega
    have hgn := growN_neg hgt
    have hnl : buf'.length < (if buf'.length = 0 then 1 else 2 * buf'.length) := by split <;> omega
    have hns : (if buf'.length = 0 then 1 else 2 * buf'.length) ≤ 8388608 := by split <;> omega
    generalize (if buf'.length = 0 then 1 else 2 * buf'.length) = nl at *
    generalize hb2 : (List.replicate (nl - buf'.length) (0 : UInt8) ++ buf') = buf2 at *
    have hd2 : buf2.drop (buf2.length - out.length) = out := by
      rw [hgl, ← hb2, List.drop_append, List.drop_of_length_le (by rw [List.length_replicate]; omega), List.nil_append, List.length_replicate, show nl - out.length - (nl - buf'.length) = buf'.length - out.length by omega]; exact f6
    refine ⟨(by intro _ h; cases h), ?_⟩
    show N _ _ _ _ _
    refine n_cons ?_
    refine n_assign ?_
    refine e_call ?_
    refine p_blt (by assumption) (gb_len _) (by boot_by_name) (by decide) ?_ rfl rfl
    refine cw1 ?_
    refine sp_cons ?_
    refine e_attr ?_
    refine r_loc (by assumption) (by exact e1) ?_
    (refine g_Bytes (by assumption) ?_; intro _ _)
    refine sp_nil ?_
    refine ⟨Kp.builtin, ?_⟩
    show N _ _ (call _ [_] _) _ _
    walk_at "n_leafcall"
    (refine r_st (by assumption) ?_; intro _ _)
    show N _ _ _ _ _
    refine n_cons ?_
    refine n_aug ?_
    refine r_ldn (by assumption) (by exact e2) ?_
    refine e_bin ?_
    refine r_loc (by assumption) (by exact rfl) ?_
    refine r_loc (by assumption) (by exact rfl) ?_
    (refine i_sub (by assumption) ?_; intro _ _ _)
    (refine ii_add (by assumption) ?_; intro _ _ _)
    (refine r_st (by assumption) ?_; intro _ _)
    show N _ _ _ _ _
    refine n_nil ?_
    exact ⟨_, by omega, _, buf2, _, _, _, _, _, _, _, _, _, by assumption, by exact e1, by exact rfl, by exact rfl, by exact e4, by exact e5, by omega, by omega, rfl, rfl, by omega, hd2, by omega, by rw [hgl, ← hgn]; exact f8, rfl⟩
  · refine g_no (decide_eq_false hlt) ?_
    refine n_nil ?_
    show N _ _ _ _ _
    refine n_cons ?_
    refine n_setattr ?_
    refine r_loc (by assumption) (by exact e2) ?_
    refine r_loc (by assumption) (by exact e1) ?_
    (refine s_head (by assumption) ?_; intro _ _)
    show N _ _ _ _ _
    refine n_cons ?_
    refine n_expr ?_
    refine e_meth ?_
    refine r_loc (by assumption) (by exact e1) ?_
    refine m_Pad (by assumption) ?_
    refine cw1 ?_
    refine sp_cons ?_
    refine r_loc (by assumption) (by exact e5) ?_
    refine sp_nil ?_
    refine ⟨Kp.of_K (by assumption) (kp_348 _), ?_⟩
    show N _ _ (call _ [_, _] _) _ _
    have B' : BufOk ((buf'.length : Int) - out.length) buf' out buf'.length := ⟨rfl, by omega, f5, by omega, f6⟩
    rw [growN_pos (room := buf'.length) (by omega)] at f8
    refine ct_Pad (by assumption) R.deep B' (by omega) (by omega) fun hd buf2 s₄ S₄ B₄ => ?_
    refine ⟨(by intro _ h; cases h), ?_⟩
    show N _ _ _ _ _
    refine n_nil ?_
    refine Back.mk (by assumption) (fun S' => ?_)
    rw [f8] at B₄
    exact h _ _ _ _ _ S' hma' B₄
end

end Mine

end
-- PC42
section
open PySem PySem.W PySem.Calls PyProof.Rows
set_option maxRecDepth 100000
set_option linter.unusedVariables false
set_option linter.deprecated false
namespace Mine
end Mine
end
local macro_rules | `(tactic| walk_at "n_leaf") => `(tactic| ((with_reducible show N _ _ (getAttr _ "vectorNumElems" _) _ _); refine g_vectorNumElems (by assumption) (by first | assumption | rfl) ?_; intro _ _))
section
open PySem PySem.W PySem.Calls PyProof.Rows
set_option maxRecDepth 100000
set_option linter.unusedVariables false
set_option linter.deprecated false
namespace Mine
structure Bd (r : Raw) (buf out : List UInt8) (room ma : Nat) : Prop where
  ok : BufOk r.head.1 buf out room
  ma : r.ma.1 = ((ma : Nat) : Int)
  rm : room ≤ 8388608
/-- the same builder, its buffer, head and alignment aside -/
abbrev Raw.at (r : Raw) (ba : Addr) (hd ma : Int × Tok) : Raw := { r with ba := ba, head := hd, ma := ma }
section
variable {y : Cy} {A : Around} {s : Shared} {L b st F d : Addr} {m : Str → Option Value} {l k : List (Addr × Obj)} {r : Raw} {Q : Value → Shared → Prop} {w : Nat} {lo hi : Int} {buf out : List UInt8} {room ma : Nat}
theorem cp_Prep {a : Nat} {tw ta : Tok} (S : St y.cx L m ((b, r.obj) :: (r.ba, baObj buf) :: l) k s) (R : Rm A 2) (B : Bd r buf out room ma) (hw : Width w) (hs : out.length + a ≤ 4000000)
    (h : ∀ ba hd ma' buf' s', St y.cx L m ((b, (r.at ba hd ma').obj) :: (ba, baObj buf') :: l) k s' → Bd (r.at ba hd ma') buf' (prepO w a out) (prepR w a out room) (max ma w) → Q .none s') :
    N y.cx A (call (.ref 355) [.ref b, .int w tw, .int a ta]) Q s :=
  ct_Prep S R B.ok B.ma hw hs B.rm fun ba hd ma' buf' s' S' e B' => h ba hd ma' buf' s' S' ⟨B', e, prepR_le hw hs B.rm⟩
theorem cp_Offset (S : St y.cx L m ((b, r.obj) :: (r.ba, baObj buf) :: l) k s) (R : Rm A 1) (B : BufOk r.head.1 buf out room)
    (h : ∀ t s', St y.cx L m ((b, r.obj) :: (r.ba, baObj buf) :: l) k s' → Q (.int ((out.length : Nat) : Int) t) s') : N y.cx A (call (.ref 341) [.ref b]) Q s := by
  obtain ⟨b1, b2, b3, b4, b5⟩ := id B
  refine ct_Offset S R (by omega) fun t s' S' => ?_
  rw [show (buf.length : Int) - r.head.1 = (out.length : Nat) by omega]
  exact h t s' S'
theorem ct_Prepend {n : Int} {t : Tok} (FL : Fl y F w lo hi) (hw : Width w) (S : St y.cx L m ((b, r.obj) :: (r.ba, baObj buf) :: l) k s) (R : Rm A 3) (B : Bd r buf out room ma) (hs : out.length ≤ 3000000) (h0 : lo ≤ n) (h1 : n ≤ hi)
    (h : ∀ ba hd ma' buf' s', St y.cx L m ((b, (r.at ba hd ma').obj) :: (ba, baObj buf') :: l) k s' → Bd (r.at ba hd ma') buf' (le w n ++ prepO w 0 out) (prepR w 0 out room) (max ma w) → Q .none s') :
    N y.cx A (call (.ref 464) [.ref b, .ref F, .int n t]) Q s := by
  obtain ⟨t1, g_bytewidth⟩ := FL.bw
  refine p_call (binds := [("self", .ref b), ("flags", .ref F), ("off", .int n t)]) S (by rfl) (by rfl) (Rm.depth R) (BindsTo.of_eq rfl) (locs rfl) (fun Lx oLx s₁ S₁ => ?_) (by decide) rfl rfl rfl
  refine n_cons ?_
  refine n_expr ?_
  refine e_meth ?_
  refine r_loc (by assumption) (by exact rfl) ?_
  refine m_Prep (by assumption) ?_
  refine cw1 ?_
  refine sp_cons ?_
  refine e_attr ?_
  refine r_loc (by assumption) (by exact rfl) ?_
  (refine g_bytewidth (by assumption) ?_; intro _ _)
  refine sp_cons ?_
  (refine r_cint (by assumption) ?_; intro _ _ _)
  refine sp_nil ?_
  refine ⟨Kp.of_K (by assumption) (kp_355 _), ?_⟩
  show N _ _ (call _ [_, _, _] _) _ _
  refine cp_Prep (a := 0) (by assumption) R.deep B hw (by omega) fun ba hd ma' buf' s₂ S₂ B₂ => ?_
  refine ⟨(by intro _ h; cases h), ?_⟩
  show N _ _ _ _ _
  refine n_cons ?_
  refine n_expr ?_
  refine e_meth ?_
  refine r_loc (by assumption) (by exact rfl) ?_
  refine m_Place (by assumption) ?_
  refine cw1 ?_
  refine sp_cons ?_
  refine r_loc (by assumption) (by exact rfl) ?_
  refine sp_cons ?_
  refine r_loc (by assumption) (by exact rfl) ?_
  refine sp_nil ?_
  refine ⟨Kp.of_K (by assumption) (kp_646 _), ?_⟩
  show N _ _ (call _ [_, _, _] _) _ _
  have hg := prepR_ge (w := w) (a := 0) (out := out) (room := room)
  refine ct_Place FL (by assumption) R.deep B₂.ok (by omega) h0 h1 fun hd' buf2 s₃ S₃ B₃ => ?_
  refine ⟨(by intro _ h; cases h), ?_⟩
  show N _ _ _ _ _
  refine n_nil ?_
  refine Back.mk (by assumption) (fun S' => ?_)
  exact h _ _ _ _ _ S' ⟨B₃, B₂.ma, B₂.rm⟩
theorem ct_PrependV {n : Int} {t : Tok} (S : St y.cx L m ((b, r.obj) :: (r.ba, baObj buf) :: l) k s) (R : Rm A 4) (B : Bd r buf out room ma) (hs : out.length ≤ 3000000) (h0 : 0 ≤ n) (h1 : n ≤ 65535)
    (h : ∀ ba hd ma' buf' s', St y.cx L m ((b, (r.at ba hd ma').obj) :: (ba, baObj buf') :: l) k s' → Bd (r.at ba hd ma') buf' (le 2 n ++ prepO 2 0 out) (prepR 2 0 out room) (max ma 2) → Q .none s') :
    N y.cx A (call (.ref 639) [.ref b, .int n t]) Q s := by
  refine p_call (binds := [("self", .ref b), ("x", .int n t)]) S (by rfl) (by rfl) (Rm.depth R) (BindsTo.of_eq rfl) (locs rfl) (fun Lx oLx s₁ S₁ => ?_) (by decide) rfl rfl rfl
  refine n_cons ?_
  refine n_expr ?_
  refine e_meth ?_
  refine r_loc (by assumption) (by exact rfl) ?_
  refine m_Prepend (by assumption) ?_
  refine cw1 ?_
  refine sp_cons ?_
  refine p_glob (by assumption) (gl_VOffsetTFlags _) ?_ rfl rfl
  refine sp_cons ?_
  refine r_loc (by assumption) (by exact rfl) ?_
  refine sp_nil ?_
  refine ⟨Kp.of_K (by assumption) (kp_464 _), ?_⟩
  show N _ _ (call _ [_, _, _] _) _ _
  refine ct_Prepend fl_VOffsetTFlags (.inr (.inl rfl)) (by assumption) R.deep B hs h0 h1 fun ba hd ma' buf' s₂ S₂ B₂ => ?_
  refine ⟨(by intro _ h; cases h), ?_⟩
  show N _ _ _ _ _
  refine n_nil ?_
  refine Back.mk (by assumption) (fun S' => ?_)
  exact h _ _ _ _ _ S' B₂
theorem ct_PrependU8 {n : Int} {t : Tok} (S : St y.cx L m ((b, r.obj) :: (r.ba, baObj buf) :: l) k s) (R : Rm A 4) (B : Bd r buf out room ma) (hs : out.length ≤ 3000000) (h0 : 0 ≤ n) (h1 : n ≤ 255)
    (h : ∀ ba hd ma' buf' s', St y.cx L m ((b, (r.at ba hd ma').obj) :: (ba, baObj buf') :: l) k s' → Bd (r.at ba hd ma') buf' (le 1 n ++ prepO 1 0 out) (prepR 1 0 out room) (max ma 1) → Q .none s') :
    N y.cx A (call (.ref 576) [.ref b, .int n t]) Q s := by
  refine p_call (binds := [("self", .ref b), ("x", .int n t)]) S (by rfl) (by rfl) (Rm.depth R) (BindsTo.of_eq rfl) (locs rfl) (fun Lx oLx s₁ S₁ => ?_) (by decide) rfl rfl rfl
  refine n_cons ?_
  refine n_expr ?_
  refine e_meth ?_
  refine r_loc (by assumption) (by exact rfl) ?_
  refine m_Prepend (by assumption) ?_
  refine cw1 ?_
  refine sp_cons ?_
  refine p_glob (by assumption) (gl_Uint8Flags _) ?_ rfl rfl
  refine sp_cons ?_
  refine r_loc (by assumption) (by exact rfl) ?_
  refine sp_nil ?_
  refine ⟨Kp.of_K (by assumption) (kp_464 _), ?_⟩
  show N _ _ (call _ [_, _, _] _) _ _
  refine ct_Prepend fl_Uint8Flags (.inl rfl) (by assumption) R.deep B hs h0 h1 fun ba hd ma' buf' s₂ S₂ B₂ => ?_
  refine ⟨(by intro _ h; cases h), ?_⟩
  show N _ _ _ _ _
  refine n_nil ?_
  refine Back.mk (by assumption) (fun S' => ?_)
  exact h _ _ _ _ _ S' B₂
theorem ct_PrependU32 {n : Int} {t : Tok} (S : St y.cx L m ((b, r.obj) :: (r.ba, baObj buf) :: l) k s) (R : Rm A 4) (B : Bd r buf out room ma) (hs : out.length ≤ 3000000) (h0 : 0 ≤ n) (h1 : n ≤ 4294967295)
    (h : ∀ ba hd ma' buf' s', St y.cx L m ((b, (r.at ba hd ma').obj) :: (ba, baObj buf') :: l) k s' → Bd (r.at ba hd ma') buf' (le 4 n ++ prepO 4 0 out) (prepR 4 0 out room) (max ma 4) → Q .none s') :
    N y.cx A (call (.ref 590) [.ref b, .int n t]) Q s := by
  refine p_call (binds := [("self", .ref b), ("x", .int n t)]) S (by rfl) (by rfl) (Rm.depth R) (BindsTo.of_eq rfl) (locs rfl) (fun Lx oLx s₁ S₁ => ?_) (by decide) rfl rfl rfl
  refine n_cons ?_
  refine n_expr ?_
  refine e_meth ?_
  refine r_loc (by assumption) (by exact rfl) ?_
  refine m_Prepend (by assumption) ?_
  refine cw1 ?_
  refine sp_cons ?_
  refine p_glob (by assumption) (gl_Uint32Flags _) ?_ rfl rfl
  refine sp_cons ?_
  refine r_loc (by assumption) (by exact rfl) ?_
  refine sp_nil ?_
  refine ⟨Kp.of_K (by assumption) (kp_464 _), ?_⟩
  show N _ _ (call _ [_, _, _] _) _ _
  refine ct_Prepend fl_Uint32Flags (.inr (.inr (.inl rfl))) (by assumption) R.deep B hs h0 h1 fun ba hd ma' buf' s₂ S₂ B₂ => ?_
  refine ⟨(by intro _ h; cases h), ?_⟩
  show N _ _ _ _ _
  refine n_nil ?_
  refine Back.mk (by assumption) (fun S' => ?_)
  exact h _ _ _ _ _ S' B₂
theorem ct_RelU {n : Nat} {t : Tok} (S : St y.cx L m ((b, r.obj) :: (r.ba, baObj buf) :: l) k s) (R : Rm A 3) (B : Bd r buf out room ma) (hs : out.length ≤ 3000000) (hn : n ≤ out.length)
    (h : ∀ ba hd ma' buf' s', St y.cx L m ((b, (r.at ba hd ma').obj) :: (ba, baObj buf') :: l) k s' → Bd (r.at ba hd ma') buf' (le 4 ((prepO 4 0 out).length - n + 4 : Nat) ++ prepO 4 0 out) (prepR 4 0 out room) (max ma 4) → Q .none s') :
    N y.cx A (call (.ref 369) [.ref b, .int n t]) Q s := by
  have hW : Width 4 := .inr (.inr (.inl rfl))
  refine p_call (binds := [("self", .ref b), ("off", .int n t)]) S (by rfl) (by rfl) (Rm.depth R) (BindsTo.of_eq rfl) (locs rfl) (fun Lx oLx s₁ S₁ => ?_) (by decide) rfl rfl rfl
  refine n_cons ?_
  refine n_expr ?_
  refine e_meth ?_
  refine r_loc (by assumption) (by exact rfl) ?_
  refine m_Prep (by assumption) ?_
  refine cw1 ?_
  refine sp_cons ?_
  refine e_attr ?_
  refine p_glob (by assumption) (gl_UOffsetTFlags _) ?_ rfl rfl
  (refine a_163_bytewidth (by assumption) ?_; intro _ _)
  refine sp_cons ?_
  (refine r_cint (by assumption) ?_; intro _ _ _)
  refine sp_nil ?_
  refine ⟨Kp.of_K (by assumption) (kp_355 _), ?_⟩
  show N _ _ (call _ [_, _, _] _) _ _
  refine cp_Prep (w := 4) (a := 0) (by assumption) R.deep B hW (by omega) fun ba hd ma' buf' s₂ S₂ B₂ => ?_
  obtain ⟨b1, b2, b3, b4, b5⟩ := id B₂.ok
  have hg := prepR_ge (w := 4) (a := 0) (out := out) (room := room)
  have hl := prepO_len (a := 0) (out := out) hW
  refine ⟨(by intro _ h; cases h), ?_⟩
  show N _ _ _ _ _
  refine n_cons ?_
  refine n_if ?_
  refine t_not ?_
  refine t_cmp ?_
  refine r_loc (by assumption) (by exact rfl) ?_
  refine e_meth ?_
  refine r_loc (by assumption) (by exact rfl) ?_
  refine m_Offset (by assumption) ?_
  refine cw0 ?_ ?_
  exact Kp.of_K (by assumption) (kp_341 _)
  show N _ _ (call _ [_] _) _ _
  refine ct_Offset (by assumption) (R.deep.le (by omega)) (by omega) ?_
  intro _
  intro _
  intro _
  refine c_le ?_
  refine tr_bool ?_
  refine g_no (by rw [b4]; simp; omega) ?_
  refine n_nil ?_
  show N _ _ _ _ _
  refine n_cons ?_
  refine n_assign ?_
  refine e_bin ?_
  refine e_bin ?_
  refine e_meth ?_
  refine r_loc (by assumption) (by exact rfl) ?_
  refine m_Offset (by assumption) ?_
  refine cw0 ?_ ?_
  exact Kp.of_K (by assumption) (kp_341 _)
  show N _ _ (call _ [_] _) _ _
  refine ct_Offset (by assumption) (R.deep.le (by omega)) (by omega) ?_
  intro _
  intro _
  intro _
  refine r_loc (by assumption) (by exact rfl) ?_
  (refine i_sub (by assumption) ?_; intro _ _ _)
  refine e_attr ?_
  refine p_glob (by assumption) (gl_UOffsetTFlags _) ?_ rfl rfl
  (refine a_163_bytewidth (by assumption) ?_; intro _ _)
  (refine i_add (by assumption) ?_; intro _ _ _)
  (refine r_st (by assumption) ?_; intro _ _)
  show N _ _ _ _ _
  refine n_cons ?_
  refine n_expr ?_
  refine e_meth ?_
  refine r_loc (by assumption) (by exact rfl) ?_
  refine m_PlaceUOffsetT (by assumption) ?_
  refine cw1 ?_
  refine sp_cons ?_
  refine r_loc (by assumption) (by exact rfl) ?_
  refine sp_nil ?_
  refine ⟨Kp.of_K (by assumption) (kp_667 _), ?_⟩
  show N _ _ (call _ [_, _] _) _ _
  have e : (buf'.length : Int) - (r.at ba hd ma').head.1 - n + 4 = (((prepO 4 0 out).length - n + 4 : Nat) : Int) := by omega
  rw [e]
  refine ct_PlaceU (by assumption) (R.deep.le (by omega)) B₂.ok (by omega) (by omega) (by omega) fun hd' buf2 s₃ S₃ B₃ => ?_
  refine ⟨(by intro _ h; cases h), ?_⟩
  show N _ _ _ _ _
  refine n_nil ?_
  refine Back.mk (by assumption) (fun S' => ?_)
  exact h _ _ _ _ _ S' ⟨B₃, B₂.ma, B₂.rm⟩
theorem ct_RelS0 {t : Tok} (S : St y.cx L m ((b, r.obj) :: (r.ba, baObj buf) :: l) k s) (R : Rm A 3) (B : Bd r buf out room ma) (hs : out.length ≤ 3000000)
    (h : ∀ ba hd ma' buf' s', St y.cx L m ((b, (r.at ba hd ma').obj) :: (ba, baObj buf') :: l) k s' → Bd (r.at ba hd ma') buf' (le 4 ((prepO 4 0 out).length + 4 : Nat) ++ prepO 4 0 out) (prepR 4 0 out room) (max ma 4) → Q .none s') :
    N y.cx A (call (.ref 362) [.ref b, .int 0 t]) Q s := by
  have hW : Width 4 := .inr (.inr (.inl rfl))
  refine p_call (binds := [("self", .ref b), ("off", .int 0 t)]) S (by rfl) (by rfl) (Rm.depth R) (BindsTo.of_eq rfl) (locs rfl) (fun Lx oLx s₁ S₁ => ?_) (by decide) rfl rfl rfl
  refine n_cons ?_
  refine n_expr ?_
  refine e_meth ?_
  refine r_loc (by assumption) (by exact rfl) ?_
  refine m_Prep (by assumption) ?_
  refine cw1 ?_
  refine sp_cons ?_
  refine e_attr ?_
  refine p_glob (by assumption) (gl_SOffsetTFlags _) ?_ rfl rfl
  (refine a_151_bytewidth (by assumption) ?_; intro _ _)
  refine sp_cons ?_
  (refine r_cint (by assumption) ?_; intro _ _ _)
  refine sp_nil ?_
  refine ⟨Kp.of_K (by assumption) (kp_355 _), ?_⟩
  show N _ _ (call _ [_, _, _] _) _ _
  refine cp_Prep (w := 4) (a := 0) (by assumption) R.deep B hW (by omega) fun ba hd ma' buf' s₂ S₂ B₂ => ?_
  obtain ⟨b1, b2, b3, b4, b5⟩ := id B₂.ok
  have hg := prepR_ge (w := 4) (a := 0) (out := out) (room := room)
  have hl := prepO_len (a := 0) (out := out) hW
  refine ⟨(by intro _ h; cases h), ?_⟩
  show N _ _ _ _ _
  refine n_cons ?_
  refine n_if ?_
  refine t_not ?_
  refine t_cmp ?_
  refine r_loc (by assumption) (by exact rfl) ?_
  refine e_meth ?_
  refine r_loc (by assumption) (by exact rfl) ?_
  refine m_Offset (by assumption) ?_
  refine cw0 ?_ ?_
  exact Kp.of_K (by assumption) (kp_341 _)
  show N _ _ (call _ [_] _) _ _
  refine ct_Offset (by assumption) (R.deep.le (by omega)) (by omega) ?_
  intro _
  intro _
  intro _
  refine c_le ?_
  refine tr_bool ?_
  refine g_no (by rw [b4]; simp; omega) ?_
  refine n_nil ?_
  show N _ _ _ _ _
  refine n_cons ?_
  refine n_assign ?_
  refine e_bin ?_
  refine e_bin ?_
  refine e_meth ?_
  refine r_loc (by assumption) (by exact rfl) ?_
  refine m_Offset (by assumption) ?_
  refine cw0 ?_ ?_
  exact Kp.of_K (by assumption) (kp_341 _)
  show N _ _ (call _ [_] _) _ _
  refine ct_Offset (by assumption) (R.deep.le (by omega)) (by omega) ?_
  intro _
  intro _
  intro _
  refine r_loc (by assumption) (by exact rfl) ?_
  (refine i_sub (by assumption) ?_; intro _ _ _)
  refine e_attr ?_
  refine p_glob (by assumption) (gl_SOffsetTFlags _) ?_ rfl rfl
  (refine a_151_bytewidth (by assumption) ?_; intro _ _)
  (refine i_add (by assumption) ?_; intro _ _ _)
  (refine r_st (by assumption) ?_; intro _ _)
  show N _ _ _ _ _
  refine n_cons ?_
  refine n_expr ?_
  refine e_meth ?_
  refine r_loc (by assumption) (by exact rfl) ?_
  refine m_PlaceSOffsetT (by assumption) ?_
  refine cw1 ?_
  refine sp_cons ?_
  refine r_loc (by assumption) (by exact rfl) ?_
  refine sp_nil ?_
  refine ⟨Kp.of_K (by assumption) (kp_660 _), ?_⟩
  show N _ _ (call _ [_, _] _) _ _
  have e : (buf'.length : Int) - (r.at ba hd ma').head.1 - 0 + 4 = (((prepO 4 0 out).length + 4 : Nat) : Int) := by omega
  rw [e]
  refine ct_PlaceS (by assumption) (R.deep.le (by omega)) B₂.ok (by omega) (by omega) (by omega) fun hd' buf2 s₃ S₃ B₃ => ?_
  refine ⟨(by intro _ h; cases h), ?_⟩
  show N _ _ _ _ _
  refine n_nil ?_
  refine Back.mk (by assumption) (fun S' => ?_)
  exact h _ _ _ _ _ S' ⟨B₃, B₂.ma, B₂.rm⟩
/-- numbers in a row: how many, kept till EndVector -/
theorem ct_StartVector {e n : Nat} {te tn ta : Tok} (S : St y.cx L m ((b, r.obj) :: (r.ba, baObj buf) :: l) k s) (R : Rm A 3) (B : Bd r buf out room ma) (hs : out.length ≤ 3000000) (hw : Width w) (he : e ≤ 8) (hn : n ≤ 1000) (hnn : r.nested = false)
    (h : ∀ ba hd ma' buf' t s', St y.cx L m ((b, ({ r with nested := true, vne := some (some ((n : Int), tn)) }.at ba hd ma').obj) :: (ba, baObj buf') :: l) k s' →
      Bd ({ r with nested := true, vne := some (some ((n : Int), tn)) }.at ba hd ma') buf' (prepO w (e * n) (prepO 4 (e * n) out)) (prepR w (e * n) (prepO 4 (e * n) out) (prepR 4 (e * n) out room)) (max (max ma 4) w) → Q (.int (prepO w (e * n) (prepO 4 (e * n) out)).length t) s') :
    N y.cx A (call (.ref 376) [.ref b, .int e te, .int n tn, .int w ta]) Q s := by
  have hW : Width 4 := .inr (.inr (.inl rfl))
  have hen : e * n ≤ 8 * 1000 := Nat.mul_le_mul he hn
  refine p_call (binds := [("self", .ref b), ("elemSize", .int e te), ("numElems", .int n tn), ("alignment", .int w ta)]) S (by rfl) (by rfl) (Rm.depth R) (BindsTo.of_eq rfl) (locs rfl) (fun Lx oLx s₁ S₁ => ?_) (by decide) rfl rfl rfl
  refine n_cons ?_
  refine n_expr ?_
  refine e_meth ?_
  refine r_loc (by assumption) (by exact rfl) ?_
  refine m_assertNotNested (by assumption) ?_
  refine cw0 ?_ ?_
  exact Kp.of_K (by assumption) (kp_419 _)
  show N _ _ (call _ [_] _) _ _
  refine ct_assertNotNested (by assumption) (R.deep.le (by omega)) hnn ?_
  intro _
  intro _
  refine ⟨(by intro _ h; cases h), ?_⟩
  show N _ _ _ _ _
  refine n_cons ?_
  refine n_setattr ?_
  refine r_cbool ?_
  refine r_loc (by assumption) (by exact rfl) ?_
  (refine s_nested (by assumption) ?_; intro _ _)
  show N _ _ _ _ _
  refine n_cons ?_
  refine n_setattr ?_
  refine r_loc (by assumption) (by exact rfl) ?_
  refine r_loc (by assumption) (by exact rfl) ?_
  (refine s_vectorNumElems (by assumption) ?_; intro _ _)
  show N _ _ _ _ _
  refine n_cons ?_
  refine n_expr ?_
  refine e_meth ?_
  refine r_loc (by assumption) (by exact rfl) ?_
  refine m_Prep (by assumption) ?_
  refine cw1 ?_
  refine sp_cons ?_
  refine e_attr ?_
  refine p_glob (by assumption) (gl_Uint32Flags _) ?_ rfl rfl
  (refine a_95_bytewidth (by assumption) ?_; intro _ _)
  refine sp_cons ?_
  refine e_bin ?_
  refine r_loc (by assumption) (by exact rfl) ?_
  refine r_loc (by assumption) (by exact rfl) ?_
  refine i_mul (by assumption) (mulOk (by omega)) ?_
  intro _
  intro _
  intro _
  refine sp_nil ?_
  refine ⟨Kp.of_K (by assumption) (kp_355 _), ?_⟩
  show N _ _ (call _ [_, _, _] _) _ _
  rw [show (e : Int) * (n : Int) = ((e * n : Nat) : Int) by simp]
  refine cp_Prep (w := 4) (r := { r with nested := true, vne := some (some ((n : Int), tn)) }) (by assumption) R.deep ⟨B.ok, B.ma, B.rm⟩ hW (by omega) fun ba hd ma' buf' s₂ S₂ B₂ => ?_
  have hl := prepO_len (a := e * n) (out := out) hW
  refine ⟨(by intro _ h; cases h), ?_⟩
  show N _ _ _ _ _
  refine n_cons ?_
  refine n_expr ?_
  refine e_meth ?_
  refine r_loc (by assumption) (by exact rfl) ?_
  refine m_Prep (by assumption) ?_
  refine cw1 ?_
  refine sp_cons ?_
  refine r_loc (by assumption) (by exact rfl) ?_
  refine sp_cons ?_
  refine e_bin ?_
  refine r_loc (by assumption) (by exact rfl) ?_
  refine r_loc (by assumption) (by exact rfl) ?_
  refine i_mul (by assumption) (mulOk (by omega)) ?_
  intro _
  intro _
  intro _
  refine sp_nil ?_
  refine ⟨Kp.of_K (by assumption) (kp_355 _), ?_⟩
  show N _ _ (call _ [_, _, _] _) _ _
  rw [show (e : Int) * (n : Int) = ((e * n : Nat) : Int) by simp]
  refine cp_Prep (by assumption) R.deep B₂ hw (by omega) fun ba hd ma' buf' s₂ S₂ B₂ => ?_
  refine ⟨(by intro _ h; cases h), ?_⟩
  show N _ _ _ _ _
  refine n_cons ?_
  refine n_ret ?_
  refine e_meth ?_
  refine r_loc (by assumption) (by exact rfl) ?_
  refine m_Offset (by assumption) ?_
  refine cw0 ?_ ?_
  exact Kp.of_K (by assumption) (kp_341 _)
  show N _ _ (call _ [_] _) _ _
  refine cp_Offset (by assumption) (R.deep.le (by omega)) B₂.ok ?_
  intro _
  intro _
  intro _
  refine Back.mk (by assumption) (fun S' => ?_)
  exact h _ _ _ _ _ _ S' B₂
theorem ct_EndVector {n : Nat} {tn : Tok} (S : St y.cx L m ((b, r.obj) :: (r.ba, baObj buf) :: l) k s) (R : Rm A 3) (B : Bd r buf out room ma) (hs : out.length + 4 ≤ room) (hn : n ≤ 4000000) (hv : r.vne = some (some ((n : Int), tn))) (hnn : r.nested = true)
    (h : ∀ hd buf' t s', St y.cx L m ((b, { r with nested := false, vne := some none, head := hd }.obj) :: (r.ba, baObj buf') :: l) k s' →
      Bd { r with nested := false, vne := some none, head := hd } buf' (le 4 n ++ out) room ma → Q (.int ((le 4 n ++ out).length : Nat) t) s') :
    N y.cx A (call (.ref 384) [.ref b]) Q s := by
  refine p_call (binds := [("self", .ref b), ("numElems", .none)]) S (by rfl) (by rfl) (Rm.depth R) (binds_K (K := (hd.heap_39 y.w.params)) S.X rfl rfl rfl rfl rfl) (locs rfl) (fun Lx oLx s₁ S₁ => ?_) (by decide) rfl rfl rfl
  refine n_cons ?_
  refine n_expr ?_
  refine e_meth ?_
  refine r_loc (by assumption) (by exact rfl) ?_
  refine m_assertNested (by assumption) ?_
  refine cw0 ?_ ?_
  exact Kp.of_K (by assumption) (kp_412 _)
  show N _ _ (call _ [_] _) _ _
  refine ct_assertNested (by assumption) (R.deep.le (by omega)) hnn ?_
  intro _
  intro _
  refine ⟨(by intro _ h; cases h), ?_⟩
  show N _ _ _ _ _
  refine n_cons ?_
  refine n_setattr ?_
  refine r_cbool ?_
  refine r_loc (by assumption) (by exact rfl) ?_
  (refine s_nested (by assumption) ?_; intro _ _)
  show N _ _ _ _ _
  refine n_cons ?_
  refine n_if ?_
  refine t_plain ?_
  refine r_loc (by assumption) (by exact rfl) ?_
  refine tr_none ?_
  refine   g_no     (by       first       | rfl       | assumption)     ?_
  refine n_nil ?_
  show N _ _ _ _ _
  refine n_cons ?_
  refine n_expr ?_
  refine e_meth ?_
  refine r_loc (by assumption) (by exact rfl) ?_
  refine m_PlaceUOffsetT (by assumption) ?_
  refine cw1 ?_
  refine sp_cons ?_
  refine e_attr ?_
  refine r_loc (by assumption) (by exact rfl) ?_
  walk_at "n_leaf"
  refine sp_nil ?_
  refine ⟨Kp.of_K (by assumption) (kp_667 _), ?_⟩
  show N _ _ (call _ [_, _] _) _ _
  obtain ⟨b1, b2, b3, b4, b5⟩ := id B.ok
  refine' ct_PlaceU (r := { r with nested := false }) (out := out) (buf := buf) (room := room) (n := n) (t := tn) ?S ?R ?B ?x ?y ?z ?h
  case S => assumption
  case R => exact (R.deep.le (by omega))
  case B => exact B.ok
  case x => omega
  case y => omega
  case z => omega
  intro hd buf' s₃ S₃ B₃
  refine ⟨(by intro _ h; cases h), ?_⟩
  show N _ _ _ _ _
  refine n_cons ?_
  refine n_setattr ?_
  refine r_cnone ?_
  refine r_loc (by assumption) (by exact rfl) ?_
  (refine s_vectorNumElems0 (by assumption) ?_; intro _ _)
  show N _ _ _ _ _
  refine n_cons ?_
  refine n_ret ?_
  refine e_meth ?_
  refine r_loc (by assumption) (by exact rfl) ?_
  refine m_Offset (by assumption) ?_
  refine cw0 ?_ ?_
  exact Kp.of_K (by assumption) (kp_341 _)
  show N _ _ (call _ [_] _) _ _
  refine cp_Offset (r := { r with nested := false, head := hd, vne := some none }) (by assumption) (R.deep.le (by omega)) B₃ ?_
  intro _
  intro _
  intro _
  refine Back.mk (by assumption) (fun S' => ?_)
  exact h _ _ _ _ S' ⟨B₃, B.ma, B.rm⟩
theorem ct_Slot {i : Nat} {ti : Tok} {ca : Addr} {vs : List Value} {o : Obj} (S : St y.cx L m ((b, r.obj) :: (r.ba, baObj buf) :: (ca, o) :: l) k s) (R : Rm A 2) (B : BufOk r.head.1 buf out room) (X : LsO o vs) (hc : r.cv = some ca) (hn : r.nested = true) (hi : i < vs.length) (hz : vs.length ≤ 1000)
    (h : ∀ t o' s', St y.cx L m ((b, r.obj) :: (r.ba, baObj buf) :: (ca, o') :: l) k s' → LsO o' (vs.set i (.int ((out.length : Nat) : Int) t)) → Q .none s') :
    N y.cx A (call (.ref 433) [.ref b, .int i ti]) Q s := by
  refine p_call (binds := [("self", .ref b), ("slotnum", .int i ti)]) S (by rfl) (by rfl) (Rm.depth R) (BindsTo.of_eq rfl) (locs rfl) (fun Lx oLx s₁ S₁ => ?_) (by decide) rfl rfl rfl
  refine n_cons ?_
  refine n_expr ?_
  refine e_meth ?_
  refine r_loc (by assumption) (by exact rfl) ?_
  refine m_assertNested (by assumption) ?_
  refine cw0 ?_ ?_
  exact Kp.of_K (by assumption) (kp_412 _)
  show N _ _ (call _ [_] _) _ _
  refine ct_assertNested (by assumption) (R.deep.le (by omega)) hn ?_
  intro _
  intro _
  refine ⟨(by intro _ h; cases h), ?_⟩
  show N _ _ _ _ _
  refine n_cons ?_
  refine n_setitem ?_
  refine e_meth ?_
  refine r_loc (by assumption) (by exact rfl) ?_
  refine m_Offset (by assumption) ?_
  refine cw0 ?_ ?_
  exact Kp.of_K (by assumption) (kp_341 _)
  show N _ _ (call _ [_] _) _ _
  refine cp_Offset (by assumption) (R.deep.le (by omega)) B ?_
  intro _
  intro _
  intro _
  refine e_attr ?_
  refine r_loc (by assumption) (by exact rfl) ?_
  (refine g_current_vtable (by assumption) ?_; intro _ _)
  refine r_loc (by assumption) (by exact rfl) ?_
  rename_i S₂
  rw [hc]
  refine n_list_set X (S₂.perm ((List.Perm.cons _ (.swap _ _ _)).trans (.swap _ _ _))) hi (by omega) fun o' s₃ X' S₃ => ?_
  have S₃ := S₃.perm ((List.Perm.swap _ _ _).trans (.cons _ (.swap _ _ _)))
  show N _ _ _ _ _
  refine n_nil ?_
  refine Back.mk (by assumption) (fun S' => ?_)
  exact h _ _ _ S' X'
theorem ct_Output (S : St y.cx L m ((b, r.obj) :: (r.ba, baObj buf) :: l) k s) (R : Rm A 1) (B : BufOk r.head.1 buf out room) (hf : r.fin = true)
    (h : ∀ e s', St y.cx L m ((e, baObj out) :: (b, r.obj) :: (r.ba, baObj buf) :: l) k s' → Q (.ref e) s') : N y.cx A (call (.ref 299) [.ref b]) Q s := by
  obtain ⟨b1, b2, b3, b4, b5⟩ := id B
  refine p_call (binds := [("self", .ref b)]) S (by rfl) (by rfl) (Rm.depth R) (BindsTo.of_eq rfl) (locs rfl) (fun Lx oLx s₁ S₁ => ?_) (by decide) rfl rfl rfl
  refine n_cons ?_
  refine n_if ?_
  refine t_not ?_
  refine t_plain ?_
  refine e_attr ?_
  refine r_loc (by assumption) (by exact rfl) ?_
  (refine g_finished (by assumption) ?_; intro _ _)
  refine tr_bool ?_
  refine g_no (by rw [hf]; rfl) ?_
  refine n_nil ?_
  show N _ _ _ _ _
  refine n_cons ?_
  refine n_ret ?_
  refine e_sub ?_
  refine e_attr ?_
  refine r_loc (by assumption) (by exact rfl) ?_
  (refine g_Bytes (by assumption) ?_; intro _ _)
  refine e_slice_lo ?_
  refine e_attr ?_
  refine r_loc (by assumption) (by exact rfl) ?_
  (refine g_head (by assumption) ?_; intro _ _)
  (refine r_slice (by assumption) ?_; intro _ _ _)
  walk_at "n_leafitem"
  rename_i S₂
  refine n_ba_cut S₂ (by walk_at "in_l") (.int _ _) .none (by omega) fun e s₃ S₃ => ?_
  have ec : cutOf buf (some r.head.1) none = out := by
    have := clipAt_nat buf.length (room - out.length)
    unfold cutOf
    simp only [Option.elim, b4, this, Nat.min_eq_left (show room - out.length ≤ buf.length by omega), b5]
    exact List.take_of_length_le (by omega)
  rw [ec] at S₃
  skip
  refine Back.mk (by assumption) (fun S' => ?_)
  exact h _ _ S'
end

end Mine

end
-- PC52
section
open PySem PySem.W PySem.Calls PyProof.Rows
set_option maxRecDepth 100000
set_option linter.unusedVariables false
set_option linter.deprecated false
namespace Mine
end Mine
end
local macro_rules | `(tactic| walk_at "n_leafcall") => `(tactic| ((with_reducible show N _ _ (call (.builtin "isinstance") [.bytes _ _, .ref _]) _ _); refine k_isi (by assumption) (by rfl) (by rfl) ?_; intro _ _))
section
open PySem PySem.W PySem.Calls PyProof.Rows
set_option maxRecDepth 100000
set_option linter.unusedVariables false
set_option linter.deprecated false
namespace Mine
section
variable {y : Cy} {A : Around} {s : Shared} {L b st F d : Addr} {m : Str → Option Value} {l k : List (Addr × Obj)} {r : Raw} {Q : Value → Shared → Prop} {w : Nat} {lo hi : Int} {buf out : List UInt8} {room ma : Nat}
/-- what CreateString lays: how long, the octets, a zero, the filling -/
def strO (x out : List UInt8) : List UInt8 := le 4 x.length ++ (x ++ (le 1 0 ++ prepO 4 (x.length + 1) out))
theorem ct_CreateString {x : List UInt8} {t : Tok} (S : St y.cx L m ((b, r.obj) :: (r.ba, baObj buf) :: l) k s) (R : Rm A 4) (B : Bd r buf out room ma) (hs : out.length ≤ 3000000) (hx : x.length ≤ 500000) (hnn : r.nested = false)
    (h : ∀ ba hd ma' buf' t s', St y.cx L m ((b, ({ r with vne := some none }.at ba hd ma').obj) :: (ba, baObj buf') :: l) k s' →
      Bd ({ r with vne := some none }.at ba hd ma') buf' (strO x out) (prepR 4 (x.length + 1) out room) (max ma 4) → Q (.int ((strO x out).length : Nat) t) s') :
    N y.cx A (call (.ref 398) [.ref b, .bytes x.toArray t]) Q s := by
  have hW : Width 4 := .inr (.inr (.inl rfl))
  refine p_call (binds := [("self", .ref b), ("s", .bytes x.toArray t)]) S (by rfl) (by rfl) (Rm.depth R) (BindsTo.of_eq rfl) (locs rfl) (fun Lx oLx s₁ S₁ => ?_) (by decide) rfl rfl rfl
  refine n_cons ?_
  refine n_expr ?_
  refine e_meth ?_
  refine r_loc (by assumption) (by exact rfl) ?_
  refine m_assertNotNested (by assumption) ?_
  refine cw0 ?_ ?_
  exact Kp.of_K (by assumption) (kp_419 _)
  show N _ _ (call _ [_] _) _ _
  refine ct_assertNotNested (by assumption) (R.deep.le (by omega)) hnn ?_
  intro _
  intro _
  refine ⟨(by intro _ h; cases h), ?_⟩
  show N _ _ _ _ _
  refine n_cons ?_
  refine n_setattr ?_
  refine r_cbool ?_
  refine r_loc (by assumption) (by exact rfl) ?_
  (refine s_nested (by assumption) ?_; intro _ _)
  show N _ _ _ _ _
  refine n_cons ?_
  refine n_if ?_
  refine t_plain ?_
  refine e_call ?_
  refine p_blt (by assumption) (gb_isinstance _) (by boot_by_name) (by decide) ?_ rfl rfl
  refine cw1 ?_
  refine sp_cons ?_
  refine r_loc (by assumption) (by exact rfl) ?_
  refine sp_cons ?_
  refine p_glob (by assumption) (gl_string_types _) ?_ rfl rfl
  refine sp_nil ?_
  refine ⟨Kp.builtin, ?_⟩
  show N _ _ (call _ [_, _] _) _ _
  walk_at "n_leafcall"
  refine tr_bool ?_
  refine   g_no     (by       first       | rfl       | assumption)     ?_
  refine n_cons ?_
  refine n_if ?_
  refine t_plain ?_
  refine e_call ?_
  refine p_blt (by assumption) (gb_isinstance _) (by boot_by_name) (by decide) ?_ rfl rfl
  refine cw1 ?_
  refine sp_cons ?_
  refine r_loc (by assumption) (by exact rfl) ?_
  refine sp_cons ?_
  refine p_glob (by assumption) (gl_binary_types _) ?_ rfl rfl
  refine sp_nil ?_
  refine ⟨Kp.builtin, ?_⟩
  show N _ _ (call _ [_, _] _) _ _
  walk_at "n_leafcall"
  refine tr_bool ?_
  refine   g_yes     (by       first       | rfl       | assumption)     ?_
  refine n_cons ?_
  refine n_assign ?_
  refine r_loc (by assumption) (by exact rfl) ?_
  (refine r_st (by assumption) ?_; intro _ _)
  show N _ _ _ _ _
  refine n_nil ?_
  show N _ _ _ _ _
  refine n_nil ?_
  show N _ _ _ _ _
  refine n_cons ?_
  refine n_assign ?_
  refine e_call ?_
  refine p_blt (by assumption) (gb_len _) (by boot_by_name) (by decide) ?_ rfl rfl
  refine cw1 ?_
  refine sp_cons ?_
  refine r_loc (by assumption) (by exact rfl) ?_
  refine sp_nil ?_
  refine ⟨Kp.builtin, ?_⟩
  show N _ _ (call _ [_] _) _ _
  refine k_leny (by assumption) (by omega) ?_
  intro _ _ _
  (refine r_st (by assumption) ?_; intro _ _)
  show N _ _ _ _ _
  refine n_cons ?_
  refine n_expr ?_
  refine e_meth ?_
  refine r_loc (by assumption) (by exact rfl) ?_
  refine m_Prep (by assumption) ?_
  refine cw1 ?_
  refine sp_cons ?_
  refine e_attr ?_
  refine p_glob (by assumption) (gl_UOffsetTFlags _) ?_ rfl rfl
  (refine a_163_bytewidth (by assumption) ?_; intro _ _)
  refine sp_cons ?_
  refine e_bin ?_
  refine e_bin ?_
  refine r_loc (by assumption) (by exact rfl) ?_
  (refine r_cint (by assumption) ?_; intro _ _ _)
  (refine i_add (by assumption) ?_; intro _ _ _)
  refine e_attr ?_
  refine p_glob (by assumption) (gl_Uint8Flags _) ?_ rfl rfl
  (refine a_67_bytewidth (by assumption) ?_; intro _ _)
  refine i_mul (by assumption) (mulOk (by decide)) ?_
  intro _
  intro _
  intro _
  refine sp_nil ?_
  refine ⟨Kp.of_K (by assumption) (kp_355 _), ?_⟩
  show N _ _ (call _ [_, _, _] _) _ _
  rw [show ((x.length : Nat) : Int) + 1 = ((x.length + 1 : Nat) : Int) by omega, Int.mul_one]
  refine cp_Prep (w := 4) (r := { r with nested := true }) (by assumption) (R.deep.le (by omega)) ⟨B.ok, B.ma, B.rm⟩ hW (by omega) fun ba hd ma' buf' s₂ S₂ B₂ => ?_
  have hg := prepR_ge (w := 4) (a := x.length + 1) (out := out) (room := room)
  refine ⟨(by intro _ h; cases h), ?_⟩
  show N _ _ _ _ _
  refine n_cons ?_
  refine n_expr ?_
  refine e_meth ?_
  refine r_loc (by assumption) (by exact rfl) ?_
  refine m_Place (by assumption) ?_
  refine cw1 ?_
  refine sp_cons ?_
  (refine r_cint (by assumption) ?_; intro _ _ _)
  refine sp_cons ?_
  refine p_glob (by assumption) (gl_Uint8Flags _) ?_ rfl rfl
  refine sp_nil ?_
  refine ⟨Kp.of_K (by assumption) (kp_646 _), ?_⟩
  show N _ _ (call _ [_, _, _] _) _ _
  refine ct_Place fl_Uint8Flags (r := { r with nested := true }.at ba hd ma') (out := prepO 4 (x.length + 1) out) (by assumption) (R.deep.le (by omega)) B₂.ok (by omega) (by decide) (by decide) fun hd2 buf2 s₃ S₃ B₃ => ?_
  have hl1 := le_length 1 0
  obtain ⟨b1, b2, b3, b4, b5⟩ := id B₃
  have hlo : (le 1 0 ++ prepO 4 (x.length + 1) out).length = 1 + (prepO 4 (x.length + 1) out).length := by rw [List.length_append, hl1]
  refine ⟨(by intro _ h; cases h), ?_⟩
  show N _ _ _ _ _
  refine n_cons ?_
  refine n_assign ?_
  refine e_bin ?_
  refine e_attr ?_
  refine r_loc (by assumption) (by exact rfl) ?_
  (refine g_head (by assumption) ?_; intro _ _)
  refine r_loc (by assumption) (by exact rfl) ?_
  (refine i_sub (by assumption) ?_; intro _ _ _)
  (refine r_st (by assumption) ?_; intro _ _)
  show N _ _ _ _ _
  refine n_cons ?_
  refine n_setattr ?_
  refine r_loc (by assumption) (by exact rfl) ?_
  refine r_loc (by assumption) (by exact rfl) ?_
  (refine s_head (by assumption) ?_; intro _ _)
  show N _ _ _ _ _
  refine n_cons ?_
  refine n_setitem ?_
  refine r_loc (by assumption) (by exact rfl) ?_
  refine e_attr ?_
  refine r_loc (by assumption) (by exact rfl) ?_
  (refine g_Bytes (by assumption) ?_; intro _ _)
  refine e_slice_lu ?_
  refine r_loc (by assumption) (by exact rfl) ?_
  refine e_bin ?_
  refine r_loc (by assumption) (by exact rfl) ?_
  refine r_loc (by assumption) (by exact rfl) ?_
  (refine i_add (by assumption) ?_; intro _ _ _)
  (refine r_slice (by assumption) ?_; intro _ _ _)
  refine put_b R.g (by assumption) (by dsimp only; omega) (by dsimp only) (by dsimp only; omega) (by omega) fun s₄ S₄ => ?_
  have B₄ := B₃.push (x := x) (hd' := hd2.1 - x.length) (by omega) rfl
  have hlx : (x ++ (le 1 0 ++ prepO 4 (x.length + 1) out)).length = x.length + (1 + (prepO 4 (x.length + 1) out).length) := by rw [List.length_append, hlo]
  show N _ _ _ _ _
  refine n_cons ?_
  refine n_setattr ?_
  refine r_loc (by assumption) (by exact rfl) ?_
  refine r_loc (by assumption) (by exact rfl) ?_
  (refine s_vectorNumElems (by assumption) ?_; intro _ _)
  show N _ _ _ _ _
  refine n_cons ?_
  refine n_ret ?_
  refine e_meth ?_
  refine r_loc (by assumption) (by exact rfl) ?_
  refine m_EndVector (by assumption) ?_
  refine cw0 ?_ ?_
  exact Kp.of_K (by assumption) (kp_384 _)
  show N _ _ (call _ [_] _) _ _
  rename_i S₅
  refine ct_EndVector (n := x.length) (tn := _) (r := _) S₅ (R.deep.le (by omega)) ⟨B₄, B₂.ma, B₂.rm⟩ (by omega) (by omega) rfl rfl fun hd3 buf3 t3 s₅ S₆ B₅ => ?_
  skip
  refine Back.mk (by assumption) (fun S' => ?_)
  exact h _ _ _ _ _ _ (hnn ▸ S') (hnn ▸ B₅)
end

end Mine

end
-- PC62
section
open PySem PySem.W PySem.Calls PyProof.Rows
set_option maxRecDepth 100000
set_option linter.unusedVariables false
set_option linter.deprecated false
namespace Mine
section
variable {y : Cy} {A : Around} {s : Shared} {L b st F d : Addr} {m : Str → Option Value} {l k : List (Addr × Obj)} {r : Raw} {Q : Value → Shared → Prop} {w : Nat} {lo hi : Int} {buf out : List UInt8} {room ma : Nat}
theorem ct_StartObject {n : Nat} {tn : Tok} (S : St y.cx L m ((b, r.obj) :: (r.ba, baObj buf) :: l) k s) (R : Rm A 2) (B : BufOk r.head.1 buf out room) (hn : n ≤ 200) (hnn : r.nested = false)
    (h : ∀ ca o vs t s', LsO o vs → IntsAre vs (List.replicate n 0) → St y.cx L m ((b, { r with cv := some ca, oe := some ((out.length : Nat), t), nested := true }.obj) :: (r.ba, baObj buf) :: (ca, o) :: l) k s' → Q .none s') :
    N y.cx A (call (.ref 306) [.ref b, .int n tn]) Q s := by
  refine p_call (binds := [("self", .ref b), ("numfields", .int n tn)]) S (by rfl) (by rfl) (Rm.depth R) (BindsTo.of_eq rfl) (locs rfl) (fun Lx oLx s₁ S₁ => ?_) (by decide) rfl rfl rfl
  refine n_cons ?_
  refine n_expr ?_
  refine e_meth ?_
  refine r_loc (by assumption) (by exact rfl) ?_
  refine m_assertNotNested (by assumption) ?_
  refine cw0 ?_ ?_
  exact Kp.of_K (by assumption) (kp_419 _)
  show N _ _ (call _ [_] _) _ _
  refine ct_assertNotNested (by assumption) (R.deep.le (by omega)) hnn ?_
  intro _
  intro _
  refine ⟨(by intro _ h; cases h), ?_⟩
  show N _ _ _ _ _
  refine n_cons ?_
  refine n_setattr ?_
  refine e_bin ?_
  refine e_list ?_
  refine sp_cons ?_
  (refine r_cint (by assumption) ?_; intro _ _ _)
  refine sp_nil ?_
  rename_i t0 _ _
  refine k_newlist (by assumption) (by simp) fun d s₂ S₂ => ?_
  have S₂ := S₂.under
  show N _ _ _ _ _
  refine r_loc (by assumption) (by exact rfl) ?_
  refine k_listmul LsO.of (by assumption) (by walk_at "in_l") (by simp; omega) (by omega) fun e s₃ S₃ => ?_
  have S₃ := S₃.under
  show N _ _ _ _ _
  refine r_loc (by assumption) (by exact rfl) ?_
  (refine s_current_vtable (by assumption) ?_; intro _ _)
  show N _ _ _ _ _
  refine n_cons ?_
  refine n_setattr ?_
  refine e_meth ?_
  refine r_loc (by assumption) (by exact rfl) ?_
  refine m_Offset (by assumption) ?_
  refine cw0 ?_ ?_
  exact Kp.of_K (by assumption) (kp_341 _)
  show N _ _ (call _ [_] _) _ _
  refine cp_Offset (r := { r with cv := some e }) (by assumption) (R.deep.le (by omega)) B ?_
  intro _
  intro _
  intro _
  refine r_loc (by assumption) (by exact rfl) ?_
  (refine s_objectEnd (by assumption) ?_; intro _ _)
  show N _ _ _ _ _
  refine n_cons ?_
  refine n_setattr ?_
  refine r_cbool ?_
  refine r_loc (by assumption) (by exact rfl) ?_
  (refine s_nested (by assumption) ?_; intro _ _)
  show N _ _ _ _ _
  refine n_nil ?_
  refine Back.mk (by assumption) (fun S' => ?_)
  have S' := S'.sub (.cons_cons _ (.cons_cons _ (.cons_cons _ (.cons _ (.refl _)))))
  refine h _ _ (List.replicate n (.int 0 t0)) _ _ ?_ (ints_rep n) S'
  rw [List.flatten_replicate_singleton]
  exact LsO.of

end
end Mine
end
local macro_rules | `(tactic| walk_at "n_leafcall") => `(tactic| ((with_reducible show N _ _ (call (.type "int") [.int _ _]) _ _); refine k_int ?_))
section
open PySem PySem.W PySem.Calls PyProof.Rows
set_option maxRecDepth 100000
set_option linter.unusedVariables false
set_option linter.deprecated false
namespace Mine
end Mine
end
local macro_rules | `(tactic| walk_at "n_leaf") => `(tactic| ((with_reducible show N _ _ (getMethod _ (PySem.Str.ofString "append") _) _ _); refine k_append_meth (by assumption) (by walk_at "in_l6") ?_))
section
open PySem PySem.W PySem.Calls PyProof.Rows
set_option maxRecDepth 100000
set_option linter.unusedVariables false
set_option linter.deprecated false
namespace Mine

end Mine

end
-- PC72
section
open PySem PySem.W PySem.Calls PyProof.Rows
set_option maxRecDepth 100000
set_option linter.unusedVariables false
set_option linter.deprecated false
namespace Mine
/-- the bytes behind RelS0: the offset's room, ahead of it the filling and what stood -/
def soO (out : List UInt8) : List UInt8 := le 4 ((prepO 4 0 out).length + 4 : Nat) ++ prepO 4 0 out
/-- a new vtable ahead, and the way to it -/
def vtNew (oo oe : Nat) (ns : List Int) (p : List UInt8 × Nat) : List UInt8 × Nat :=
  let q := stepV (stepV (ns.foldl stepV p) ((oo : Int) - oe)) ((2 * (ns.length + 2) : Nat) : Int)
  (over q.1 (q.1.length - oo) (le 4 ((q.1.length : Int) - oo)), q.2)
section
variable {c : Cx} {A : Around} {s : Shared} {L d a e : Addr} {m : Str → Option Value} {l k : List (Addr × Obj)} {o : Obj}
/-- a new key, the keys standing in a part of the ledger -/
theorem k_vsetP {to : Obj} {ns : List Int} {v : Value} {l0 : List (Addr × Obj)} {xs : List (List Int × Addr × Value)} {Q : Unit → Shared → Prop} (V : VtO c l0 o d xs) (hsub : ∀ p ∈ l0, p ∈ l) (T : TupO to ns) (S : St c L m ((d, o) :: l) k s) (ht : (e, to) ∈ l0) (hu : A.units + 8 < cLine) (hz : xs.length ≤ 1000000) (hn : atKey xs ns = none)
    (h : ∀ o' s', VtO c l0 o' d (xs ++ [(ns, e, v)]) → St c L m ((d, o') :: l) k s' → Q () s') : N c A (setItem (.ref d) (.ref e) v) Q s := by
  have hD := (V.sub (l' := (d, o) :: l) fun p hp => .tail _ (hsub p hp)).dict S (.head _)
  obtain ⟨tc, items, n, td, ti⟩ := T
  refine N.of (wpAny_setItem_heap (knd := tupleKind (intKind c.prog c.w)) (by show A.units + 1 < _; omega) ⟨to, items, n, S.get (.tail _ (hsub _ ht)), tc, td, ti c⟩ hD (fun h' hd hs => ?_) (by rw [sizeLine_eq]; omega))
  obtain ⟨o', es, ep, ho', hex, hda, hes, hk, hnd⟩ := hd
  rw [storedH_new hn] at hes hk hnd
  refine h o' _ ⟨V.lo, hex, ⟨es, ep, hda, hes⟩, fun x hx => ?_, hnd⟩ (S.same (tk := _) hs ho' (noInst hex.1))
  rcases List.mem_append.mp hx with q | q
  · exact V.ks x q
  · rw [List.mem_singleton.mp q]
    exact ⟨to, items, n, ht, tc, td, ti c⟩
theorem St.up4 {p q z v w : Addr × Obj} (S : St c L m (p :: q :: z :: v :: w :: l) k s) : St c L m (w :: p :: q :: z :: v :: l) k s := S.perm ((List.perm_middle (l₁ := [p, q, z, v])))
theorem St.down4 {p q z v w : Addr × Obj} (S : St c L m (w :: p :: q :: z :: v :: l) k s) : St c L m (p :: q :: z :: v :: w :: l) k s := S.perm ((List.perm_middle (l₁ := [p, q, z, v])).symm)
end
section
variable {y : Cy} {A : Around} {s : Shared} {L b st F d : Addr} {m : Str → Option Value} {l k : List (Addr × Obj)} {r : Raw} {Q : Value → Shared → Prop} {w : Nat} {lo hi : Int} {buf out : List UInt8} {room ma : Nat}
set_option maxHeartbeats 4000000 in
theorem ct_WriteVtable {ca : Addr} {o : Obj} {vs : List Value} {cvs : List Int} {oe : Nat} {te : Tok} {od : Obj} {xs : List (List Int × Addr × Value)} {oo : Nat}
    (S : St y.cx L m ((b, r.obj) :: (r.ba, baObj buf) :: (ca, o) :: (r.vt, od) :: l) k s) (R : Rm A 6) {l0 : List (Addr × Obj)} (V : VtO y.cx l0 od r.vt xs) (hl0 : ∀ p ∈ l0, p ∈ l) (B : Bd r buf out room ma) (hs : out.length ≤ 1000000) (hc : r.cv = some ca) (ho : r.oe = some ((oe : Int), te)) (X : LsO o vs) (hi : IntsAre vs cvs) (hvl : cvs.length ≤ 200)
    (hoo : oo = (prepO 4 0 out).length + 4) (hoe : oe ≤ oo) (hos : oo - oe ≤ 60000) (hcv : ∀ e ∈ cvs, 0 ≤ e ∧ e ≤ oo ∧ (e ≠ 0 → (oo : Int) - e ≤ 60000))
    (hxs : xs.length ≤ 1000) (hxv : ∀ x ∈ xs, ∃ (d : Nat) (t : Tok), x.2.2 = .int d t ∧ d ≤ out.length)
    (hN : atKey xs (keyL cvs oo ++ [(oo : Int) - oe]) = none → ∀ ba hd ma' buf' tt to od' t t' s', St y.cx L m ((b, { r.at ba hd ma' with cv := none }.obj) :: (ba, baObj buf') :: (r.vt, od') :: (tt, to) :: l) k s' →
      VtO y.cx ((tt, to) :: l0) od' r.vt (xs ++ [(keyL cvs oo ++ [(oo : Int) - oe], tt, .int (vtNew oo oe (keyL cvs oo) (soO out, prepR 4 0 out room)).1.length t')]) →
      Bd { r.at ba hd ma' with cv := none } buf' (vtNew oo oe (keyL cvs oo) (soO out, prepR 4 0 out room)).1 (vtNew oo oe (keyL cvs oo) (soO out, prepR 4 0 out room)).2 (max ma 4) → Q (.int oo t) s')
    (hF : ∀ (a : Addr) (d : Nat) (td : Tok), atKey xs (keyL cvs oo ++ [(oo : Int) - oe]) = some (a, .int d td) → ∀ ba hd ma' buf' t s', St y.cx L m ((b, { r.at ba hd ma' with cv := none }.obj) :: (ba, baObj buf') :: (r.vt, od) :: l) k s' →
      Bd { r.at ba hd ma' with cv := none } buf' (over (soO out) 0 (le 4 ((d : Int) - oo))) (prepR 4 0 out room) (max ma 4) → Q (.int oo t) s') :
    N y.cx A (call (.ref 313) [.ref b]) Q s := by
  refine p_call (binds := [("self", .ref b)]) S (by rfl) (by rfl) (Rm.depth R) (BindsTo.of_eq rfl) (locs rfl) (fun Lx oLx s₁ S₁ => ?_) (by decide) rfl rfl rfl
  refine n_cons ?_
  refine n_expr ?_
  refine e_meth ?_
  refine r_loc (by assumption) (by exact rfl) ?_
  refine m_PrependSOffsetTRelative (by assumption) ?_
  refine cw1 ?_
  refine sp_cons ?_
  (refine r_cint (by assumption) ?_; intro _ _ _)
  refine sp_nil ?_
  refine ⟨Kp.of_K (by assumption) (kp_362 _), ?_⟩
  show N _ _ (call _ [_, _] _) _ _
  refine ct_RelS0 (by assumption) (R.deep.le (by omega)) B (by omega) fun ba hd ma' buf' s₂ S₂ B₂ => ?_
  have hlo : (le 4 ((prepO 4 0 out).length + 4 : Nat) ++ prepO 4 0 out).length = oo := by rw [List.length_append, le_length]; omega
  have hl40 := (prepO_len (w := 4) (a := 0) (out := out) (.inr (.inr (.inl rfl)))).2
  refine ⟨(by intro _ h; cases h), ?_⟩
  show N _ _ _ _ _
  refine n_cons ?_
  refine n_assign ?_
  refine e_meth ?_
  refine r_loc (by assumption) (by exact rfl) ?_
  refine m_Offset (by assumption) ?_
  refine cw0 ?_ ?_
  exact Kp.of_K (by assumption) (kp_341 _)
  show N _ _ (call _ [_] _) _ _
  refine cp_Offset (r := r.at ba hd ma') (by assumption) (R.deep.le (by omega)) B₂.ok ?_
  rw [hlo]
  intro _
  intro _
  intro _
  (refine r_st (by assumption) ?_; intro _ _)
  show N _ _ _ _ _
  refine n_cons ?_
  refine n_assign ?_
  refine e_list ?_
  refine sp_nil ?_
  rename_i too _ _ _ _
  refine k_newlist (by assumption) (by decide) fun kd s₃ S₃ => ?_
  have S₃ := S₃.under
  show N _ _ _ _ _
  (refine r_st (by assumption) ?_; intro _ _)
  show N _ _ _ _ _
  refine n_cons ?_
  refine n_assign ?_
  refine r_cbool ?_
  (refine r_st (by assumption) ?_; intro _ _)
  show N _ _ _ _ _
  refine n_cons ?_
  refine n_for ?_
  refine e_call ?_
  refine p_blt (by assumption) (gb_reversed _) (by boot_by_name) (by decide) ?_ rfl rfl
  refine cw1 ?_
  refine sp_cons ?_
  refine e_attr ?_
  refine r_loc (by assumption) (by exact rfl) ?_
  (refine g_current_vtable (by assumption) ?_; intro _ _)
  refine sp_nil ?_
  refine ⟨Kp.type, ?_⟩
  show N _ _ (call _ [_] _) _ _
  rw [hc]
  refine k_reversed X (by assumption) (by walk_at "in_l") fun it s₄ S₄ => ?_
  have S₄ := S₄.under
  show N _ _ _ _ _
  refine k_iter_rev (d := ca) ⟨rfl, rfl⟩ (by assumption) (by walk_at "in_l") ?_
  have hvc : vs.length = cvs.length := hi.length
  refine NC.for_ind (fun n s' => ∃ (io : Obj) (m' : Str → Option Value) (ks : List Value) (ns : List Int) (nk : Nat) (tr : Bool) (tq : Tok), RevO io ca ((n : Int) - 1) ∧ n ≤ cvs.length ∧
    St y.cx Lx m' ((b, (r.at ba hd ma').obj) :: (ba, baObj buf') :: (it, io) :: (kd, W.listOf ks.toArray nk) :: (ca, o) :: (r.vt, od) :: l) ((L, oLx) :: k) s' ∧
    m' "self" = some (.ref b) ∧ m' "objectOffset" = some (.int ((oo : Nat) : Int) tq) ∧ m' "vtKey" = some (.ref kd) ∧ m' "trim" = some (.bool tr) ∧ IntsAre ks ns ∧ (tr, ns) = (cvs.reverse.take (cvs.length - n)).foldl (stepK oo) (true, []) ∧ ks.length ≤ cvs.length - n) ?_ cvs.length _
    ⟨revObj ca ((vs.length : Int) - 1), _, [], [], _, _, _, ⟨rfl, by rw [← hvc]; rfl⟩, Nat.le_refl _, by assumption, by exact rfl, by exact rfl, by exact rfl, by exact rfl, .nil, by rw [Nat.sub_self]; rfl, by simp⟩
  rintro n s₅ ⟨io, m', ks, ns, nk, tr, tq, Y, hn, S₅, e1, e2, e3, e4, hks, hst, hkl⟩
  cases n with
  | zero =>
    have S₅' := S₅.over
    refine k_next_rev_end Y S₅' R.h fun s₆ S₆ => ?_
    have hkey : keyL cvs oo = ns := by
      unfold keyL
      rw [Nat.sub_zero, List.take_of_length_le (by simp)] at hst
      rw [← hst]
    show N _ _ _ _ _
    refine n_cons ?_
    refine n_assign ?_
    refine e_meth ?_
    refine p_glob (by assumption) (gl_UOffsetTFlags _) ?_ rfl rfl
    (refine y_163 (by assumption) ?_; intro _ _)
    refine cw1 ?_
    refine sp_cons ?_
    refine e_bin ?_
    refine r_loc (by assumption) (by exact e2) ?_
    refine e_attr ?_
    refine r_loc (by assumption) (by exact e1) ?_
    (refine g_objectEnd (by assumption) ?_; intro _ _)
    dsimp only
    rw [ho]
    dsimp only [intO]
    (refine i_sub (by assumption) ?_; intro _ _ _)
    refine sp_nil ?_
    refine ⟨Kp.type, ?_⟩
    show N _ _ (call _ [_] _) _ _
    walk_at "n_leafcall"
    (refine r_st (by assumption) ?_; intro _ _)
    refine n_cons ?_
    refine n_expr ?_
    refine e_meth ?_
    refine r_loc (by assumption) (by exact e3) ?_
    walk_at "n_leaf"
    refine cw1 ?_
    refine sp_cons ?_
    refine r_loc (by assumption) (by exact rfl) ?_
    refine sp_nil ?_
    refine ⟨Kp.builtin, ?_⟩
    show N _ _ (call _ [_, _] _) _ _
    rename_i S₇
    refine k_append (S₇.over) (by omega) fun s₈ S₈ => ?_
    have S₈ := S₈.under
    refine ⟨(by intro _ h; cases h), ?_⟩
    show N _ _ _ _ _
    refine n_cons ?_
    refine n_assign ?_
    refine e_call ?_
    refine p_blt (by assumption) (gb_tuple _) (by boot_by_name) (by decide) ?_ rfl rfl
    refine cw1 ?_
    refine sp_cons ?_
    refine r_loc (by assumption) (by exact e3) ?_
    refine sp_nil ?_
    refine ⟨Kp.type, ?_⟩
    show N _ _ (call _ [_] _) _ _
    refine k_tuple LsO.of (by assumption) (by walk_at "in_l") (by simp; omega) fun tt s₉ S₉ => ?_
    have S₉ := S₉.under
    show N _ _ _ _ _
    (refine r_st (by assumption) ?_; intro _ _)
    show N _ _ _ _ _
    refine n_cons ?_
    refine n_assign ?_
    refine e_meth ?_
    refine e_attr ?_
    refine r_loc (by assumption) (by exact e1) ?_
    (refine g_vtables (by assumption) ?_; intro _ _)
    refine k_dict_meth (by assumption) (by walk_at "in_l6") V.ex ?_
    refine cw1 ?_
    refine sp_cons ?_
    refine r_loc (by assumption) (by exact rfl) ?_
    refine sp_nil ?_
    refine ⟨Kp.builtin, ?_⟩
    show N _ _ (call _ [_, _] _) _ _
    rename_i tz _ _ _ _ _ _ _ _ _
    have hT := tupO_of (hks.append (IntsAre.cons ((oo : Int) - oe) tz .nil))
    rename_i S₁₀
    have S₁₀ := S₁₀.sub (.cons_cons _ (.cons_cons _ (.cons_cons _ (.cons _ (.refl _)))))
    refine k_vget (d := r.vt) (o := od) (V.sub (l' := _) (fun p hp => .tail _ (.tail _ (.tail _ (.tail _ (.tail _ (hl0 p hp))))))) hT S₁₀ (by walk_at "in_l6") (by walk_at "in_l6") (by have := R.u; show A.units + 3 + 8 < _; omega) fun s₁₁ S₁₁ => ?_
    rcases hat : atKey xs (ns ++ [(oo : Int) - oe]) with _ | pp
    · dsimp only [Option.map_none, Option.getD_none]
      (refine r_st (by assumption) ?_; intro _ _)
      refine n_cons ?_
      refine n_if ?_
      refine t_cmp ?_
      refine r_loc (by assumption) (by exact rfl) ?_
      refine r_cnone ?_
      refine c_is (by rfl) ?_
      refine tr_bool ?_
      refine   g_yes     (by       first       | rfl       | assumption)     ?_
      refine n_cons ?_
      refine n_assign ?_
      refine e_bin ?_
      refine e_call ?_
      refine p_blt (by assumption) (gb_len _) (by boot_by_name) (by decide) ?_ rfl rfl
      refine cw1 ?_
      refine sp_cons ?_
      refine e_attr ?_
      refine r_loc (by assumption) (by exact e1) ?_
      (refine g_current_vtable (by assumption) ?_; intro _ _)
      refine sp_nil ?_
      refine ⟨Kp.builtin, ?_⟩
      show N _ _ (call _ [_] _) _ _
      rw [hc]
      refine k_lenlist X (by assumption) (by walk_at "in_l6") (by omega) ?_
      intro _
      intro _
      intro _
      (refine r_cint (by assumption) ?_; intro _ _ _)
      (refine i_sub (by assumption) ?_; intro _ _ _)
      (refine r_st (by assumption) ?_; intro _ _)
      show N _ _ _ _ _
      refine n_cons ?_
      refine n_assign ?_
      (refine r_cint (by assumption) ?_; intro _ _ _)
      (refine r_st (by assumption) ?_; intro _ _)
      show N _ _ _ _ _
      refine n_cons ?_
      refine n_assign ?_
      refine r_cbool ?_
      (refine r_st (by assumption) ?_; intro _ _)
      show N _ _ _ _ _
      refine n_cons ?_
      refine n_while ?_
      refine NC.whl_ind (fun n s' => ∃ (m' : Str → Option Value) (ns' : List Int) (tr : Bool) (ba₁ : Addr) (hd₁ ma₁ : Int × Tok) (buf₁ : List UInt8) (iv tv : Int) (t1 t2 t3 t4 : Tok), n ≤ cvs.length ∧
        St y.cx Lx m' ((b, (r.at ba₁ hd₁ ma₁).obj) :: (ba₁, baObj buf₁) :: (tt, { cls := .type "tuple", data := .seq (ks ++ [Value.int ((oo : Int) - oe) tz]).toArray }) :: (ca, o) :: (r.vt, od) :: l) ((L, oLx) :: k) s' ∧
        Bd (r.at ba₁ hd₁ ma₁) buf₁ (ns'.foldl stepV (le 4 ((prepO 4 0 out).length + 4 : Nat) ++ prepO 4 0 out, prepR 4 0 out room)).1 (ns'.foldl stepV (le 4 ((prepO 4 0 out).length + 4 : Nat) ++ prepO 4 0 out, prepR 4 0 out room)).2 (max ma 4) ∧
        m' "self" = some (.ref b) ∧ m' "objectOffset" = some (.int ((oo : Nat) : Int) t1) ∧ m' "objectSize" = some (.int ((oo : Int) - oe) t2) ∧ m' "vtKey" = some (.ref tt) ∧ m' "i" = some (.int iv t3) ∧ m' "trailing" = some (.int tv t4) ∧ m' "trim" = some (.bool tr) ∧
        iv = (n : Int) - 1 ∧ tv = (cvs.length : Int) - n - ns'.length ∧ (tr, ns') = (cvs.reverse.take (cvs.length - n)).foldl (stepK oo) (true, []) ∧ ns'.length ≤ cvs.length - n ∧
        (ns'.foldl stepV (le 4 ((prepO 4 0 out).length + 4 : Nat) ++ prepO 4 0 out, prepR 4 0 out room)).1.length ≤ oo + 3 * ns'.length ∧ oo ≤ (ns'.foldl stepV (le 4 ((prepO 4 0 out).length + 4 : Nat) ++ prepO 4 0 out, prepR 4 0 out room)).1.length) ?_ cvs.length _
        ⟨_, [], true, ba, hd, ma', buf', _, _, _, _, _, _, Nat.le_refl _, by assumption, B₂, by exact e1, by exact e2, by exact rfl, by exact rfl, by exact rfl, by exact rfl, by exact rfl, by omega, by simp, by rw [Nat.sub_self]; rfl, by simp, by simp only [List.foldl_nil]; omega, by simp only [List.foldl_nil]; omega⟩
      rintro n s₁₂ ⟨m₂, ns', tr', ba₁, hd₁, ma₁, buf₁, iv, tv, t1, t2, t3, t4, hn', S₁₂, B₃, e1, e2, e3, e4, e5, e6, e7, hiv, htv, hst', hnl', hlu, hll⟩
      subst hiv htv
      refine t_cmp ?_
      refine r_loc (by assumption) (by exact e5) ?_
      (refine r_cint (by assumption) ?_; intro _ _ _)
      refine c_ge ?_
      refine tr_bool ?_
      cases n with
      | zero =>
        refine g_no (by decide) ?_
        refine n_nil ?_
        show N _ _ _ _ _
        refine n_cons ?_
        refine n_expr ?_
        refine e_meth ?_
        refine r_loc (by assumption) (by exact e1) ?_
        refine m_PrependVOffsetT (by assumption) ?_
        refine cw1 ?_
        refine sp_cons ?_
        refine e_meth ?_
        refine p_glob (by assumption) (gl_VOffsetTFlags _) ?_ rfl rfl
        (refine y_175 (by assumption) ?_; intro _ _)
        refine cw1 ?_
        refine sp_cons ?_
        refine r_loc (by assumption) (by exact e3) ?_
        refine sp_nil ?_
        refine ⟨Kp.type, ?_⟩
        show N _ _ (call _ [_] _) _ _
        walk_at "n_leafcall"
        refine sp_nil ?_
        refine ⟨Kp.of_K (by assumption) (kp_639 _), ?_⟩
        show N _ _ (call _ [_, _] _) _ _
        have hmm : max (max ma 4) 2 = max ma 4 := by omega
        obtain ⟨F, hF0⟩ : ∃ F, F = ns'.foldl stepV (le 4 ((prepO 4 0 out).length + 4 : Nat) ++ prepO 4 0 out, prepR 4 0 out room) := ⟨_, rfl⟩
        rw [← hF0] at B₃ hlu hll
        refine ct_PrependV (r := r.at ba₁ hd₁ ma₁) (by assumption) (R.deep.le (by omega)) B₃ (by omega) (by omega) (by omega) fun ba₂ hd₂ ma₂ buf₂ s₁₃ S₁₃ B₄ => ?_
        rw [hmm] at B₄
        obtain ⟨F1, hF1⟩ : ∃ F1, F1 = stepV F ((oo : Int) - oe) := ⟨_, rfl⟩
        have B₄ : Bd ((r.at ba₁ hd₁ ma₁).at ba₂ hd₂ ma₂) buf₂ F1.1 F1.2 (max ma 4) := by rw [hF1]; exact B₄
        have hl4 := stepV_len (p := F) (off := (oo : Int) - oe)
        rw [← hF1] at hl4
        refine ⟨(by intro _ h; cases h), ?_⟩
        show N _ _ _ _ _
        refine n_cons ?_
        refine n_assign ?_
        refine e_bin ?_
        refine e_bin ?_
        refine e_call ?_
        refine p_blt (by assumption) (gb_len _) (by boot_by_name) (by decide) ?_ rfl rfl
        refine cw1 ?_
        refine sp_cons ?_
        refine e_attr ?_
        refine r_loc (by assumption) (by exact e1) ?_
        (refine g_current_vtable (by assumption) ?_; intro _ _)
        refine sp_nil ?_
        refine ⟨Kp.builtin, ?_⟩
        show N _ _ (call _ [_] _) _ _
        rw [hc]
        refine k_lenlist X (by assumption) (by walk_at "in_l6") (by omega) ?_
        intro _
        intro _
        intro _
        refine r_loc (by assumption) (by exact e6) ?_
        (refine i_sub (by assumption) ?_; intro _ _ _)
        refine p_glob (by assumption) (gl_VtableMetadataFields _) ?_ rfl rfl
        (refine i_add (by assumption) ?_; intro _ _ _)
        (refine r_st (by assumption) ?_; intro _ _)
        show N _ _ _ _ _
        refine n_cons ?_
        refine n_aug ?_
        refine r_ldn (by assumption) (by exact rfl) ?_
        refine e_attr ?_
        refine p_glob (by assumption) (gl_VOffsetTFlags _) ?_ rfl rfl
        (refine a_175_bytewidth (by assumption) ?_; intro _ _)
        refine ii_mul (by assumption) (mulOk (by decide)) ?_
        intro _
        intro _
        intro _
        (refine r_st (by assumption) ?_; intro _ _)
        show N _ _ _ _ _
        refine n_cons ?_
        refine n_expr ?_
        refine e_meth ?_
        refine r_loc (by assumption) (by exact e1) ?_
        refine m_PrependVOffsetT (by assumption) ?_
        refine cw1 ?_
        refine sp_cons ?_
        refine e_meth ?_
        refine p_glob (by assumption) (gl_VOffsetTFlags _) ?_ rfl rfl
        (refine y_175 (by assumption) ?_; intro _ _)
        refine cw1 ?_
        refine sp_cons ?_
        refine r_loc (by assumption) (by exact rfl) ?_
        refine sp_nil ?_
        refine ⟨Kp.type, ?_⟩
        show N _ _ (call _ [_] _) _ _
        walk_at "n_leafcall"
        refine sp_nil ?_
        refine ⟨Kp.of_K (by assumption) (kp_639 _), ?_⟩
        show N _ _ (call _ [_, _] _) _ _
        rw [show ((vs.length : Int) - ((cvs.length : Int) - ((0 : Nat) : Int) - (ns'.length : Int)) + 2) * 2 = ((2 * (ns'.length + 2) : Nat) : Int) by omega]
        refine ct_PrependV (r := r.at ba₂ hd₂ ma₂) (by assumption) (R.deep.le (by omega)) B₄ (by omega) (by omega) (by omega) fun ba₃ hd₃ ma₃ buf₃ s₁₄ S₁₄ B₅ => ?_
        rw [hmm] at B₅
        obtain ⟨F2, hF2⟩ : ∃ F2, F2 = stepV F1 ((2 * (ns'.length + 2) : Nat) : Int) := ⟨_, rfl⟩
        have B₅ : Bd ((r.at ba₂ hd₂ ma₂).at ba₃ hd₃ ma₃) buf₃ F2.1 F2.2 (max ma 4) := by rw [hF2]; exact B₅
        have hl6 := stepV_len (p := F1) (off := ((2 * (ns'.length + 2) : Nat) : Int))
        rw [← hF2] at hl6
        obtain ⟨b1, b2, b3, b4, b5⟩ := id B₅.ok
        have b6 := B₅.rm
        refine ⟨(by intro _ h; cases h), ?_⟩
        show N _ _ _ _ _
        refine n_cons ?_
        refine n_assign ?_
        refine e_meth ?_
        refine p_glob (by assumption) (gl_SOffsetTFlags _) ?_ rfl rfl
        (refine y_151 (by assumption) ?_; intro _ _)
        refine cw1 ?_
        refine sp_cons ?_
        refine e_bin ?_
        refine e_call ?_
        refine p_blt (by assumption) (gb_len _) (by boot_by_name) (by decide) ?_ rfl rfl
        refine cw1 ?_
        refine sp_cons ?_
        refine e_attr ?_
        refine r_loc (by assumption) (by exact e1) ?_
        (refine g_Bytes (by assumption) ?_; intro _ _)
        refine sp_nil ?_
        refine ⟨Kp.builtin, ?_⟩
        show N _ _ (call _ [_] _) _ _
        walk_at "n_leafcall"
        refine r_loc (by assumption) (by exact e2) ?_
        (refine i_sub (by assumption) ?_; intro _ _ _)
        refine sp_nil ?_
        refine ⟨Kp.type, ?_⟩
        show N _ _ (call _ [_] _) _ _
        walk_at "n_leafcall"
        (refine r_st (by assumption) ?_; intro _ _)
        show N _ _ _ _ _
        refine n_cons ?_
        refine n_expr ?_
        refine e_call ?_
        refine p_glob (by assumption) (gl_Write _) ?_ rfl rfl
        refine cw1 ?_
        refine sp_cons ?_
        refine p_glob (by assumption) (gl_soffset _) ?_ rfl rfl
        refine sp_cons ?_
        refine e_attr ?_
        refine r_loc (by assumption) (by exact e1) ?_
        (refine g_Bytes (by assumption) ?_; intro _ _)
        refine sp_cons ?_
        refine r_loc (by assumption) (by exact rfl) ?_
        refine sp_cons ?_
        refine e_meth ?_
        refine p_glob (by assumption) (gl_SOffsetTFlags _) ?_ rfl rfl
        (refine y_151 (by assumption) ?_; intro _ _)
        refine cw1 ?_
        refine sp_cons ?_
        refine e_bin ?_
        refine e_meth ?_
        refine r_loc (by assumption) (by exact e1) ?_
        refine m_Offset (by assumption) ?_
        refine cw0 ?_ ?_
        exact Kp.of_K (by assumption) (kp_341 _)
        show N _ _ (call _ [_] _) _ _
        refine cp_Offset (r := (r.at ba₂ hd₂ ma₂).at ba₃ hd₃ ma₃) (by assumption) (R.deep.le (by omega)) B₅.ok ?_
        intro _
        intro _
        intro _
        refine r_loc (by assumption) (by exact e2) ?_
        (refine i_sub (by assumption) ?_; intro _ _ _)
        refine sp_nil ?_
        refine ⟨Kp.type, ?_⟩
        show N _ _ (call _ [_] _) _ _
        walk_at "n_leafcall"
        refine sp_nil ?_
        refine ⟨Kp.of_K (by assumption) (kp_191 _), ?_⟩
        show N _ _ (call _ [_, _, _, _] _) _ _
        rename_i S₁₅
        refine ct_Write (show Sx y 56 4 (-2147483648) 2147483647 from ⟨_, _, _, _, rfl, rfl, Pk.i⟩) S₁₅.swap (R.deep.le (by omega)) (by omega) (by omega) (by omega) (by omega) (by omega) fun s₁₆ S₁₆ => ?_
        have S₁₆ := S₁₆.swap
        have eps : ((buf₃.length : Int) - (oo : Nat)).toNat = F2.2 - F2.1.length + (F2.1.length - oo) := by omega
        rw [eps] at S₁₆
        have B₆ := B₅.ok.over (p := F2.1.length - oo) (x := le 4 ((F2.1.length : Int) - oo)) (by rw [le_length]; omega)
        have hlo2 : (over F2.1 (F2.1.length - oo) (le 4 ((F2.1.length : Int) - oo))).length = F2.1.length := over_length (by rw [le_length]; omega)
        refine ⟨(by intro _ h; cases h), ?_⟩
        show N _ _ _ _ _
        refine n_cons ?_
        refine n_setitem ?_
        refine e_meth ?_
        refine r_loc (by assumption) (by exact e1) ?_
        refine m_Offset (by assumption) ?_
        refine cw0 ?_ ?_
        exact Kp.of_K (by assumption) (kp_341 _)
        show N _ _ (call _ [_] _) _ _
        refine cp_Offset (r := (r.at ba₂ hd₂ ma₂).at ba₃ hd₃ ma₃) (by assumption) (R.deep.le (by omega)) B₆ ?_
        intro _
        intro _
        intro _
        refine e_attr ?_
        refine r_loc (by assumption) (by exact e1) ?_
        (refine g_vtables (by assumption) ?_; intro _ _)
        refine r_loc (by assumption) (by exact e4) ?_
        rename_i S₁₇
        have hkey' : keyL cvs oo = ns' := by
          unfold keyL
          rw [Nat.sub_zero, List.take_of_length_le (by simp)] at hst'
          rw [← hst']
        have hvt : vtNew oo oe (keyL cvs oo) (soO out, prepR 4 0 out room) = (over F2.1 (F2.1.length - oo) (le 4 ((F2.1.length : Int) - oo)), F2.2) := by
          rw [hkey', hF2, hF1, hF0]; rfl
        refine k_vsetP (d := r.vt) (e := tt) (V.sub (l' := (tt, ({ cls := .type "tuple", data := .seq (ks ++ [Value.int ((oo : Int) - oe) tz]).toArray } : Obj)) :: l0) fun p hp => .tail _ hp) (fun p hp => ?_) hT S₁₇.up4 (.head _) (by have := R.u; show A.units + 3 + 8 < _; omega) (by omega) hat fun od' s₁₈ V' S₁₈ => ?_
        · rcases List.mem_cons.mp hp with rfl | hp
          · exact .tail _ (.tail _ (.head _))
          · exact .tail _ (.tail _ (.tail _ (.tail _ (hl0 p hp))))
        have S₁₈ := S₁₈.down4
        show N _ _ _ _ _
        refine n_nil ?_
        show N _ _ _ _ _
        refine n_cons ?_
        refine n_setattr ?_
        refine r_cnone ?_
        refine r_loc (by assumption) (by exact e1) ?_
        (refine s_current_vtable0 (by assumption) ?_; intro _ _)
        show N _ _ _ _ _
        refine n_cons ?_
        refine n_ret ?_
        refine r_loc (by assumption) (by exact e2) ?_
        refine Back.mk (by assumption) (fun S' => ?_)
        have S' := S'.sub (.cons_cons _ (.cons_cons _ (.cons_cons _ (.cons _ (.refl _)))))
        have S' := S'.perm (.cons _ (.cons _ (.swap _ _ _)))
        rw [hvt, hkey] at hN
        exact hN hat _ _ _ _ _ _ _ _ _ _ S' V' ⟨B₆, B₅.ma, B₅.rm⟩
      | succ n =>
        refine g_yes (decide_eq_true (by omega)) ?_
        have hnl : n < vs.length := by omega
        obtain ⟨e, te', hve, hce⟩ := hi.at n vs[n] (List.getElem?_eq_getElem hnl)
        have hem := hcv e (List.mem_of_getElem? hce)
        have hfold : ∀ tr'' ns'', stepK oo (tr', ns') e = (tr'', ns'') → (tr'', ns'') = (cvs.reverse.take (cvs.length - n)).foldl (stepK oo) (true, []) := fun tr'' ns'' q => by
          rw [rev_take hce, List.foldl_append, ← hst']; exact q.symm
        have hmm : max (max ma 4) 2 = max ma 4 := by omega
        have hfa : ∀ off : Int, (ns' ++ [off]).foldl stepV (le 4 ((prepO 4 0 out).length + 4 : Nat) ++ prepO 4 0 out, prepR 4 0 out room) = stepV (ns'.foldl stepV (le 4 ((prepO 4 0 out).length + 4 : Nat) ++ prepO 4 0 out, prepR 4 0 out room)) off := fun off => by rw [List.foldl_append]; rfl
        have hl4 := fun off => stepV_len (p := (ns'.foldl stepV (le 4 ((prepO 4 0 out).length + 4 : Nat) ++ prepO 4 0 out, prepR 4 0 out room))) (off := off)
        show N _ _ _ _ _
        refine n_cons ?_
        refine n_assign ?_
        (refine r_cint (by assumption) ?_; intro _ _ _)
        (refine r_st (by assumption) ?_; intro _ _)
        show N _ _ _ _ _
        refine n_cons ?_
        refine n_assign ?_
        refine e_sub ?_
        refine e_attr ?_
        refine r_loc (by assumption) (by exact e1) ?_
        (refine g_current_vtable (by assumption) ?_; intro _ _)
        refine r_loc (by assumption) (by exact e5) ?_
        rw [hc]
        refine r_item_ls X (by assumption) (by walk_at "in_l6") ?_ (fun _ _ => by first | exact .inl rfl | exact .inr rfl)
        rw [show ((n + 1 : Nat) : Int) - 1 = (n : Int) by omega]
        refine n_list_get (i := n) X (by assumption) (by walk_at "in_l6") (v := .int e te') (by have := List.getElem?_eq_getElem hnl; rw [hve] at this; exact this) (by omega) ?_
        (refine r_st (by assumption) ?_; intro _ _)
        show N _ _ _ _ _
        refine n_cons ?_
        refine n_aug ?_
        refine r_ldn (by assumption) (by exact e5) ?_
        (refine r_cint (by assumption) ?_; intro _ _ _)
        (refine ii_sub (by assumption) ?_; intro _ _ _)
        (refine r_st (by assumption) ?_; intro _ _)
        show N _ _ _ _ _
        refine n_cons ?_
        refine n_if ?_
        refine t_cmp ?_
        refine r_loc (by assumption) (by exact rfl) ?_
        (refine r_cint (by assumption) ?_; intro _ _ _)
        refine c_eq ?_
        refine tr_bool ?_
        by_cases h0 : e = 0
        · refine g_yes (by simp [h0]) ?_
          refine n_cons ?_
          refine n_if ?_
          refine t_plain ?_
          refine r_loc (by assumption) (by exact e7) ?_
          refine tr_bool ?_
          cases tr' with
          | true =>
            refine   g_yes     (by       first       | rfl       | assumption)     ?_
            refine n_cons ?_
            refine n_aug ?_
            refine r_ldn (by assumption) (by exact e6) ?_
            (refine r_cint (by assumption) ?_; intro _ _ _)
            (refine ii_add (by assumption) ?_; intro _ _ _)
            (refine r_st (by assumption) ?_; intro _ _)
            show N _ _ _ _ _
            refine n_cons ?_
            refine n_cont ?_
            exact ⟨n, by omega, _, ns', true, ba₁, hd₁, ma₁, buf₁, _, _, _, _, _, _, by omega, by assumption, B₃, by exact e1, by exact e2, by exact e3, by exact e4, by exact rfl, by exact rfl, by exact e7, by omega, by omega, hfold _ _ (by simp [stepK, h0]), by omega, by omega, hll⟩
          | false =>
            refine   g_no     (by       first       | rfl       | assumption)     ?_
            refine n_nil ?_
            show N _ _ _ _ _
            refine n_nil ?_
            show N _ _ _ _ _
            refine n_cons ?_
            refine n_expr ?_
            refine e_meth ?_
            refine r_loc (by assumption) (by exact e1) ?_
            refine m_PrependVOffsetT (by assumption) ?_
            refine cw1 ?_
            refine sp_cons ?_
            refine r_loc (by assumption) (by exact rfl) ?_
            refine sp_nil ?_
            refine ⟨Kp.of_K (by assumption) (kp_639 _), ?_⟩
            show N _ _ (call _ [_, _] _) _ _
            refine ct_PrependV (r := r.at ba₁ hd₁ ma₁) (by assumption) (R.deep.le (by omega)) B₃ (by omega) (by omega) (by omega) fun ba₂ hd₂ ma₂ buf₂ s₁₃ S₁₃ B₄ => ?_
            rw [hmm] at B₄
            refine ⟨(by intro _ h; cases h), ?_⟩
            show N _ _ _ _ _
            refine n_nil ?_
            have hl5 := hl4 0
            refine ⟨n, by omega, _, ns' ++ [e], false, ba₂, hd₂, ma₂, buf₂, _, _, _, _, _, _, by omega, by assumption, ?_, by exact e1, by exact e2, by exact e3, by exact e4, by exact rfl, by exact e6, by exact e7, by omega, by rw [List.length_append, List.length_singleton]; omega, hfold _ _ (by simp [stepK, h0]), by rw [List.length_append, List.length_singleton]; omega, ?_, ?_⟩
            · rw [hfa, h0]; exact B₄
            · rw [hfa, h0, List.length_append, List.length_singleton]; omega
            · rw [hfa, h0]; omega
        · refine g_no (by simp [h0]) ?_
          refine n_cons ?_
          refine n_assign ?_
          refine e_bin ?_
          refine r_loc (by assumption) (by exact e2) ?_
          refine r_loc (by assumption) (by exact rfl) ?_
          (refine i_sub (by assumption) ?_; intro _ _ _)
          (refine r_st (by assumption) ?_; intro _ _)
          show N _ _ _ _ _
          refine n_cons ?_
          refine n_assign ?_
          refine r_cbool ?_
          (refine r_st (by assumption) ?_; intro _ _)
          show N _ _ _ _ _
          refine n_nil ?_
          show N _ _ _ _ _
          refine n_cons ?_
          refine n_expr ?_
          refine e_meth ?_
          refine r_loc (by assumption) (by exact e1) ?_
          refine m_PrependVOffsetT (by assumption) ?_
          refine cw1 ?_
          refine sp_cons ?_
          refine r_loc (by assumption) (by exact rfl) ?_
          refine sp_nil ?_
          refine ⟨Kp.of_K (by assumption) (kp_639 _), ?_⟩
          show N _ _ (call _ [_, _] _) _ _
          have hem2 := hem.2.2 h0
          refine ct_PrependV (r := r.at ba₁ hd₁ ma₁) (by assumption) (R.deep.le (by omega)) B₃ (by omega) (by omega) (by omega) fun ba₂ hd₂ ma₂ buf₂ s₁₃ S₁₃ B₄ => ?_
          rw [hmm] at B₄
          refine ⟨(by intro _ h; cases h), ?_⟩
          show N _ _ _ _ _
          refine n_nil ?_
          have hl5 := hl4 (oo - e)
          refine ⟨n, by omega, _, ns' ++ [(oo : Int) - e], false, ba₂, hd₂, ma₂, buf₂, _, _, _, _, _, _, by omega, by assumption, ?_, by exact e1, by exact e2, by exact e3, by exact e4, by exact rfl, by exact e6, by exact rfl, by omega, by rw [List.length_append, List.length_singleton]; omega, hfold _ _ (by simp [stepK, h0]), by rw [List.length_append, List.length_singleton]; omega, ?_, ?_⟩
          · rw [hfa]; exact B₄
          · rw [hfa, List.length_append, List.length_singleton]; omega
          · rw [hfa]; omega
    · obtain ⟨pa, pv⟩ := pp
      obtain ⟨dd, td, hdd, hdl⟩ : ∃ (dd : Nat) (td : Tok), pv = .int dd td ∧ dd ≤ out.length := by
        unfold atKey at hat
        rw [Option.map_eq_some_iff] at hat
        obtain ⟨x, hx, hx2⟩ := hat
        obtain ⟨dd, td, q1, q2⟩ := hxv x (List.mem_of_find?_eq_some hx)
        exact ⟨dd, td, by rw [← q1, hx2], q2⟩
      subst hdd
      dsimp only [Option.map_some, Option.getD_some]
      obtain ⟨b1, b2, b3, b4, b5⟩ := id B₂.ok
      have b6 := B₂.rm
      have hle := prepO_len (w := 4) (a := 0) (out := out) (.inr (.inr (.inl rfl)))
      show N _ _ _ _ _
      (refine r_st (by assumption) ?_; intro _ _)
      refine n_cons ?_
      refine n_if ?_
      refine t_cmp ?_
      refine r_loc (by assumption) (by exact rfl) ?_
      refine r_cnone ?_
      refine c_is (by rfl) ?_
      refine tr_bool ?_
      refine   g_no     (by       first       | rfl       | assumption)     ?_
      refine n_cons ?_
      refine n_assign ?_
      refine e_meth ?_
      refine p_glob (by assumption) (gl_SOffsetTFlags _) ?_ rfl rfl
      (refine y_151 (by assumption) ?_; intro _ _)
      refine cw1 ?_
      refine sp_cons ?_
      refine e_bin ?_
      refine e_call ?_
      refine p_blt (by assumption) (gb_len _) (by boot_by_name) (by decide) ?_ rfl rfl
      refine cw1 ?_
      refine sp_cons ?_
      refine e_attr ?_
      refine r_loc (by assumption) (by exact e1) ?_
      (refine g_Bytes (by assumption) ?_; intro _ _)
      refine sp_nil ?_
      refine ⟨Kp.builtin, ?_⟩
      show N _ _ (call _ [_] _) _ _
      walk_at "n_leafcall"
      refine r_loc (by assumption) (by exact e2) ?_
      (refine i_sub (by assumption) ?_; intro _ _ _)
      refine sp_nil ?_
      refine ⟨Kp.type, ?_⟩
      show N _ _ (call _ [_] _) _ _
      walk_at "n_leafcall"
      (refine r_st (by assumption) ?_; intro _ _)
      show N _ _ _ _ _
      refine n_cons ?_
      refine n_setattr ?_
      refine e_meth ?_
      refine p_glob (by assumption) (gl_UOffsetTFlags _) ?_ rfl rfl
      (refine y_163 (by assumption) ?_; intro _ _)
      refine cw1 ?_
      refine sp_cons ?_
      refine r_loc (by assumption) (by exact rfl) ?_
      refine sp_nil ?_
      refine ⟨Kp.type, ?_⟩
      show N _ _ (call _ [_] _) _ _
      walk_at "n_leafcall"
      refine r_loc (by assumption) (by exact e1) ?_
      (refine s_head (by assumption) ?_; intro _ _)
      show N _ _ _ _ _
      refine n_cons ?_
      refine n_expr ?_
      refine e_call ?_
      refine p_glob (by assumption) (gl_Write _) ?_ rfl rfl
      refine cw1 ?_
      refine sp_cons ?_
      refine p_glob (by assumption) (gl_soffset _) ?_ rfl rfl
      refine sp_cons ?_
      refine e_attr ?_
      refine r_loc (by assumption) (by exact e1) ?_
      (refine g_Bytes (by assumption) ?_; intro _ _)
      refine sp_cons ?_
      refine e_meth ?_
      refine r_loc (by assumption) (by exact e1) ?_
      refine m_Head (by assumption) ?_
      refine cw0 ?_ ?_
      exact Kp.of_K (by assumption) (kp_334 _)
      show N _ _ (call _ [_] _) _ _
      refine ct_Head (r := { r.at ba hd ma' with head := _ }) (by assumption) (R.deep.le (by omega)) fun s₁₃ S₁₃ => ?_
      refine sp_cons ?_
      refine e_meth ?_
      refine p_glob (by assumption) (gl_SOffsetTFlags _) ?_ rfl rfl
      (refine y_151 (by assumption) ?_; intro _ _)
      refine cw1 ?_
      refine sp_cons ?_
      refine e_bin ?_
      refine r_loc (by assumption) (by exact rfl) ?_
      refine r_loc (by assumption) (by exact e2) ?_
      (refine i_sub (by assumption) ?_; intro _ _ _)
      refine sp_nil ?_
      refine ⟨Kp.type, ?_⟩
      show N _ _ (call _ [_] _) _ _
      walk_at "n_leafcall"
      refine sp_nil ?_
      refine ⟨Kp.of_K (by assumption) (kp_191 _), ?_⟩
      show N _ _ (call _ [_, _, _, _] _) _ _
      rename_i S₁₅
      refine ct_Write (show Sx y 56 4 (-2147483648) 2147483647 from ⟨_, _, _, _, rfl, rfl, Pk.i⟩) S₁₅.swap (R.deep.le (by omega)) (by dsimp only; omega) (by dsimp only; omega) (by omega) (by omega) (by omega) fun s₁₆ S₁₆ => ?_
      have S₁₆ := S₁₆.swap
      dsimp only at S₁₆
      have eps : ((buf'.length : Int) - (oo : Nat)).toNat = prepR 4 0 out room - (soO out).length + 0 := by unfold soO; omega
      have ehd : (r.at ba hd ma').head.1 = (buf'.length : Int) - (oo : Nat) := by omega
      rw [eps] at S₁₆
      have B₆ := BufOk.over (p := 0) (x := le 4 ((dd : Int) - oo)) (show BufOk hd.1 buf' (soO out) _ from B₂.ok) (by unfold soO; rw [le_length]; omega)
      refine ⟨(by intro _ h; cases h), ?_⟩
      show N _ _ _ _ _
      refine n_nil ?_
      show N _ _ _ _ _
      refine n_cons ?_
      refine n_setattr ?_
      refine r_cnone ?_
      refine r_loc (by assumption) (by exact e1) ?_
      (refine s_current_vtable0 (by assumption) ?_; intro _ _)
      show N _ _ _ _ _
      refine n_cons ?_
      refine n_ret ?_
      refine r_loc (by assumption) (by exact e2) ?_
      refine Back.mk (by assumption) (fun S' => ?_)
      have S' := S'.sub (.cons_cons _ (.cons_cons _ (.cons _ (.cons _ (.cons_cons _ (.refl _))))))
      rw [hkey] at hF
      refine hF pa dd td hat _ (_, _) _ _ _ _ S' ⟨?_, B₂.ma, B₂.rm⟩
      rw [← ehd]
      exact B₆
  | succ n =>
    have hnl : n < vs.length := by omega
    obtain ⟨e, te', hve, hce⟩ := hi.at n vs[n] (List.getElem?_eq_getElem hnl)
    rw [show ((n + 1 : Nat) : Int) - 1 = (n : Int) by omega] at Y
    have S₅' := S₅.over
    refine k_next_rev (i := n) Y X S₅' (by walk_at "in_l6") (List.getElem?_eq_getElem hnl) fun io' s₆ Y' S₆ => ?_
    have S₆ := S₆.under
    rw [hve]
    have hfold : ∀ tr' ns', stepK oo (tr, ns) e = (tr', ns') → (tr', ns') = (cvs.reverse.take (cvs.length - n)).foldl (stepK oo) (true, []) := fun tr' ns' q => by
      rw [rev_take hce, List.foldl_append, ← hst]; exact q.symm
    show N _ _ _ _ _
    (refine r_st (by assumption) ?_; intro _ _)
    refine n_cons ?_
    refine n_if ?_
    refine t_cmp ?_
    refine r_loc (by assumption) (by exact rfl) ?_
    (refine r_cint (by assumption) ?_; intro _ _ _)
    refine c_eq ?_
    refine tr_bool ?_
    by_cases h0 : e = 0
    · refine g_yes (by simp [h0]) ?_
      refine n_cons ?_
      refine n_if ?_
      refine t_plain ?_
      refine r_loc (by assumption) (by exact e4) ?_
      refine tr_bool ?_
      cases tr with
      | true =>
        refine   g_yes     (by       first       | rfl       | assumption)     ?_
        refine n_cons ?_
        refine n_cont ?_
        exact ⟨n, by omega, io', _, ks, ns, nk, true, _, Y', by omega, by assumption, by exact e1, by exact e2, by exact e3, by exact e4, hks, hfold _ _ (by simp [stepK, h0]), by omega⟩
      | false =>
        refine   g_no     (by       first       | rfl       | assumption)     ?_
        refine n_nil ?_
        show N _ _ _ _ _
        refine n_nil ?_
        show N _ _ _ _ _
        refine n_cons ?_
        refine n_expr ?_
        refine e_meth ?_
        refine r_loc (by assumption) (by exact e3) ?_
        walk_at "n_leaf"
        refine cw1 ?_
        refine sp_cons ?_
        refine r_loc (by assumption) (by exact rfl) ?_
        refine sp_nil ?_
        refine ⟨Kp.builtin, ?_⟩
        show N _ _ (call _ [_, _] _) _ _
        rename_i S₇
        refine k_append (S₇.up3) (by omega) fun s₈ S₈ => ?_
        have S₈ := S₈.down3
        refine ⟨(by intro _ h; cases h), ?_⟩
        show N _ _ _ _ _
        refine n_nil ?_
        exact ⟨n, by omega, io', _, ks ++ [.int e te'], ns ++ [e], nk + 1, false, _, Y', by omega, by assumption, by exact e1, by exact e2, by exact e3, by exact e4, hks.append (.cons _ _ .nil), hfold _ _ (by simp [stepK, h0]), by simp; omega⟩
    · refine g_no (by simp [h0]) ?_
      refine n_cons ?_
      refine n_assign ?_
      refine e_bin ?_
      refine r_loc (by assumption) (by exact e2) ?_
      refine r_loc (by assumption) (by exact rfl) ?_
      (refine i_sub (by assumption) ?_; intro _ _ _)
      (refine r_st (by assumption) ?_; intro _ _)
      show N _ _ _ _ _
      refine n_cons ?_
      refine n_assign ?_
      refine r_cbool ?_
      (refine r_st (by assumption) ?_; intro _ _)
      show N _ _ _ _ _
      refine n_nil ?_
      show N _ _ _ _ _
      refine n_cons ?_
      refine n_expr ?_
      refine e_meth ?_
      refine r_loc (by assumption) (by exact e3) ?_
      walk_at "n_leaf"
      refine cw1 ?_
      refine sp_cons ?_
      refine r_loc (by assumption) (by exact rfl) ?_
      refine sp_nil ?_
      refine ⟨Kp.builtin, ?_⟩
      show N _ _ (call _ [_, _] _) _ _
      rename_i S₇
      refine k_append (S₇.up3) (by omega) fun s₈ S₈ => ?_
      have S₈ := S₈.down3
      refine ⟨(by intro _ h; cases h), ?_⟩
      show N _ _ _ _ _
      refine n_nil ?_
      exact ⟨n, by omega, io', _, ks ++ [.int (oo - e) _], ns ++ [oo - e], nk + 1, false, _, Y', by omega, by assumption, by exact e1, by exact e2, by exact e3, by exact rfl, hks.append (.cons _ _ .nil), hfold _ _ (by simp [stepK, h0]), by simp; omega⟩
end

end Mine

end
-- PC82
section
open PySem PySem.W PySem.Calls PyProof.Rows
set_option maxRecDepth 100000
set_option linter.unusedVariables false
set_option linter.deprecated false
namespace Mine
example : (fun (_ : OpenLaw) (_ : Params → Frag) => True) PySem.Challenge.rw_fb0004_02 hd.heap_39 := by k_fill; trivial
structure Fb (P : Params) : Prop where
  nd : hasDictIn (hd.heap_39 P) 671 = false
  gt : specialIn (hd.heap_39 P) (.ref 471) "__get__" = some (some (.builtin "function.__get__"))
  tk : takesIn (hd.heap_39 P) (.ref 471) = some false
theorem fb (P : Params) : Fb P := by constructor <;> k_is
end Mine
end
local macro_rules | `(tactic| walk_at "n_leaf") => `(tactic| ((with_reducible show N _ _ (getMethod _ (PySem.Str.ofString "_Builder__Finish") _) _ _); refine m___Finish (by assumption) ?_))
section
open PySem PySem.W PySem.Calls PyProof.Rows
set_option maxRecDepth 100000
set_option linter.unusedVariables false
set_option linter.deprecated false
namespace Mine
section
variable {y : Cy} {A : Around} {s : Shared} {L b st F d : Addr} {m : Str → Option Value} {l k : List (Addr × Obj)} {r : Raw} {Q : Value → Shared → Prop} {w : Nat} {lo hi : Int} {buf out : List UInt8} {room ma : Nat}
/-- a def that takes the rest as a tuple -/
theorem p_callV {f : Addr} {nm qual : Str} {params : Arguments} {body : List Stmt} {scope : Scope} {dV kV doc pm cdv ct oc : Value} {an od : Option Addr} {osl : Array (Option Value)} {pos vs : List Value} {kw : List (Str × Value)} {binds : Addr → List (Str × Value)} {g₁ : Addr → Option (List (Str × Value))}
    (S : St y.cx L m l k s) (ho : (hd.heap_39 y.w.params).lookup f = some ⟨oc, od, .func (fnOf nm qual params body scope dV kV doc pm an cdv ct), osl⟩) (hcd : codeIn (hd.heap_39 y.w.params) cdv qual = true) (hroom : A.depth < recursionLimit)
    (hp : peek1 (hd.heap_39 y.w.params) ⟨y.prog, y.w.params⟩ (bindArgs (fnOf nm qual params body scope dV kV doc pm an cdv ct) ⟨pos, kw⟩) = some (({ cls := .type "tuple", data := .seq vs.toArray } : Obj), g₁)) (hg : ∀ D, g₁ D = some (binds D))
    (hloc : ∀ D, ∀ y ∈ binds D, scope.names.lookup y.1 = some .local)
    (h : ∀ D L' oL s₁, St y.cx L' (fun y => (binds D).reverse.lookup y) ((D, ({ cls := .type "tuple", data := .seq vs.toArray } : Obj)) :: l) ((L, oL) :: k) s₁ → N y.cx (A.deeper (envOf qual scope L' f cdv)) (execs body (envOf qual scope L' f cdv)) (Back y.cx L m oL k Q) s₁)
    (hcell : ∀ x ∈ scope.names, x.2 ≠ .cell) (hco : scope.isCoroutine = false) (hgen : scope.isGenerator = false) (hk : scope.kind = .function) :
    N y.cx A (call (.ref f) pos kw) Q s := n_callV S ho hcd hroom hp hg hloc h hcell hco hgen hk
theorem ct_EndObject {ca : Addr} {o : Obj} {vs : List Value} {cvs : List Int} {oe : Nat} {te : Tok} {od : Obj} {xs : List (List Int × Addr × Value)} {oo : Nat}
    (S : St y.cx L m ((b, r.obj) :: (r.ba, baObj buf) :: (ca, o) :: (r.vt, od) :: l) k s) (R : Rm A 7) {l0 : List (Addr × Obj)} (V : VtO y.cx l0 od r.vt xs) (hl0 : ∀ p ∈ l0, p ∈ l) (B : Bd r buf out room ma) (hs : out.length ≤ 1000000) (hc : r.cv = some ca) (ho : r.oe = some ((oe : Int), te)) (X : LsO o vs) (hi : IntsAre vs cvs) (hvl : cvs.length ≤ 200) (hnn : r.nested = true)
    (hoo : oo = (prepO 4 0 out).length + 4) (hoe : oe ≤ oo) (hos : oo - oe ≤ 60000) (hcv : ∀ e ∈ cvs, 0 ≤ e ∧ e ≤ oo ∧ (e ≠ 0 → (oo : Int) - e ≤ 60000))
    (hxs : xs.length ≤ 1000) (hxv : ∀ x ∈ xs, ∃ (d : Nat) (t : Tok), x.2.2 = .int d t ∧ d ≤ out.length)
    (hN : atKey xs (keyL cvs oo ++ [(oo : Int) - oe]) = none → ∀ ba hd ma' buf' tt to od' t t' s', St y.cx L m ((b, { { r with nested := false }.at ba hd ma' with cv := none }.obj) :: (ba, baObj buf') :: (r.vt, od') :: (tt, to) :: l) k s' →
      VtO y.cx ((tt, to) :: l0) od' r.vt (xs ++ [(keyL cvs oo ++ [(oo : Int) - oe], tt, .int (vtNew oo oe (keyL cvs oo) (soO out, prepR 4 0 out room)).1.length t')]) →
      Bd { { r with nested := false }.at ba hd ma' with cv := none } buf' (vtNew oo oe (keyL cvs oo) (soO out, prepR 4 0 out room)).1 (vtNew oo oe (keyL cvs oo) (soO out, prepR 4 0 out room)).2 (max ma 4) → Q (.int oo t) s')
    (hF : ∀ (a : Addr) (d : Nat) (td : Tok), atKey xs (keyL cvs oo ++ [(oo : Int) - oe]) = some (a, .int d td) → ∀ ba hd ma' buf' t s', St y.cx L m ((b, { { r with nested := false }.at ba hd ma' with cv := none }.obj) :: (ba, baObj buf') :: (r.vt, od) :: l) k s' →
      Bd { { r with nested := false }.at ba hd ma' with cv := none } buf' (over (soO out) 0 (le 4 ((d : Int) - oo))) (prepR 4 0 out room) (max ma 4) → Q (.int oo t) s') :
    N y.cx A (call (.ref 320) [.ref b]) Q s := by
  refine p_call (binds := [("self", .ref b)]) S (by rfl) (by rfl) (Rm.depth R) (BindsTo.of_eq rfl) (locs rfl) (fun Lx oLx s₁ S₁ => ?_) (by decide) rfl rfl rfl
  refine n_cons ?_
  refine n_expr ?_
  refine e_meth ?_
  refine r_loc (by assumption) (by exact rfl) ?_
  refine m_assertNested (by assumption) ?_
  refine cw0 ?_ ?_
  exact Kp.of_K (by assumption) (kp_412 _)
  show N _ _ (call _ [_] _) _ _
  refine ct_assertNested (by assumption) (R.deep.le (by omega)) hnn ?_
  intro _
  intro _
  refine ⟨(by intro _ h; cases h), ?_⟩
  show N _ _ _ _ _
  refine n_cons ?_
  refine n_setattr ?_
  refine r_cbool ?_
  refine r_loc (by assumption) (by exact rfl) ?_
  (refine s_nested (by assumption) ?_; intro _ _)
  show N _ _ _ _ _
  refine n_cons ?_
  refine n_ret ?_
  refine e_meth ?_
  refine r_loc (by assumption) (by exact rfl) ?_
  refine m_WriteVtable (by assumption) ?_
  refine cw0 ?_ ?_
  exact Kp.of_K (by assumption) (kp_313 _)
  show N _ _ (call _ [_] _) _ _
  refine ct_WriteVtable (r := { r with nested := false }) (by assumption) (R.deep.le (by omega)) V hl0 ⟨B.ok, B.ma, B.rm⟩ hs hc ho X hi hvl hoo hoe hos hcv hxs hxv ?_ ?_
  · intro hat ba hd ma' buf' tt to od' t t' s' S' V' B'
    skip
    refine Back.mk (by assumption) (fun S' => ?_)
    exact hN hat _ _ _ _ _ _ _ _ _ _ S' V' B'
  · intro a d td hat ba hd ma' buf' t s' S' B'
    skip
    refine Back.mk (by assumption) (fun S' => ?_)
    exact hF a d td hat _ _ _ _ _ _ S' B'
theorem p_callC {f : Addr} {nm qual : Str} {params : Arguments} {body : List Stmt} {scope : Scope} {dV kV doc pm cdv ct oc : Value} {an od : Option Addr} {osl : Array (Option Value)} {pos : List Value} {kw : List (Str × Value)} {binds : List (Str × Value)}
    (S : St y.cx L m l k s) (ho : (hd.heap_39 y.w.params).lookup f = some ⟨oc, od, .func (fnOf nm qual params body scope dV kV doc pm an cdv ct), osl⟩) (hcd : codeIn (hd.heap_39 y.w.params) cdv qual = true) (hroom : A.depth < recursionLimit)
    (hbind : BindsTo s (fnOf nm qual params body scope dV kV doc pm an cdv ct) ⟨pos, kw⟩ binds)
    (hloc : ∀ y ∈ binds, scope.names.lookup y.1 = some .local)
    (h : ∀ L' oL s₁, St y.cx L' (fun y => binds.reverse.lookup y) l ((L, oL) :: k) s₁ → N y.cx (A.deeper (envOf qual scope L' f cdv)) (execs body (envOf qual scope L' f cdv)) (Back y.cx L m oL k Q) s₁)
    (hcell : ∀ x ∈ scope.names, x.2 ≠ .cell) (hco : scope.isCoroutine = false) (hgen : scope.isGenerator = false) (hk : scope.kind = .function) :
    NC y.cx A (.call (.ref f) ⟨pos, kw⟩) (fun f s' => match f with | .ret v => Q v s' | _ => False) s := n_callC S ho hcd hroom hbind hloc h hcell hco hgen hk
/-- o.PrependSlot, bound -/
theorem bm_PrependSlot {ex : Bool} {Q : Value → Shared → Prop} (S : St y.cx L m ((b, r.obj) :: l) k s) (h : ∀ q s', St y.cx L m ((q, methodObj (.ref 471) (.ref b)) :: (b, r.obj) :: l) k s' → Q (.ref q) s') : N y.cx A (getAttr (.ref b) "PrependSlot" ex) Q s :=
  b_bound S (.head _) (fa _).pg (fa _).cls (fb _).nd (fa _).at_PrependSlot (fa _).fn_PrependSlot (fb _).gt (fb _).tk (by decide +kernel) h
theorem cn_PrependSlot {i : Nat} {x dd : Int} {ti tx td : Tok} {ca : Addr} {vs : List Value} {o : Obj} (FL : Fl y F w lo hi) (hw : Width w) (S : St y.cx L m ((b, r.obj) :: (r.ba, baObj buf) :: (ca, o) :: l) k s) (R : Rm A 4) (B : Bd r buf out room ma) (hs : out.length ≤ 3000000)
    (X : LsO o vs) (hc : r.cv = some ca) (hn : r.nested = true) (hi' : i < vs.length) (hz : vs.length ≤ 1000) (h0 : lo ≤ x) (h1 : x ≤ hi) (d0 : lo ≤ dd) (d1 : dd ≤ hi)
    (hE : x = dd → ∀ s', St y.cx L m ((b, r.obj) :: (r.ba, baObj buf) :: (ca, o) :: l) k s' → Q .none s')
    (hN : x ≠ dd → ∀ ba hd ma' buf' t o' s', St y.cx L m ((b, (r.at ba hd ma').obj) :: (ba, baObj buf') :: (ca, o') :: l) k s' → Bd (r.at ba hd ma') buf' (le w x ++ prepO w 0 out) (prepR w 0 out room) (max ma w) →
      LsO o' (vs.set i (.int (((le w x ++ prepO w 0 out).length : Nat) : Int) t)) → Q .none s') :
    NC y.cx A (.call (.ref 471) ⟨[.ref b, .ref F, .int i ti, .int x tx, .int dd td], []⟩) (fun f s' => match f with | .ret v => Q v s' | _ => False) s := by
  refine p_callC (binds := [("self", .ref b), ("flags", .ref F), ("o", .int i ti), ("x", .int x tx), ("d", .int dd td)]) S (by rfl) (by rfl) (Rm.depth R) (BindsTo.of_eq rfl) (locs rfl) (fun Lx oLx s₁ S₁ => ?_) (by decide) rfl rfl rfl
  refine n_cons ?_
  refine n_if ?_
  refine t_cmp ?_
  refine r_loc (by assumption) (by exact rfl) ?_
  refine r_cnone ?_
  refine c_isnot (by rfl) ?_
  refine tr_bool ?_
  refine   g_yes     (by       first       | rfl       | assumption)     ?_
  refine n_cons ?_
  refine n_expr ?_
  refine e_call ?_
  refine p_glob (by assumption) (gl_enforce_number _) ?_ rfl rfl
  refine cw1 ?_
  refine sp_cons ?_
  refine r_loc (by assumption) (by exact rfl) ?_
  refine sp_cons ?_
  refine r_loc (by assumption) (by exact rfl) ?_
  refine sp_nil ?_
  refine ⟨Kp.of_K (by assumption) (kp_184 _), ?_⟩
  show N _ _ (call _ [_, _] _) _ _
  refine ct_enf FL (by assumption) (R.deep.le (by omega)) h0 h1 ?_
  intro _
  intro _
  refine ⟨(by intro _ h; cases h), ?_⟩
  show N _ _ _ _ _
  refine n_nil ?_
  show N _ _ _ _ _
  refine n_cons ?_
  refine n_if ?_
  refine t_cmp ?_
  refine r_loc (by assumption) (by exact rfl) ?_
  refine r_cnone ?_
  refine c_isnot (by rfl) ?_
  refine tr_bool ?_
  refine   g_yes     (by       first       | rfl       | assumption)     ?_
  refine n_cons ?_
  refine n_expr ?_
  refine e_call ?_
  refine p_glob (by assumption) (gl_enforce_number _) ?_ rfl rfl
  refine cw1 ?_
  refine sp_cons ?_
  refine r_loc (by assumption) (by exact rfl) ?_
  refine sp_cons ?_
  refine r_loc (by assumption) (by exact rfl) ?_
  refine sp_nil ?_
  refine ⟨Kp.of_K (by assumption) (kp_184 _), ?_⟩
  show N _ _ (call _ [_, _] _) _ _
  refine ct_enf FL (by assumption) (R.deep.le (by omega)) d0 d1 ?_
  intro _
  intro _
  refine ⟨(by intro _ h; cases h), ?_⟩
  show N _ _ _ _ _
  refine n_nil ?_
  show N _ _ _ _ _
  refine n_cons ?_
  refine n_if ?_
  refine t_or ?_
  refine t_cmp ?_
  refine r_loc (by assumption) (by exact rfl) ?_
  refine r_loc (by assumption) (by exact rfl) ?_
  refine c_ne ?_
  refine tr_bool ?_
  by_cases hxd : x = dd
  · refine g_no (by simp [hxd]) ?_
    refine t_or ?_
    refine t_and ?_
    refine t_plain ?_
    refine e_attr ?_
    refine r_loc (by assumption) (by exact rfl) ?_
    (refine g_forceDefaults (by assumption) ?_; intro _ _)
    refine tr_bool ?_
    refine   g_no     (by       first       | rfl       | assumption)     ?_
    refine   g_no     (by       first       | rfl       | assumption)     ?_
    refine t_or0 ?_
    refine   g_no     (by       first       | rfl       | assumption)     ?_
    refine n_nil ?_
    show N _ _ _ _ _
    refine n_nil ?_
    refine Back.mk (by assumption) (fun S' => ?_)
    exact hE hxd _ S'
  · refine g_yes (by simp [hxd]) ?_
    refine   g_yes     (by       first       | rfl       | assumption)     ?_
    refine n_cons ?_
    refine n_expr ?_
    refine e_meth ?_
    refine r_loc (by assumption) (by exact rfl) ?_
    refine m_Prepend (by assumption) ?_
    refine cw1 ?_
    refine sp_cons ?_
    refine r_loc (by assumption) (by exact rfl) ?_
    refine sp_cons ?_
    refine r_loc (by assumption) (by exact rfl) ?_
    refine sp_nil ?_
    refine ⟨Kp.of_K (by assumption) (kp_464 _), ?_⟩
    show N _ _ (call _ [_, _, _] _) _ _
    refine ct_Prepend FL hw (by assumption) (R.deep.le (by omega)) B hs h0 h1 fun ba hd ma' buf' s₂ S₂ B₂ => ?_
    refine ⟨(by intro _ h; cases h), ?_⟩
    show N _ _ _ _ _
    refine n_cons ?_
    refine n_expr ?_
    refine e_meth ?_
    refine r_loc (by assumption) (by exact rfl) ?_
    refine m_Slot (by assumption) ?_
    refine cw1 ?_
    refine sp_cons ?_
    refine r_loc (by assumption) (by exact rfl) ?_
    refine sp_nil ?_
    refine ⟨Kp.of_K (by assumption) (kp_433 _), ?_⟩
    show N _ _ (call _ [_, _] _) _ _
    refine ct_Slot (r := r.at ba hd ma') (by assumption) (R.deep.le (by omega)) B₂.ok X hc hn hi' hz fun t o' s₃ S₃ X₃ => ?_
    refine ⟨(by intro _ h; cases h), ?_⟩
    show N _ _ _ _ _
    refine n_nil ?_
    show N _ _ _ _ _
    refine n_nil ?_
    refine Back.mk (by assumption) (fun S' => ?_)
    exact hN hxd _ _ _ _ _ _ _ S' B₂ X₃
end

end Mine

end
-- PC92
section
open PySem PySem.W PySem.Calls PyProof.Rows
set_option maxRecDepth 100000
set_option linter.unusedVariables false
set_option linter.deprecated false
namespace Mine
section
variable {y : Cy} {A : Around} {s : Shared} {L b st F d : Addr} {m : Str → Option Value} {l k : List (Addr × Obj)} {r : Raw} {Q : Value → Shared → Prop} {w : Nat} {lo hi : Int} {buf out : List UInt8} {room ma : Nat}
/-- what Finish without a name lays: the filling, the way to the root -/
def finO (ma root : Nat) (out : List UInt8) : List UInt8 := let o := prepO 4 0 (prepO ma 4 out); le 4 (o.length - root + 4 : Nat) ++ o
def finR (ma : Nat) (out : List UInt8) (room : Nat) : Nat := prepR 4 0 (prepO ma 4 out) (prepR ma 4 out room)
theorem ct_FinishP {root : Nat} {tr : Tok} (S : St y.cx L m ((b, r.obj) :: (r.ba, baObj buf) :: l) k s) (R : Rm A 5) (B : Bd r buf out room ma) (hs : out.length ≤ 2000000) (hw : Width ma) (hr : root ≤ out.length)
    (h : ∀ ba hd ma' buf' v t s', St y.cx L m ((b, { r.at ba hd ma' with fin := true }.obj) :: (ba, baObj buf') :: l) k s' → Bd { r.at ba hd ma' with fin := true } buf' (finO ma root out) (finR ma out room) (max ma 4) → Q (.int v t) s') :
    N y.cx A (call (.ref 441) [.ref b, .int root tr, .bool false] [("file_identifier", .none)]) Q s := by
  have hl := prepO_len (a := 4) (out := out) hw
  have hl2 : out.length ≤ (prepO ma 4 out).length := by simp [prepO]
  refine p_call (binds := [("self", .ref b), ("rootTable", .int root tr), ("sizePrefix", .bool false), ("file_identifier", .none)]) S (by rfl) (by rfl) (Rm.depth R) (binds_K (K := (hd.heap_39 _)) (St.X S) rfl rfl rfl rfl rfl) (locs rfl) (fun Lx oLx s₁ S₁ => ?_) (by decide) rfl rfl rfl
  refine n_cons ?_
  refine n_expr ?_
  refine e_call ?_
  refine p_glob (by assumption) (gl_enforce_number _) ?_ rfl rfl
  refine cw1 ?_
  refine sp_cons ?_
  refine r_loc (by assumption) (by exact rfl) ?_
  refine sp_cons ?_
  refine p_glob (by assumption) (gl_UOffsetTFlags _) ?_ rfl rfl
  refine sp_nil ?_
  refine ⟨Kp.of_K (by assumption) (kp_184 _), ?_⟩
  show N _ _ (call _ [_, _] _) _ _
  refine ct_enf fl_UOffsetTFlags (by assumption) (R.deep.le (by omega)) (by omega) (by omega) ?_
  intro _
  intro _
  refine ⟨(by intro _ h; cases h), ?_⟩
  show N _ _ _ _ _
  refine n_cons ?_
  refine n_assign ?_
  refine e_attr ?_
  refine p_glob (by assumption) (gl_UOffsetTFlags _) ?_ rfl rfl
  (refine a_163_bytewidth (by assumption) ?_; intro _ _)
  (refine r_st (by assumption) ?_; intro _ _)
  show N _ _ _ _ _
  refine n_cons ?_
  refine n_if ?_
  refine t_cmp ?_
  refine r_loc (by assumption) (by exact rfl) ?_
  refine r_cnone ?_
  refine c_isnot (by rfl) ?_
  refine tr_bool ?_
  refine   g_no     (by       first       | rfl       | assumption)     ?_
  refine n_nil ?_
  show N _ _ _ _ _
  refine n_cons ?_
  refine n_if ?_
  refine t_plain ?_
  refine r_loc (by assumption) (by exact rfl) ?_
  refine tr_bool ?_
  refine   g_no     (by       first       | rfl       | assumption)     ?_
  refine n_nil ?_
  show N _ _ _ _ _
  refine n_cons ?_
  refine n_expr ?_
  refine e_meth ?_
  refine r_loc (by assumption) (by exact rfl) ?_
  refine m_Prep (by assumption) ?_
  refine cw1 ?_
  refine sp_cons ?_
  refine e_attr ?_
  refine r_loc (by assumption) (by exact rfl) ?_
  (refine g_minalign (by assumption) ?_; intro _ _)
  refine sp_cons ?_
  refine r_loc (by assumption) (by exact rfl) ?_
  refine sp_nil ?_
  refine ⟨Kp.of_K (by assumption) (kp_355 _), ?_⟩
  show N _ _ (call _ [_, _, _] _) _ _
  have hma := B.ma
  rw [hma]
  refine cp_Prep (w := ma) (a := 4) (by assumption) (R.deep.le (by omega)) B hw (by omega) fun ba hd ma' buf' s₂ S₂ B₂ => ?_
  refine ⟨(by intro _ h; cases h), ?_⟩
  show N _ _ _ _ _
  refine n_cons ?_
  refine n_if ?_
  refine t_cmp ?_
  refine r_loc (by assumption) (by exact rfl) ?_
  refine r_cnone ?_
  refine c_isnot (by rfl) ?_
  refine tr_bool ?_
  refine   g_no     (by       first       | rfl       | assumption)     ?_
  refine n_nil ?_
  show N _ _ _ _ _
  refine n_cons ?_
  refine n_expr ?_
  refine e_meth ?_
  refine r_loc (by assumption) (by exact rfl) ?_
  refine m_PrependUOffsetTRelative (by assumption) ?_
  refine cw1 ?_
  refine sp_cons ?_
  refine r_loc (by assumption) (by exact rfl) ?_
  refine sp_nil ?_
  refine ⟨Kp.of_K (by assumption) (kp_369 _), ?_⟩
  show N _ _ (call _ [_, _] _) _ _
  refine ct_RelU (n := root) (by assumption) (R.deep.le (by omega)) B₂ (by omega) (by omega) fun ba hd ma' buf' s₃ S₃ B₃ => ?_
  refine ⟨(by intro _ h; cases h), ?_⟩
  show N _ _ _ _ _
  refine n_cons ?_
  refine n_if ?_
  refine t_plain ?_
  refine r_loc (by assumption) (by exact rfl) ?_
  refine tr_bool ?_
  refine   g_no     (by       first       | rfl       | assumption)     ?_
  refine n_nil ?_
  show N _ _ _ _ _
  refine n_cons ?_
  refine n_setattr ?_
  refine r_cbool ?_
  refine r_loc (by assumption) (by exact rfl) ?_
  (refine s_finished (by assumption) ?_; intro _ _)
  show N _ _ _ _ _
  refine n_cons ?_
  refine n_ret ?_
  refine e_attr ?_
  refine r_loc (by assumption) (by exact rfl) ?_
  (refine g_head (by assumption) ?_; intro _ _)
  refine Back.mk (by assumption) (fun S' => ?_)
  rw [Nat.max_self] at B₃
  exact h _ _ _ _ _ _ _ S' ⟨B₃.ok, B₃.ma, B₃.rm⟩
theorem ct_Finish {root : Nat} {tr : Tok} (S : St y.cx L m ((b, r.obj) :: (r.ba, baObj buf) :: l) k s) (R : Rm A 6) (B : Bd r buf out room ma) (hs : out.length ≤ 2000000) (hw : Width ma) (hr : root ≤ out.length)
    (h : ∀ ba hd ma' buf' v t s', St y.cx L m ((b, { r.at ba hd ma' with fin := true }.obj) :: (ba, baObj buf') :: l) k s' → Bd { r.at ba hd ma' with fin := true } buf' (finO ma root out) (finR ma out room) (max ma 4) → Q (.int v t) s') :
    N y.cx A (call (.ref 449) [.ref b, .int root tr]) Q s := by
  refine p_call (binds := [("self", .ref b), ("rootTable", .int root tr), ("file_identifier", .none)]) S (by rfl) (by rfl) (Rm.depth R) (binds_K (K := (hd.heap_39 _)) (St.X S) rfl rfl rfl rfl rfl) (locs rfl) (fun Lx oLx s₁ S₁ => ?_) (by decide) rfl rfl rfl
  refine n_cons ?_
  refine n_ret ?_
  refine e_meth ?_
  refine r_loc (by assumption) (by exact rfl) ?_
  refine m__Builder__Finish (by assumption) ?_
  walk_at "n_leaf"
  refine sp_cons ?_
  refine r_loc (by assumption) (by exact rfl) ?_
  refine sp_cons ?_
  refine r_cbool ?_
  refine sp_nil ?_
  walk_at "n_leaf"
  refine r_loc (by assumption) (by exact rfl) ?_
  walk_at "n_leaf"
  refine ⟨Kp.of_K (by assumption) (kp_441 _), ?_⟩
  show N _ _ (call _ [_, _, _] _) _ _
  refine ct_FinishP (root := root) (by assumption) (R.deep.le (by omega)) B hs hw hr fun ba hd ma' buf' v t s₂ S₂ B₂ => ?_
  skip
  refine Back.mk (by assumption) (fun S' => ?_)
  exact h _ _ _ _ _ _ _ S' B₂
/-- a slot set in an instance half made -/
theorem p_set0 {x dx p i : Nat} {name : Str} {v : Value} {sl sl' : Array (Option Value)} {Q : Unit → Shared → Prop} (S : St y.cx L m ((x, (⟨.ref 671, some dx, .plain, sl⟩ : Obj)) :: l) k s) (ha : findIn (hd.heap_39 y.w.params) (.ref 671) name = some (some (.ref p))) (ht : typeIn (hd.heap_39 y.w.params) (.ref p) = some (.type "member_descriptor")) (hp : slotIn (hd.heap_39 y.w.params) p 671 = some i) (hz : i < 1000)
    (e : (sl ++ Array.replicate (i + 1 - sl.size) none).setIfInBounds i (some v) = sl')
    (h : ∀ s', St y.cx L m ((x, (⟨.ref 671, some dx, .plain, sl'⟩ : Obj)) :: l) k s' → Q () s') : N y.cx A (setAttr (.ref x) name v) Q s :=
  b_set S (fa _).sa (fa _).po (md_tr ha ht (fa _).mds) ht hp hz e h
theorem ct_Init {n : Nat} {t : Tok} {x dx : Addr} {Q : Value → Shared → Prop} (S : St y.cx L m ((x, instObj 671 dx) :: l) k s) (R : Rm A 2) (hn : n ≤ 1000000)
    (h : ∀ ba vt t1 t2 s', (vt == sysModules) = false → St y.cx L m ((x, (Raw.mk dx ba none false ((n : Int), t1) (1, t2) false none none none vt).obj) :: (ba, baObj (List.replicate n 0)) :: (vt, dict0) :: l) k s' → Q .none s') :
    N y.cx A (call (.ref 285) [.ref x, .int n t]) Q s := by
  refine p_call (binds := [("self", .ref x), ("initialSize", .int n t)]) S (by rfl) (by rfl) (Rm.depth R) (binds_K (K := (hd.heap_39 _)) (St.X S) rfl rfl rfl rfl rfl) (locs rfl) (fun Lx oLx s₁ S₁ => ?_) (by decide) rfl rfl rfl
  refine n_cons ?_
  refine n_if ?_
  refine t_not ?_
  refine t_chain2 ?_
  (refine r_cint (by assumption) ?_; intro _ _ _)
  refine r_loc (by assumption) (by exact rfl) ?_
  refine c_le ?_
  refine tr_bool ?_
  refine   g_yes     (by       first       | rfl       | assumption)     ?_
  refine e_attr ?_
  refine p_glob (by assumption) (gl_Builder _) ?_ rfl rfl
  (refine a_671_MAX_BUFFER_SIZE (by assumption) ?_; intro _ _)
  refine c_le ?_
  refine tr_bool ?_
  refine g_no (by simp; omega) ?_
  refine n_nil ?_
  show N _ _ _ _ _
  refine n_cons ?_
  refine n_setattr ?_
  refine e_call ?_
  refine p_blt (by assumption) (gb_bytearray _) (by boot_by_name) (by decide) ?_ rfl rfl
  refine cw1 ?_
  refine sp_cons ?_
  refine r_loc (by assumption) (by exact rfl) ?_
  refine sp_nil ?_
  refine ⟨Kp.type, ?_⟩
  show N _ _ (call _ [_] _) _ _
  refine n_ba_int (by assumption) R.g (by omega) (by omega) fun ba s₂ S₂ => ?_
  rw [Int.toNat_natCast] at S₂
  have S₂ := S₂.swap
  show N _ _ _ _ _
  refine r_loc (by assumption) (by exact rfl) ?_
  refine p_set0 (sl' := #[some (.ref ba)]) (by assumption) (fa _).at_Bytes (fa _).ty_Bytes (fa _).sl_Bytes (by decide) rfl ?_
  intro _ _
  show N _ _ _ _ _
  refine n_cons ?_
  refine n_setattr ?_
  refine r_cnone ?_
  refine r_loc (by assumption) (by exact rfl) ?_
  refine p_set0 (sl' := #[some (.ref ba), some .none]) (by assumption) (fa _).at_current_vtable (fa _).ty_current_vtable (fa _).sl_current_vtable (by decide) rfl ?_
  intro _ _
  show N _ _ _ _ _
  refine n_cons ?_
  refine n_setattr ?_
  refine e_meth ?_
  refine p_glob (by assumption) (gl_UOffsetTFlags _) ?_ rfl rfl
  (refine y_163 (by assumption) ?_; intro _ _)
  refine cw1 ?_
  refine sp_cons ?_
  refine r_loc (by assumption) (by exact rfl) ?_
  refine sp_nil ?_
  refine ⟨Kp.type, ?_⟩
  show N _ _ (call _ [_] _) _ _
  walk_at "n_leafcall"
  refine r_loc (by assumption) (by exact rfl) ?_
  refine p_set0 (sl' := #[some (.ref ba), some .none, none, none, _]) (by assumption) (fa _).at_head (fa _).ty_head (fa _).sl_head (by decide) rfl ?_
  intro _ _
  show N _ _ _ _ _
  refine n_cons ?_
  refine n_setattr ?_
  (refine r_cint (by assumption) ?_; intro _ _ _)
  refine r_loc (by assumption) (by exact rfl) ?_
  refine p_set0 (sl' := #[some (.ref ba), some .none, none, none, _, _]) (by assumption) (fa _).at_minalign (fa _).ty_minalign (fa _).sl_minalign (by decide) rfl ?_
  intro _ _
  show N _ _ _ _ _
  refine n_cons ?_
  refine n_setattr ?_
  refine r_cnone ?_
  refine r_loc (by assumption) (by exact rfl) ?_
  refine p_set0 (sl' := #[some (.ref ba), some .none, none, none, _, _, none, some .none]) (by assumption) (fa _).at_objectEnd (fa _).ty_objectEnd (fa _).sl_objectEnd (by decide) rfl ?_
  intro _ _
  show N _ _ _ _ _
  refine n_cons ?_
  refine n_setattr ?_
  refine k_newdict (by assumption) fun vt s₃ hvt S₃ => ?_
  have S₃ := S₃.under
  show N _ _ _ _ _
  refine r_loc (by assumption) (by exact rfl) ?_
  refine p_set0 (sl' := #[some (.ref ba), some .none, none, none, _, _, none, some .none, none, none, some (.ref vt)]) (by assumption) (fa _).at_vtables (fa _).ty_vtables (fa _).sl_vtables (by decide) rfl ?_
  intro _ _
  show N _ _ _ _ _
  refine n_cons ?_
  refine n_setattr ?_
  refine r_cbool ?_
  refine r_loc (by assumption) (by exact rfl) ?_
  refine p_set0 (sl' := #[some (.ref ba), some .none, none, none, _, _, some (.bool false), some .none, none, none, some (.ref vt)]) (by assumption) (fa _).at_nested (fa _).ty_nested (fa _).sl_nested (by decide) rfl ?_
  intro _ _
  show N _ _ _ _ _
  refine n_cons ?_
  refine n_setattr ?_
  refine r_cbool ?_
  refine r_loc (by assumption) (by exact rfl) ?_
  refine p_set0 (sl' := #[some (.ref ba), some .none, none, some (.bool false), _, _, some (.bool false), some .none, none, none, some (.ref vt)]) (by assumption) (fa _).at_forceDefaults (fa _).ty_forceDefaults (fa _).sl_forceDefaults (by decide) rfl ?_
  intro _ _
  show N _ _ _ _ _
  refine n_cons ?_
  refine n_setattr ?_
  refine r_cnone ?_
  refine r_loc (by assumption) (by exact rfl) ?_
  refine p_set0 (sl' := #[some (.ref ba), some .none, none, some (.bool false), _, _, some (.bool false), some .none, some .none, none, some (.ref vt)]) (by assumption) (fa _).at_sharedStrings (fa _).ty_sharedStrings (fa _).sl_sharedStrings (by decide) rfl ?_
  intro _ _
  show N _ _ _ _ _
  refine n_cons ?_
  refine n_setattr ?_
  refine r_cbool ?_
  refine r_loc (by assumption) (by exact rfl) ?_
  refine p_set0 (sl' := #[some (.ref ba), some .none, some (.bool false), some (.bool false), _, _, some (.bool false), some .none, some .none, none, some (.ref vt)]) (by assumption) (fa _).at_finished (fa _).ty_finished (fa _).sl_finished (by decide) rfl ?_
  intro _ _
  show N _ _ _ _ _
  refine n_nil ?_
  refine Back.mk (by assumption) (fun S' => ?_)
  exact h _ _ _ _ _ hvt S'
end
section
variable {y : Cy} {A : Around} {s : Shared} {L b st F d : Addr} {m : Str → Option Value} {l k : List (Addr × Obj)} {Q : Value → Shared → Prop}
/-- a builder made -/
theorem ct_Builder {n : Nat} {t : Tok} (S : St y.cx L m l k s) (R : Rm A 4) (hn : n ≤ 1000000)
    (h : ∀ b r s', St y.cx L m ((b, r.obj) :: (r.ba, baObj (List.replicate n 0)) :: (r.vt, dict0) :: l) k s' → Bd r (List.replicate n 0) [] n 1 → (r.vt == sysModules) = false → r.nested = false → r.ss = none → Q (.ref b) s') :
    N y.cx A (call (.ref 671) [.int n t]) Q s := by
  refine n_make S (fa _).mkb (fa _).ini rfl fun x dx s₁ S₁ => ?_
  refine ct_Init S₁ ((R.typ mk_w mk_u mk_g).le (by omega)) hn fun ba vt t1 t2 s₂ hvt S₂ => ?_
  refine ⟨rfl, h _ _ _ S₂ ⟨⟨by simp, by omega, by simp, by simp, by simp⟩, rfl, by omega⟩ hvt rfl rfl⟩
end

end Mine

end
-- PD2
section
open PySem PySem.W PySem.Calls PyProof.Rows
set_option maxRecDepth 100000
set_option linter.unusedVariables false
set_option linter.deprecated false
namespace Mine
section
variable {y : Cy} {A : Around} {s : Shared} {L b st F d : Addr} {m : Str → Option Value} {l k : List (Addr × Obj)} {r : Raw} {Q : Value → Shared → Prop} {w : Nat} {lo hi : Int} {buf out : List UInt8} {room ma : Nat}
theorem ct_PrependUint16 {n : Int} {t : Tok} (S : St y.cx L m ((b, r.obj) :: (r.ba, baObj buf) :: l) k s) (R : Rm A 4) (B : Bd r buf out room ma) (hs : out.length ≤ 3000000) (h0 : 0 ≤ n) (h1 : n ≤ 65535)
    (h : ∀ ba hd ma' buf' s', St y.cx L m ((b, (r.at ba hd ma').obj) :: (ba, baObj buf') :: l) k s' → Bd (r.at ba hd ma') buf' (le 2 n ++ prepO 2 0 out) (prepR 2 0 out room) (max ma 2) → Q .none s') :
    N y.cx A (call (.ref 583) [.ref b, .int n t]) Q s := by
  refine p_call (binds := [("self", .ref b), ("x", .int n t)]) S (by rfl) (by rfl) (Rm.depth R) (BindsTo.of_eq rfl) (locs rfl) (fun Lx oLx s₁ S₁ => ?_) (by decide) rfl rfl rfl
  refine n_cons ?_
  refine n_expr ?_
  refine e_meth ?_
  refine r_loc (by assumption) (by exact rfl) ?_
  refine m_Prepend (by assumption) ?_
  refine cw1 ?_
  refine sp_cons ?_
  refine p_glob (by assumption) (gl_Uint16Flags _) ?_ rfl rfl
  refine sp_cons ?_
  refine r_loc (by assumption) (by exact rfl) ?_
  refine sp_nil ?_
  refine ⟨Kp.of_K (by assumption) (kp_464 _), ?_⟩
  show N _ _ (call _ [_, _, _] _) _ _
  refine ct_Prepend fl_Uint16Flags (.inr (.inl rfl)) (by assumption) R.deep B hs h0 h1 fun ba hd ma' buf' s₂ S₂ B₂ => ?_
  refine ⟨(by intro _ h; cases h), ?_⟩
  show N _ _ _ _ _
  refine n_nil ?_
  refine Back.mk (by assumption) (fun S' => ?_)
  exact h _ _ _ _ _ S' B₂
theorem ct_PrependUint64 {n : Int} {t : Tok} (S : St y.cx L m ((b, r.obj) :: (r.ba, baObj buf) :: l) k s) (R : Rm A 4) (B : Bd r buf out room ma) (hs : out.length ≤ 3000000) (h0 : 0 ≤ n) (h1 : n ≤ 18446744073709551615)
    (h : ∀ ba hd ma' buf' s', St y.cx L m ((b, (r.at ba hd ma').obj) :: (ba, baObj buf') :: l) k s' → Bd (r.at ba hd ma') buf' (le 8 n ++ prepO 8 0 out) (prepR 8 0 out room) (max ma 8) → Q .none s') :
    N y.cx A (call (.ref 597) [.ref b, .int n t]) Q s := by
  refine p_call (binds := [("self", .ref b), ("x", .int n t)]) S (by rfl) (by rfl) (Rm.depth R) (BindsTo.of_eq rfl) (locs rfl) (fun Lx oLx s₁ S₁ => ?_) (by decide) rfl rfl rfl
  refine n_cons ?_
  refine n_expr ?_
  refine e_meth ?_
  refine r_loc (by assumption) (by exact rfl) ?_
  refine m_Prepend (by assumption) ?_
  refine cw1 ?_
  refine sp_cons ?_
  refine p_glob (by assumption) (gl_Uint64Flags _) ?_ rfl rfl
  refine sp_cons ?_
  refine r_loc (by assumption) (by exact rfl) ?_
  refine sp_nil ?_
  refine ⟨Kp.of_K (by assumption) (kp_464 _), ?_⟩
  show N _ _ (call _ [_, _, _] _) _ _
  refine ct_Prepend fl_Uint64Flags (.inr (.inr (.inr rfl))) (by assumption) R.deep B hs h0 h1 fun ba hd ma' buf' s₂ S₂ B₂ => ?_
  refine ⟨(by intro _ h; cases h), ?_⟩
  show N _ _ _ _ _
  refine n_nil ?_
  refine Back.mk (by assumption) (fun S' => ?_)
  exact h _ _ _ _ _ S' B₂
theorem ct_PrependInt64 {n : Int} {t : Tok} (S : St y.cx L m ((b, r.obj) :: (r.ba, baObj buf) :: l) k s) (R : Rm A 4) (B : Bd r buf out room ma) (hs : out.length ≤ 3000000) (h0 : (-9223372036854775808) ≤ n) (h1 : n ≤ 9223372036854775807)
    (h : ∀ ba hd ma' buf' s', St y.cx L m ((b, (r.at ba hd ma').obj) :: (ba, baObj buf') :: l) k s' → Bd (r.at ba hd ma') buf' (le 8 n ++ prepO 8 0 out) (prepR 8 0 out room) (max ma 8) → Q .none s') :
    N y.cx A (call (.ref 625) [.ref b, .int n t]) Q s := by
  refine p_call (binds := [("self", .ref b), ("x", .int n t)]) S (by rfl) (by rfl) (Rm.depth R) (BindsTo.of_eq rfl) (locs rfl) (fun Lx oLx s₁ S₁ => ?_) (by decide) rfl rfl rfl
  refine n_cons ?_
  refine n_expr ?_
  refine e_meth ?_
  refine r_loc (by assumption) (by exact rfl) ?_
  refine m_Prepend (by assumption) ?_
  refine cw1 ?_
  refine sp_cons ?_
  refine p_glob (by assumption) (gl_Int64Flags _) ?_ rfl rfl
  refine sp_cons ?_
  refine r_loc (by assumption) (by exact rfl) ?_
  refine sp_nil ?_
  refine ⟨Kp.of_K (by assumption) (kp_464 _), ?_⟩
  show N _ _ (call _ [_, _, _] _) _ _
  refine ct_Prepend fl_Int64Flags (.inr (.inr (.inr rfl))) (by assumption) R.deep B hs h0 h1 fun ba hd ma' buf' s₂ S₂ B₂ => ?_
  refine ⟨(by intro _ h; cases h), ?_⟩
  show N _ _ _ _ _
  refine n_nil ?_
  refine Back.mk (by assumption) (fun S' => ?_)
  exact h _ _ _ _ _ S' B₂
theorem ct_PrependInt32Slot {i : Nat} {x dd : Int} {ti tx td : Tok} {ca : Addr} {vs : List Value} {o : Obj} (S : St y.cx L m ((b, r.obj) :: (r.ba, baObj buf) :: (ca, o) :: l) k s) (R : Rm A 5) (B : Bd r buf out room ma) (hs : out.length ≤ 3000000)
    (X : LsO o vs) (hc : r.cv = some ca) (hn : r.nested = true) (hi' : i < vs.length) (hz : vs.length ≤ 1000) (h0 : (-2147483648) ≤ x) (h1 : x ≤ 2147483647) (d0 : (-2147483648) ≤ dd) (d1 : dd ≤ 2147483647)
    (hE : x = dd → ∀ s', St y.cx L m ((b, r.obj) :: (r.ba, baObj buf) :: (ca, o) :: l) k s' → Q .none s')
    (hN : x ≠ dd → ∀ ba hd ma' buf' t o' s', St y.cx L m ((b, (r.at ba hd ma').obj) :: (ba, baObj buf') :: (ca, o') :: l) k s' → Bd (r.at ba hd ma') buf' (le 4 x ++ prepO 4 0 out) (prepR 4 0 out room) (max ma 4) →
      LsO o' (vs.set i (.int (((le 4 x ++ prepO 4 0 out).length : Nat) : Int) t)) → Q .none s') :
    N y.cx A (call (.ref 534) [.ref b, .int i ti, .int x tx, .int dd td]) Q s := by
  refine p_callV (binds := fun D => [("self", .ref b), ("args", .ref D)]) (vs := [.int i ti, .int x tx, .int dd td]) S (by rfl) (by rfl) (Rm.depth R) (by rfl) (fun _ => rfl) (fun _ => locs rfl) (fun D Lx oLx s₁ S₁ => ?_) (by decide) rfl rfl rfl
  have S₁ := S₁.down3
  show N _ _ _ _ _
  refine n_cons ?_
  refine n_expr ?_
  refine e_methS ?_
  refine r_loc (by assumption) (by exact rfl) ?_
  refine bm_PrependSlot (by assumption) fun q s₂ S₂ => ?_
  have S₂ := S₂.down3
  refine cwM (q := q) (f := 471) (self := .ref b) rfl ?_
  refine sp_cons ?_
  refine p_glob (by assumption) (gl_Int32Flags _) ?_ rfl rfl
  walk_at "n_leaf"
  refine r_loc (by assumption) (by exact rfl) ?_
  refine st_tup (by assumption) (by walk_at "in_l6") (by simp) fun s₂ S₂ => ?_
  refine sp_nil ?_
  refine ⟨⟨S₂.get (by walk_at "in_l6"), S₂.X⟩, ?_⟩
  refine n_callM (by assumption) (by walk_at "in_l6") ?_
  refine cn_PrependSlot fl_Int32Flags (.inr (.inr (.inl rfl))) (by assumption) (R.deep.le (by omega)) B hs X hc hn hi' hz h0 h1 d0 d1 ?_ ?_
  · intro hx s₃ S₃
    refine ⟨(by intro _ h; cases h), ?_⟩
    show N _ _ _ _ _
    refine n_nil ?_
    refine Back.mk (by assumption) (fun S' => ?_)
    exact hE hx _ (S'.sub (.cons_cons _ (.cons_cons _ (.cons_cons _ (.cons _ (.cons _ (.refl _)))))))
  · intro hx ba hd ma' buf' t o' s₃ S₃ B₃ X₃
    refine ⟨(by intro _ h; cases h), ?_⟩
    show N _ _ _ _ _
    refine n_nil ?_
    refine Back.mk (by assumption) (fun S' => ?_)
    exact hN hx _ _ _ _ _ _ _ (S'.sub (.cons_cons _ (.cons_cons _ (.cons_cons _ (.cons _ (.cons _ (.refl _))))))) B₃ X₃
end

end Mine

end
-- PE2
section
open PySem PySem.W PySem.Calls PyProof.Rows
set_option maxRecDepth 100000
set_option linter.unusedVariables false
set_option linter.deprecated false
namespace Mine
section
variable {y : Cy} {A : Around} {s : Shared} {L b st F d : Addr} {m : Str → Option Value} {l k : List (Addr × Obj)} {r : Raw} {Q : Value → Shared → Prop} {w : Nat} {lo hi : Int} {buf out : List UInt8} {room ma : Nat}
/-- what CreateByteVector lays -/
def bvO (x out : List UInt8) : List UInt8 := le 4 x.length ++ (x ++ prepO 4 x.length out)
theorem s_forceDefaults {Q : Unit → Shared → Prop} (S : St y.cx L m ((b, r.obj) :: l) k s) (h : ∀ s', St y.cx L m ((b, r.obj) :: l) k s' → Q () s') : N y.cx A (setAttr (.ref b) "forceDefaults" (.bool false)) Q s :=
  p_set (r' := r) S (fa _).at_forceDefaults (fa _).ty_forceDefaults (fa _).sl_forceDefaults (by decide) rfl h
theorem ct_CreateByteVector {x : List UInt8} {t : Tok} (S : St y.cx L m ((b, r.obj) :: (r.ba, baObj buf) :: l) k s) (R : Rm A 4) (B : Bd r buf out room ma) (hs : out.length ≤ 3000000) (hx : x.length ≤ 500000) (hnn : r.nested = false)
    (h : ∀ ba hd ma' buf' t s', St y.cx L m ((b, ({ r with vne := some none }.at ba hd ma').obj) :: (ba, baObj buf') :: l) k s' →
      Bd ({ r with vne := some none }.at ba hd ma') buf' (bvO x out) (prepR 4 x.length out room) (max ma 4) → Q (.int ((bvO x out).length : Nat) t) s') :
    N y.cx A (call (.ref 405) [.ref b, .bytes x.toArray t]) Q s := by
  have hW : Width 4 := .inr (.inr (.inl rfl))
  refine p_call (binds := [("self", .ref b), ("x", .bytes x.toArray t)]) S (by rfl) (by rfl) (Rm.depth R) (BindsTo.of_eq rfl) (locs rfl) (fun Lx oLx s₁ S₁ => ?_) (by decide) rfl rfl rfl
  refine n_cons ?_
  refine n_expr ?_
  refine e_meth ?_
  refine r_loc (by assumption) (by exact rfl) ?_
  refine m_assertNotNested (by assumption) ?_
  refine cw0 ?_ ?_
  exact Kp.of_K (by assumption) (kp_419 _)
  show N _ _ (call _ [_] _) _ _
  refine ct_assertNotNested (by assumption) (R.deep.le (by omega)) hnn ?_
  intro _
  intro _
  refine ⟨(by intro _ h; cases h), ?_⟩
  show N _ _ _ _ _
  refine n_cons ?_
  refine n_setattr ?_
  refine r_cbool ?_
  refine r_loc (by assumption) (by exact rfl) ?_
  (refine s_nested (by assumption) ?_; intro _ _)
  show N _ _ _ _ _
  refine n_cons ?_
  refine n_if ?_
  refine t_not ?_
  refine t_plain ?_
  refine e_call ?_
  refine p_blt (by assumption) (gb_isinstance _) (by boot_by_name) (by decide) ?_ rfl rfl
  refine cw1 ?_
  refine sp_cons ?_
  refine r_loc (by assumption) (by exact rfl) ?_
  refine sp_cons ?_
  refine p_glob (by assumption) (gl_binary_types _) ?_ rfl rfl
  refine sp_nil ?_
  refine ⟨Kp.builtin, ?_⟩
  show N _ _ (call _ [_, _] _) _ _
  walk_at "n_leafcall"
  refine tr_bool ?_
  refine   g_no     (by       first       | rfl       | assumption)     ?_
  refine n_nil ?_
  show N _ _ _ _ _
  refine n_cons ?_
  refine n_assign ?_
  refine e_call ?_
  refine p_blt (by assumption) (gb_len _) (by boot_by_name) (by decide) ?_ rfl rfl
  refine cw1 ?_
  refine sp_cons ?_
  refine r_loc (by assumption) (by exact rfl) ?_
  refine sp_nil ?_
  refine ⟨Kp.builtin, ?_⟩
  show N _ _ (call _ [_] _) _ _
  refine k_leny (by assumption) (by omega) ?_
  intro _ _ _
  (refine r_st (by assumption) ?_; intro _ _)
  show N _ _ _ _ _
  refine n_cons ?_
  refine n_expr ?_
  refine e_meth ?_
  refine r_loc (by assumption) (by exact rfl) ?_
  refine m_Prep (by assumption) ?_
  refine cw1 ?_
  refine sp_cons ?_
  refine e_attr ?_
  refine p_glob (by assumption) (gl_UOffsetTFlags _) ?_ rfl rfl
  (refine a_163_bytewidth (by assumption) ?_; intro _ _)
  refine sp_cons ?_
  refine e_bin ?_
  refine r_loc (by assumption) (by exact rfl) ?_
  refine e_attr ?_
  refine p_glob (by assumption) (gl_Uint8Flags _) ?_ rfl rfl
  (refine a_67_bytewidth (by assumption) ?_; intro _ _)
  refine i_mul (by assumption) (mulOk (by decide)) ?_
  intro _
  intro _
  intro _
  refine sp_nil ?_
  refine ⟨Kp.of_K (by assumption) (kp_355 _), ?_⟩
  show N _ _ (call _ [_, _, _] _) _ _
  rw [Int.mul_one]
  refine cp_Prep (w := 4) (r := { r with nested := true }) (by assumption) (R.deep.le (by omega)) ⟨B.ok, B.ma, B.rm⟩ hW (by omega) fun ba hd ma' buf' s₂ S₂ B₂ => ?_
  have hg := prepR_ge (w := 4) (a := x.length) (out := out) (room := room)
  obtain ⟨b1, b2, b3, b4, b5⟩ := id B₂.ok
  have b4 : hd.1 = _ := b4
  refine ⟨(by intro _ h; cases h), ?_⟩
  show N _ _ _ _ _
  refine n_cons ?_
  refine n_assign ?_
  refine e_bin ?_
  refine e_attr ?_
  refine r_loc (by assumption) (by exact rfl) ?_
  (refine g_head (by assumption) ?_; intro _ _)
  refine r_loc (by assumption) (by exact rfl) ?_
  (refine i_sub (by assumption) ?_; intro _ _ _)
  (refine r_st (by assumption) ?_; intro _ _)
  show N _ _ _ _ _
  refine n_cons ?_
  refine n_setattr ?_
  refine r_loc (by assumption) (by exact rfl) ?_
  refine r_loc (by assumption) (by exact rfl) ?_
  (refine s_head (by assumption) ?_; intro _ _)
  show N _ _ _ _ _
  refine n_cons ?_
  refine n_setitem ?_
  refine r_loc (by assumption) (by exact rfl) ?_
  refine e_attr ?_
  refine r_loc (by assumption) (by exact rfl) ?_
  (refine g_Bytes (by assumption) ?_; intro _ _)
  refine e_slice_lu ?_
  refine r_loc (by assumption) (by exact rfl) ?_
  refine e_bin ?_
  refine r_loc (by assumption) (by exact rfl) ?_
  refine r_loc (by assumption) (by exact rfl) ?_
  (refine i_add (by assumption) ?_; intro _ _ _)
  (refine r_slice (by assumption) ?_; intro _ _ _)
  refine put_b R.g (by assumption) (by dsimp only; omega) (by dsimp only) (by dsimp only; omega) (by omega) fun s₄ S₄ => ?_
  have B₄ := B₂.ok.push (x := x) (hd' := hd.1 - x.length) (by omega) rfl
  have hlx : (x ++ prepO 4 x.length out).length = x.length + (prepO 4 x.length out).length := by rw [List.length_append]
  show N _ _ _ _ _
  refine n_cons ?_
  refine n_setattr ?_
  refine r_loc (by assumption) (by exact rfl) ?_
  refine r_loc (by assumption) (by exact rfl) ?_
  (refine s_vectorNumElems (by assumption) ?_; intro _ _)
  show N _ _ _ _ _
  refine n_cons ?_
  refine n_ret ?_
  refine e_meth ?_
  refine r_loc (by assumption) (by exact rfl) ?_
  refine m_EndVector (by assumption) ?_
  refine cw0 ?_ ?_
  exact Kp.of_K (by assumption) (kp_384 _)
  show N _ _ (call _ [_] _) _ _
  rename_i S₅
  refine ct_EndVector (n := x.length) (tn := _) (r := _) S₅ (R.deep.le (by omega)) ⟨B₄, B₂.ma, B₂.rm⟩ (by omega) (by omega) rfl rfl fun hd3 buf3 t3 s₅ S₆ B₅ => ?_
  skip
  refine Back.mk (by assumption) (fun S' => ?_)
  have hnn' : false = r.nested := hnn.symm
  exact h _ _ _ _ _ _ (hnn' ▸ S') (hnn' ▸ B₅)
theorem ct_Clear (S : St y.cx L m ((b, r.obj) :: (r.ba, baObj buf) :: l) k s) (R : Rm A 2) (B : Bd r buf out room ma)
    (h : ∀ r' s', r'.ba = r.ba → St y.cx L m ((b, r'.obj) :: (r'.ba, baObj buf) :: (r'.vt, dict0) :: l) k s' → Bd r' buf [] room 1 → (r'.vt == sysModules) = false → r'.nested = false → Q .none s') :
    N y.cx A (call (.ref 292) [.ref b]) Q s := by
  obtain ⟨b1, b2, b3, b4, b5⟩ := id B.ok
  have b6 := B.rm
  refine p_call (binds := [("self", .ref b)]) S (by rfl) (by rfl) (Rm.depth R) (BindsTo.of_eq rfl) (locs rfl) (fun Lx oLx s₁ S₁ => ?_) (by decide) rfl rfl rfl
  refine n_cons ?_
  refine n_setattr ?_
  refine r_cnone ?_
  refine r_loc (by assumption) (by exact rfl) ?_
  (refine s_current_vtable0 (by assumption) ?_; intro _ _)
  show N _ _ _ _ _
  refine n_cons ?_
  refine n_setattr ?_
  refine e_call ?_
  refine p_blt (by assumption) (gb_len _) (by boot_by_name) (by decide) ?_ rfl rfl
  refine cw1 ?_
  refine sp_cons ?_
  refine e_attr ?_
  refine r_loc (by assumption) (by exact rfl) ?_
  (refine g_Bytes (by assumption) ?_; intro _ _)
  refine sp_nil ?_
  refine ⟨Kp.builtin, ?_⟩
  show N _ _ (call _ [_] _) _ _
  walk_at "n_leafcall"
  refine r_loc (by assumption) (by exact rfl) ?_
  (refine s_head (by assumption) ?_; intro _ _)
  show N _ _ _ _ _
  refine n_cons ?_
  refine n_setattr ?_
  (refine r_cint (by assumption) ?_; intro _ _ _)
  refine r_loc (by assumption) (by exact rfl) ?_
  (refine s_minalign (by assumption) ?_; intro _ _)
  show N _ _ _ _ _
  refine n_cons ?_
  refine n_setattr ?_
  refine r_cnone ?_
  refine r_loc (by assumption) (by exact rfl) ?_
  (refine s_objectEnd0 (by assumption) ?_; intro _ _)
  show N _ _ _ _ _
  refine n_cons ?_
  refine n_setattr ?_
  refine k_newdict (by assumption) fun vt s₃ hvt S₃ => ?_
  have S₃ := S₃.under
  show N _ _ _ _ _
  refine r_loc (by assumption) (by exact rfl) ?_
  (refine s_vtables (by assumption) ?_; intro _ _)
  show N _ _ _ _ _
  refine n_cons ?_
  refine n_setattr ?_
  refine r_cbool ?_
  refine r_loc (by assumption) (by exact rfl) ?_
  (refine s_nested (by assumption) ?_; intro _ _)
  show N _ _ _ _ _
  refine n_cons ?_
  refine n_setattr ?_
  refine r_cbool ?_
  refine r_loc (by assumption) (by exact rfl) ?_
  (refine s_forceDefaults (by assumption) ?_; intro _ _)
  show N _ _ _ _ _
  refine n_cons ?_
  refine n_setattr ?_
  refine r_cnone ?_
  refine r_loc (by assumption) (by exact rfl) ?_
  (refine s_sharedStrings0 (by assumption) ?_; intro _ _)
  show N _ _ _ _ _
  refine n_cons ?_
  refine n_setattr ?_
  refine r_cnone ?_
  refine r_loc (by assumption) (by exact rfl) ?_
  (refine s_vectorNumElems0 (by assumption) ?_; intro _ _)
  show N _ _ _ _ _
  refine n_cons ?_
  refine n_setattr ?_
  refine r_cbool ?_
  refine r_loc (by assumption) (by exact rfl) ?_
  (refine s_finished (by assumption) ?_; intro _ _)
  show N _ _ _ _ _
  refine n_nil ?_
  refine Back.mk (by assumption) (fun S' => ?_)
  refine h _ _ ?_ S' ⟨⟨by omega, b2, by simp, by dsimp only; simp; omega, by simp; omega⟩, rfl, b6⟩ hvt rfl
  rfl
end

end Mine

end
-- PF2
section
open PySem PySem.W PySem.Calls PyProof.Rows
set_option maxRecDepth 100000
set_option linter.unusedVariables false
set_option linter.deprecated false
namespace Mine
end Mine
end
local macro_rules | `(tactic| walk_at "n_leaf") => `(tactic| ((with_reducible show N _ _ (truthy (.int _ _)) _ _); refine k_truthy_int ?_))
section
open PySem PySem.W PySem.Calls PyProof.Rows
set_option maxRecDepth 100000
set_option linter.unusedVariables false
set_option linter.deprecated false
namespace Mine
end Mine
end
local macro_rules | `(tactic| walk_at "n_leaf") => `(tactic| ((with_reducible show N _ _ (assignInOrder (List.map _ (assignEach [] _)) _) _ _); refine ao_nil ?_))
section
open PySem PySem.W PySem.Calls PyProof.Rows
set_option maxRecDepth 100000
set_option linter.unusedVariables false
set_option linter.deprecated false
namespace Mine
end Mine
end
local macro_rules | `(tactic| walk_at "n_leaf") => `(tactic| ((with_reducible show N _ _ (assignInOrder (List.map _ (assignEach (_ :: _) _)) _) _ _); refine ao_name ?_))
section
open PySem PySem.W PySem.Calls PyProof.Rows
set_option maxRecDepth 100000
set_option linter.unusedVariables false
set_option linter.deprecated false
namespace Mine
/-- what the law reckons of one need -/
def needS (w f tk : Nat) (p : Nat × Nat) : Nat × Nat := (p.1 + fillN w (p.1 + f) + tk, growN (p.1 + needN w p.1 f) p.2)
theorem fmod_fill {w o : Nat} (h : 0 < w) : Int.fmod (-(o : Int)) (w : Int) = (fillN w o : Nat) := by
  rw [fillN_cast h, Int.fmod_eq_emod_of_nonneg _ (by omega)]
section
variable {y : Cy} {A : Around} {s : Shared} {L b st F d : Addr} {m : Str → Option Value} {l k : List (Addr × Obj)} {r : Raw} {Q : Value → Shared → Prop} {w : Nat} {lo hi : Int} {buf out : List UInt8} {room ma : Nat}
theorem ct_need {used f tk : Nat} {t1 t2 tw tf tt : Tok} (S : St y.cx L m l k s) (R : Rm A 1) (hm : (st, tup [.int used t1, .int room t2]) ∈ l) (hw : Width w) (hu : used + f ≤ 4000000) (hr : room ≤ 8388608)
    (h : ∀ d t1 t2 s', St y.cx L m ((d, tup [.int ((needS w f tk (used, room)).1 : Nat) t1, .int ((needS w f tk (used, room)).2 : Nat) t2]) :: l) k s' → Q (.ref d) s') :
    N y.cx A (call (.ref 698) [.ref st, .int w tw, .int f tf, .int tk tt]) Q s := by
  have hw0 := hw.pos
  have hfl := fillN_lt (o := used + f) hw0.1
  refine p_call (binds := [("state", .ref st), ("width", .int w tw), ("further", .int f tf), ("taken", .int tk tt)]) S (by rfl) (by rfl) (Rm.depth R) (BindsTo.of_eq rfl) (locs rfl) (fun Lx oLx s₁ S₁ => ?_) (by decide) rfl rfl rfl
  refine n_cons ?_
  refine n_assignT ?_
  refine r_loc (by assumption) (by exact rfl) ?_
  refine as_tup (by assumption) hm R.h fun s₂ S₂ => ?_
  walk_at "n_leaf"
  (refine r_st (by assumption) ?_; intro _ _)
  walk_at "n_leaf"
  (refine r_st (by assumption) ?_; intro _ _)
  walk_at "n_leaf"
  show N _ _ _ _ _
  refine n_cons ?_
  refine n_assign ?_
  refine e_bin ?_
  refine e_un ?_
  refine e_bin ?_
  refine r_loc (by assumption) (by exact rfl) ?_
  refine r_loc (by assumption) (by exact rfl) ?_
  (refine i_add (by assumption) ?_; intro _ _ _)
  (refine i_neg (by assumption) ?_; intro _ _ _)
  refine r_loc (by assumption) (by exact rfl) ?_
  refine i_mod (by assumption) (by omega) ?_
  intro _
  intro _
  intro _
  (refine r_st (by assumption) ?_; intro _ _)
  show N _ _ _ _ _
  refine n_cons ?_
  refine n_while ?_
  have hne : needN w used f = fillN w (used + f) + w + f := rfl
  refine NC.whl_ind (fun n s' => ∃ (m' : Str → Option Value) (rv : Nat) (fv : Int) (a1 a2 a3 : Tok), St y.cx Lx m' l ((L, oLx) :: k) s' ∧ m' "used" = some (.int used t1) ∧ m' "room" = some (.int rv a1) ∧ m' "fill" = some (.int fv a2) ∧
    m' "width" = some (.int w tw) ∧ m' "further" = some (.int f tf) ∧ m' "taken" = some (.int tk tt) ∧ fv = (fillN w (used + f) : Nat) ∧ rv ≤ 8388608 ∧ growN (used + needN w used f) rv = growN (used + needN w used f) room ∧ n = used + needN w used f - rv) ?_ _ _
    ⟨_, room, _, _, _, 0, by assumption, by exact rfl, by exact rfl, by exact rfl, by exact rfl, by exact rfl, by exact rfl, by rw [show -((used : Int) + (f : Int)) = -((used + f : Nat) : Int) by omega, fmod_fill hw0.1], hr, rfl, rfl⟩
  rintro n s₃ ⟨m', rv, fv, a1, a2, a3, S₃, e1, e2, e3, e4, e5, e6, hfv, hrv, hg, hn⟩
  subst hfv
  refine t_cmp ?_
  refine e_bin ?_
  refine r_loc (by assumption) (by exact e2) ?_
  refine r_loc (by assumption) (by exact e1) ?_
  (refine i_sub (by assumption) ?_; intro _ _ _)
  refine e_bin ?_
  refine e_bin ?_
  refine r_loc (by assumption) (by exact e3) ?_
  refine r_loc (by assumption) (by exact e4) ?_
  (refine i_add (by assumption) ?_; intro _ _ _)
  refine r_loc (by assumption) (by exact e5) ?_
  (refine i_add (by assumption) ?_; intro _ _ _)
  refine c_lt ?_
  refine tr_bool ?_
  by_cases hlt : (rv : Int) - used < (fillN w (used + f) : Nat) + w + f
  · refine g_yes (decide_eq_true hlt) ?_
    refine n_cons ?_
    refine n_assign ?_
    refine e_or2 ?_
    refine e_bin ?_
    (refine r_cint (by assumption) ?_; intro _ _ _)
    refine r_loc (by assumption) (by exact e2) ?_
    refine i_mul (by assumption) (mulOk (by omega)) ?_
    intro _
    intro _
    intro _
    walk_at "n_leaf"
    by_cases h0 : rv = 0
    · refine g_no (by simp [h0]) ?_
      (refine r_cint (by assumption) ?_; intro _ _ _)
      (refine r_st (by assumption) ?_; intro _ _)
      show N _ _ _ _ _
      refine n_nil ?_
      exact ⟨used + needN w used f - 1, by omega, _, 1, _, _, _, 0, by assumption, by exact e1, by exact rfl, by exact e3, by exact e4, by exact e5, by exact e6, rfl, by omega, by rw [← hg, growN_neg (room := rv) (by omega), if_pos h0], rfl⟩
    · refine g_yes (by simp; omega) ?_
      (refine r_st (by assumption) ?_; intro _ _)
      show N _ _ _ _ _
      refine n_nil ?_
      exact ⟨used + needN w used f - 2 * rv, by omega, _, 2 * rv, _, _, _, 0, by assumption, by exact e1, by exact rfl, by exact e3, by exact e4, by exact e5, by exact e6, rfl, by omega, by rw [← hg, growN_neg (room := rv) (by omega), if_neg h0], rfl⟩
  · refine g_no (decide_eq_false hlt) ?_
    refine n_nil ?_
    show N _ _ _ _ _
    refine n_cons ?_
    refine n_ret ?_
    refine e_tuple ?_
    refine sp_cons ?_
    refine e_bin ?_
    refine e_bin ?_
    refine r_loc (by assumption) (by exact e1) ?_
    refine r_loc (by assumption) (by exact e3) ?_
    (refine i_add (by assumption) ?_; intro _ _ _)
    refine r_loc (by assumption) (by exact e6) ?_
    (refine i_add (by assumption) ?_; intro _ _ _)
    refine sp_cons ?_
    refine r_loc (by assumption) (by exact e2) ?_
    refine sp_nil ?_
    refine k_newtuple (by assumption) (by simp) fun d s₄ S₄ => ?_
    skip
    refine Back.mk (by assumption) (fun S' => ?_)
    rw [growN_pos (room := rv) (by omega)] at hg
    have q1 : (used : Int) + (fillN w (used + f) : Nat) + tk = ((needS w f tk (used, room)).1 : Nat) := by show _ = ((used + fillN w (used + f) + tk : Nat) : Int); omega
    have q2 : (rv : Int) = ((needS w f tk (used, room)).2 : Nat) := by show _ = ((growN (used + needN w used f) room : Nat) : Int); omega
    rw [q1, q2] at S'
    exact h _ _ _ _ S'
end

end Mine

end
-- PG2
section
open PySem PySem.W PySem.Calls PyProof.Rows
set_option maxRecDepth 100000
set_option linter.unusedVariables false
set_option linter.deprecated false
namespace Mine
theorem fm (a b : Nat) : Int.fmod (a : Int) (b : Int) = ((a % b : Nat) : Int) := by
  rw [Int.fmod_eq_emod_of_nonneg _ (by omega)]; rfl
section
variable {c : Cx} {A : Around} {s : Shared} {L : Addr} {m : Str → Option Value} {l k : List (Addr × Obj)} {t u : Tok}
theorem i_modN {a b : Nat} {Q : Value → Shared → Prop} (S : St c L m l k s) (hb : b ≠ 0) (h : ∀ t s', St c L m l k s' → Q (.int ((a % b : Nat) : Int) t) s') : N c A (binaryOp .Mod (.int (a : Int) t) (.int (b : Int) u)) Q s :=
  i_mod S (by omega) (by rw [fm]; exact h)
theorem i_mulN {a b : Nat} {Q : Value → Shared → Prop} (S : St c L m l k s) (hb : b < 1000000) (h : ∀ t s', St c L m l k s' → Q (.int ((a * b : Nat) : Int) t) s') : N c A (binaryOp .Mult (.int (a : Int) t) (.int (b : Int) u)) Q s :=
  i_mul S (mulOk (by omega)) (by rw [show (a : Int) * (b : Int) = ((a * b : Nat) : Int) by simp]; exact h)
theorem i_addN {a b : Nat} {Q : Value → Shared → Prop} (S : St c L m l k s) (h : ∀ t s', St c L m l k s' → Q (.int ((a + b : Nat) : Int) t) s') : N c A (binaryOp .Add (.int (a : Int) t) (.int (b : Int) u)) Q s :=
  i_add S (by rw [show (a : Int) + (b : Int) = ((a + b : Nat) : Int) by simp]; exact h)
end
section
variable {c : Cx} {A : Around} {s : Shared} {L : Addr} {m : Str → Option Value} {l k : List (Addr × Obj)} {t u : Tok}
theorem i_modL {a n : Nat} {Q : Value → Shared → Prop} (S : St c L m l k s) (hb : n ≠ 0) (h : ∀ t s', St c L m l k s' → Q (.int ((a % (@OfNat.ofNat Nat n (instOfNatNat n)) : Nat) : Int) t) s') : N c A (binaryOp .Mod (.int (a : Int) t) (.int (@OfNat.ofNat Int n instOfNat) u)) Q s :=
  i_modN (b := n) S hb h
theorem i_mulL {a n : Nat} {Q : Value → Shared → Prop} (S : St c L m l k s) (hb : n < 1000000) (h : ∀ t s', St c L m l k s' → Q (.int ((a * (@OfNat.ofNat Nat n (instOfNatNat n)) : Nat) : Int) t) s') : N c A (binaryOp .Mult (.int (a : Int) t) (.int (@OfNat.ofNat Int n instOfNat) u)) Q s :=
  i_mulN (b := n) S hb h
end
end Mine
end
local macro_rules | `(tactic| walk_at "n_leaf") => `(tactic| ((with_reducible show N _ _ (binaryOp .Mod (.int _ _) (.int _ _)) _ _); refine i_modL (by assumption) (by decide) ?_; intro _ _ _))
section
open PySem PySem.W PySem.Calls PyProof.Rows
set_option maxRecDepth 100000
set_option linter.unusedVariables false
set_option linter.deprecated false
namespace Mine
end Mine
end
local macro_rules | `(tactic| walk_at "n_leaf") => `(tactic| ((with_reducible show N _ _ (binaryOp .Mult (.int _ _) (.int _ _)) _ _); refine i_mulL (by assumption) (by decide) ?_; intro _ _ _))
section
open PySem PySem.W PySem.Calls PyProof.Rows
set_option maxRecDepth 100000
set_option linter.unusedVariables false
set_option linter.deprecated false
namespace Mine
end Mine
end
local macro_rules | `(tactic| walk_at "n_leafitem") => `(tactic| refine r_item_tup (by assumption) (by walk_at "in_l6") ?_ (fun _ _ => by first | exact .inl rfl | exact .inr rfl))
section
open PySem PySem.W PySem.Calls PyProof.Rows
set_option maxRecDepth 100000
set_option linter.unusedVariables false
set_option linter.deprecated false
namespace Mine
end Mine
end
local macro_rules | `(tactic| walk_at "n_leaf") => `(tactic| ((with_reducible show N _ _ (getItem (.ref _) (.int (0 : Int) _)) _ _); refine t_get (i := 0) (by assumption) (by walk_at "in_l6") (by simp) (by rfl) ?_))
section
open PySem PySem.W PySem.Calls PyProof.Rows
set_option maxRecDepth 100000
set_option linter.unusedVariables false
set_option linter.deprecated false
namespace Mine
end Mine
end
local macro_rules | `(tactic| walk_at "n_leaf") => `(tactic| ((with_reducible show N _ _ (getItem (.ref _) (.int (1 : Int) _)) _ _); refine t_get (i := 1) (by assumption) (by walk_at "in_l6") (by simp) (by rfl) ?_))
section
open PySem PySem.W PySem.Calls PyProof.Rows
set_option maxRecDepth 100000
set_option linter.unusedVariables false
set_option linter.deprecated false
namespace Mine
end Mine
end
local macro_rules | `(tactic| walk_at "n_leaf") => `(tactic| ((with_reducible show N _ _ (getItem (.ref _) (.int (2 : Int) _)) _ _); refine t_get (i := 2) (by assumption) (by walk_at "in_l6") (by simp) (by rfl) ?_))
section
open PySem PySem.W PySem.Calls PyProof.Rows
set_option maxRecDepth 100000
set_option linter.unusedVariables false
set_option linter.deprecated false
namespace Mine
def itN {α : Type} (f : α → α) : Nat → α → α
  | 0, a => a
  | n + 1, a => f (itN f n a)
theorem needS_bd {w f tk : Nat} {p : Nat × Nat} (hw : Width w) : (needS w f tk p).1 ≤ p.1 + 7 + tk ∧ p.1 + tk ≤ (needS w f tk p).1 ∧ p.2 ≤ (needS w f tk p).2 ∧ (needS w f tk p).2 ≤ max p.2 (2 * (p.1 + 15 + f)) := by
  have h1 := fillN_lt (o := p.1 + f) hw.pos.1
  have h2 := hw.pos
  have h3 := growN_le (p.1 + needN w p.1 f) p.2
  have h4 := (growN_ge (p.1 + needN w p.1 f) p.2).2
  simp only [needS, needN] at *
  omega
/-- the law's reckoning of a table: what stands behind it, its shape -/
def tabS (more : Nat) (p : Nat × Nat) : (Nat × Nat) × List Int :=
  let p1 := if more % 900 = 0 then p else needS 4 0 4 p
  let p2 := needS 4 0 4 p1
  (p2, if more % 900 = 0 then [(p2.1 : Int) - p.1, 0, -1] else [(p2.1 : Int) - p.1, (p2.1 : Int) - p1.1, ((more % 4 : Nat) : Int)])
theorem tabS0 {more : Nat} {p : Nat × Nat} (h : more % 900 = 0) : (tabS more p).1 = needS 4 0 4 p ∧ [((needS 4 0 4 p).1 : Int) - p.1, 0, -1] = (tabS more p).2 := by simp [tabS, h]
theorem tabS1 {more : Nat} {p : Nat × Nat} (h : ¬ more % 900 = 0) : (tabS more p).1 = needS 4 0 4 (needS 4 0 4 p) ∧
    [((needS 4 0 4 (needS 4 0 4 p)).1 : Int) - p.1, ((needS 4 0 4 (needS 4 0 4 p)).1 : Int) - (needS 4 0 4 p).1, ((more % 4 : Nat) : Int)] = (tabS more p).2 := by simp [tabS, h]
def tabN (more : Nat) : Nat := if more % 900 = 0 then 2 else more % 4 + 3
def stepS (form more : Nat) (E : List (List Int)) (p : Nat × Nat) : (Nat × Nat) × List (List Int) :=
  if form < 4 then (needS (2 ^ form) 0 (2 ^ form) p, E)
  else if form = 4 then (needS 4 (more % 60 + 1) (more % 60 + 5) p, E)
  else if form = 5 then (needS 4 (more % 77) (more % 77 + 4) p, E)
  else if form = 6 then (let q := itN (needS 8 0 8) (more % 5) (needS 8 (more % 5 * 8) 0 (needS 4 (more % 5 * 8) 0 p)); (q.1 + 4, q.2), E)
  else if (tabS more p).2 ∈ E then ((tabS more p).1, E) else (itN (needS 2 0 2) (tabN more) (tabS more p).1, E ++ [(tabS more p).2])
section
variable {y : Cy} {A : Around} {s : Shared} {L b st ed F d : Addr} {m : Str → Option Value} {l k l0 : List (Addr × Obj)} {r : Raw} {Q : Value → Shared → Prop} {w : Nat} {lo hi : Int} {buf out : List UInt8} {room ma : Nat}
set_option maxHeartbeats 8388608 in
theorem ct_step {form more used : Nat} {eo : Obj} {xs : List (List Int × Addr × Value)} {t1 t2 tw tf : Tok} (S : St y.cx L m ((ed, eo) :: (st, tup [.int used t1, .int room t2]) :: l) k s) (R : Rm A 9) (V : VtO y.cx l0 eo ed xs) (hl0 : ∀ p ∈ l0, p ∈ l)
    (hf : form ≤ 7) (hm : more < 100000) (hu : used ≤ 100000) (hr : room ≤ 8388608) (hxs : xs.length ≤ 1000)
    (h : ∀ d t1 t2 eo' tl xs' s', St y.cx L m ((ed, eo') :: (d, tup [.int ((stepS form more (xs.map (·.1)) (used, room)).1.1 : Nat) t1, .int ((stepS form more (xs.map (·.1)) (used, room)).1.2 : Nat) t2]) :: (tl ++ l)) k s' →
      VtO y.cx (tl ++ l0) eo' ed xs' → xs'.map (·.1) = (stepS form more (xs.map (·.1)) (used, room)).2 → Q (.ref d) s') :
    N y.cx A (call (.ref 705) [.ref st, .int form tf, .int more tw, .ref ed]) Q s := by
  have hW : Width 4 := .inr (.inr (.inl rfl))
  have hW8 : Width 8 := .inr (.inr (.inr rfl))
  have hW2 : Width 2 := .inr (.inl rfl)
  refine p_call (binds := [("state", .ref st), ("form", .int form tf), ("more", .int more tw), ("elder", .ref ed)]) S (by rfl) (by rfl) (Rm.depth R) (BindsTo.of_eq rfl) (locs rfl) (fun Lx oLx s₁ S₁ => ?_) (by decide) rfl rfl rfl
  refine n_cons ?_
  refine n_if ?_
  refine t_cmp ?_
  refine r_loc (by assumption) (by exact rfl) ?_
  (refine r_cint (by assumption) ?_; intro _ _ _)
  refine c_lt ?_
  refine tr_bool ?_
  by_cases h4 : form < 4
  · refine g_yes (decide_eq_true (by omega)) ?_
    refine n_cons ?_
    refine n_ret ?_
    refine e_call ?_
    refine p_glob (by assumption) (gl__law_need _) ?_ rfl rfl
    refine cw1 ?_
    refine sp_cons ?_
    refine r_loc (by assumption) (by exact rfl) ?_
    refine sp_cons ?_
    refine e_bin ?_
    (refine r_cint (by assumption) ?_; intro _ _ _)
    refine r_loc (by assumption) (by exact rfl) ?_
    refine i_shl (by assumption) (by omega) (by omega) (by decide) ?_
    intro _
    intro _
    intro _
    refine sp_cons ?_
    (refine r_cint (by assumption) ?_; intro _ _ _)
    refine sp_cons ?_
    refine e_bin ?_
    (refine r_cint (by assumption) ?_; intro _ _ _)
    refine r_loc (by assumption) (by exact rfl) ?_
    refine i_shl (by assumption) (by omega) (by omega) (by decide) ?_
    intro _
    intro _
    intro _
    refine sp_nil ?_
    refine ⟨Kp.of_K (by assumption) (kp_698 _), ?_⟩
    show N _ _ (call _ [_, _, _, _] _) _ _
    have e2 : (1 : Int) * 2 ^ (form : Int).toNat = ((2 ^ form : Nat) : Int) := by rw [Int.toNat_natCast]; simp
    rw [e2]
    refine ct_need (w := 2 ^ form) (f := 0) (tk := 2 ^ form) (by assumption) (R.deep.le (by omega)) (by walk_at "in_l") ?_ (by omega) (by omega) fun d u1 u2 s₂ S₂ => ?_
    · have : form = 0 ∨ form = 1 ∨ form = 2 ∨ form = 3 := by omega
      unfold Width
      rcases this with rfl | rfl | rfl | rfl <;> decide
    skip
    refine Back.mk (by assumption) (fun S' => ?_)
    refine h d u1 u2 eo [] xs _ ?_ V ?_
    · rw [stepS, if_pos h4]
      exact (S'.sub (.cons_cons _ (.cons_cons _ (.cons _ (.refl _))))).swap
    · rw [stepS, if_pos h4]
  · refine g_no (decide_eq_false (by omega)) ?_
    refine n_nil ?_
    show N _ _ _ _ _
    refine n_cons ?_
    refine n_if ?_
    refine t_cmp ?_
    refine r_loc (by assumption) (by exact rfl) ?_
    (refine r_cint (by assumption) ?_; intro _ _ _)
    refine c_eq ?_
    refine tr_bool ?_
    by_cases h5 : form = 4
    · refine g_yes (by simp [h5]) ?_
      refine n_cons ?_
      refine n_ret ?_
      refine e_call ?_
      refine p_glob (by assumption) (gl__law_need _) ?_ rfl rfl
      refine cw1 ?_
      refine sp_cons ?_
      refine r_loc (by assumption) (by exact rfl) ?_
      refine sp_cons ?_
      (refine r_cint (by assumption) ?_; intro _ _ _)
      refine sp_cons ?_
      refine e_bin ?_
      refine e_bin ?_
      refine r_loc (by assumption) (by exact rfl) ?_
      (refine r_cint (by assumption) ?_; intro _ _ _)
      walk_at "n_leaf"
      (refine r_cint (by assumption) ?_; intro _ _ _)
      (refine i_add (by assumption) ?_; intro _ _ _)
      refine sp_cons ?_
      refine e_bin ?_
      refine e_bin ?_
      refine r_loc (by assumption) (by exact rfl) ?_
      (refine r_cint (by assumption) ?_; intro _ _ _)
      walk_at "n_leaf"
      (refine r_cint (by assumption) ?_; intro _ _ _)
      (refine i_add (by assumption) ?_; intro _ _ _)
      refine sp_nil ?_
      refine ⟨Kp.of_K (by assumption) (kp_698 _), ?_⟩
      show N _ _ (call _ [_, _, _, _] _) _ _
      refine ct_need (w := 4) (f := more % 60 + 1) (tk := more % 60 + 5) (by assumption) (R.deep.le (by omega)) (by walk_at "in_l") hW (by omega) (by omega) fun d u1 u2 s₂ S₂ => ?_
      skip
      refine Back.mk (by assumption) (fun S' => ?_)
      refine h d u1 u2 eo [] xs _ ?_ V ?_
      · rw [stepS, if_neg h4, if_pos h5]
        exact (S'.sub (.cons_cons _ (.cons_cons _ (.cons _ (.refl _))))).swap
      · rw [stepS, if_neg h4, if_pos h5]
    refine g_no (by simp; omega) ?_
    refine n_nil ?_
    show N _ _ _ _ _
    refine n_cons ?_
    refine n_if ?_
    refine t_cmp ?_
    refine r_loc (by assumption) (by exact rfl) ?_
    (refine r_cint (by assumption) ?_; intro _ _ _)
    refine c_eq ?_
    refine tr_bool ?_
    by_cases h6 : form = 5
    · refine g_yes (by simp [h6]) ?_
      refine n_cons ?_
      refine n_ret ?_
      refine e_call ?_
      refine p_glob (by assumption) (gl__law_need _) ?_ rfl rfl
      refine cw1 ?_
      refine sp_cons ?_
      refine r_loc (by assumption) (by exact rfl) ?_
      refine sp_cons ?_
      (refine r_cint (by assumption) ?_; intro _ _ _)
      refine sp_cons ?_
      refine e_bin ?_
      refine r_loc (by assumption) (by exact rfl) ?_
      (refine r_cint (by assumption) ?_; intro _ _ _)
      walk_at "n_leaf"
      refine sp_cons ?_
      refine e_bin ?_
      refine e_bin ?_
      refine r_loc (by assumption) (by exact rfl) ?_
      (refine r_cint (by assumption) ?_; intro _ _ _)
      walk_at "n_leaf"
      (refine r_cint (by assumption) ?_; intro _ _ _)
      (refine i_add (by assumption) ?_; intro _ _ _)
      refine sp_nil ?_
      refine ⟨Kp.of_K (by assumption) (kp_698 _), ?_⟩
      show N _ _ (call _ [_, _, _, _] _) _ _
      refine ct_need (w := 4) (f := more % 77) (tk := more % 77 + 4) (by assumption) (R.deep.le (by omega)) (by walk_at "in_l") hW (by omega) (by omega) fun d u1 u2 s₂ S₂ => ?_
      skip
      refine Back.mk (by assumption) (fun S' => ?_)
      refine h d u1 u2 eo [] xs _ ?_ V ?_
      · rw [stepS, if_neg h4, if_neg h5, if_pos h6]
        exact (S'.sub (.cons_cons _ (.cons_cons _ (.cons _ (.refl _))))).swap
      · rw [stepS, if_neg h4, if_neg h5, if_pos h6]
    refine g_no (by simp; omega) ?_
    refine n_nil ?_
    show N _ _ _ _ _
    refine n_cons ?_
    refine n_if ?_
    refine t_cmp ?_
    refine r_loc (by assumption) (by exact rfl) ?_
    (refine r_cint (by assumption) ?_; intro _ _ _)
    refine c_eq ?_
    refine tr_bool ?_
    by_cases h7 : form = 6
    · refine g_yes (by simp [h7]) ?_
      refine n_cons ?_
      refine n_assign ?_
      refine e_call ?_
      refine p_glob (by assumption) (gl__law_need _) ?_ rfl rfl
      refine cw1 ?_
      refine sp_cons ?_
      refine r_loc (by assumption) (by exact rfl) ?_
      refine sp_cons ?_
      (refine r_cint (by assumption) ?_; intro _ _ _)
      refine sp_cons ?_
      refine e_bin ?_
      refine e_bin ?_
      refine r_loc (by assumption) (by exact rfl) ?_
      (refine r_cint (by assumption) ?_; intro _ _ _)
      walk_at "n_leaf"
      (refine r_cint (by assumption) ?_; intro _ _ _)
      walk_at "n_leaf"
      refine sp_cons ?_
      (refine r_cint (by assumption) ?_; intro _ _ _)
      refine sp_nil ?_
      refine ⟨Kp.of_K (by assumption) (kp_698 _), ?_⟩
      show N _ _ (call _ [_, _, _, _] _) _ _
      refine ct_need (w := 4) (f := more % 5 * 8) (tk := 0) (by assumption) (R.deep.le (by omega)) (by walk_at "in_l") hW (by omega) (by omega) fun d u1 u2 s₂ S₂ => ?_
      have hb1 := needS_bd (f := more % 5 * 8) (tk := 0) (p := (used, room)) hW
      show N _ _ _ _ _
      (refine r_st (by assumption) ?_; intro _ _)
      show N _ _ _ _ _
      refine n_cons ?_
      refine n_assign ?_
      refine e_call ?_
      refine p_glob (by assumption) (gl__law_need _) ?_ rfl rfl
      refine cw1 ?_
      refine sp_cons ?_
      refine r_loc (by assumption) (by exact rfl) ?_
      refine sp_cons ?_
      (refine r_cint (by assumption) ?_; intro _ _ _)
      refine sp_cons ?_
      refine e_bin ?_
      refine e_bin ?_
      refine r_loc (by assumption) (by exact rfl) ?_
      (refine r_cint (by assumption) ?_; intro _ _ _)
      walk_at "n_leaf"
      (refine r_cint (by assumption) ?_; intro _ _ _)
      walk_at "n_leaf"
      refine sp_cons ?_
      (refine r_cint (by assumption) ?_; intro _ _ _)
      refine sp_nil ?_
      refine ⟨Kp.of_K (by assumption) (kp_698 _), ?_⟩
      show N _ _ (call _ [_, _, _, _] _) _ _
      refine ct_need (w := 8) (f := more % 5 * 8) (tk := 0) (by assumption) (R.deep.le (by omega)) (by walk_at "in_l") hW8 (by omega) (by omega) fun d2 u1 u2 s₂ S₂ => ?_
      (refine r_st (by assumption) ?_; intro _ _)
      show N _ _ _ _ _
      refine n_cons ?_
      refine n_for ?_
      refine e_call ?_
      refine p_blt (by assumption) (gb_range _) (by boot_by_name) (by decide) ?_ rfl rfl
      refine cw1 ?_
      refine sp_cons ?_
      refine e_bin ?_
      refine r_loc (by assumption) (by exact rfl) ?_
      (refine r_cint (by assumption) ?_; intro _ _ _)
      walk_at "n_leaf"
      refine sp_nil ?_
      refine ⟨Kp.type, ?_⟩
      show N _ _ (call _ [_] _) _ _
      rename_i S₃
      refine k_range (S₃.sub (.cons_cons _ (.cons _ (.cons_cons _ (.cons _ (.refl _)))))) fun rg s₄ r1 r2 r3 S₄ => ?_
      skip
      have h55 : more % 5 < 5 := Nat.mod_lt _ (by decide)
      refine k_iter_range (n := more % 5) S₄ (by omega) fun it s₅ S₅ => ?_
      obtain ⟨q0, hq0⟩ : ∃ q0, q0 = needS 8 (more % 5 * 8) 0 (needS 4 (more % 5 * 8) 0 (used, room)) := ⟨_, rfl⟩
      have hb2 := needS_bd (f := more % 5 * 8) (tk := 0) (p := needS 4 (more % 5 * 8) 0 (used, room)) hW8
      rw [← hq0] at hb2
      refine NC.for_ind (fun n s' => ∃ (m' : Str → Option Value) (d' : Addr) (a1 a2 : Tok) (xv : Int) (q : Nat × Nat), St y.cx Lx m' ((it, rit xv n) :: (d', tup [.int (q.1 : Nat) a1, .int (q.2 : Nat) a2]) :: (ed, eo) :: l) ((L, oLx) :: k) s' ∧
        m' "state" = some (.ref d') ∧ n ≤ more % 5 ∧ q = itN (needS 8 0 8) (more % 5 - n) q0 ∧ q.1 ≤ used + 14 + 15 * (more % 5 - n) ∧ q.2 ≤ 8388608) ?_ (more % 5) _
        ⟨_, d2, _, _, 0, q0, by rw [hq0]; exact S₅, by exact rfl, Nat.le_refl _, by rw [Nat.sub_self]; rfl, by omega, by omega⟩
      rintro n s₆ ⟨m', d', a1, a2, xv, q, S₆, e1, hn, hq, hb3, hb4⟩
      cases n with
      | zero =>
        refine k_next_range_end S₆ R.h fun s₇ S₇ => ?_
        show N _ _ _ _ _
        refine n_cons ?_
        refine n_ret ?_
        refine e_tuple ?_
        refine sp_cons ?_
        refine e_bin ?_
        refine e_sub ?_
        refine r_loc (by assumption) (by exact e1) ?_
        (refine r_cint (by assumption) ?_; intro _ _ _)
        walk_at "n_leafitem"
        walk_at "n_leaf"
        (refine r_cint (by assumption) ?_; intro _ _ _)
        (refine i_add (by assumption) ?_; intro _ _ _)
        refine sp_cons ?_
        refine e_sub ?_
        refine r_loc (by assumption) (by exact e1) ?_
        (refine r_cint (by assumption) ?_; intro _ _ _)
        walk_at "n_leafitem"
        walk_at "n_leaf"
        refine sp_nil ?_
        refine k_newtuple (by assumption) (by simp) fun d3 s₈ S₈ => ?_
        skip
        refine Back.mk (by assumption) (fun S' => ?_)
        have eS : stepS form more (xs.map (·.1)) (used, room) = ((q.1 + 4, q.2), xs.map (·.1)) := by
          rw [stepS, if_neg h4, if_neg h5, if_neg h6, if_pos h7, hq, hq0]; rfl
        rw [eS] at h
        exact h d3 _ _ eo [] xs _ (S'.sub (.cons_cons _ (.cons _ (.refl _)))).swap V rfl
      | succ n =>
        refine k_next_range S₆ (by omega) fun tx s₇ S₇ => ?_
        rw [show (((n + 1 : Nat) : Int) - 1) = (n : Int) by omega] at S₇
        show N _ _ _ _ _
        (refine r_st (by assumption) ?_; intro _ _)
        refine n_cons ?_
        refine n_assign ?_
        refine e_call ?_
        refine p_glob (by assumption) (gl__law_need _) ?_ rfl rfl
        refine cw1 ?_
        refine sp_cons ?_
        refine r_loc (by assumption) (by exact e1) ?_
        refine sp_cons ?_
        (refine r_cint (by assumption) ?_; intro _ _ _)
        refine sp_cons ?_
        (refine r_cint (by assumption) ?_; intro _ _ _)
        refine sp_cons ?_
        (refine r_cint (by assumption) ?_; intro _ _ _)
        refine sp_nil ?_
        refine ⟨Kp.of_K (by assumption) (kp_698 _), ?_⟩
        show N _ _ (call _ [_, _, _, _] _) _ _
        refine ct_need (w := 8) (f := 0) (tk := 8) (by assumption) (R.deep.le (by omega)) (by walk_at "in_l") hW8 (by omega) (by omega) fun d3 u1 u2 s₈ S₈ => ?_
        have hb5 := needS_bd (f := 0) (tk := 8) (p := q) hW8
        show N _ _ _ _ _
        (refine r_st (by assumption) ?_; intro _ _)
        show N _ _ _ _ _
        refine n_nil ?_
        rename_i S₉
        have eq1 : more % 5 - n = (more % 5 - (n + 1)) + 1 := by omega
        exact ⟨n, by omega, _, d3, _, _, _, needS 8 0 8 q, (S₉.sub (.cons_cons _ (.cons_cons _ (.cons _ (.refl _))))).swap, by exact rfl, by omega, by rw [eq1, itN, ← hq], by omega, by omega⟩
    refine g_no (by simp; omega) ?_
    refine n_nil ?_
    show N _ _ _ _ _
    refine n_cons ?_
    refine n_assign ?_
    refine e_sub ?_
    refine r_loc (by assumption) (by exact rfl) ?_
    (refine r_cint (by assumption) ?_; intro _ _ _)
    walk_at "n_leafitem"
    walk_at "n_leaf"
    (refine r_st (by assumption) ?_; intro _ _)
    show N _ _ _ _ _
    refine n_cons ?_
    refine n_assign ?_
    (refine r_cint (by assumption) ?_; intro _ _ _)
    (refine r_st (by assumption) ?_; intro _ _)
    have hf7 : form = 7 := by omega
    refine n_consJ (fun s' => ∃ (m' : Str → Option Value) (d' : Addr) (a1 a2 a3 a4 : Tok) (q : Nat × Nat) (fv : Nat), St y.cx Lx m' ((ed, eo) :: (d', tup [.int (q.1 : Nat) a1, .int (q.2 : Nat) a2]) :: l) ((L, oLx) :: k) s' ∧
      m' "state" = some (.ref d') ∧ m' "field" = some (.int fv a3) ∧ m' "begun" = some (.int used a4) ∧ m' "more" = some (.int more tw) ∧ m' "elder" = some (.ref ed) ∧
      q = (if more % 900 = 0 then (used, room) else needS 4 0 4 (used, room)) ∧ fv = (if more % 900 = 0 then 0 else q.1) ∧ (more % 900 ≠ 0 → 0 < fv) ∧ q.1 ≤ used + 11 ∧ q.2 ≤ 8388608) ?_ ?_
    · refine n_if ?_
      refine t_plain ?_
      refine e_bin ?_
      refine r_loc (by assumption) (by exact rfl) ?_
      (refine r_cint (by assumption) ?_; intro _ _ _)
      walk_at "n_leaf"
      walk_at "n_leaf"
      by_cases h9 : more % 900 = 0
      · refine g_no (by simp [h9]) ?_
        refine n_nil ?_
        exact ⟨rfl, _, st, _, _, _, _, (used, room), 0, by assumption, by exact rfl, by exact rfl, by exact rfl, by exact rfl, by exact rfl, by rw [if_pos h9], by rw [if_pos h9], by omega, by dsimp only; omega, by dsimp only; omega⟩
      · refine g_yes (by simp; omega) ?_
        refine n_cons ?_
        refine n_assign ?_
        refine e_call ?_
        refine p_glob (by assumption) (gl__law_need _) ?_ rfl rfl
        refine cw1 ?_
        refine sp_cons ?_
        refine r_loc (by assumption) (by exact rfl) ?_
        refine sp_cons ?_
        (refine r_cint (by assumption) ?_; intro _ _ _)
        refine sp_cons ?_
        (refine r_cint (by assumption) ?_; intro _ _ _)
        refine sp_cons ?_
        (refine r_cint (by assumption) ?_; intro _ _ _)
        refine sp_nil ?_
        refine ⟨Kp.of_K (by assumption) (kp_698 _), ?_⟩
        show N _ _ (call _ [_, _, _, _] _) _ _
        refine ct_need (w := 4) (f := 0) (tk := 4) (by assumption) (R.deep.le (by omega)) (by walk_at "in_l") hW (by omega) (by omega) fun d2 u1 u2 s₂ S₂ => ?_
        have hb := needS_bd (f := 0) (tk := 4) (p := (used, room)) hW
        show N _ _ _ _ _
        (refine r_st (by assumption) ?_; intro _ _)
        show N _ _ _ _ _
        refine n_cons ?_
        refine n_assign ?_
        refine e_sub ?_
        refine r_loc (by assumption) (by exact rfl) ?_
        (refine r_cint (by assumption) ?_; intro _ _ _)
        walk_at "n_leafitem"
        walk_at "n_leaf"
        (refine r_st (by assumption) ?_; intro _ _)
        show N _ _ _ _ _
        refine n_nil ?_
        rename_i S₃
        exact ⟨rfl, _, d2, _, _, _, _, needS 4 0 4 (used, room), _, (S₃.sub (.cons_cons _ (.cons_cons _ (.cons _ (.refl _))))).swap, by exact rfl, by exact rfl, by exact rfl, by exact rfl, by exact rfl, by rw [if_neg h9], by rw [if_neg h9], by omega, by omega, by omega⟩
    rintro s₂ ⟨m', d', a1, a2, a3, a4, q, fv, S₂, e1, e2, e3, e4, e5, hq, hfv, hf0, hb1, hb2⟩
    refine n_cons ?_
    refine n_assign ?_
    refine e_call ?_
    refine p_glob (by assumption) (gl__law_need _) ?_ rfl rfl
    refine cw1 ?_
    refine sp_cons ?_
    refine r_loc (by assumption) (by exact e1) ?_
    refine sp_cons ?_
    (refine r_cint (by assumption) ?_; intro _ _ _)
    refine sp_cons ?_
    (refine r_cint (by assumption) ?_; intro _ _ _)
    refine sp_cons ?_
    (refine r_cint (by assumption) ?_; intro _ _ _)
    refine sp_nil ?_
    refine ⟨Kp.of_K (by assumption) (kp_698 _), ?_⟩
    show N _ _ (call _ [_, _, _, _] _) _ _
    refine ct_need (w := 4) (f := 0) (tk := 4) (by assumption) (R.deep.le (by omega)) (by walk_at "in_l") hW (by omega) (by omega) fun d3 u1 u2 s₃ S₃ => ?_
    have hb := needS_bd (f := 0) (tk := 4) (p := q) hW
    have hp2 : (tabS more (used, room)).1 = needS 4 0 4 q := by rw [hq]; rfl
    show N _ _ _ _ _
    (refine r_st (by assumption) ?_; intro _ _)
    refine n_consJ (fun s' => ∃ (m' : Str → Option Value) (sh : Addr) (x1 x2 x3 : Int) (v1 v2 v3 : Tok), St y.cx Lx m' ((sh, tup [.int x1 v1, .int x2 v2, .int x3 v3]) :: (ed, eo) :: (d3, tup [.int ((tabS more (used, room)).1.1 : Nat) u1, .int ((tabS more (used, room)).1.2 : Nat) u2]) :: l) ((L, oLx) :: k) s' ∧
      m' "state" = some (.ref d3) ∧ m' "shape" = some (.ref sh) ∧ m' "elder" = some (.ref ed) ∧ [x1, x2, x3] = (tabS more (used, room)).2 ∧ x3 + 3 = ((tabN more : Nat) : Int)) ?_ ?_
    · refine n_assign ?_
      refine e_tuple ?_
      refine sp_cons ?_
      refine e_bin ?_
      refine e_sub ?_
      refine r_loc (by assumption) (by exact rfl) ?_
      (refine r_cint (by assumption) ?_; intro _ _ _)
      walk_at "n_leafitem"
      walk_at "n_leaf"
      refine r_loc (by assumption) (by exact e3) ?_
      (refine i_sub (by assumption) ?_; intro _ _ _)
      refine sp_cons ?_
      refine e_ifexp ?_
      refine t_plain ?_
      refine r_loc (by assumption) (by exact e2) ?_
      walk_at "n_leaf"
      by_cases h9 : more % 900 = 0
      · have hfb : (((fv : Nat) : Int) != 0) = false := by rw [hfv, if_pos h9]; rfl
        refine   g_no     (by       first       | rfl       | assumption)     ?_
        (refine r_cint (by assumption) ?_; intro _ _ _)
        refine sp_cons ?_
        refine e_ifexp ?_
        refine t_plain ?_
        refine r_loc (by assumption) (by exact e2) ?_
        walk_at "n_leaf"
        refine   g_no     (by       first       | rfl       | assumption)     ?_
        refine e_un ?_
        (refine r_cint (by assumption) ?_; intro _ _ _)
        (refine i_neg (by assumption) ?_; intro _ _ _)
        refine sp_nil ?_
        refine k_newtuple (by assumption) (by simp) fun sh s₄ S₄ => ?_
        (refine r_st (by assumption) ?_; intro _ _)
        rename_i S₅
        obtain rfl : q = (used, room) := by rw [hq, if_pos h9]
        rw [hp2]
        exact ⟨rfl, _, sh, _, _, _, _, _, _, (S₅.sub (.cons_cons _ (.cons_cons _ (.cons_cons _ (.cons _ (.refl _)))))).perm (.cons _ (.swap _ _ _)), by exact rfl, by exact rfl, by exact e5, (tabS0 h9).2, by rw [tabN, if_pos h9]; rfl⟩
      · have hfb : (((fv : Nat) : Int) != 0) = true := by have := hf0 h9; simp; omega
        refine   g_yes     (by       first       | rfl       | assumption)     ?_
        refine e_bin ?_
        refine e_sub ?_
        refine r_loc (by assumption) (by exact rfl) ?_
        (refine r_cint (by assumption) ?_; intro _ _ _)
        walk_at "n_leafitem"
        walk_at "n_leaf"
        refine r_loc (by assumption) (by exact e2) ?_
        (refine i_sub (by assumption) ?_; intro _ _ _)
        refine sp_cons ?_
        refine e_ifexp ?_
        refine t_plain ?_
        refine r_loc (by assumption) (by exact e2) ?_
        walk_at "n_leaf"
        refine   g_yes     (by       first       | rfl       | assumption)     ?_
        refine e_bin ?_
        refine r_loc (by assumption) (by exact e4) ?_
        (refine r_cint (by assumption) ?_; intro _ _ _)
        walk_at "n_leaf"
        refine sp_nil ?_
        refine k_newtuple (by assumption) (by simp) fun sh s₄ S₄ => ?_
        (refine r_st (by assumption) ?_; intro _ _)
        rename_i S₅
        obtain rfl : fv = q.1 := by rw [hfv, if_neg h9]
        obtain rfl : q = needS 4 0 4 (used, room) := by rw [hq, if_neg h9]
        rw [hp2]
        exact ⟨rfl, _, sh, _, _, _, _, _, _, (S₅.sub (.cons_cons _ (.cons_cons _ (.cons_cons _ (.cons _ (.refl _)))))).perm (.cons _ (.swap _ _ _)), by exact rfl, by exact rfl, by exact e5, (tabS1 h9).2, by rw [tabN, if_neg h9]; rfl⟩
    rintro s₄ ⟨m₂, sh, x1, x2, x3, v1, v2, v3, S₄, e6, e7, e8, hsh, hx3⟩
    have hT := tupO_of (IntsAre.cons x1 v1 (.cons x2 v2 (.cons x3 v3 .nil)))
    have hbt : (tabS more (used, room)).1.1 ≤ used + 22 ∧ (tabS more (used, room)).1.2 ≤ 8388608 := by rw [hp2]; omega
    show N _ _ _ _ _
    refine n_cons ?_
    refine n_if ?_
    refine t_cmp ?_
    refine r_loc (by assumption) (by exact e7) ?_
    refine r_loc (by assumption) (by exact e8) ?_
    refine k_notin V (fun p hp => .tail _ (.tail _ (.tail _ (hl0 p hp)))) hT (by assumption) (by walk_at "in_l") (by walk_at "in_l") (by have := R.u; show A.units + 3 + 8 < _; omega) fun s₅ S₅ => ?_
    rw [hsh]
    have eS0 : stepS form more (xs.map (·.1)) (used, room) = if (tabS more (used, room)).2 ∈ xs.map (·.1) then ((tabS more (used, room)).1, xs.map (·.1)) else (itN (needS 2 0 2) (tabN more) (tabS more (used, room)).1, xs.map (·.1) ++ [(tabS more (used, room)).2]) := by
      rw [stepS, if_neg h4, if_neg h5, if_neg h6, if_neg h7]
    by_cases hin : (tabS more (used, room)).2 ∈ xs.map (·.1)
    · have hsome : (atKey xs (tabS more (used, room)).2).isSome = true := by
        cases q : atKey xs (tabS more (used, room)).2 with
        | some _ => rfl
        | none =>
          obtain ⟨z, hz, hz2⟩ := List.mem_map.mp hin
          unfold atKey at q
          rw [Option.map_eq_none_iff, List.find?_eq_none] at q
          exact absurd (decide_eq_true hz2) (q z hz)
      show N _ _ _ _ _
      refine tr_bool ?_
      refine g_no (by rw [hsome]; rfl) ?_
      refine n_nil ?_
      show N _ _ _ _ _
      refine n_cons ?_
      refine n_ret ?_
      refine r_loc (by assumption) (by exact e6) ?_
      refine Back.mk (by assumption) (fun S' => ?_)
      rw [eS0, if_pos hin] at h
      exact h d3 u1 u2 eo [] xs _ (S'.sub (.cons _ (.refl _))) V rfl
    · have hnone : atKey xs (tabS more (used, room)).2 = none := atKey_none fun z hz q => hin (List.mem_map.mpr ⟨z, hz, q⟩)
      show N _ _ _ _ _
      refine tr_bool ?_
      refine g_yes (by rw [hnone]; rfl) ?_
      refine n_cons ?_
      refine n_setitem ?_
      (refine r_cint (by assumption) ?_; intro _ _ _)
      refine r_loc (by assumption) (by exact e8) ?_
      refine r_loc (by assumption) (by exact e7) ?_
      rename_i S₆
      refine k_vsetP (d := ed) (e := sh) (V.sub (l' := (sh, tup [.int x1 v1, .int x2 v2, .int x3 v3]) :: l0) fun p hp => .tail _ hp) (fun p hp => ?_) hT S₆.swap (.head _) (by have := R.u; show A.units + 3 + 8 < _; omega) (by omega) (by rw [hsh]; exact hnone) fun eo' s₇ V' S₇ => ?_
      · rcases List.mem_cons.mp hp with rfl | hp
        · exact .head _
        · exact .tail _ (.tail _ (hl0 p hp))
      show N _ _ _ _ _
      refine n_cons ?_
      refine n_for ?_
      refine e_call ?_
      refine p_blt (by assumption) (gb_range _) (by boot_by_name) (by decide) ?_ rfl rfl
      refine cw1 ?_
      refine sp_cons ?_
      refine e_bin ?_
      refine e_sub ?_
      refine r_loc (by assumption) (by exact e7) ?_
      (refine r_cint (by assumption) ?_; intro _ _ _)
      walk_at "n_leafitem"
      walk_at "n_leaf"
      (refine r_cint (by assumption) ?_; intro _ _ _)
      (refine i_add (by assumption) ?_; intro _ _ _)
      refine sp_nil ?_
      refine ⟨Kp.type, ?_⟩
      show N _ _ (call _ [_] _) _ _
      rw [hx3]
      rename_i S₈
      refine k_range (n := tabN more) S₈ fun rg s₉ r1 r2 r3 S₉ => ?_
      skip
      have htn : tabN more ≤ 6 := by unfold tabN; split <;> omega
      refine k_iter_range (n := tabN more) S₉ (by omega) fun it s₁₀ S₁₀ => ?_
      refine NC.for_ind (fun n s' => ∃ (m' : Str → Option Value) (d' : Addr) (a1 a2 : Tok) (xv : Int) (q : Nat × Nat), St y.cx Lx m' ((it, rit xv n) :: (d', tup [.int (q.1 : Nat) a1, .int (q.2 : Nat) a2]) :: (ed, eo') :: (sh, tup [.int x1 v1, .int x2 v2, .int x3 v3]) :: l) ((L, oLx) :: k) s' ∧
        m' "state" = some (.ref d') ∧ n ≤ tabN more ∧ q = itN (needS 2 0 2) (tabN more - n) (tabS more (used, room)).1 ∧ q.1 ≤ used + 22 + 9 * (tabN more - n) ∧ q.2 ≤ 8388608) ?_ (tabN more) _
        ⟨_, d3, _, _, 0, (tabS more (used, room)).1, S₁₀.perm (.cons _ ((List.Perm.cons _ (.swap _ _ _)).trans (.swap _ _ _))), by exact e6, Nat.le_refl _, by rw [Nat.sub_self]; rfl, by omega, by omega⟩
      rintro n s₁₁ ⟨m', d', a1, a2, xv, q, S₁₁, e1, hn, hq, hb3, hb4⟩
      cases n with
      | zero =>
        refine k_next_range_end S₁₁ R.h fun s₁₂ S₁₂ => ?_
        show N _ _ _ _ _
        refine n_nil ?_
        show N _ _ _ _ _
        refine n_cons ?_
        refine n_ret ?_
        refine r_loc (by assumption) (by exact e1) ?_
        refine Back.mk (by assumption) (fun S' => ?_)
        rw [Nat.sub_zero] at hq
        rw [eS0, if_neg hin] at h
        subst hq
        exact h d' _ _ eo' [(sh, tup [.int x1 v1, .int x2 v2, .int x3 v3])] _ _ S'.swap V' (by rw [← hsh]; simp)
      | succ n =>
        refine k_next_range S₁₁ (by omega) fun tx s₁₂ S₁₂ => ?_
        rw [show (((n + 1 : Nat) : Int) - 1) = (n : Int) by omega] at S₁₂
        show N _ _ _ _ _
        (refine r_st (by assumption) ?_; intro _ _)
        refine n_cons ?_
        refine n_assign ?_
        refine e_call ?_
        refine p_glob (by assumption) (gl__law_need _) ?_ rfl rfl
        refine cw1 ?_
        refine sp_cons ?_
        refine r_loc (by assumption) (by exact e1) ?_
        refine sp_cons ?_
        (refine r_cint (by assumption) ?_; intro _ _ _)
        refine sp_cons ?_
        (refine r_cint (by assumption) ?_; intro _ _ _)
        refine sp_cons ?_
        (refine r_cint (by assumption) ?_; intro _ _ _)
        refine sp_nil ?_
        refine ⟨Kp.of_K (by assumption) (kp_698 _), ?_⟩
        show N _ _ (call _ [_, _, _, _] _) _ _
        refine ct_need (w := 2) (f := 0) (tk := 2) (by assumption) (R.deep.le (by omega)) (by walk_at "in_l") hW2 (by omega) (by omega) fun d4 u3 u4 s₁₃ S₁₃ => ?_
        have hb5 := needS_bd (f := 0) (tk := 2) (p := q) hW2
        show N _ _ _ _ _
        (refine r_st (by assumption) ?_; intro _ _)
        show N _ _ _ _ _
        refine n_nil ?_
        rename_i S₁₄
        have eq1 : tabN more - n = (tabN more - (n + 1)) + 1 := by omega
        exact ⟨n, by omega, _, d4, _, _, _, needS 2 0 2 q, (S₁₄.sub (.cons_cons _ (.cons_cons _ (.cons _ (.refl _))))).swap, by exact rfl, by omega, by rw [eq1, itN, ← hq], by omega, by omega⟩
end

end Mine

end
-- PH2
section
open PySem PySem.W PySem.Calls PyProof.Rows
set_option maxRecDepth 100000
set_option linter.unusedVariables false
set_option linter.deprecated false
namespace Mine
/-- what a builder stands for, between its deeds -/
structure Gh where
  out : List UInt8
  room : Nat
  ma : Nat
  vts : List (List Int × Nat)
def vtsOf (vts : List (List Int × Nat)) (ts : List (Addr × Tok)) : List (List Int × Addr × Value) := List.zipWith (fun v t => (v.1, t.1, Value.int (v.2 : Nat) t.2)) vts ts
def vtAt (vts : List (List Int × Nat)) (key : List Int) : Option Nat := (vts.find? fun v => decide (v.1 = key)).map (·.2)
theorem vtsOf_at {key : List Int} : ∀ {vts : List (List Int × Nat)} {ts : List (Addr × Tok)}, ts.length = vts.length →
    (atKey (vtsOf vts ts) key = none → vtAt vts key = none) ∧ (∀ a v, atKey (vtsOf vts ts) key = some (a, v) → ∃ (d : Nat) (t : Tok), v = .int d t ∧ vtAt vts key = some d)
  | [], [], _ => ⟨fun _ => rfl, fun _ _ q => by cases q⟩
  | v :: vts, t :: ts, h => by
    have ih := vtsOf_at (key := key) (vts := vts) (ts := ts) (by simpa using h)
    unfold atKey vtAt vtsOf at *
    simp only [List.zipWith_cons_cons, List.find?_cons]
    by_cases q : v.1 = key
    · simp only [q, decide_true]
      refine ⟨fun z => by simp at z, fun a w z => ?_⟩
      simp at z
      exact ⟨v.2, t.2, z.2.symm, rfl⟩
    · simp only [q, decide_false]
      exact ih
theorem vtsOf_len {vts : List (List Int × Nat)} {ts : List (Addr × Tok)} (h : ts.length = vts.length) : (vtsOf vts ts).length = vts.length := by simp [vtsOf, h]
theorem vtsOf_val {vts : List (List Int × Nat)} {ts : List (Addr × Tok)} {n : Nat} (h : ∀ v ∈ vts, v.2 ≤ n) : ∀ x ∈ vtsOf vts ts, ∃ (d : Nat) (t : Tok), x.2.2 = .int d t ∧ d ≤ n := by
  intro x hx
  unfold vtsOf at hx
  obtain ⟨i, hi⟩ := List.mem_iff_getElem?.mp hx
  rw [List.getElem?_zipWith] at hi
  cases e1 : vts[i]? with
  | none => rw [e1] at hi; simp at hi
  | some v =>
    cases e2 : ts[i]? with
    | none => rw [e1, e2] at hi; simp at hi
    | some t =>
      rw [e1, e2] at hi
      simp at hi
      exact ⟨v.2, t.2, by rw [← hi], h v (List.mem_of_getElem? e1)⟩
theorem vtsOf_app {vts : List (List Int × Nat)} {ts : List (Addr × Tok)} {v : List Int × Nat} {t : Addr × Tok} (h : ts.length = vts.length) : vtsOf (vts ++ [v]) (ts ++ [t]) = vtsOf vts ts ++ [(v.1, t.1, Value.int (v.2 : Nat) t.2)] := by
  unfold vtsOf; rw [List.zipWith_append h.symm]; rfl
/-- the builder r stands for g; its vtables' keys are in tl -/
structure Bq (y : Cy) (r : Raw) (buf : List UInt8) (od : Obj) (tl : List (Addr × Obj)) (g : Gh) : Prop where
  bd : Bd r buf g.out g.room g.ma
  vt : ∃ ts, ts.length = g.vts.length ∧ VtO y.cx tl od r.vt (vtsOf g.vts ts)
  nn : r.nested = false
  vl : ∀ v ∈ g.vts, v.2 ≤ g.out.length
  wd : Width g.ma
def Gh.num (w : Nat) (v : Int) (g : Gh) : Gh := ⟨le w v ++ prepO w 0 g.out, prepR w 0 g.out g.room, max g.ma w, g.vts⟩
def Gh.str (x : List UInt8) (g : Gh) : Gh := ⟨strO x g.out, prepR 4 (x.length + 1) g.out g.room, max g.ma 4, g.vts⟩
def Gh.bv (x : List UInt8) (g : Gh) : Gh := ⟨bvO x g.out, prepR 4 x.length g.out g.room, max g.ma 4, g.vts⟩
def vecL (more : Nat) : Nat → List UInt8 × Nat → List UInt8 × Nat
  | 0, p => p
  | i + 1, p => (le 8 ((more + i : Nat) : Int) ++ prepO 8 0 (vecL more i p).1, prepR 8 0 (vecL more i p).1 (vecL more i p).2)
def Gh.vec (more : Nat) (g : Gh) : Gh :=
  let n := more % 5
  let q := vecL more n (prepO 8 (8 * n) (prepO 4 (8 * n) g.out), prepR 8 (8 * n) (prepO 4 (8 * n) g.out) (prepR 4 (8 * n) g.out g.room))
  ⟨le 4 n ++ q.1, q.2, max (max g.ma 4) 8, g.vts⟩
/-- EndObject: cvs the slots, oe where the object began -/
def Gh.endO (cvs : List Int) (oe : Nat) (g : Gh) : Gh :=
  let oo := (prepO 4 0 g.out).length + 4
  let key := keyL cvs oo ++ [(oo : Int) - oe]
  match vtAt g.vts key with
  | none => let p := vtNew oo oe (keyL cvs oo) (soO g.out, prepR 4 0 g.out g.room); ⟨p.1, p.2, max g.ma 4, g.vts ++ [(key, p.1.length)]⟩
  | some d => ⟨over (soO g.out) 0 (le 4 ((d : Int) - oo)), prepR 4 0 g.out g.room, max g.ma 4, g.vts⟩
def Gh.tab (more : Nat) (g : Gh) : Gh :=
  if more % 900 = 0 then g.endO (List.replicate (more % 4 + 1) 0) g.out.length
  else (g.num 4 ((more % 900 : Nat) - 1 : Int)).endO ((List.replicate (more % 4 + 1) 0).set (more % 4) ((le 4 ((more % 900 : Nat) - 1 : Int) ++ prepO 4 0 g.out).length : Int)) g.out.length
def Gh.deed (form more : Nat) (g : Gh) : Gh :=
  if form = 0 then g.num 1 (more % 256 : Nat) else if form = 1 then g.num 2 (more % 65536 : Nat) else if form = 2 then g.num 4 more else if form = 3 then g.num 8 (-(more : Int))
  else if form = 4 then g.str (List.replicate (more % 60) (more % 251 + 1).toUInt8) else if form = 5 then g.bv (List.replicate (more % 77) (more % 253 + 2).toUInt8)
  else if form = 6 then g.vec more else g.tab more
theorem fill8 {o : Nat} (h : o % 8 = 0) : fillN 8 o = 0 := by unfold fillN; omega
theorem fill8_sum (o a : Nat) : (fillN 8 (o + a) + o + a) % 8 = 0 := by unfold fillN; omega
theorem wd_max {a b : Nat} (h : Width a) (h' : Width b) : Width (max a b) := by
  rcases h with rfl | rfl | rfl | rfl <;> rcases h' with rfl | rfl | rfl | rfl <;> simp [Width]
theorem ints_set {vs : List Value} {ns : List Int} (h : IntsAre vs ns) : ∀ (i : Nat) (v : Int) (t : Tok), IntsAre (vs.set i (.int v t)) (ns.set i v) := by
  induction h with
  | nil => intro i v t; exact .nil
  | cons n u h ih =>
    intro i v t
    cases i with
    | zero => exact .cons v t h
    | succ i => exact .cons n u (ih i v t)
theorem foldV_len (ns : List Int) : ∀ p : List UInt8 × Nat, p.1.length ≤ (ns.foldl stepV p).1.length ∧ (ns.foldl stepV p).1.length ≤ p.1.length + 3 * ns.length := by
  induction ns with
  | nil => intro p; exact ⟨Nat.le_refl _, by simp⟩
  | cons n ns ih =>
    intro p
    have h1 := ih (stepV p n)
    have h2 := stepV_len (p := p) (off := n)
    simp only [List.foldl_cons, List.length_cons]
    omega
theorem vtNew_len {oo oe : Nat} {ns : List Int} {p : List UInt8 × Nat} (h4 : 4 ≤ oo) (ho : oo ≤ p.1.length) : p.1.length ≤ (vtNew oo oe ns p).1.length ∧ (vtNew oo oe ns p).1.length ≤ p.1.length + 3 * ns.length + 6 := by
  have h1 := foldV_len ns p
  have h2 := stepV_len (p := ns.foldl stepV p) (off := (oo : Int) - oe)
  have h3 := stepV_len (p := stepV (ns.foldl stepV p) ((oo : Int) - oe)) (off := ((2 * (ns.length + 2) : Nat) : Int))
  unfold vtNew
  dsimp only
  rw [over_length (by rw [le_length]; omega)]
  omega
theorem soO_len (out : List UInt8) : (soO out).length = (prepO 4 0 out).length + 4 := by unfold soO; rw [List.length_append, le_length]; omega
section
variable {y : Cy} {A : Around} {s : Shared} {L b st ed F d : Addr} {m : Str → Option Value} {l k l0 tl : List (Addr × Obj)} {r : Raw} {Q : Value → Shared → Prop} {w : Nat} {lo hi : Int} {buf out : List UInt8} {g : Gh} {od : Obj}
theorem gq_EndObject {cvs : List Int} {oe : Nat} {te : Tok} {ca : Addr} {o : Obj} {vs : List Value} (S : St y.cx L m ((b, r.obj) :: (r.ba, baObj buf) :: (ca, o) :: (r.vt, od) :: (tl ++ l)) k s) (R : Rm A 7) (bd : Bd r buf g.out g.room g.ma)
    (vt : ∃ ts, ts.length = g.vts.length ∧ VtO y.cx tl od r.vt (vtsOf g.vts ts)) (vl : ∀ v ∈ g.vts, v.2 ≤ g.out.length) (wd : Width g.ma) (hc : r.cv = some ca) (ho : r.oe = some ((oe : Int), te)) (X : LsO o vs) (hi : IntsAre vs cvs) (hvl : cvs.length ≤ 200) (hnn : r.nested = true)
    (hs : g.out.length ≤ 1000000) (hoe : oe ≤ g.out.length) (hos : g.out.length + 11 - oe ≤ 60000) (hcv : ∀ e ∈ cvs, 0 ≤ e ∧ e ≤ g.out.length ∧ (e ≠ 0 → oe ≤ e)) (hxs : g.vts.length ≤ 1000)
    (h : ∀ r' buf' od' tl' t s', Bq y r' buf' od' tl' (g.endO cvs oe) → r'.ss = r.ss → St y.cx L m ((b, r'.obj) :: (r'.ba, baObj buf') :: (r'.vt, od') :: (tl' ++ l)) k s' → Q (.int (((prepO 4 0 g.out).length + 4 : Nat) : Int) t) s') :
    N y.cx A (call (.ref 320) [.ref b]) Q s := by
  obtain ⟨ts, hts, V⟩ := vt
  have hl := prepO_len (w := 4) (a := 0) (out := g.out) (.inr (.inr (.inl rfl)))
  have hge : g.out.length ≤ (prepO 4 0 g.out).length := by simp [prepO]
  refine ct_EndObject (oo := (prepO 4 0 g.out).length + 4) S R V (fun p hp => List.mem_append_left _ hp) bd hs hc ho X hi hvl hnn rfl (by omega) (by omega) (fun e he => ?_) (by rw [vtsOf_len hts]; exact hxs) (vtsOf_val vl) ?_ ?_
  · obtain ⟨a1, a2, a3⟩ := hcv e he
    exact ⟨a1, by omega, fun z => by have := a3 z; omega⟩
  · intro hat ba hd ma' buf' tt to od' t t' s' S' V' B'
    have hv0 := (vtsOf_at hts).1 hat
    have e : g.endO cvs oe = ⟨(vtNew ((prepO 4 0 g.out).length + 4) oe (keyL cvs (((prepO 4 0 g.out).length + 4 : Nat) : Int)) (soO g.out, prepR 4 0 g.out g.room)).1, (vtNew ((prepO 4 0 g.out).length + 4) oe (keyL cvs (((prepO 4 0 g.out).length + 4 : Nat) : Int)) (soO g.out, prepR 4 0 g.out g.room)).2, max g.ma 4,
        g.vts ++ [(keyL cvs (((prepO 4 0 g.out).length + 4 : Nat) : Int) ++ [(((prepO 4 0 g.out).length + 4 : Nat) : Int) - oe], (vtNew ((prepO 4 0 g.out).length + 4) oe (keyL cvs (((prepO 4 0 g.out).length + 4 : Nat) : Int)) (soO g.out, prepR 4 0 g.out g.room)).1.length)]⟩ := by
      unfold Gh.endO
      dsimp only
      rw [hv0]
    have hvn := vtNew_len (oe := oe) (ns := keyL cvs (((prepO 4 0 g.out).length + 4 : Nat) : Int)) (p := (soO g.out, prepR 4 0 g.out g.room)) (show 4 ≤ (prepO 4 0 g.out).length + 4 by omega) (by rw [soO_len]; omega)
    rw [soO_len] at hvn
    rw [e] at h
    refine h _ _ od' ((tt, to) :: tl) _ _ ⟨B', ⟨ts ++ [(tt, t')], by simp [hts], ?_⟩, rfl, fun v hv => ?_, wd_max wd (.inr (.inr (.inl rfl)))⟩ rfl S'
    · rw [vtsOf_app hts]; exact V'
    · rcases List.mem_append.mp hv with hv | hv
      · have := vl v hv; show v.2 ≤ (vtNew _ _ _ _).1.length; omega
      · rw [List.mem_singleton.mp hv]; exact Nat.le_refl _
  · intro a d td hat ba hd ma' buf' t s' S' B'
    obtain ⟨d', t', e1, hv1⟩ := (vtsOf_at hts).2 _ _ hat
    injection e1 with e1
    obtain rfl : d = d' := by omega
    have e : g.endO cvs oe = ⟨over (soO g.out) 0 (le 4 ((d : Int) - (((prepO 4 0 g.out).length + 4 : Nat) : Int))), prepR 4 0 g.out g.room, max g.ma 4, g.vts⟩ := by
      unfold Gh.endO
      dsimp only
      rw [hv1]
    rw [e] at h
    refine h _ _ od tl _ _ ⟨B', ⟨ts, hts, V⟩, rfl, fun v hv => ?_, wd_max wd (.inr (.inr (.inl rfl)))⟩ rfl S'
    show v.2 ≤ (over _ _ _).length
    rw [over_length (by rw [le_length, soO_len]; omega), soO_len]
    have := vl v hv; omega
set_option maxHeartbeats 8000000 in
theorem ct_deed {form more : Nat} {tf tm : Tok} (S : St y.cx L m ((b, r.obj) :: (r.ba, baObj buf) :: (r.vt, od) :: (tl ++ l)) k s) (R : Rm A 12) (B : Bq y r buf od tl g)
    (hf : form ≤ 7) (hm : more < 100000) (hu : g.out.length ≤ 100000) (hxs : g.vts.length ≤ 500)
    (h : ∀ r' buf' od' tl' s', Bq y r' buf' od' tl' (g.deed form more) → St y.cx L m ((b, r'.obj) :: (r'.ba, baObj buf') :: (r'.vt, od') :: (tl' ++ l)) k s' → Q .none s') :
    N y.cx A (call (.ref 691) [.ref b, .int form tf, .int more tm]) Q s := by
  have hW : Width 4 := .inr (.inr (.inl rfl))
  have hW1 : Width 1 := .inl rfl
  have hW2 : Width 2 := .inr (.inl rfl)
  have hW8 : Width 8 := .inr (.inr (.inr rfl))
  obtain ⟨bd, vt, nn, vl, wd⟩ := id B
  have vl' : ∀ {n : Nat}, g.out.length ≤ n → ∀ v ∈ g.vts, v.2 ≤ n := fun hn v hv => Nat.le_trans (vl v hv) hn
  have hpl : ∀ {w a : Nat} {o : List UInt8}, o.length ≤ (prepO w a o).length := fun {w a o} => by simp [prepO]
  refine p_call (binds := [("maker", .ref b), ("form", .int form tf), ("more", .int more tm)]) S (by rfl) (by rfl) (Rm.depth R) (BindsTo.of_eq rfl) (locs rfl) (fun Lx oLx s₁ S₁ => ?_) (by decide) rfl rfl rfl
  refine n_cons ?_
  refine n_if ?_
  refine t_cmp ?_
  refine r_loc (by assumption) (by exact rfl) ?_
  (refine r_cint (by assumption) ?_; intro _ _ _)
  refine c_eq ?_
  refine tr_bool ?_
  by_cases f0 : form = 0
  · refine g_yes (by simp [f0]) ?_
    refine n_cons ?_
    refine n_expr ?_
    refine e_meth ?_
    refine r_loc (by assumption) (by exact rfl) ?_
    refine m_PrependUint8 (by assumption) ?_
    refine cw1 ?_
    refine sp_cons ?_
    refine e_bin ?_
    refine r_loc (by assumption) (by exact rfl) ?_
    (refine r_cint (by assumption) ?_; intro _ _ _)
    walk_at "n_leaf"
    refine sp_nil ?_
    refine ⟨Kp.of_K (by assumption) (kp_576 _), ?_⟩
    show N _ _ (call _ [_, _] _) _ _
    refine ct_PrependU8 (by assumption) (R.deep.le (by omega)) bd (by omega) (by omega) (by omega) fun ba hd ma' buf' s₂ S₂ B₂ => ?_
    refine ⟨(by intro _ h; cases h), ?_⟩
    show N _ _ _ _ _
    refine n_nil ?_
    show N _ _ _ _ _
    refine n_nil ?_
    refine Back.mk (by assumption) (fun S' => ?_)
    refine h _ _ od tl _ ?_ S'
    have e : g.deed form more = g.num 1 (more % 256 : Nat) := by rw [Gh.deed, if_pos f0]
    rw [e]
    exact ⟨B₂, vt, nn, vl' (by have := hpl (w := 1) (a := 0) (o := g.out); simp [Gh.num]; omega), wd_max wd hW1⟩
  refine g_no (by simp; omega) ?_
  refine n_cons ?_
  refine n_if ?_
  refine t_cmp ?_
  refine r_loc (by assumption) (by exact rfl) ?_
  (refine r_cint (by assumption) ?_; intro _ _ _)
  refine c_eq ?_
  refine tr_bool ?_
  by_cases f1 : form = 1
  · refine g_yes (by simp [f1]) ?_
    refine n_cons ?_
    refine n_expr ?_
    refine e_meth ?_
    refine r_loc (by assumption) (by exact rfl) ?_
    refine m_PrependUint16 (by assumption) ?_
    refine cw1 ?_
    refine sp_cons ?_
    refine e_bin ?_
    refine r_loc (by assumption) (by exact rfl) ?_
    (refine r_cint (by assumption) ?_; intro _ _ _)
    walk_at "n_leaf"
    refine sp_nil ?_
    refine ⟨Kp.of_K (by assumption) (kp_583 _), ?_⟩
    show N _ _ (call _ [_, _] _) _ _
    refine ct_PrependUint16 (by assumption) (R.deep.le (by omega)) bd (by omega) (by omega) (by omega) fun ba hd ma' buf' s₂ S₂ B₂ => ?_
    refine ⟨(by intro _ h; cases h), ?_⟩
    show N _ _ _ _ _
    refine n_nil ?_
    show N _ _ _ _ _
    refine n_nil ?_
    show N _ _ _ _ _
    refine n_nil ?_
    refine Back.mk (by assumption) (fun S' => ?_)
    refine h _ _ od tl _ ?_ S'
    have e : g.deed form more = g.num 2 (more % 65536 : Nat) := by rw [Gh.deed, if_neg f0, if_pos f1]
    rw [e]
    exact ⟨B₂, vt, nn, vl' (by have := hpl (w := 2) (a := 0) (o := g.out); simp [Gh.num]; omega), wd_max wd hW2⟩
  refine g_no (by simp; omega) ?_
  refine n_cons ?_
  refine n_if ?_
  refine t_cmp ?_
  refine r_loc (by assumption) (by exact rfl) ?_
  (refine r_cint (by assumption) ?_; intro _ _ _)
  refine c_eq ?_
  refine tr_bool ?_
  by_cases f2 : form = 2
  · refine g_yes (by simp [f2]) ?_
    refine n_cons ?_
    refine n_expr ?_
    refine e_meth ?_
    refine r_loc (by assumption) (by exact rfl) ?_
    refine m_PrependUint32 (by assumption) ?_
    refine cw1 ?_
    refine sp_cons ?_
    refine r_loc (by assumption) (by exact rfl) ?_
    refine sp_nil ?_
    refine ⟨Kp.of_K (by assumption) (kp_590 _), ?_⟩
    show N _ _ (call _ [_, _] _) _ _
    refine ct_PrependU32 (by assumption) (R.deep.le (by omega)) bd (by omega) (by omega) (by omega) fun ba hd ma' buf' s₂ S₂ B₂ => ?_
    refine ⟨(by intro _ h; cases h), ?_⟩
    show N _ _ _ _ _
    refine n_nil ?_
    show N _ _ _ _ _
    refine n_nil ?_
    show N _ _ _ _ _
    refine n_nil ?_
    show N _ _ _ _ _
    refine n_nil ?_
    refine Back.mk (by assumption) (fun S' => ?_)
    refine h _ _ od tl _ ?_ S'
    have e : g.deed form more = g.num 4 more := by rw [Gh.deed, if_neg f0, if_neg f1, if_pos f2]
    rw [e]
    exact ⟨B₂, vt, nn, vl' (by have := hpl (w := 4) (a := 0) (o := g.out); simp [Gh.num]; omega), wd_max wd hW⟩
  refine g_no (by simp; omega) ?_
  refine n_cons ?_
  refine n_if ?_
  refine t_cmp ?_
  refine r_loc (by assumption) (by exact rfl) ?_
  (refine r_cint (by assumption) ?_; intro _ _ _)
  refine c_eq ?_
  refine tr_bool ?_
  by_cases f3 : form = 3
  · refine g_yes (by simp [f3]) ?_
    refine n_cons ?_
    refine n_expr ?_
    refine e_meth ?_
    refine r_loc (by assumption) (by exact rfl) ?_
    refine m_PrependInt64 (by assumption) ?_
    refine cw1 ?_
    refine sp_cons ?_
    refine e_un ?_
    refine r_loc (by assumption) (by exact rfl) ?_
    (refine i_neg (by assumption) ?_; intro _ _ _)
    refine sp_nil ?_
    refine ⟨Kp.of_K (by assumption) (kp_625 _), ?_⟩
    show N _ _ (call _ [_, _] _) _ _
    refine ct_PrependInt64 (by assumption) (R.deep.le (by omega)) bd (by omega) (by omega) (by omega) fun ba hd ma' buf' s₂ S₂ B₂ => ?_
    refine ⟨(by intro _ h; cases h), ?_⟩
    show N _ _ _ _ _
    refine n_nil ?_
    show N _ _ _ _ _
    refine n_nil ?_
    show N _ _ _ _ _
    refine n_nil ?_
    show N _ _ _ _ _
    refine n_nil ?_
    show N _ _ _ _ _
    refine n_nil ?_
    refine Back.mk (by assumption) (fun S' => ?_)
    refine h _ _ od tl _ ?_ S'
    have e : g.deed form more = g.num 8 (-(more : Int)) := by rw [Gh.deed, if_neg f0, if_neg f1, if_neg f2, if_pos f3]
    rw [e]
    exact ⟨B₂, vt, nn, vl' (by have := hpl (w := 8) (a := 0) (o := g.out); simp [Gh.num]; omega), wd_max wd hW8⟩
  refine g_no (by simp; omega) ?_
  refine n_cons ?_
  refine n_if ?_
  refine t_cmp ?_
  refine r_loc (by assumption) (by exact rfl) ?_
  (refine r_cint (by assumption) ?_; intro _ _ _)
  refine c_eq ?_
  refine tr_bool ?_
  by_cases f4 : form = 4
  · refine g_yes (by simp [f4]) ?_
    refine n_cons ?_
    refine n_expr ?_
    refine e_meth ?_
    refine r_loc (by assumption) (by exact rfl) ?_
    refine m_CreateString (by assumption) ?_
    refine cw1 ?_
    refine sp_cons ?_
    refine e_bin ?_
    refine e_call ?_
    refine p_blt (by assumption) (gb_bytes _) (by boot_by_name) (by decide) ?_ rfl rfl
    refine cw1 ?_
    refine sp_cons ?_
    refine e_list ?_
    refine sp_cons ?_
    refine e_bin ?_
    refine e_bin ?_
    refine r_loc (by assumption) (by exact rfl) ?_
    (refine r_cint (by assumption) ?_; intro _ _ _)
    walk_at "n_leaf"
    (refine r_cint (by assumption) ?_; intro _ _ _)
    (refine i_add (by assumption) ?_; intro _ _ _)
    refine sp_nil ?_
    refine k_newlist (by assumption) (by simp) fun dl s₂ S₂ => ?_
    refine sp_nil ?_
    refine ⟨Kp.type, ?_⟩
    show N _ _ (call _ [_] _) _ _
    have e251 : more % 251 < 251 := Nat.mod_lt _ (by decide)
    refine k_bytes_list (ns := [((more % 251 + 1 : Nat) : Int)]) LsO.of (by assumption) (by walk_at "in_l") (.cons _ _ .nil) (by intro n hn; rw [List.mem_singleton.mp hn]; omega) (by simp) R.h ?_
    intro _
    intro _
    intro _
    refine e_bin ?_
    refine r_loc (by assumption) (by exact rfl) ?_
    (refine r_cint (by assumption) ?_; intro _ _ _)
    walk_at "n_leaf"
    refine y_mul1 (x := (more % 251 + 1).toUInt8) (n := more % 60) (by assumption) (by omega) ?_
    intro _
    intro _
    intro _
    refine sp_nil ?_
    refine ⟨Kp.of_K (by assumption) (kp_398 _), ?_⟩
    show N _ _ (call _ [_, _] _) _ _
    rename_i S₃
    have S₃ := S₃.drop
    refine ct_CreateString S₃ (R.deep.le (by omega)) bd (by omega) (by rw [List.length_replicate]; omega) nn fun ba hd ma' buf' t s₄ S₄ B₄ => ?_
    refine ⟨(by intro _ h; cases h), ?_⟩
    show N _ _ _ _ _
    refine n_nil ?_
    show N _ _ _ _ _
    refine n_nil ?_
    show N _ _ _ _ _
    refine n_nil ?_
    show N _ _ _ _ _
    refine n_nil ?_
    show N _ _ _ _ _
    refine n_nil ?_
    show N _ _ _ _ _
    refine n_nil ?_
    refine Back.mk (by assumption) (fun S' => ?_)
    refine h _ _ od tl _ ?_ S'
    have e : g.deed form more = g.str (List.replicate (more % 60) (more % 251 + 1).toUInt8) := by rw [Gh.deed, if_neg f0, if_neg f1, if_neg f2, if_neg f3, if_pos f4]
    rw [e]
    exact ⟨by simpa [Gh.str] using B₄, vt, nn, vl' (by have := hpl (w := 4) (a := more % 60 + 1) (o := g.out); simp [Gh.str, strO]; omega), wd_max wd hW⟩
  refine g_no (by simp; omega) ?_
  refine n_cons ?_
  refine n_if ?_
  refine t_cmp ?_
  refine r_loc (by assumption) (by exact rfl) ?_
  (refine r_cint (by assumption) ?_; intro _ _ _)
  refine c_eq ?_
  refine tr_bool ?_
  by_cases f5 : form = 5
  · refine g_yes (by simp [f5]) ?_
    refine n_cons ?_
    refine n_expr ?_
    refine e_meth ?_
    refine r_loc (by assumption) (by exact rfl) ?_
    refine m_CreateByteVector (by assumption) ?_
    refine cw1 ?_
    refine sp_cons ?_
    refine e_bin ?_
    refine e_call ?_
    refine p_blt (by assumption) (gb_bytes _) (by boot_by_name) (by decide) ?_ rfl rfl
    refine cw1 ?_
    refine sp_cons ?_
    refine e_list ?_
    refine sp_cons ?_
    refine e_bin ?_
    refine e_bin ?_
    refine r_loc (by assumption) (by exact rfl) ?_
    (refine r_cint (by assumption) ?_; intro _ _ _)
    walk_at "n_leaf"
    (refine r_cint (by assumption) ?_; intro _ _ _)
    (refine i_add (by assumption) ?_; intro _ _ _)
    refine sp_nil ?_
    refine k_newlist (by assumption) (by simp) fun dl s₂ S₂ => ?_
    refine sp_nil ?_
    refine ⟨Kp.type, ?_⟩
    show N _ _ (call _ [_] _) _ _
    have e253 : more % 253 < 253 := Nat.mod_lt _ (by decide)
    refine k_bytes_list (ns := [((more % 253 + 2 : Nat) : Int)]) LsO.of (by assumption) (by walk_at "in_l") (.cons _ _ .nil) (by intro n hn; rw [List.mem_singleton.mp hn]; omega) (by simp) R.h ?_
    intro _
    intro _
    intro _
    refine e_bin ?_
    refine r_loc (by assumption) (by exact rfl) ?_
    (refine r_cint (by assumption) ?_; intro _ _ _)
    walk_at "n_leaf"
    refine y_mul1 (x := (more % 253 + 2).toUInt8) (n := more % 77) (by assumption) (by omega) ?_
    intro _
    intro _
    intro _
    refine sp_nil ?_
    refine ⟨Kp.of_K (by assumption) (kp_405 _), ?_⟩
    show N _ _ (call _ [_, _] _) _ _
    rename_i S₃
    have S₃ := S₃.drop
    refine ct_CreateByteVector S₃ (R.deep.le (by omega)) bd (by omega) (by rw [List.length_replicate]; omega) nn fun ba hd ma' buf' t s₄ S₄ B₄ => ?_
    refine ⟨(by intro _ h; cases h), ?_⟩
    show N _ _ _ _ _
    refine n_nil ?_
    show N _ _ _ _ _
    refine n_nil ?_
    show N _ _ _ _ _
    refine n_nil ?_
    show N _ _ _ _ _
    refine n_nil ?_
    show N _ _ _ _ _
    refine n_nil ?_
    show N _ _ _ _ _
    refine n_nil ?_
    show N _ _ _ _ _
    refine n_nil ?_
    refine Back.mk (by assumption) (fun S' => ?_)
    refine h _ _ od tl _ ?_ S'
    have e : g.deed form more = g.bv (List.replicate (more % 77) (more % 253 + 2).toUInt8) := by rw [Gh.deed, if_neg f0, if_neg f1, if_neg f2, if_neg f3, if_neg f4, if_pos f5]
    rw [e]
    exact ⟨by simpa [Gh.bv] using B₄, vt, nn, vl' (by have := hpl (w := 4) (a := more % 77) (o := g.out); simp [Gh.bv, bvO]; omega), wd_max wd hW⟩
  refine g_no (by simp; omega) ?_
  refine n_cons ?_
  refine n_if ?_
  refine t_cmp ?_
  refine r_loc (by assumption) (by exact rfl) ?_
  (refine r_cint (by assumption) ?_; intro _ _ _)
  refine c_eq ?_
  refine tr_bool ?_
  by_cases f6 : form = 6
  · refine g_yes (by simp [f6]) ?_
    refine n_cons ?_
    refine n_expr ?_
    refine e_meth ?_
    refine r_loc (by assumption) (by exact rfl) ?_
    refine m_StartVector (by assumption) ?_
    refine cw1 ?_
    refine sp_cons ?_
    (refine r_cint (by assumption) ?_; intro _ _ _)
    refine sp_cons ?_
    refine e_bin ?_
    refine r_loc (by assumption) (by exact rfl) ?_
    (refine r_cint (by assumption) ?_; intro _ _ _)
    walk_at "n_leaf"
    refine sp_cons ?_
    (refine r_cint (by assumption) ?_; intro _ _ _)
    refine sp_nil ?_
    refine ⟨Kp.of_K (by assumption) (kp_376 _), ?_⟩
    show N _ _ (call _ [_, _, _, _] _) _ _
    have e5 : more % 5 < 5 := Nat.mod_lt _ (by decide)
    refine ct_StartVector (e := 8) (n := more % 5) (w := 8) (by assumption) (R.deep.le (by omega)) bd (by omega) hW8 (by omega) (by omega) nn fun ba hd ma' buf' t s₂ S₂ B₂ => ?_
    refine ⟨(by intro _ h; cases h), ?_⟩
    show N _ _ _ _ _
    refine n_cons ?_
    refine n_for ?_
    refine e_call ?_
    refine p_blt (by assumption) (gb_range _) (by boot_by_name) (by decide) ?_ rfl rfl
    refine cw1 ?_
    refine sp_cons ?_
    refine e_bin ?_
    refine r_loc (by assumption) (by exact rfl) ?_
    (refine r_cint (by assumption) ?_; intro _ _ _)
    walk_at "n_leaf"
    refine sp_nil ?_
    refine ⟨Kp.type, ?_⟩
    show N _ _ (call _ [_] _) _ _
    rename_i S₃
    refine k_range (n := more % 5) S₃ fun rg s₄ r1 r2 r3 S₄ => ?_
    skip
    refine k_iter_range (n := more % 5) S₄ (by omega) fun it s₅ S₅ => ?_
    obtain ⟨q0, hq0⟩ : ∃ q0, q0 = (prepO 8 (8 * (more % 5)) (prepO 4 (8 * (more % 5)) g.out), prepR 8 (8 * (more % 5)) (prepO 4 (8 * (more % 5)) g.out) (prepR 4 (8 * (more % 5)) g.out g.room)) := ⟨_, rfl⟩
    have hl1 := prepO_len (a := 8 * (more % 5)) (out := g.out) hW
    have hl2 := prepO_len (a := 8 * (more % 5)) (out := prepO 4 (8 * (more % 5)) g.out) hW8
    have hg8 := prepR_ge (w := 8) (a := 8 * (more % 5)) (out := prepO 4 (8 * (more % 5)) g.out) (room := prepR 4 (8 * (more % 5)) g.out g.room)
    have hm8 := fill8_sum (prepO 4 (8 * (more % 5)) g.out).length (8 * (more % 5))
    have hge : g.out.length ≤ (prepO 4 (8 * (more % 5)) g.out).length := hpl
    have q1e : q0.1 = prepO 8 (8 * (more % 5)) (prepO 4 (8 * (more % 5)) g.out) := by rw [hq0]
    have q2e : q0.2 = prepR 8 (8 * (more % 5)) (prepO 4 (8 * (more % 5)) g.out) (prepR 4 (8 * (more % 5)) g.out g.room) := by rw [hq0]
    rw [← q1e, ← q2e] at B₂ hg8
    rw [← q1e] at hl2
    refine NC.for_ind (fun n s' => ∃ (m' : Str → Option Value) (ba : Addr) (hd ma : Int × Tok) (buf : List UInt8) (tv : Tok) (i : Nat) (q : List UInt8 × Nat), St y.cx Lx m' ((it, rit (i : Int) n) :: (b, ({ r with nested := true, vne := some (some (((more % 5 : Nat) : Int), tv)) }.at ba hd ma).obj) :: (ba, baObj buf) :: (r.vt, od) :: (tl ++ l)) ((L, oLx) :: k) s' ∧
      m' "maker" = some (.ref b) ∧ m' "more" = some (.int more tm) ∧ i + n = more % 5 ∧ Bd ({ r with nested := true, vne := some (some (((more % 5 : Nat) : Int), tv)) }.at ba hd ma) buf q.1 q.2 (max (max g.ma 4) 8) ∧ q = vecL more i q0 ∧
      q.1.length % 8 = 0 ∧ q.1.length + 8 * n + 8 ≤ q.2 ∧ q.1.length = q0.1.length + 8 * i) ?_ (more % 5) _
      ⟨_, ba, hd, ma', buf', _, 0, q0, S₅, by exact rfl, by exact rfl, by omega, B₂, rfl, by omega, by omega, by omega⟩
    rintro n s₆ ⟨m', ba, hd, ma, buf, tv, i, q, S₆, e1, e2, hin, B₆, hq, h8, hrm, hql⟩
    cases n with
    | zero =>
      refine k_next_range_end S₆ R.h fun s₇ S₇ => ?_
      show N _ _ _ _ _
      refine n_cons ?_
      refine n_expr ?_
      refine e_meth ?_
      refine r_loc (by assumption) (by exact e1) ?_
      refine m_EndVector (by assumption) ?_
      refine cw0 ?_ ?_
      exact Kp.of_K (by assumption) (kp_384 _)
      show N _ _ (call _ [_] _) _ _
      refine ct_EndVector (n := more % 5) (tn := tv) S₇ (R.deep.le (by omega)) B₆ (by omega) (by omega) rfl rfl fun hd3 buf3 t3 s₉ S₉ B₉ => ?_
      refine ⟨(by intro _ h; cases h), ?_⟩
      show N _ _ _ _ _
      refine n_nil ?_
      show N _ _ _ _ _
      refine n_nil ?_
      show N _ _ _ _ _
      refine n_nil ?_
      show N _ _ _ _ _
      refine n_nil ?_
      show N _ _ _ _ _
      refine n_nil ?_
      show N _ _ _ _ _
      refine n_nil ?_
      show N _ _ _ _ _
      refine n_nil ?_
      show N _ _ _ _ _
      refine n_nil ?_
      refine Back.mk (by assumption) (fun S' => ?_)
      have e : g.deed form more = g.vec more := by rw [Gh.deed, if_neg f0, if_neg f1, if_neg f2, if_neg f3, if_neg f4, if_neg f5, if_pos f6]
      have hi : i = more % 5 := by omega
      have eo : g.vec more = ⟨le 4 (more % 5 : Nat) ++ q.1, q.2, max (max g.ma 4) 8, g.vts⟩ := by
        rw [hq, hi, hq0]; rfl
      rw [e, eo] at h
      refine h _ _ od tl _ ?_ S'
      exact ⟨⟨B₉.ok, B₉.ma, B₉.rm⟩, vt, rfl, vl' (by simp; omega), wd_max (wd_max wd hW) hW8⟩
    | succ n =>
      refine k_next_range S₆ (by omega) fun tx s₇ S₇ => ?_
      rw [show (((n + 1 : Nat) : Int) - 1) = (n : Int) by omega] at S₇
      have S₇ := S₇.under
      show N _ _ _ _ _
      (refine r_st (by assumption) ?_; intro _ _)
      refine n_cons ?_
      refine n_expr ?_
      refine e_meth ?_
      refine r_loc (by assumption) (by exact e1) ?_
      refine m_PrependUint64 (by assumption) ?_
      refine cw1 ?_
      refine sp_cons ?_
      refine e_bin ?_
      refine r_loc (by assumption) (by exact e2) ?_
      refine r_loc (by assumption) (by exact rfl) ?_
      (refine i_add (by assumption) ?_; intro _ _ _)
      refine sp_nil ?_
      refine ⟨Kp.of_K (by assumption) (kp_597 _), ?_⟩
      show N _ _ (call _ [_, _] _) _ _
      rw [show (more : Int) + (i : Int) = ((more + i : Nat) : Int) by omega]
      refine ct_PrependUint64 (by assumption) (R.deep.le (by omega)) B₆ (by omega) (by omega) (by omega) fun ba2 hd2 ma2 buf2 s₈ S₈ B₈ => ?_
      have hp0 : prepO 8 0 q.1 = q.1 := by unfold prepO; rw [Nat.add_zero, fill8 h8]; rfl
      have hR := (growN_ge (q.1.length + needN 8 q.1.length 0) q.2).2
      have hmx : max (max (max g.ma 4) 8) 8 = max (max g.ma 4) 8 := by omega
      rw [hmx] at B₈
      refine ⟨(by intro _ h; cases h), ?_⟩
      show N _ _ _ _ _
      refine n_nil ?_
      refine ⟨n, by omega, _, ba2, hd2, ma2, buf2, tv, i + 1, (le 8 ((more + i : Nat) : Int) ++ prepO 8 0 q.1, prepR 8 0 q.1 q.2), S₈.over, by exact e1, by exact e2, by omega, B₈, by rw [vecL, ← hq], ?_, ?_, ?_⟩
      · rw [hp0, List.length_append, le_length]; omega
      · rw [hp0, List.length_append, le_length]; unfold prepR; omega
      · rw [hp0, List.length_append, le_length]; omega
  refine g_no (by simp; omega) ?_
  refine n_cons ?_
  refine n_expr ?_
  refine e_meth ?_
  refine r_loc (by assumption) (by exact rfl) ?_
  refine m_StartObject (by assumption) ?_
  refine cw1 ?_
  refine sp_cons ?_
  refine e_bin ?_
  (refine r_cint (by assumption) ?_; intro _ _ _)
  refine e_bin ?_
  refine r_loc (by assumption) (by exact rfl) ?_
  (refine r_cint (by assumption) ?_; intro _ _ _)
  walk_at "n_leaf"
  (refine i_add (by assumption) ?_; intro _ _ _)
  refine sp_nil ?_
  refine ⟨Kp.of_K (by assumption) (kp_306 _), ?_⟩
  show N _ _ (call _ [_, _] _) _ _
  rw [show (1 : Int) + ((more % 4 : Nat) : Int) = ((more % 4 + 1 : Nat) : Int) by omega]
  have e4 : more % 4 < 4 := Nat.mod_lt _ (by decide)
  have e900 : more % 900 < 900 := Nat.mod_lt _ (by decide)
  refine ct_StartObject (n := more % 4 + 1) (by assumption) (R.deep.le (by omega)) bd.ok (by omega) nn fun ca o vs toe s₂ X I S₂ => ?_
  refine ⟨(by intro _ h; cases h), ?_⟩
  show N _ _ _ _ _
  refine n_cons ?_
  refine n_expr ?_
  refine e_meth ?_
  refine r_loc (by assumption) (by exact rfl) ?_
  refine m_PrependInt32Slot (by assumption) ?_
  refine cw1 ?_
  refine sp_cons ?_
  refine e_bin ?_
  refine r_loc (by assumption) (by exact rfl) ?_
  (refine r_cint (by assumption) ?_; intro _ _ _)
  walk_at "n_leaf"
  refine sp_cons ?_
  refine e_bin ?_
  refine e_bin ?_
  refine r_loc (by assumption) (by exact rfl) ?_
  (refine r_cint (by assumption) ?_; intro _ _ _)
  walk_at "n_leaf"
  (refine r_cint (by assumption) ?_; intro _ _ _)
  (refine i_sub (by assumption) ?_; intro _ _ _)
  refine sp_cons ?_
  refine e_un ?_
  (refine r_cint (by assumption) ?_; intro _ _ _)
  (refine i_neg (by assumption) ?_; intro _ _ _)
  refine sp_nil ?_
  refine ⟨Kp.of_K (by assumption) (kp_534 _), ?_⟩
  show N _ _ (call _ [_, _, _, _] _) _ _
  have hvl : vs.length = more % 4 + 1 := by rw [I.length, List.length_replicate]
  refine ct_PrependInt32Slot (i := more % 4) (x := ((more % 900 : Nat) : Int) - 1) (dd := -1) (r := { r with cv := some ca, oe := some (((g.out.length : Nat) : Int), toe), nested := true }) (by assumption) (R.deep.le (by omega)) ⟨bd.ok, bd.ma, bd.rm⟩ (by omega) X rfl rfl (by omega) (by omega) (by omega) (by omega) (by decide) (by decide) ?_ ?_
  · intro hx s₃ S₃
    refine ⟨(by intro _ h; cases h), ?_⟩
    show N _ _ _ _ _
    refine n_cons ?_
    refine n_expr ?_
    refine e_meth ?_
    refine r_loc (by assumption) (by exact rfl) ?_
    refine m_EndObject (by assumption) ?_
    refine cw0 ?_ ?_
    exact Kp.of_K (by assumption) (kp_320 _)
    show N _ _ (call _ [_] _) _ _
    have h9 : more % 900 = 0 := by omega
    refine gq_EndObject (g := g) (cvs := List.replicate (more % 4 + 1) 0) (oe := g.out.length) S₃ (R.deep.le (by omega)) ⟨bd.ok, bd.ma, bd.rm⟩ vt vl wd rfl rfl X I (by simp; omega) rfl (by omega) (Nat.le_refl _) (by omega) (fun e he => ?_) (by omega) ?_
    · rw [List.eq_of_mem_replicate he]; omega
    intro r' buf' od' tl' t s₄ B₄ _ S₄
    refine ⟨(by intro _ h; cases h), ?_⟩
    show N _ _ _ _ _
    refine n_nil ?_
    show N _ _ _ _ _
    refine n_nil ?_
    show N _ _ _ _ _
    refine n_nil ?_
    show N _ _ _ _ _
    refine n_nil ?_
    show N _ _ _ _ _
    refine n_nil ?_
    show N _ _ _ _ _
    refine n_nil ?_
    show N _ _ _ _ _
    refine n_nil ?_
    show N _ _ _ _ _
    refine n_nil ?_
    refine Back.mk (by assumption) (fun S' => ?_)
    have e : g.deed form more = g.endO (List.replicate (more % 4 + 1) 0) g.out.length := by rw [Gh.deed, if_neg f0, if_neg f1, if_neg f2, if_neg f3, if_neg f4, if_neg f5, if_neg f6, Gh.tab, if_pos h9]
    rw [e] at h
    exact h _ _ _ _ _ B₄ S'
  · intro hx ba hd ma' buf' t o' s₃ S₃ B₃ X₃
    refine ⟨(by intro _ h; cases h), ?_⟩
    show N _ _ _ _ _
    refine n_cons ?_
    refine n_expr ?_
    refine e_meth ?_
    refine r_loc (by assumption) (by exact rfl) ?_
    refine m_EndObject (by assumption) ?_
    refine cw0 ?_ ?_
    exact Kp.of_K (by assumption) (kp_320 _)
    show N _ _ (call _ [_] _) _ _
    have h9 : ¬ more % 900 = 0 := by omega
    have hlo : (le 4 (((more % 900 : Nat) : Int) - 1) ++ prepO 4 0 g.out).length = (prepO 4 0 g.out).length + 4 := by rw [List.length_append, le_length]; omega
    have hp4 := prepO_len (w := 4) (a := 0) (out := g.out) hW
    have hpg : g.out.length ≤ (prepO 4 0 g.out).length := hpl
    refine gq_EndObject (g := g.num 4 (((more % 900 : Nat) : Int) - 1)) (cvs := (List.replicate (more % 4 + 1) 0).set (more % 4) ((le 4 (((more % 900 : Nat) : Int) - 1) ++ prepO 4 0 g.out).length : Int)) (oe := g.out.length) S₃ (R.deep.le (by omega)) ⟨B₃.ok, B₃.ma, B₃.rm⟩ vt (vl' (by show _ ≤ (le 4 _ ++ prepO 4 0 g.out).length; omega)) (wd_max wd hW) rfl rfl X₃ (ints_set I (more % 4) _ _) (by simp; omega) rfl (by show (le 4 _ ++ prepO 4 0 g.out).length ≤ _; omega) (by show _ ≤ (le 4 _ ++ prepO 4 0 g.out).length; omega) (by show (le 4 _ ++ prepO 4 0 g.out).length + 11 - _ ≤ _; omega) (fun e he => ?_) (by show g.vts.length ≤ _; omega) ?_
    · show _ ∧ e ≤ ((le 4 _ ++ prepO 4 0 g.out).length : Int) ∧ _
      rcases List.mem_or_eq_of_mem_set he with he | rfl
      · rw [List.eq_of_mem_replicate he]; omega
      · omega
    intro r' buf' od' tl' t s₄ B₄ _ S₄
    refine ⟨(by intro _ h; cases h), ?_⟩
    show N _ _ _ _ _
    refine n_nil ?_
    show N _ _ _ _ _
    refine n_nil ?_
    show N _ _ _ _ _
    refine n_nil ?_
    show N _ _ _ _ _
    refine n_nil ?_
    show N _ _ _ _ _
    refine n_nil ?_
    show N _ _ _ _ _
    refine n_nil ?_
    show N _ _ _ _ _
    refine n_nil ?_
    show N _ _ _ _ _
    refine n_nil ?_
    refine Back.mk (by assumption) (fun S' => ?_)
    have e : g.deed form more = (g.num 4 (((more % 900 : Nat) : Int) - 1)).endO ((List.replicate (more % 4 + 1) 0).set (more % 4) ((le 4 (((more % 900 : Nat) : Int) - 1) ++ prepO 4 0 g.out).length : Int)) g.out.length := by
      rw [Gh.deed, if_neg f0, if_neg f1, if_neg f2, if_neg f3, if_neg f4, if_neg f5, if_neg f6, Gh.tab, if_neg h9]
    rw [e] at h
    exact h _ _ _ _ _ B₄ S'
end

end Mine

end
-- PP2
section
open PySem PySem.W PySem.Calls PyProof.Rows
set_option maxRecDepth 100000
set_option linter.unusedVariables false
set_option linter.deprecated false
namespace Mine
def keyOf : List Int → List Int
  | [x1, x2, x3] => if x3 = -1 then [x1] else x2 :: (List.replicate x3.toNat 0 ++ [x1])
  | _ => []
def ValidS (e : List Int) : Prop := ∃ x1 x2 x3, e = [x1, x2, x3] ∧ ((x2 = 0 ∧ x3 = -1) ∨ 0 ≤ x3)
/-- the law's shapes against the builder's vtables -/
structure Rel (g : Gh) (E : List (List Int)) : Prop where
  keys : g.vts.map (·.1) = E.map keyOf
  val : ∀ e ∈ E, ValidS e
theorem keyOf_inj {a b : List Int} (ha : ValidS a) (hb : ValidS b) (e : keyOf a = keyOf b) : a = b := by
  obtain ⟨x1, x2, x3, rfl, hx⟩ := ha
  obtain ⟨y1, y2, y3, rfl, hy⟩ := hb
  simp only [keyOf] at e
  by_cases h3 : x3 = -1
  · rw [if_pos h3] at e
    by_cases k3 : y3 = -1
    · rw [if_pos k3] at e
      have e1 : x1 = y1 := by simpa using e
      have e2 : x2 = 0 := by rcases hx with h | h <;> omega
      have e3 : y2 = 0 := by rcases hy with h | h <;> omega
      rw [e1, e2, e3, h3, k3]
    · rw [if_neg k3] at e
      have := congrArg List.length e
      simp at this
  · rw [if_neg h3] at e
    by_cases k3 : y3 = -1
    · rw [if_pos k3] at e
      have := congrArg List.length e
      simp at this
    · rw [if_neg k3] at e
      obtain ⟨e2, e4⟩ := List.cons.inj e
      have hl := congrArg List.length e4
      simp at hl
      rw [hl] at e4
      have e5 := List.append_cancel_left e4
      have e1 : x1 = y1 := by simpa using e5
      have e3 : x3 = y3 := by rcases hx with h | h <;> rcases hy with h' | h' <;> omega
      rw [e1, e2, e3]
theorem vtAt_none {vts : List (List Int × Nat)} {key : List Int} : vtAt vts key = none ↔ key ∉ vts.map (·.1) := by
  unfold vtAt
  rw [Option.map_eq_none_iff, List.find?_eq_none]
  simp only [decide_eq_true_eq, List.mem_map, not_exists, not_and]
theorem keyL_zero (oo : Int) (n : Nat) : keyL (List.replicate n 0) oo = [] := by
  unfold keyL
  rw [List.reverse_replicate]
  have : ∀ n : Nat, (List.replicate n (0 : Int)).foldl (stepK oo) (true, []) = (true, []) := by
    intro n
    induction n with
    | zero => rfl
    | succ n ih => rw [List.replicate_succ, List.foldl_cons]; exact ih
  rw [this]
theorem keyL_one (oo off : Int) (h : off ≠ 0) (j : Nat) : keyL ((List.replicate (j + 1) 0).set j off) oo = (oo - off) :: List.replicate j 0 := by
  have e : (List.replicate (j + 1) (0 : Int)).set j off = List.replicate j 0 ++ [off] := by
    rw [List.replicate_succ', List.set_append_right _ _ (by simp)]
    simp
  unfold keyL
  rw [e, List.reverse_append, List.reverse_replicate]
  have f : ∀ (n : Nat) (acc : List Int), (List.replicate n (0 : Int)).foldl (stepK oo) (false, acc) = (false, acc ++ List.replicate n 0) := by
    intro n
    induction n with
    | zero => intro acc; simp
    | succ n ih =>
      intro acc
      rw [List.replicate_succ, List.foldl_cons]
      have : stepK oo (false, acc) 0 = (false, acc ++ [0]) := rfl
      rw [this, ih, List.append_assoc]
      rfl
  show (((List.replicate j (0 : Int)).foldl (stepK oo) (stepK oo (true, []) off)).2) = _
  have : stepK oo (true, []) off = (false, [oo - off]) := by unfold stepK; rw [if_neg h]; rfl
  rw [this, f]
  rfl
-- what ends in what stood
def Suf (a b : List UInt8) : Prop := ∃ pre, b = pre ++ a
theorem Suf.app {a b : List UInt8} (x : List UInt8) (h : Suf a b) : Suf a (x ++ b) := let ⟨p, e⟩ := h; ⟨x ++ p, by rw [e, List.append_assoc]⟩
theorem Suf.trans {a b d : List UInt8} (h : Suf a b) (h' : Suf b d) : Suf a d := let ⟨p, e⟩ := h; let ⟨q, e'⟩ := h'; ⟨q ++ p, by rw [e', e, List.append_assoc]⟩
theorem Suf.refl (a : List UInt8) : Suf a a := ⟨[], rfl⟩
theorem Suf.prep {w a : Nat} {o : List UInt8} : Suf o (prepO w a o) := ⟨_, rfl⟩
theorem vecL_suf (more : Nat) : ∀ (i : Nat) (p : List UInt8 × Nat), Suf p.1 (vecL more i p).1
  | 0, p => Suf.refl _
  | i + 1, p => ((vecL_suf more i p).trans Suf.prep).app _
theorem foldV_suf (ns : List Int) : ∀ p : List UInt8 × Nat, Suf p.1 (ns.foldl stepV p).1 := by
  induction ns with
  | nil => intro p; exact Suf.refl _
  | cons n ns ih => intro p; exact (Suf.prep.app (le 2 n)).trans (ih (stepV p n))
theorem over_app {V b x : List UInt8} : over (V ++ b) V.length x = V ++ over b 0 x := by
  unfold over
  rw [List.take_left', List.take_zero, List.nil_append, Nat.zero_add, List.drop_append, List.drop_of_length_le (by omega), List.nil_append, List.append_assoc, Nat.add_sub_cancel_left]
  rfl
theorem over_soO {out x : List UInt8} (hx : x.length = 4) : over (soO out) 0 x = x ++ prepO 4 0 out := by
  unfold over soO
  rw [List.take_zero, List.nil_append, Nat.zero_add, hx, List.drop_left' (le_length _ _)]
theorem vtNew_suf {oe : Nat} {ns : List Int} {out : List UInt8} {r : Nat} : ∃ V x, x.length = 4 ∧ (vtNew ((prepO 4 0 out).length + 4) oe ns (soO out, r)).1 = V ++ (x ++ prepO 4 0 out) := by
  unfold vtNew
  dsimp only
  generalize hq : stepV (stepV (ns.foldl stepV (soO out, r)) ((((prepO 4 0 out).length + 4 : Nat) : Int) - oe)) ((2 * (ns.length + 2) : Nat) : Int) = q
  obtain ⟨V, hV⟩ : Suf (soO out) q.1 := by
    rw [← hq]
    exact (((foldV_suf ns (soO out, r)).trans Suf.prep).app _).trans (Suf.prep.app _)
  have hl : q.1.length - ((prepO 4 0 out).length + 4) = V.length := by rw [hV, List.length_append, soO_len]; omega
  obtain ⟨x, hx⟩ : ∃ x, x = le 4 ((q.1.length : Int) - (((prepO 4 0 out).length + 4 : Nat) : Int)) := ⟨_, rfl⟩
  have hx4 : x.length = 4 := by rw [hx, le_length]
  refine ⟨V, x, hx4, ?_⟩
  rw [hl, ← hx, hV, over_app, over_soO hx4]
theorem endO_suf {g : Gh} {cvs : List Int} {oe : Nat} : Suf g.out (g.endO cvs oe).out := by
  unfold Gh.endO
  dsimp only
  split
  · obtain ⟨V, x, _, e⟩ := vtNew_suf (oe := oe) (ns := keyL cvs (((prepO 4 0 g.out).length + 4 : Nat) : Int)) (out := g.out) (r := prepR 4 0 g.out g.room)
    show Suf g.out (vtNew _ _ _ _).1
    rw [e]
    exact (Suf.prep.app x).app V
  · rename_i d _
    show Suf g.out (over _ _ _)
    rw [over_soO (le_length _ _)]
    exact Suf.prep.app _
theorem endO_ma {g : Gh} {cvs : List Int} {oe : Nat} : (g.endO cvs oe).ma = max g.ma 4 := by
  unfold Gh.endO
  dsimp only
  split <;> rfl
theorem form_cases {f : Nat} (h : f ≤ 7) : f = 0 ∨ f = 1 ∨ f = 2 ∨ f = 3 ∨ f = 4 ∨ f = 5 ∨ f = 6 ∨ f = 7 := by omega
theorem deed_suffix {g : Gh} {form more : Nat} : Suf g.out (g.deed form more).out := by
  unfold Gh.deed
  repeat' split
  · exact Suf.prep.app _
  · exact Suf.prep.app _
  · exact Suf.prep.app _
  · exact Suf.prep.app _
  · exact ((Suf.prep.app _).app _).app _
  · exact (Suf.prep.app _).app _
  · exact ((Suf.prep.trans Suf.prep).trans (vecL_suf more _ (_, _))).app _
  · unfold Gh.tab
    split
    · exact endO_suf
    · exact (show Suf g.out (g.num 4 _).out from Suf.prep.app _).trans endO_suf
theorem deed_ma {g : Gh} {form more : Nat} (hf : form ≤ 7) : (g.deed form more).ma = max g.ma ([1, 2, 4, 8, 4, 4, 8, 4].getD form 0) := by
  rcases form_cases hf with rfl | rfl | rfl | rfl | rfl | rfl | rfl | rfl
  · rfl
  · rfl
  · rfl
  · rfl
  · rfl
  · rfl
  · show max (max g.ma 4) 8 = max g.ma 8; omega
  · show (g.tab more).ma = max g.ma 4
    unfold Gh.tab
    split
    · exact endO_ma
    · rw [endO_ma]; show max (max g.ma 4) 4 = _; omega
-- how long
theorem itN_comm {α : Type} (f : α → α) : ∀ (n : Nat) (a : α), itN f n (f a) = f (itN f n a)
  | 0, _ => rfl
  | n + 1, a => by rw [itN, itN, itN_comm f n a]
def lens (p : List UInt8 × Nat) : Nat × Nat := (p.1.length, p.2)
theorem lens_stepV (p : List UInt8 × Nat) (off : Int) : lens (stepV p off) = needS 2 0 2 (lens p) := by
  unfold lens stepV needS
  refine Prod.ext ?_ rfl
  show (le 2 off ++ prepO 2 0 p.1).length = _
  rw [List.length_append, le_length]
  simp [prepO]; omega
theorem lens_fold (ns : List Int) : ∀ p : List UInt8 × Nat, lens (ns.foldl stepV p) = itN (needS 2 0 2) ns.length (lens p) := by
  induction ns with
  | nil => intro p; rfl
  | cons n ns ih => intro p; rw [List.foldl_cons, ih, lens_stepV, itN_comm]; rfl
theorem lens_vtNew {oo oe : Nat} {ns : List Int} {p : List UInt8 × Nat} (h4 : 4 ≤ oo) (ho : oo ≤ p.1.length) : lens (vtNew oo oe ns p) = itN (needS 2 0 2) (ns.length + 2) (lens p) := by
  have h1 := foldV_len ns p
  have h2 := stepV_len (p := ns.foldl stepV p) (off := (oo : Int) - oe)
  have h3 := stepV_len (p := stepV (ns.foldl stepV p) ((oo : Int) - oe)) (off := ((2 * (ns.length + 2) : Nat) : Int))
  have e : lens (vtNew oo oe ns p) = lens (stepV (stepV (ns.foldl stepV p) ((oo : Int) - oe)) ((2 * (ns.length + 2) : Nat) : Int)) := by
    unfold lens vtNew
    dsimp only
    rw [over_length (by rw [le_length]; omega)]
  rw [e, lens_stepV, lens_stepV, lens_fold]
  rfl
theorem lens_num {w : Nat} {v : Int} {g : Gh} : ((g.num w v).out.length, (g.num w v).room) = needS w 0 w (g.out.length, g.room) := by
  unfold Gh.num needS
  refine Prod.ext ?_ rfl
  show (le w v ++ prepO w 0 g.out).length = _
  rw [List.length_append, le_length]
  simp [prepO]; omega
theorem lens_vecL (more : Nat) : ∀ (i : Nat) (p : List UInt8 × Nat), lens (vecL more i p) = itN (needS 8 0 8) i (lens p)
  | 0, _ => rfl
  | i + 1, p => by
    rw [itN, ← lens_vecL more i p]
    unfold lens needS
    refine Prod.ext ?_ rfl
    show (le 8 _ ++ prepO 8 0 _).length = _
    rw [List.length_append, le_length]
    simp [prepO]; omega
/-- EndObject, reckoned: the key's shape sought, then what stands -/
theorem endO_step {g : Gh} {cvs : List Int} {oe : Nat} {E : List (List Int)} {sh : List Int} (Rl : Rel g E) (hv : ValidS sh) (hk : keyOf sh = keyL cvs (((prepO 4 0 g.out).length + 4 : Nat) : Int) ++ [(((prepO 4 0 g.out).length + 4 : Nat) : Int) - oe])
    (hn : n = (keyL cvs (((prepO 4 0 g.out).length + 4 : Nat) : Int)).length + 2) :
    (if sh ∈ E then (needS 4 0 4 (g.out.length, g.room), E) else (itN (needS 2 0 2) n (needS 4 0 4 (g.out.length, g.room)), E ++ [sh])).1 = ((g.endO cvs oe).out.length, (g.endO cvs oe).room) ∧
    Rel (g.endO cvs oe) (if sh ∈ E then (needS 4 0 4 (g.out.length, g.room), E) else (itN (needS 2 0 2) n (needS 4 0 4 (g.out.length, g.room)), E ++ [sh])).2 := by
  have e0 : needS 4 0 4 (g.out.length, g.room) = lens (soO g.out, prepR 4 0 g.out g.room) := by
    unfold lens needS
    refine Prod.ext ?_ rfl
    show _ = (soO g.out).length
    rw [soO_len]
    simp [prepO]; omega
  by_cases hin : sh ∈ E
  · have hat : vtAt g.vts (keyOf sh) ≠ none := fun q => vtAt_none.mp q (by rw [Rl.keys]; exact List.mem_map.mpr ⟨sh, hin, rfl⟩)
    rw [if_pos hin]
    rw [hk] at hat
    obtain ⟨d, hd⟩ := Option.ne_none_iff_exists'.mp hat
    have e : g.endO cvs oe = ⟨over (soO g.out) 0 (le 4 ((d : Int) - (((prepO 4 0 g.out).length + 4 : Nat) : Int))), prepR 4 0 g.out g.room, max g.ma 4, g.vts⟩ := by
      unfold Gh.endO
      dsimp only
      rw [hd]
    rw [e, e0]
    refine ⟨?_, Rl.keys, Rl.val⟩
    unfold lens
    dsimp only
    rw [over_length (by rw [le_length, soO_len]; omega)]
  · have hat : vtAt g.vts (keyOf sh) = none := vtAt_none.mpr fun q => by
      rw [Rl.keys] at q
      obtain ⟨z, hz, hz2⟩ := List.mem_map.mp q
      exact hin (keyOf_inj (Rl.val z hz) hv hz2 ▸ hz)
    rw [if_neg hin]
    rw [hk] at hat
    have e : g.endO cvs oe = ⟨(vtNew ((prepO 4 0 g.out).length + 4) oe (keyL cvs (((prepO 4 0 g.out).length + 4 : Nat) : Int)) (soO g.out, prepR 4 0 g.out g.room)).1, (vtNew ((prepO 4 0 g.out).length + 4) oe (keyL cvs (((prepO 4 0 g.out).length + 4 : Nat) : Int)) (soO g.out, prepR 4 0 g.out g.room)).2, max g.ma 4,
        g.vts ++ [(keyL cvs (((prepO 4 0 g.out).length + 4 : Nat) : Int) ++ [(((prepO 4 0 g.out).length + 4 : Nat) : Int) - oe], (vtNew ((prepO 4 0 g.out).length + 4) oe (keyL cvs (((prepO 4 0 g.out).length + 4 : Nat) : Int)) (soO g.out, prepR 4 0 g.out g.room)).1.length)]⟩ := by
      unfold Gh.endO
      dsimp only
      rw [hat]
    rw [e, e0, hn, ← lens_vtNew (oo := (prepO 4 0 g.out).length + 4) (oe := oe) (by omega) (by rw [soO_len]; omega)]
    refine ⟨rfl, ⟨?_, fun x hx => ?_⟩⟩
    · show (g.vts ++ _).map _ = _
      rw [List.map_append, List.map_append, Rl.keys, List.map_singleton, List.map_singleton, hk]
    · rcases List.mem_append.mp hx with hx | hx
      · exact Rl.val x hx
      · rw [List.mem_singleton.mp hx]; exact hv
theorem keyOf0 {x : Int} : keyOf [x, 0, -1] = [x] := rfl
theorem keyOf1 {x z : Int} {n : Nat} : keyOf [x, z, (n : Int)] = z :: (List.replicate n 0 ++ [x]) := by
  simp only [keyOf]
  rw [if_neg (by omega), Int.toNat_natCast]
theorem val0 {x : Int} : ValidS [x, 0, -1] := ⟨_, _, _, rfl, .inl ⟨rfl, rfl⟩⟩
theorem val1 {x z : Int} {n : Nat} : ValidS [x, z, (n : Int)] := ⟨_, _, _, rfl, .inr (by omega)⟩
theorem deed_step {g : Gh} {form more : Nat} {E : List (List Int)} (hf : form ≤ 7) (Rl : Rel g E) :
    (stepS form more E (g.out.length, g.room)).1 = ((g.deed form more).out.length, (g.deed form more).room) ∧ Rel (g.deed form more) (stepS form more E (g.out.length, g.room)).2 := by
  rcases form_cases hf with rfl | rfl | rfl | rfl | rfl | rfl | rfl | rfl
  · exact ⟨lens_num.symm, Rl.keys, Rl.val⟩
  · exact ⟨lens_num.symm, Rl.keys, Rl.val⟩
  · exact ⟨lens_num.symm, Rl.keys, Rl.val⟩
  · exact ⟨lens_num.symm, Rl.keys, Rl.val⟩
  · refine ⟨?_, Rl.keys, Rl.val⟩
    show needS 4 (more % 60 + 1) (more % 60 + 5) _ = ((strO (List.replicate (more % 60) (more % 251 + 1).toUInt8) g.out).length, prepR 4 ((List.replicate (more % 60) (more % 251 + 1).toUInt8).length + 1) g.out g.room)
    rw [List.length_replicate]
    refine Prod.ext ?_ rfl
    show _ + _ + _ = _
    simp [strO, le_length, prepO]; omega
  · refine ⟨?_, Rl.keys, Rl.val⟩
    show needS 4 (more % 77) (more % 77 + 4) _ = ((bvO (List.replicate (more % 77) (more % 253 + 2).toUInt8) g.out).length, prepR 4 (List.replicate (more % 77) (more % 253 + 2).toUInt8).length g.out g.room)
    rw [List.length_replicate]
    refine Prod.ext ?_ rfl
    show _ + _ + _ = _
    simp [bvO, le_length, prepO]; omega
  · refine ⟨?_, Rl.keys, Rl.val⟩
    show ((itN (needS 8 0 8) (more % 5) (needS 8 (more % 5 * 8) 0 (needS 4 (more % 5 * 8) 0 (g.out.length, g.room)))).1 + 4, _) = ((le 4 _ ++ (vecL more (more % 5) _).1).length, (vecL more (more % 5) _).2)
    have e : lens (prepO 8 (8 * (more % 5)) (prepO 4 (8 * (more % 5)) g.out), prepR 8 (8 * (more % 5)) (prepO 4 (8 * (more % 5)) g.out) (prepR 4 (8 * (more % 5)) g.out g.room)) = needS 8 (more % 5 * 8) 0 (needS 4 (more % 5 * 8) 0 (g.out.length, g.room)) := by
      rw [Nat.mul_comm (more % 5) 8]
      have e1 : (needS 4 (8 * (more % 5)) 0 (g.out.length, g.room)).1 = (prepO 4 (8 * (more % 5)) g.out).length := by simp [needS, prepO]; omega
      unfold lens
      refine Prod.ext ?_ ?_
      · show _ = (needS 4 _ 0 _).1 + fillN 8 ((needS 4 _ 0 _).1 + _) + 0
        rw [e1]; simp [prepO]; omega
      · show _ = growN ((needS 4 _ 0 _).1 + needN 8 (needS 4 _ 0 _).1 _) (needS 4 _ 0 _).2
        rw [e1]; rfl
    rw [← e, ← lens_vecL more]
    refine Prod.ext ?_ rfl
    rw [List.length_append, le_length]
    unfold lens
    dsimp only
    omega
  · show (if (tabS more (g.out.length, g.room)).2 ∈ E then ((tabS more (g.out.length, g.room)).1, E) else (itN (needS 2 0 2) (tabN more) (tabS more (g.out.length, g.room)).1, E ++ [(tabS more (g.out.length, g.room)).2])).1 = ((g.tab more).out.length, (g.tab more).room) ∧
      Rel (g.tab more) (if (tabS more (g.out.length, g.room)).2 ∈ E then ((tabS more (g.out.length, g.room)).1, E) else (itN (needS 2 0 2) (tabN more) (tabS more (g.out.length, g.room)).1, E ++ [(tabS more (g.out.length, g.room)).2])).2
    have el : ∀ o : List UInt8, ∀ r : Nat, (needS 4 0 4 (o.length, r)).1 = (prepO 4 0 o).length + 4 := fun o r => by simp [needS, prepO]; omega
    by_cases h9 : more % 900 = 0
    · obtain ⟨a1, a2⟩ := tabS0 (p := (g.out.length, g.room)) h9
      have et : g.tab more = g.endO (List.replicate (more % 4 + 1) 0) g.out.length := by rw [Gh.tab, if_pos h9]
      rw [a1, ← a2, et]
      refine endO_step (n := tabN more) (sh := [((needS 4 0 4 (g.out.length, g.room)).1 : Int) - g.out.length, 0, -1]) Rl val0 ?_ ?_
      · rw [keyL_zero, keyOf0, el]; rfl
      · rw [keyL_zero, tabN, if_pos h9]; rfl
    · obtain ⟨a1, a2⟩ := tabS1 (p := (g.out.length, g.room)) h9
      have et : g.tab more = (g.num 4 ((more % 900 : Nat) - 1 : Int)).endO ((List.replicate (more % 4 + 1) 0).set (more % 4) ((le 4 ((more % 900 : Nat) - 1 : Int) ++ prepO 4 0 g.out).length : Int)) g.out.length := by rw [Gh.tab, if_neg h9]
      have en := lens_num (w := 4) (v := ((more % 900 : Nat) : Int) - 1) (g := g)
      have eo : (needS 4 0 4 (g.out.length, g.room)).1 = (le 4 ((more % 900 : Nat) - 1 : Int) ++ prepO 4 0 g.out).length := by rw [← en]; rfl
      have hof : ((le 4 ((more % 900 : Nat) - 1 : Int) ++ prepO 4 0 g.out).length : Int) ≠ 0 := by rw [List.length_append, le_length]; omega
      rw [a1, ← a2, et, ← en]
      refine endO_step (n := tabN more) (sh := [((needS 4 0 4 ((g.num 4 ((more % 900 : Nat) - 1 : Int)).out.length, (g.num 4 ((more % 900 : Nat) - 1 : Int)).room)).1 : Int) - g.out.length, ((needS 4 0 4 ((g.num 4 ((more % 900 : Nat) - 1 : Int)).out.length, (g.num 4 ((more % 900 : Nat) - 1 : Int)).room)).1 : Int) - (g.num 4 ((more % 900 : Nat) - 1 : Int)).out.length, ((more % 4 : Nat) : Int)]) ⟨Rl.keys, Rl.val⟩ val1 ?_ ?_
      · rw [keyL_one _ _ hof, keyOf1, el]
        rfl
      · rw [keyL_one _ _ hof, tabN, if_neg h9]; simp
theorem vecL_bd (more : Nat) : ∀ (i : Nat) (p : List UInt8 × Nat), (vecL more i p).1.length ≤ p.1.length + 15 * i
  | 0, _ => by simp [vecL]
  | i + 1, p => by
    have h := vecL_bd more i p
    have h2 := (prepO_len (w := 8) (a := 0) (out := (vecL more i p).1) (.inr (.inr (.inr rfl)))).2
    rw [vecL, List.length_append, le_length]
    omega
theorem endO_bd {g : Gh} {cvs : List Int} {oe : Nat} (hl : (keyL cvs (((prepO 4 0 g.out).length + 4 : Nat) : Int)).length ≤ 4) : (g.endO cvs oe).out.length ≤ g.out.length + 29 ∧ (g.endO cvs oe).vts.length ≤ g.vts.length + 1 := by
  have h2 := (prepO_len (w := 4) (a := 0) (out := g.out) (.inr (.inr (.inl rfl)))).2
  unfold Gh.endO
  dsimp only
  split
  · have hv := (vtNew_len (oe := oe) (ns := keyL cvs (((prepO 4 0 g.out).length + 4 : Nat) : Int)) (p := (soO g.out, prepR 4 0 g.out g.room)) (oo := (prepO 4 0 g.out).length + 4) (by omega) (by rw [soO_len]; omega)).2
    rw [soO_len] at hv
    refine ⟨?_, by simp⟩
    show (vtNew _ _ _ _).1.length ≤ _
    omega
  · refine ⟨?_, by simp⟩
    show (over _ _ _).length ≤ _
    rw [over_length (by rw [le_length, soO_len]; omega), soO_len]
    omega
theorem deed_bd {g : Gh} {form more : Nat} : (g.deed form more).out.length ≤ g.out.length + 200 ∧ (g.deed form more).vts.length ≤ g.vts.length + 1 := by
  have q : ∀ {w a : Nat} {o : List UInt8}, Width w → (prepO w a o).length ≤ o.length + 7 := fun h => (prepO_len h).2
  have hW : Width 4 := .inr (.inr (.inl rfl))
  have hW1 : Width 1 := .inl rfl
  have hW2 : Width 2 := .inr (.inl rfl)
  have hW8 : Width 8 := .inr (.inr (.inr rfl))
  have nm : ∀ {w : Nat} {v : Int}, Width w → w ≤ 8 → (g.num w v).out.length ≤ g.out.length + 15 := fun {w v} h h8 => by
    have := q (a := 0) (o := g.out) h
    show (le w v ++ prepO w 0 g.out).length ≤ _
    rw [List.length_append, le_length]; omega
  unfold Gh.deed
  repeat' split
  · exact ⟨Nat.le_trans (nm hW1 (by omega)) (by omega), Nat.le_succ _⟩
  · exact ⟨Nat.le_trans (nm hW2 (by omega)) (by omega), Nat.le_succ _⟩
  · exact ⟨Nat.le_trans (nm hW (by omega)) (by omega), Nat.le_succ _⟩
  · exact ⟨Nat.le_trans (nm hW8 (by omega)) (by omega), Nat.le_succ _⟩
  · have := q (a := (List.replicate (more % 60) (more % 251 + 1).toUInt8).length + 1) (o := g.out) hW
    refine ⟨?_, Nat.le_succ _⟩
    show (strO _ g.out).length ≤ _
    unfold strO
    simp only [List.length_append, le_length, List.length_replicate] at *
    omega
  · have := q (a := (List.replicate (more % 77) (more % 253 + 2).toUInt8).length) (o := g.out) hW
    refine ⟨?_, Nat.le_succ _⟩
    show (bvO _ g.out).length ≤ _
    unfold bvO
    simp only [List.length_append, le_length, List.length_replicate] at *
    omega
  · have h1 := q (a := 8 * (more % 5)) (o := g.out) hW
    have h2 := q (a := 8 * (more % 5)) (o := prepO 4 (8 * (more % 5)) g.out) hW8
    have h3 := vecL_bd more (more % 5) (prepO 8 (8 * (more % 5)) (prepO 4 (8 * (more % 5)) g.out), prepR 8 (8 * (more % 5)) (prepO 4 (8 * (more % 5)) g.out) (prepR 4 (8 * (more % 5)) g.out g.room))
    refine ⟨?_, Nat.le_succ _⟩
    show (le 4 _ ++ (vecL more _ _).1).length ≤ _
    rw [List.length_append, le_length]
    have : more % 5 < 5 := Nat.mod_lt _ (by decide)
    dsimp only at h3
    omega
  · unfold Gh.tab
    split
    · have := endO_bd (g := g) (cvs := List.replicate (more % 4 + 1) 0) (oe := g.out.length) (by rw [keyL_zero]; simp)
      omega
    · have h1 := nm (w := 4) (v := ((more % 900 : Nat) : Int) - 1) hW (by omega)
      have := endO_bd (g := g.num 4 (((more % 900 : Nat) : Int) - 1)) (cvs := (List.replicate (more % 4 + 1) 0).set (more % 4) ((le 4 ((more % 900 : Nat) - 1 : Int) ++ prepO 4 0 g.out).length : Int)) (oe := g.out.length) (by
        rw [keyL_one _ _ (by rw [List.length_append, le_length]; omega)]; simp; omega)
      have e : (g.num 4 (((more % 900 : Nat) : Int) - 1)).vts = g.vts := rfl
      rw [e] at this
      omega
def Gh.run (plan : List (Nat × Nat)) (g : Gh) : Gh := plan.foldl (fun g d => g.deed d.1 d.2) g
def Gh.fin (g : Gh) : Gh := ⟨finO g.ma 0 g.out, finR g.ma g.out g.room, max g.ma 4, g.vts⟩
-- a builder whose room is as great as the end's doubles nothing
def PairOk (F : List UInt8 × Nat → List UInt8 × Nat) : Prop := ∀ o r, r ≤ (F (o, r)).2 ∧ ∀ R, (F (o, r)).2 ≤ R → F (o, R) = ((F (o, r)).1, R)
theorem PairOk.comp {F G : List UInt8 × Nat → List UInt8 × Nat} (hF : PairOk F) (hG : PairOk G) : PairOk (fun p => G (F p)) := by
  intro o r
  obtain ⟨f1, f2⟩ := hF o r
  generalize hq : F (o, r) = q at *
  obtain ⟨o1, r1⟩ := q
  obtain ⟨g1, g2⟩ := hG o1 r1
  refine ⟨Nat.le_trans f1 (by show r1 ≤ (G (F (o, r))).2; rw [hq]; exact g1), fun R hR => ?_⟩
  dsimp only at hR ⊢
  rw [hq] at hR ⊢
  rw [f2 R (Nat.le_trans g1 hR)]
  exact g2 R hR
theorem prepR_ok (w a : Nat) (o : List UInt8) (r : Nat) : r ≤ prepR w a o r ∧ ∀ R, prepR w a o r ≤ R → prepR w a o R = R := by
  have h := growN_ge (o.length + needN w o.length a) r
  exact ⟨h.2, fun R hR => growN_pos (Nat.le_trans h.1 hR)⟩
theorem prep_ok (w a : Nat) (f : List UInt8 → List UInt8) : PairOk (fun p => (f p.1, prepR w a p.1 p.2)) := fun o r => by
  have h := prepR_ok w a o r
  exact ⟨h.1, fun R hR => by dsimp only at hR ⊢; rw [h.2 R hR]⟩
theorem vecL_ok (more : Nat) : ∀ i : Nat, PairOk (vecL more i)
  | 0 => fun o r => ⟨Nat.le_refl _, fun R _ => rfl⟩
  | i + 1 => (vecL_ok more i).comp (prep_ok 8 0 fun o => le 8 ((more + i : Nat) : Int) ++ prepO 8 0 o)
theorem stepV_ok (off : Int) : PairOk (fun p => stepV p off) := prep_ok 2 0 fun o => le 2 off ++ prepO 2 0 o
theorem foldV_ok : ∀ ns : List Int, PairOk (fun p => ns.foldl stepV p)
  | [] => fun o r => ⟨Nat.le_refl _, fun R _ => rfl⟩
  | n :: ns => (stepV_ok n).comp (foldV_ok ns)
theorem vtNew_ok (oo oe : Nat) (ns : List Int) : PairOk (vtNew oo oe ns) :=
  (((foldV_ok ns).comp (stepV_ok _)).comp (stepV_ok _)).comp (G := fun q => (over q.1 (q.1.length - oo) (le 4 ((q.1.length : Int) - oo)), q.2)) fun o r => ⟨Nat.le_refl _, fun R _ => rfl⟩
def Gh.at (g : Gh) (R : Nat) : Gh := ⟨g.out, R, g.ma, g.vts⟩
def DeedOk (D : Gh → Gh) : Prop := ∀ g, g.room ≤ (D g).room ∧ ∀ R, (D g).room ≤ R → D (g.at R) = (D g).at R
theorem DeedOk.comp {F G : Gh → Gh} (hF : DeedOk F) (hG : DeedOk G) : DeedOk (fun g => G (F g)) := fun g => by
  obtain ⟨f1, f2⟩ := hF g
  obtain ⟨g1, g2⟩ := hG (F g)
  exact ⟨Nat.le_trans f1 g1, fun R hR => by dsimp only at hR ⊢; rw [f2 R (Nat.le_trans g1 hR), g2 R hR]⟩
theorem DeedOk.of_pair {F : List UInt8 × Nat → List UInt8 × Nat} (h : PairOk F) (m : Nat → Nat) : DeedOk (fun g => ⟨(F (g.out, g.room)).1, (F (g.out, g.room)).2, m g.ma, g.vts⟩) := fun g => by
  obtain ⟨h1, h2⟩ := h g.out g.room
  refine ⟨h1, fun R hR => ?_⟩
  show (⟨(F (g.out, R)).1, (F (g.out, R)).2, m g.ma, g.vts⟩ : Gh) = _
  rw [h2 R hR]
  rfl
theorem num_ok (w : Nat) (v : Int) : DeedOk (Gh.num w v) := DeedOk.of_pair (prep_ok w 0 fun o => le w v ++ prepO w 0 o) fun ma => max ma w
theorem str_ok (x : List UInt8) : DeedOk (Gh.str x) := DeedOk.of_pair (prep_ok 4 (x.length + 1) (strO x)) fun ma => max ma 4
theorem bv_ok (x : List UInt8) : DeedOk (Gh.bv x) := DeedOk.of_pair (prep_ok 4 x.length (bvO x)) fun ma => max ma 4
theorem vec_ok (more : Nat) : DeedOk (Gh.vec more) :=
  DeedOk.of_pair (F := fun p => (le 4 (more % 5 : Nat) ++ (vecL more (more % 5) (prepO 8 (8 * (more % 5)) (prepO 4 (8 * (more % 5)) p.1), prepR 8 (8 * (more % 5)) (prepO 4 (8 * (more % 5)) p.1) (prepR 4 (8 * (more % 5)) p.1 p.2))).1, (vecL more (more % 5) (prepO 8 (8 * (more % 5)) (prepO 4 (8 * (more % 5)) p.1), prepR 8 (8 * (more % 5)) (prepO 4 (8 * (more % 5)) p.1) (prepR 4 (8 * (more % 5)) p.1 p.2))).2))
    ((((prep_ok 4 (8 * (more % 5)) (prepO 4 (8 * (more % 5)))).comp (prep_ok 8 (8 * (more % 5)) (prepO 8 (8 * (more % 5))))).comp (vecL_ok more (more % 5))).comp (G := fun q => (le 4 (more % 5 : Nat) ++ q.1, q.2)) fun o r => ⟨Nat.le_refl _, fun R _ => rfl⟩) fun ma => max (max ma 4) 8
theorem endO_ok (cvs : List Int) (oe : Nat → Nat) : ∀ g : Gh, g.room ≤ (g.endO cvs (oe 0)).room ∧ ∀ R, (g.endO cvs (oe 0)).room ≤ R → (g.at R).endO cvs (oe 0) = (g.endO cvs (oe 0)).at R := fun g => by
  have hp := prepR_ok 4 0 g.out g.room
  unfold Gh.endO Gh.at
  dsimp only
  cases vtAt g.vts (keyL cvs (((prepO 4 0 g.out).length + 4 : Nat) : Int) ++ [(((prepO 4 0 g.out).length + 4 : Nat) : Int) - (oe 0)]) with
  | none =>
    dsimp only
    obtain ⟨v1, v2⟩ := vtNew_ok ((prepO 4 0 g.out).length + 4) (oe 0) (keyL cvs (((prepO 4 0 g.out).length + 4 : Nat) : Int)) (soO g.out) (prepR 4 0 g.out g.room)
    refine ⟨Nat.le_trans hp.1 v1, fun R hR => ?_⟩
    rw [hp.2 R (Nat.le_trans v1 hR), v2 R hR]
  | some d =>
    dsimp only
    exact ⟨hp.1, fun R hR => by rw [hp.2 R hR]⟩
theorem tab_ok (more : Nat) : DeedOk (Gh.tab more) := fun g => by
  unfold Gh.tab
  by_cases h9 : more % 900 = 0
  · rw [if_pos h9]
    obtain ⟨a1, a2⟩ := endO_ok (List.replicate (more % 4 + 1) 0) (fun _ => g.out.length) g
    exact ⟨a1, fun R hR => by rw [if_pos h9]; exact a2 R hR⟩
  · rw [if_neg h9]
    obtain ⟨n1, n2⟩ := num_ok 4 (((more % 900 : Nat) : Int) - 1) g
    obtain ⟨a1, a2⟩ := endO_ok ((List.replicate (more % 4 + 1) 0).set (more % 4) ((le 4 ((more % 900 : Nat) - 1 : Int) ++ prepO 4 0 g.out).length : Int)) (fun _ => g.out.length) (g.num 4 (((more % 900 : Nat) : Int) - 1))
    refine ⟨Nat.le_trans n1 a1, fun R hR => ?_⟩
    rw [if_neg h9, n2 R (Nat.le_trans a1 hR)]
    exact a2 R hR
theorem deed_ok (form more : Nat) : DeedOk (fun g => g.deed form more) := by
  unfold Gh.deed
  repeat' split
  · exact num_ok _ _
  · exact num_ok _ _
  · exact num_ok _ _
  · exact num_ok _ _
  · exact str_ok _
  · exact bv_ok _
  · exact vec_ok _
  · exact tab_ok _
theorem run_ok : ∀ plan : List (Nat × Nat), DeedOk (Gh.run plan)
  | [] => fun g => ⟨Nat.le_refl _, fun R _ => rfl⟩
  | d :: plan => (deed_ok d.1 d.2).comp (run_ok plan)
theorem fin_ok : DeedOk Gh.fin := fun g => by
  have h1 := prepR_ok g.ma 4 g.out g.room
  have h2 := prepR_ok 4 0 (prepO g.ma 4 g.out) (prepR g.ma 4 g.out g.room)
  refine ⟨Nat.le_trans h1.1 h2.1, fun R hR => ?_⟩
  have hR' : prepR 4 0 (prepO g.ma 4 g.out) (prepR g.ma 4 g.out g.room) ≤ R := hR
  show (⟨finO g.ma 0 g.out, prepR 4 0 (prepO g.ma 4 g.out) (prepR g.ma 4 g.out R), max g.ma 4, g.vts⟩ : Gh) = _
  rw [h1.2 R (Nat.le_trans h2.1 hR'), h2.2 R hR']
  rfl
/-- the same deeds once more, in the room that the first time left -/
theorem again (plan : List (Nat × Nat)) (g : Gh) : Gh.fin (Gh.run plan (g.at (Gh.fin (Gh.run plan g)).room)) = Gh.fin (Gh.run plan g) :=
  (((run_ok plan).comp fin_ok) g).2 _ (Nat.le_refl _)

end Mine

end
-- PI2
section
open PySem PySem.W PySem.Calls PyProof.Rows
set_option maxRecDepth 100000
set_option linter.unusedVariables false
set_option linter.deprecated false
namespace Mine
end Mine
end
local macro_rules | `(tactic| walk_at "n_leafcall") => `(tactic| ((with_reducible show N _ _ (call (.builtin "len") [.bytes _ _]) _ _); refine k_leny (by assumption) (by omega) ?_; intro _ _ _))
section
open PySem PySem.W PySem.Calls PyProof.Rows
set_option maxRecDepth 100000
set_option linter.unusedVariables false
set_option linter.deprecated false
namespace Mine
/-- the plan: a list of pairs -/
def PlanO (l : List (Addr × Obj)) (pvs : List Value) (plan : List (Nat × Nat)) : Prop :=
  pvs.length = plan.length ∧ ∀ (i : Nat) (d : Nat × Nat), plan[i]? = some d → ∃ (a : Addr) (t1 t2 : Tok), pvs[i]? = some (.ref a) ∧ (a, tup [.int (d.1 : Nat) t1, .int (d.2 : Nat) t2]) ∈ l
theorem tup8 (t0 t1 t2 t3 t4 t5 t6 t7 : Tok) {f : Nat} (h : f ≤ 7) : ∃ t : Tok, [Value.int 1 t0, .int 2 t1, .int 4 t2, .int 8 t3, .int 4 t4, .int 4 t5, .int 8 t6, .int 4 t7][f]? = some (.int (([1, 2, 4, 8, 4, 4, 8, 4].getD f 0 : Nat) : Int) t) := by
  have : f = 0 ∨ f = 1 ∨ f = 2 ∨ f = 3 ∨ f = 4 ∨ f = 5 ∨ f = 6 ∨ f = 7 := by omega
  rcases this with rfl | rfl | rfl | rfl | rfl | rfl | rfl | rfl <;> exact ⟨_, rfl⟩
section
variable {α : Type} (B2 I A V E D T R : List α)
theorem pb0 : (I ++ (B2 ++ (E ++ (D ++ (T ++ (V ++ (A ++ R))))))).Perm (I ++ ((B2 ++ (V ++ A)) ++ ((E ++ D) ++ (T ++ R)))) := by
  classical
  rw [List.perm_iff_count]; intro x; simp only [List.count_append]; omega
theorem pb5 : ((B2 ++ V) ++ ((E ++ D) ++ R)).Perm (B2 ++ (D ++ (V ++ (E ++ R)))) := by
  classical
  rw [List.perm_iff_count]; intro x; simp only [List.count_append]; omega
theorem pb6 : (B2 ++ (V ++ (A ++ (E ++ (T ++ (I ++ R)))))).Perm (I ++ (B2 ++ (V ++ (A ++ (E ++ (T ++ R)))))) := by
  classical
  rw [List.perm_iff_count]; intro x; simp only [List.count_append]; omega
theorem pb7 : (I ++ (B2 ++ (D ++ (V ++ (E ++ (T ++ (A ++ R))))))).Perm ((I ++ (A ++ (B2 ++ (V ++ (T ++ R))))) ++ (D ++ E)) := by
  classical
  rw [List.perm_iff_count]; intro x; simp only [List.count_append]; omega
theorem pb1 : (I ++ (A ++ R)).Perm (A ++ (I ++ R)) := List.perm_append_comm_assoc _ _ _
theorem pb2 : (A ++ (I ++ (E ++ R))).Perm (E ++ (A ++ (I ++ R))) := by
  classical
  rw [List.perm_iff_count]; intro x; simp only [List.count_append]; omega
theorem pb3 : ((E ++ D) ++ (T ++ ((B2 ++ V) ++ (I ++ R)))).Perm (B2 ++ (D ++ (V ++ (I ++ (E ++ (T ++ R)))))) := by
  classical
  rw [List.perm_iff_count]; intro x; simp only [List.count_append]; omega
theorem pb4 : (B2 ++ (D ++ (V ++ (I ++ (E ++ (T ++ R)))))).Perm (I ++ ((B2 ++ V) ++ ((E ++ D) ++ (T ++ R)))) := by
  classical
  rw [List.perm_iff_count]; intro x; simp only [List.count_append]; omega
end
theorem lens_fin (g : Gh) : needS 4 0 4 (needS g.ma 4 0 (g.out.length, g.room)) = ((Gh.fin g).out.length, (Gh.fin g).room) := by
  have e : needS g.ma 4 0 (g.out.length, g.room) = ((prepO g.ma 4 g.out).length, prepR g.ma 4 g.out g.room) := by
    unfold needS
    refine Prod.ext ?_ rfl
    simp [prepO]; omega
  rw [e]
  unfold needS
  refine Prod.ext ?_ rfl
  show _ = (finO g.ma 0 g.out).length
  unfold finO
  dsimp only
  rw [List.length_append, le_length]
  simp [prepO]; omega
theorem cut_suf {a b : List UInt8} (h : Suf a b) : cutOf b (some ((b.length : Int) - a.length)) none = a := by
  obtain ⟨p, rfl⟩ := h
  have e : (((p ++ a).length : Int) - a.length) = ((p.length : Nat) : Int) := by rw [List.length_append]; omega
  have := clipAt_nat (p ++ a).length p.length
  unfold cutOf
  rw [e]
  simp only [Option.elim, this]
  rw [Nat.min_eq_left (by rw [List.length_append]; omega), List.drop_left' rfl]
  exact List.take_of_length_le (by rw [List.length_append]; omega)
theorem St.len_ok {y : Cy} {L : Addr} {m : Str → Option Value} {l k : List (Addr × Obj)} {s : Shared} {d : Addr} {vs : List Value} {n : Nat} (S : St y.cx L m l k s) (h : (d, listOf vs.toArray n) ∈ l) : s.heap.IsList d vs.toArray := LsO.of.isList (S.get h)
section
variable {y : Cy} {A : Around} {s : Shared} {L b st ed pl F d : Addr} {m : Str → Option Value} {l k l0 tl : List (Addr × Obj)} {r : Raw} {Q : Value → Shared → Prop} {w : Nat} {lo hi : Int} {buf out : List UInt8} {g : Gh} {od : Obj}
theorem ct_FinishG {root ma room : Nat} {tr : Tok} (S : St y.cx L m ((b, r.obj) :: (r.ba, baObj buf) :: l) k s) (R : Rm A 6) (B : Bd r buf out room ma) (hs : out.length ≤ 2000000) (hw : Width ma) (hr : root ≤ out.length)
    (h : ∀ r' buf' v t s', r'.vt = r.vt → r'.fin = true → r'.nested = r.nested → r'.ss = r.ss → St y.cx L m ((b, r'.obj) :: (r'.ba, baObj buf') :: l) k s' → Bd r' buf' (finO ma root out) (finR ma out room) (max ma 4) → Q (.int v t) s') :
    N y.cx A (call (.ref 449) [.ref b, .int root tr]) Q s := ct_Finish S R B hs hw hr fun ba hd ma' buf' v t s' S' B' => h { r.at ba hd ma' with fin := true } buf' v t s' rfl rfl rfl rfl S' B'
set_option maxHeartbeats 8000000 in
theorem ct_run {plan : List (Nat × Nat)} {pvs : List Value} {np R0 : Nat} {tr : Tok} (S : St y.cx L m ((b, r.obj) :: (r.ba, baObj buf) :: (r.vt, od) :: (tl ++ l)) k s) (R : Rm A 16) (B : Bq y r buf od tl ⟨[], R0, 1, []⟩)
    (hp : (pl, listOf pvs.toArray np) ∈ l) (P : PlanO l pvs plan) (hpl : plan.length ≤ 18) (hpd : ∀ d ∈ plan, d.1 ≤ 7 ∧ d.2 < 100000)
    (h : ∀ d fa nf t1 t2 r' buf' od' tl' s', Bd r' buf' (Gh.fin (Gh.run plan ⟨[], R0, 1, []⟩)).out (Gh.fin (Gh.run plan ⟨[], R0, 1, []⟩)).room (Gh.fin (Gh.run plan ⟨[], R0, 1, []⟩)).ma →
      St y.cx L m ((d, tup [.ref fa, .bytes (Gh.fin (Gh.run plan ⟨[], R0, 1, []⟩)).out.toArray t1, .int ((Gh.fin (Gh.run plan ⟨[], R0, 1, []⟩)).room : Nat) t2]) :: (fa, listOf #[] nf) :: (b, r'.obj) :: (r'.ba, baObj buf') :: (r'.vt, od') :: (tl' ++ l)) k s' → Q (.ref d) s') :
    N y.cx A (call (.ref 712) [.ref b, .ref pl, .int R0 tr]) Q s := by
  refine p_call (binds := [("maker", .ref b), ("plan", .ref pl), ("room", .int R0 tr)]) S (by rfl) (by rfl) (Rm.depth R) (BindsTo.of_eq rfl) (locs rfl) (fun Lx oLx s₁ S₁ => ?_) (by decide) rfl rfl rfl
  refine n_cons ?_
  refine n_assign ?_
  refine e_list ?_
  refine sp_nil ?_
  refine k_newlist (by assumption) (by simp) fun fa s₂ S₂ => ?_
  have S₂ := S₂.under
  show N _ _ _ _ _
  (refine r_st (by assumption) ?_; intro _ _)
  show N _ _ _ _ _
  refine n_cons ?_
  refine n_assign ?_
  refine e_tuple ?_
  refine sp_cons ?_
  (refine r_cint (by assumption) ?_; intro _ _ _)
  refine sp_cons ?_
  refine r_loc (by assumption) (by exact rfl) ?_
  refine sp_nil ?_
  refine k_newtuple (by assumption) (by simp) fun st s₃ S₃ => ?_
  have S₃ := S₃.under
  show N _ _ _ _ _
  (refine r_st (by assumption) ?_; intro _ _)
  show N _ _ _ _ _
  refine n_cons ?_
  refine n_assign ?_
  refine k_newdict (by assumption) fun ed s₄ hlo S₄ => ?_
  have S₄ := S₄.under
  show N _ _ _ _ _
  (refine r_st (by assumption) ?_; intro _ _)
  show N _ _ _ _ _
  refine n_cons ?_
  refine n_assign ?_
  (refine r_cint (by assumption) ?_; intro _ _ _)
  (refine r_st (by assumption) ?_; intro _ _)
  show N _ _ _ _ _
  refine n_cons ?_
  refine n_for ?_
  refine r_loc (by assumption) (by exact rfl) ?_
  rename_i S₅
  refine k_iter_list S₅ (S₅.len_ok (vs := pvs) (by repeat (first | exact hp | apply List.mem_append_right | apply List.Mem.tail))) fun it s₆ S₆ => ?_
  have S₆ := S₆.perm (pb0 [(b, r.obj), (r.ba, baObj buf)] [(it, lit pl 0)] tl [(r.vt, od)] [(ed, dict0)] [(st, tup [.int 0 _, .int (R0 : Int) tr])] [(fa, listOf #[] 0)] l)
  refine NC.forT_ind (fun n s' => ∃ (m' : Str → Option Value) (i : Nat) (io : Obj) (r : Raw) (buf : List UInt8) (od : Obj) (tl tl2 : List (Addr × Obj)) (eo : Obj) (st : Addr) (t1 t2 t3 : Tok) (xs : List (List Int × Addr × Value)) (gi : Gh), n + i = plan.length ∧
    St y.cx Lx m' ([(it, io)] ++ (([(b, r.obj), (r.ba, baObj buf)] ++ ((r.vt, od) :: tl)) ++ (([(ed, eo)] ++ [(st, tup [.int (gi.out.length : Nat) t1, .int (gi.room : Nat) t2])]) ++ (tl2 ++ ((fa, listOf #[] 0) :: l))))) ((L, oLx) :: k) s' ∧
    LitO io pl i ∧ Bq y r buf od tl gi ∧ VtO y.cx tl2 eo ed xs ∧ Rel gi (xs.map (·.1)) ∧ m' "maker" = some (.ref b) ∧ m' "state" = some (.ref st) ∧ m' "elder" = some (.ref ed) ∧ m' "widest" = some (.int (gi.ma : Nat) t3) ∧ m' "faults" = some (.ref fa) ∧
    gi = Gh.run (plan.take i) ⟨[], R0, 1, []⟩ ∧ gi.out.length ≤ 200 * i ∧ gi.vts.length ≤ i) ?_ plan.length _
    ⟨_, 0, lit pl 0, r, buf, od, tl, [], dict0, st, _, tr, _, [], ⟨[], R0, 1, []⟩, by omega, S₆, ⟨rfl, rfl⟩, B, VtO.new hlo, ⟨rfl, (fun _ h => nomatch h)⟩, by exact rfl, by exact rfl, by exact rfl, by exact rfl, by exact rfl, by simp [Gh.run], by simp, by simp⟩
  rintro n s₇ ⟨m', i, io, r, buf, od, tl, tl2, eo, st, t1, t2, t3, xs, gi, hni, S₇, Y, B, V, Rl, e1, e2, e3, e4, e5, hgi, hgl, hgv⟩
  have hpl' : s₇.heap.IsList pl pvs.toArray := S₇.len_ok (List.mem_append_right _ (List.mem_append_right _ (List.mem_append_right _ (List.mem_append_right _ (.tail _ hp)))))
  cases n with
  | zero =>
    refine k_next_list_end Y S₇ hpl' R.h (by rw [List.getElem?_toArray, List.getElem?_eq_none]; rw [P.1]; omega) fun s₈ S₈ => ?_
    have hrun : gi = Gh.run plan ⟨[], R0, 1, []⟩ := by rw [hgi, List.take_of_length_le (by omega)]
    rw [← hrun] at h
    have S₈ := S₈.perm (pb5 [(b, r.obj), (r.ba, baObj buf)] ((r.vt, od) :: tl) [(ed, eo)] [(st, tup [.int (gi.out.length : Nat) t1, .int (gi.room : Nat) t2])] (tl2 ++ ((fa, listOf #[] 0) :: l)))
    have b6 := B.bd.rm
    obtain ⟨b1, b2, b3, b4, b5⟩ := id B.bd.ok
    show N _ _ _ _ _
    refine n_cons ?_
    refine n_expr ?_
    refine e_meth ?_
    refine r_loc (by assumption) (by exact e1) ?_
    refine m_Finish (by assumption) ?_
    refine cw1 ?_
    refine sp_cons ?_
    (refine r_cint (by assumption) ?_; intro _ _ _)
    refine sp_nil ?_
    refine ⟨Kp.of_K (by assumption) (kp_449 _), ?_⟩
    show N _ _ (call _ [_, _] _) _ _
    rename_i S₈'
    refine ct_FinishG (root := 0) (r := r) (buf := buf) S₈' (R.deep.le (by omega)) B.bd (by omega) B.wd (Nat.zero_le _) fun r1 buf1 fv ft s₉ hvt1 hfin1 hnn1 hss1 S₉ B₉ => ?_
    refine ⟨(by intro _ h; cases h), ?_⟩
    show N _ _ _ _ _
    refine n_cons ?_
    refine n_assign ?_
    refine e_call ?_
    refine p_glob (by assumption) (gl__law_need _) ?_ rfl rfl
    refine cw1 ?_
    refine sp_cons ?_
    refine r_loc (by assumption) (by exact e2) ?_
    refine sp_cons ?_
    refine r_loc (by assumption) (by exact e4) ?_
    refine sp_cons ?_
    (refine r_cint (by assumption) ?_; intro _ _ _)
    refine sp_cons ?_
    (refine r_cint (by assumption) ?_; intro _ _ _)
    refine sp_nil ?_
    refine ⟨Kp.of_K (by assumption) (kp_698 _), ?_⟩
    show N _ _ (call _ [_, _, _, _] _) _ _
    refine ct_need (w := gi.ma) (f := 4) (tk := 0) (by assumption) (R.deep.le (by omega)) (by walk_at "in_l") B.wd (by omega) (by omega) fun d1 u1 u2 s₁₀ S₁₀ => ?_
    have hb1 := needS_bd (f := 4) (tk := 0) (p := (gi.out.length, gi.room)) B.wd
    dsimp only at hb1
    show N _ _ _ _ _
    (refine r_st (by assumption) ?_; intro _ _)
    show N _ _ _ _ _
    refine n_cons ?_
    refine n_assign ?_
    refine e_call ?_
    refine p_glob (by assumption) (gl__law_need _) ?_ rfl rfl
    refine cw1 ?_
    refine sp_cons ?_
    refine r_loc (by assumption) (by exact rfl) ?_
    refine sp_cons ?_
    (refine r_cint (by assumption) ?_; intro _ _ _)
    refine sp_cons ?_
    (refine r_cint (by assumption) ?_; intro _ _ _)
    refine sp_cons ?_
    (refine r_cint (by assumption) ?_; intro _ _ _)
    refine sp_nil ?_
    refine ⟨Kp.of_K (by assumption) (kp_698 _), ?_⟩
    show N _ _ (call _ [_, _, _, _] _) _ _
    refine ct_need (w := 4) (f := 0) (tk := 4) (by assumption) (R.deep.le (by omega)) (by walk_at "in_l") (.inr (.inr (.inl rfl))) (by omega) (by omega) fun d2 u3 u4 s₁₁ S₁₁ => ?_
    rw [lens_fin] at S₁₁
    have S₁₁ := (S₁₁.sub (.cons_cons _ (.cons _ (.refl _)))).under
    show N _ _ _ _ _
    (refine r_st (by assumption) ?_; intro _ _)
    show N _ _ _ _ _
    refine n_cons ?_
    refine n_assign ?_
    refine e_call ?_
    refine p_blt (by assumption) (gb_bytes _) (by boot_by_name) (by decide) ?_ rfl rfl
    refine cw1 ?_
    refine sp_cons ?_
    refine e_meth ?_
    refine r_loc (by assumption) (by exact e1) ?_
    refine m_Output (by assumption) ?_
    refine cw0 ?_ ?_
    exact Kp.of_K (by assumption) (kp_299 _)
    show N _ _ (call _ [_] _) _ _
    rename_i S₁₂
    refine ct_Output S₁₂ (R.deep.le (by omega)) B₉.ok hfin1 fun eo2 s₁₃ S₁₃ => ?_
    obtain ⟨c1, c2, c3, c4, c5⟩ := id B₉.ok
    have c6 := B₉.rm
    show N _ _ _ _ _
    refine sp_nil ?_
    refine ⟨Kp.type, ?_⟩
    show N _ _ (call _ [_] _) _ _
    refine k_bytes_ba S₁₃ (.head _) (by omega) fun tb s₁₄ S₁₄ => ?_
    have S₁₄ := S₁₄.drop
    show N _ _ _ _ _
    (refine r_st (by assumption) ?_; intro _ _)
    show N _ _ _ _ _
    refine n_cons ?_
    refine n_if ?_
    refine t_cmp ?_
    refine e_tuple ?_
    refine sp_cons ?_
    refine e_call ?_
    refine p_blt (by assumption) (gb_len _) (by boot_by_name) (by decide) ?_ rfl rfl
    refine cw1 ?_
    refine sp_cons ?_
    refine r_loc (by assumption) (by exact rfl) ?_
    refine sp_nil ?_
    refine ⟨Kp.builtin, ?_⟩
    show N _ _ (call _ [_] _) _ _
    walk_at "n_leafcall"
    refine sp_cons ?_
    refine e_call ?_
    refine p_blt (by assumption) (gb_len _) (by boot_by_name) (by decide) ?_ rfl rfl
    refine cw1 ?_
    refine sp_cons ?_
    refine e_attr ?_
    refine r_loc (by assumption) (by exact e1) ?_
    (refine g_Bytes (by assumption) ?_; intro _ _)
    refine sp_nil ?_
    refine ⟨Kp.builtin, ?_⟩
    show N _ _ (call _ [_] _) _ _
    walk_at "n_leafcall"
    refine sp_nil ?_
    refine k_newtuple (by assumption) (by simp) fun ta s₁₅ S₁₅ => ?_
    refine r_loc (by assumption) (by exact rfl) ?_
    refine t_ne (ns := [(((finO gi.ma 0 gi.out).length : Nat) : Int), ((buf1.length : Nat) : Int)]) (ms := [(((Gh.fin gi).out.length : Nat) : Int), (((Gh.fin gi).room : Nat) : Int)]) S₁₅ (.head _) (by walk_at "in_l") (.cons _ _ (.cons _ _ .nil)) (.cons _ _ (.cons _ _ .nil)) (by have := R.u; show A.units + 3 + 64 < _; omega) ?_
    have hsame : [(((finO gi.ma 0 gi.out).length : Nat) : Int), ((buf1.length : Nat) : Int)] = [(((Gh.fin gi).out.length : Nat) : Int), (((Gh.fin gi).room : Nat) : Int)] := by rw [c1]; rfl
    have S₁₆ := S₁₅.drop
    show N _ _ _ _ _
    refine tr_bool ?_
    refine g_no (by rw [decide_eq_true hsame]; rfl) ?_
    refine n_nil ?_
    show N _ _ _ _ _
    refine n_cons ?_
    refine n_ret ?_
    refine e_tuple ?_
    refine sp_cons ?_
    refine r_loc (by assumption) (by exact e5) ?_
    refine sp_cons ?_
    refine r_loc (by assumption) (by exact rfl) ?_
    refine sp_cons ?_
    refine e_sub ?_
    refine r_loc (by assumption) (by exact rfl) ?_
    (refine r_cint (by assumption) ?_; intro _ _ _)
    walk_at "n_leafitem"
    walk_at "n_leaf"
    refine sp_nil ?_
    refine k_newtuple (by assumption) (by simp) fun d3 s₁₇ S₁₇ => ?_
    skip
    refine Back.mk (by assumption) (fun S' => ?_)
    have S' := (S'.perm (pb7 [(b, r1.obj), (r1.ba, baObj buf1)] [(d3, _)] [(fa, listOf #[] 0)] ((r.vt, od) :: tl) [(ed, eo)] [(d2, _), (st, _)] tl2 l)).sub (List.sublist_append_left _ _)
    rw [← hvt1] at S'
    rw [show ((r1.vt, od) :: tl) ++ (tl2 ++ l) = (r1.vt, od) :: ((tl ++ tl2) ++ l) by rw [List.append_assoc]; rfl] at S'
    exact h d3 fa 0 _ _ _ _ _ _ _ B₉ S'
  | succ n =>
    have hil : i < plan.length := by omega
    obtain ⟨pa, v1, v2, hpv, hpm⟩ := P.2 i plan[i] (List.getElem?_eq_getElem hil)
    have hpd' := hpd plan[i] (List.getElem_mem hil)
    obtain ⟨fm, hfm⟩ : ∃ fm, fm = plan[i] := ⟨_, rfl⟩
    rw [← hfm] at hpm hpd'
    obtain ⟨form, more⟩ := fm
    refine k_next_list Y S₇ hpl' (by rw [List.getElem?_toArray]; exact hpv) fun io' s₈ Y' S₈ => ?_
    refine k_owned Y' S₈ (.head _) ?_
    refine as_tup (a := pa) (vs := [.int (form : Nat) v1, .int (more : Nat) v2]) S₈ (.tail _ (List.mem_append_right [] (List.mem_append_right _ (List.mem_append_right _ (List.mem_append_right _ (.tail _ hpm)))))) R.h fun s₉ S₉ => ?_
    have S₉ := S₉.perm (pb1 [(it, io')] ([(b, r.obj), (r.ba, baObj buf)] ++ ((r.vt, od) :: tl)) _)
    show N _ _ _ _ _
    walk_at "n_leaf"
    (refine r_st (by assumption) ?_; intro _ _)
    walk_at "n_leaf"
    (refine r_st (by assumption) ?_; intro _ _)
    walk_at "n_leaf"
    refine n_cons ?_
    refine n_assign ?_
    refine e_call ?_
    refine p_blt (by assumption) (gb_bytes _) (by boot_by_name) (by decide) ?_ rfl rfl
    refine cw1 ?_
    refine sp_cons ?_
    refine e_sub ?_
    refine e_attr ?_
    refine r_loc (by assumption) (by exact e1) ?_
    (refine g_Bytes (by assumption) ?_; intro _ _)
    refine e_slice_lo ?_
    refine e_meth ?_
    refine r_loc (by assumption) (by exact e1) ?_
    refine m_Head (by assumption) ?_
    refine cw0 ?_ ?_
    exact Kp.of_K (by assumption) (kp_334 _)
    show N _ _ (call _ [_] _) _ _
    rename_i S₁₀
    obtain ⟨b1, b2, b3, b4, b5⟩ := id B.bd.ok
    refine ct_Head S₁₀ (R.deep.le (by omega)) fun s₁₁ S₁₁ => ?_
    (refine r_slice (by assumption) ?_; intro _ _ _)
    walk_at "n_leafitem"
    rename_i S₁₂
    have ecut : ∀ {buf : List UInt8} {hd : Int} {out : List UInt8} {room : Nat}, BufOk hd buf out room → cutOf buf (some hd) none = out := fun {buf hd out room} B => by
      obtain ⟨b1, b2, b3, b4, b5⟩ := B
      have := clipAt_nat buf.length (room - out.length)
      unfold cutOf
      simp only [Option.elim, b4, this, Nat.min_eq_left (show room - out.length ≤ buf.length by omega), b5]
      exact List.take_of_length_le (by omega)
    refine n_ba_cut S₁₂ (by walk_at "in_l") (.int _ _) .none (by omega) fun ea s₁₃ S₁₃ => ?_
    rw [ecut B.bd.ok] at S₁₃
    have b6 := B.bd.rm
    show N _ _ _ _ _
    refine sp_nil ?_
    refine ⟨Kp.type, ?_⟩
    show N _ _ (call _ [_] _) _ _
    refine k_bytes_ba S₁₃ (.head _) (by omega) fun tb s₁₄ S₁₄ => ?_
    have S₁₄ := S₁₄.drop
    show N _ _ _ _ _
    (refine r_st (by assumption) ?_; intro _ _)
    show N _ _ _ _ _
    refine n_cons ?_
    refine n_expr ?_
    refine e_call ?_
    refine p_glob (by assumption) (gl__law_deed _) ?_ rfl rfl
    refine cw1 ?_
    refine sp_cons ?_
    refine r_loc (by assumption) (by exact e1) ?_
    refine sp_cons ?_
    refine r_loc (by assumption) (by exact rfl) ?_
    refine sp_cons ?_
    refine r_loc (by assumption) (by exact rfl) ?_
    refine sp_nil ?_
    refine ⟨Kp.of_K (by assumption) (kp_691 _), ?_⟩
    show N _ _ (call _ [_, _, _] _) _ _
    rename_i S₁₅
    refine ct_deed (form := form) (more := more) (tl := tl) (g := gi) (l := [(it, io')] ++ (([(ed, eo)] ++ [(st, tup [.int (gi.out.length : Nat) t1, .int (gi.room : Nat) t2])]) ++ (tl2 ++ ((fa, listOf #[] 0) :: l)))) S₁₅ (R.deep.le (by omega)) B hpd'.1 hpd'.2 (by omega) (by omega) fun r' buf' od' tl' s₁₆ B' S₁₆ => ?_
    have S₁₆ := S₁₆.perm (pb2 [(it, io')] ([(b, r'.obj), (r'.ba, baObj buf')] ++ ((r'.vt, od') :: tl')) ([(ed, eo)] ++ [(st, tup [.int (gi.out.length : Nat) t1, .int (gi.room : Nat) t2])]) (tl2 ++ ((fa, listOf #[] 0) :: l)))
    obtain ⟨hds, hrl⟩ := deed_step (more := more) hpd'.1 Rl
    have hdb := deed_bd (g := gi) (form := form) (more := more)
    have hdm : (gi.deed form more).ma = max gi.ma ([1, 2, 4, 8, 4, 4, 8, 4].getD form 0) := deed_ma (g := gi) (more := more) hpd'.1
    obtain ⟨pre, hpre⟩ := deed_suffix (g := gi) (form := form) (more := more)
    have hxl : xs.length = gi.vts.length := by
      have := congrArg List.length Rl.keys
      simpa using this.symm
    refine ⟨(by intro _ h; cases h), ?_⟩
    show N _ _ _ _ _
    refine n_cons ?_
    refine n_assign ?_
    refine e_call ?_
    refine p_glob (by assumption) (gl__law_step _) ?_ rfl rfl
    refine cw1 ?_
    refine sp_cons ?_
    refine r_loc (by assumption) (by exact e2) ?_
    refine sp_cons ?_
    refine r_loc (by assumption) (by exact rfl) ?_
    refine sp_cons ?_
    refine r_loc (by assumption) (by exact rfl) ?_
    refine sp_cons ?_
    refine r_loc (by assumption) (by exact e3) ?_
    refine sp_nil ?_
    refine ⟨Kp.of_K (by assumption) (kp_705 _), ?_⟩
    show N _ _ (call _ [_, _, _, _] _) _ _
    have hmt : ∀ p ∈ tl2, p ∈ ([(b, r'.obj), (r'.ba, baObj buf')] ++ ((r'.vt, od') :: tl')) ++ ([(it, io')] ++ (tl2 ++ ((fa, listOf #[] 0) :: l))) := fun p hp => List.mem_append_right _ (List.mem_append_right _ (List.mem_append_left _ hp))
    refine ct_step (form := form) (more := more) (l0 := tl2) (ed := ed) (eo := eo) (st := st) (used := gi.out.length) (room := gi.room) (t1 := t1) (t2 := t2) (l := ([(b, r'.obj), (r'.ba, baObj buf')] ++ ((r'.vt, od') :: tl')) ++ ([(it, io')] ++ (tl2 ++ ((fa, listOf #[] 0) :: l)))) S₁₆ (R.deep.le (by omega)) V hmt hpd'.1 hpd'.2 (by omega) B.bd.rm (by omega) fun st' t1' t2' eo' tlx xs' s₁₇ S₁₇ V' hxs' => ?_
    rw [hds] at S₁₇
    have S₁₇ := S₁₇.perm (pb3 [(b, r'.obj), (r'.ba, baObj buf')] [(it, io')] ((r'.vt, od') :: tl') [(ed, eo')] [(st', tup [.int ((gi.deed form more).out.length : Nat) t1', .int ((gi.deed form more).room : Nat) t2'])] tlx (tl2 ++ ((fa, listOf #[] 0) :: l)))
    rw [← hxs'] at hrl
    have B'' := B'
    obtain ⟨gn, hgn⟩ : ∃ gn, gn = gi.deed form more := ⟨_, rfl⟩
    rw [← hgn] at S₁₇ hrl hdb hdm hpre B''
    show N _ _ _ _ _
    (refine r_st (by assumption) ?_; intro _ _)
    show N _ _ _ _ _
    refine n_cons ?_
    refine n_assign ?_
    refine e_call ?_
    refine p_blt (by assumption) (gb_max _) (by boot_by_name) (by decide) ?_ rfl rfl
    refine cw1 ?_
    refine sp_cons ?_
    refine r_loc (by assumption) (by exact e4) ?_
    refine sp_cons ?_
    refine e_sub ?_
    refine e_tuple ?_
    refine sp_cons ?_
    (refine r_cint (by assumption) ?_; intro _ _ _)
    refine sp_cons ?_
    (refine r_cint (by assumption) ?_; intro _ _ _)
    refine sp_cons ?_
    (refine r_cint (by assumption) ?_; intro _ _ _)
    refine sp_cons ?_
    (refine r_cint (by assumption) ?_; intro _ _ _)
    refine sp_cons ?_
    (refine r_cint (by assumption) ?_; intro _ _ _)
    refine sp_cons ?_
    (refine r_cint (by assumption) ?_; intro _ _ _)
    refine sp_cons ?_
    (refine r_cint (by assumption) ?_; intro _ _ _)
    refine sp_cons ?_
    (refine r_cint (by assumption) ?_; intro _ _ _)
    refine sp_nil ?_
    refine k_newtuple (by assumption) (by simp) fun tw s₁₈ S₁₈ => ?_
    refine r_loc (by assumption) (by exact rfl) ?_
    walk_at "n_leafitem"
    refine t_get (i := form) S₁₈ (.head _) (by simp) (tup8 _ _ _ _ _ _ _ _ hpd'.1).choose_spec ?_
    refine sp_nil ?_
    refine ⟨Kp.builtin, ?_⟩
    show N _ _ (call _ [_, _] _) _ _
    refine k_max S₁₈.drop R.h ?_
    intro tm s₁₉ S₁₉
    rw [show max ((gi.ma : Nat) : Int) (([1, 2, 4, 8, 4, 4, 8, 4].getD form 0 : Nat) : Int) = ((gn.ma : Nat) : Int) by rw [hdm]; omega]
    (refine r_st (by assumption) ?_; intro _ _)
    show N _ _ _ _ _
    refine n_cons ?_
    refine n_assign ?_
    refine e_call ?_
    refine p_blt (by assumption) (gb_bytes _) (by boot_by_name) (by decide) ?_ rfl rfl
    refine cw1 ?_
    refine sp_cons ?_
    refine e_sub ?_
    refine e_attr ?_
    refine r_loc (by assumption) (by exact e1) ?_
    (refine g_Bytes (by assumption) ?_; intro _ _)
    refine e_slice_lo ?_
    refine e_meth ?_
    refine r_loc (by assumption) (by exact e1) ?_
    refine m_Head (by assumption) ?_
    refine cw0 ?_ ?_
    exact Kp.of_K (by assumption) (kp_334 _)
    show N _ _ (call _ [_] _) _ _
    rename_i S₂₀
    refine ct_Head S₂₀ (R.deep.le (by omega)) fun s₂₁ S₂₁ => ?_
    (refine r_slice (by assumption) ?_; intro _ _ _)
    walk_at "n_leafitem"
    rename_i S₂₂
    obtain ⟨d1, d2, d3, d4, d5⟩ := id B''.bd.ok
    have d6 := B''.bd.rm
    refine n_ba_cut S₂₂ (by walk_at "in_l") (.int _ _) .none (by omega) fun ea s₂₃ S₂₃ => ?_
    rw [ecut B''.bd.ok] at S₂₃
    refine sp_nil ?_
    refine ⟨Kp.type, ?_⟩
    show N _ _ (call _ [_] _) _ _
    refine k_bytes_ba S₂₃ (.head _) (by omega) fun tb s₂₄ S₂₄ => ?_
    have S₂₄ := S₂₄.drop
    show N _ _ _ _ _
    (refine r_st (by assumption) ?_; intro _ _)
    show N _ _ _ _ _
    refine n_cons ?_
    refine n_if ?_
    refine t_cmp ?_
    refine e_tuple ?_
    refine sp_cons ?_
    refine e_call ?_
    refine p_blt (by assumption) (gb_len _) (by boot_by_name) (by decide) ?_ rfl rfl
    refine cw1 ?_
    refine sp_cons ?_
    refine r_loc (by assumption) (by exact rfl) ?_
    refine sp_nil ?_
    refine ⟨Kp.builtin, ?_⟩
    show N _ _ (call _ [_] _) _ _
    walk_at "n_leafcall"
    refine sp_cons ?_
    refine e_call ?_
    refine p_blt (by assumption) (gb_len _) (by boot_by_name) (by decide) ?_ rfl rfl
    refine cw1 ?_
    refine sp_cons ?_
    refine e_attr ?_
    refine r_loc (by assumption) (by exact e1) ?_
    (refine g_Bytes (by assumption) ?_; intro _ _)
    refine sp_nil ?_
    refine ⟨Kp.builtin, ?_⟩
    show N _ _ (call _ [_] _) _ _
    walk_at "n_leafcall"
    refine sp_cons ?_
    refine e_meth ?_
    refine r_loc (by assumption) (by exact e1) ?_
    refine m_Head (by assumption) ?_
    refine cw0 ?_ ?_
    exact Kp.of_K (by assumption) (kp_334 _)
    show N _ _ (call _ [_] _) _ _
    rename_i S₂₅
    refine ct_Head S₂₅ (R.deep.le (by omega)) fun s₂₆ S₂₆ => ?_
    refine sp_nil ?_
    refine k_newtuple (by assumption) (by simp) fun ta s₂₇ S₂₇ => ?_
    refine e_tuple ?_
    refine sp_cons ?_
    refine e_sub ?_
    refine r_loc (by assumption) (by exact rfl) ?_
    (refine r_cint (by assumption) ?_; intro _ _ _)
    walk_at "n_leafitem"
    walk_at "n_leaf"
    refine sp_cons ?_
    refine e_sub ?_
    refine r_loc (by assumption) (by exact rfl) ?_
    (refine r_cint (by assumption) ?_; intro _ _ _)
    walk_at "n_leafitem"
    walk_at "n_leaf"
    refine sp_cons ?_
    refine e_bin ?_
    refine e_sub ?_
    refine r_loc (by assumption) (by exact rfl) ?_
    (refine r_cint (by assumption) ?_; intro _ _ _)
    walk_at "n_leafitem"
    walk_at "n_leaf"
    refine e_sub ?_
    refine r_loc (by assumption) (by exact rfl) ?_
    (refine r_cint (by assumption) ?_; intro _ _ _)
    walk_at "n_leafitem"
    walk_at "n_leaf"
    (refine i_sub (by assumption) ?_; intro _ _ _)
    refine sp_nil ?_
    refine k_newtuple (by assumption) (by simp) fun tc s₂₈ S₂₈ => ?_
    skip
    refine t_ne (ns := [((gn.out.length : Nat) : Int), ((buf'.length : Nat) : Int), r'.head.1]) (ms := [((gn.out.length : Nat) : Int), ((gn.room : Nat) : Int), ((gn.room : Nat) : Int) - ((gn.out.length : Nat) : Int)]) S₂₈ (.tail _ (.head _)) (.head _) (.cons _ _ (.cons _ _ (.cons _ _ .nil))) (.cons _ _ (.cons _ _ (.cons _ _ .nil))) (by have := R.u; show A.units + 3 + 64 < _; omega) ?_
    have hsame : [((gn.out.length : Nat) : Int), ((buf'.length : Nat) : Int), r'.head.1] = [((gn.out.length : Nat) : Int), ((gn.room : Nat) : Int), ((gn.room : Nat) : Int) - ((gn.out.length : Nat) : Int)] := by
      rw [d1, d4, show ((gn.room - gn.out.length : Nat) : Int) = ((gn.room : Nat) : Int) - ((gn.out.length : Nat) : Int) by omega]
    have S₂₉ := S₂₈.drop.drop
    show N _ _ _ _ _
    refine tr_bool ?_
    refine g_no (by rw [decide_eq_true hsame]; rfl) ?_
    refine n_nil ?_
    show N _ _ _ _ _
    refine n_cons ?_
    refine n_if ?_
    refine t_cmp ?_
    refine e_sub ?_
    refine r_loc (by assumption) (by exact rfl) ?_
    refine e_slice_lo ?_
    refine e_bin ?_
    refine e_call ?_
    refine p_blt (by assumption) (gb_len _) (by boot_by_name) (by decide) ?_ rfl rfl
    refine cw1 ?_
    refine sp_cons ?_
    refine r_loc (by assumption) (by exact rfl) ?_
    refine sp_nil ?_
    refine ⟨Kp.builtin, ?_⟩
    show N _ _ (call _ [_] _) _ _
    walk_at "n_leafcall"
    refine e_call ?_
    refine p_blt (by assumption) (gb_len _) (by boot_by_name) (by decide) ?_ rfl rfl
    refine cw1 ?_
    refine sp_cons ?_
    refine r_loc (by assumption) (by exact rfl) ?_
    refine sp_nil ?_
    refine ⟨Kp.builtin, ?_⟩
    show N _ _ (call _ [_] _) _ _
    walk_at "n_leafcall"
    (refine i_sub (by assumption) ?_; intro _ _ _)
    (refine r_slice (by assumption) ?_; intro _ _ _)
    refine r_item_y ?_ (fun _ _ => by first | exact .inl rfl | exact .inr rfl)
    rename_i S₃₀
    refine y_cut S₃₀ (.int _ _) .none (by omega) fun ty s₃₁ S₃₁ => ?_
    rw [cut_suf (show Suf gi.out gn.out from ⟨pre, hpre⟩)]
    refine r_loc (by assumption) (by exact rfl) ?_
    refine y_ne ?_
    refine tr_bool ?_
    refine g_no (by simp) ?_
    refine n_nil ?_
    show N _ _ _ _ _
    refine n_nil ?_
    have S₃₂ := S₃₁.perm (pb4 [(b, r'.obj), (r'.ba, baObj buf')] [(it, io')] ((r'.vt, od') :: tl') [(ed, eo')] [(st', tup [.int (gn.out.length : Nat) t1', .int (gn.room : Nat) t2'])] tlx (tl2 ++ ((fa, listOf #[] 0) :: l)))
    rw [← List.append_assoc tlx tl2] at S₃₂
    refine ⟨n, by omega, _, i + 1, io', r', buf', od', tl', tlx ++ tl2, eo', st', t1', t2', _, xs', gn, by omega, S₃₂, Y', B'', V', hrl, by exact e1, by exact rfl, by exact e3, by exact rfl, by exact e5, ?_, by omega, by omega⟩
    rw [hgn, hgi, List.take_add_one, List.getElem?_eq_getElem hil, ← hfm]
    show _ = List.foldl _ _ (_ ++ [(form, more)])
    rw [List.foldl_append]
    rfl
end

end Mine

end
-- PJ2
section
open PySem PySem.W PySem.Calls PyProof.Rows
set_option maxRecDepth 100000
set_option linter.unusedVariables false
set_option linter.deprecated false
namespace Mine
end Mine
end
local macro_rules | `(tactic| walk_at "n_leaf") => `(tactic| ((with_reducible show N _ _ (binaryOp .Mod (.int _ _) (.int _ _)) _ _); refine i_mod (by assumption) (by decide) ?_; intro _ _ _))
section
open PySem PySem.W PySem.Calls PyProof.Rows
set_option maxRecDepth 100000
set_option linter.unusedVariables false
set_option linter.deprecated false
namespace Mine
end Mine
end
local macro_rules | `(tactic| walk_at "n_leaf") => `(tactic| ((with_reducible show N _ _ (binaryOp .Mult (.int _ _) (.int _ _)) _ _); refine i_mul (by assumption) (mulOk (by decide)) ?_; intro _ _ _))
section
open PySem PySem.W PySem.Calls PyProof.Rows
set_option maxRecDepth 100000
set_option linter.unusedVariables false
set_option linter.deprecated false
namespace Mine
end Mine
end
local macro_rules | `(tactic| walk_at "n_leaf") => `(tactic| ((with_reducible show N _ _ (binaryOp .FloorDiv (.int _ _) (.int _ _)) _ _); refine i_div (by assumption) (by decide) (PyProof.noPylong_of_log2 (by decide +kernel)) ?_; intro _ _ _))
section
open PySem PySem.W PySem.Calls PyProof.Rows
set_option maxRecDepth 100000
set_option linter.unusedVariables false
set_option linter.deprecated false
namespace Mine
theorem slicePick_min (items : Array Value) (b : Nat) : slicePick items none (some (b : Int)) none = slicePick items none (some ((min b items.size : Nat) : Int)) none := by
  unfold slicePick
  rw [sliceBounds_plain, sliceBounds_plain]
  simp only [Option.elim, clipAt_nat]
  rw [show min (min b items.size) items.size = min b items.size by omega]
theorem pick_upto {vs : List Value} {ns : List Int} (hi : IntsAre vs ns) (b : Nat) : IntsAre (slicePick vs.toArray none (some (b : Int)) none).toList (ns.take b) := by
  rw [slicePick_min]
  have hl := hi.length
  have := slice_ints_upto hi (y := ((min b vs.toArray.size : Nat) : Int)) (by omega) (by rw [List.size_toArray, hl]; omega)
  rw [Int.toNat_natCast, List.size_toArray, hl] at this
  rw [List.size_toArray, hl]
  rw [show ns.take b = ns.take (min b ns.length) by rw [List.take_eq_take_iff]; omega]
  exact this
def planOf (n : Int) : Nat × Nat := ((n.fmod 8).toNat, ((n.fdiv 8 * 7919 + 19).fmod 100000).toNat)
theorem planOf_ok (n : Int) : (planOf n).1 ≤ 7 ∧ (planOf n).2 < 100000 := by
  have h1 := Int.fmod_lt_of_pos n (show (0 : Int) < 8 by decide)
  have h2 := Int.fmod_lt_of_pos (n.fdiv 8 * 7919 + 19) (show (0 : Int) < 100000 by decide)
  unfold planOf
  dsimp only
  omega
theorem fmod_cast {n k : Int} (h : 0 < k) : n.fmod k = ((n.fmod k).toNat : Int) := by
  rw [Int.fmod_eq_emod_of_nonneg _ (by omega)]
  have := Int.emod_nonneg n (show k ≠ 0 by omega)
  omega
section
variable {y : Cy} {A : Around} {s : Shared} {L b st ed pl F d sl : Addr} {m : Str → Option Value} {l k l0 tl : List (Addr × Obj)} {r : Raw} {Q : Value → Shared → Prop} {w : Nat} {lo hi : Int} {buf out : List UInt8} {g : Gh} {od : Obj}
/-- the law's own call, from the caller -/
theorem p_top {f : Addr} {nm qual : Str} {params : Arguments} {body : List Stmt} {scope : Scope} {dV kV doc pm cdv ct oc : Value} {an od : Option Addr} {osl : Array (Option Value)} {pos : List Value} {kw : List (Str × Value)} {binds : List (Str × Value)}
    (hh : y.h₀ = s.heap) (hK : (hd.heap_39 y.w.params).In y.h₀) (hT : TopRead y.p y.loose y.mg y.mb y.h₀) (hg : s.gens = #[]) (hos : s.os = y.os)
    (ho : (hd.heap_39 y.w.params).lookup f = some ⟨oc, od, .func (fnOf nm qual params body scope dV kV doc pm an cdv ct), osl⟩) (hcd : codeIn (hd.heap_39 y.w.params) cdv qual = true) (hroom : A.depth < recursionLimit)
    (hbind : BindsTo s (fnOf nm qual params body scope dV kV doc pm an cdv ct) ⟨pos, kw⟩ binds)
    (hloc : ∀ y ∈ binds, scope.names.lookup y.1 = some .local)
    (h : ∀ L' s₁, St y.cx L' (fun y => binds.reverse.lookup y) [] [] s₁ → N y.cx (A.deeper (envOf qual scope L' f cdv)) (execs body (envOf qual scope L' f cdv)) (fun fl s' => ∃ L'' m'' l'', St y.cx L'' m'' l'' [] s' ∧ Q (match fl with | .ret v => v | _ => .none) s') s₁)
    (hcell : ∀ x ∈ scope.names, x.2 ≠ .cell) (hco : scope.isCoroutine = false) (hgen : scope.isGenerator = false) (hk : scope.kind = .function) :
    N y.cx A (call (.ref f) pos kw) Q s := by
  have X : (hd.heap_39 y.w.params).In s.heap := hh ▸ hK
  refine N.call (NC.def_ (fd := fnOf nm qual params body scope dV kV doc pm an cdv ct) (body := body) hroom (X _ _ ho) rfl hco hgen rfl (codeRec_of X hcd) (hbind _ _ _ _ ?_))
  refine wpAny_newFunctionEnv hcell hloc (fun h₁ hns hsb => ?_) hk
  have hk₁ : ∀ b o, s.heap.get? b = some o → h₁.get? b = some o := fun b o e => hsb.extBut b o (Nat.ne_of_lt (Heap.lt_size e)) (Heap.get?_push_of_some _ e)
  have S₂ : St y.cx s.heap.objs.size (fun y => binds.reverse.lookup y) [] [] { s with heap := h₁, toks := s.toks + binds.length } :=
    ⟨[], (fun _ h => nomatch h), ⟨hns, fun b o e => hk₁ b o (hh ▸ e), Nat.le_of_eq (by show y.h₀.objs.size = _; rw [hh])⟩, (fun _ h => nomatch h), List.nodup_nil, hg, hos, hK, hT⟩
  refine ⟨(show s.heap.NoLimit from hh ▸ hT.nolimit).fresh _ hsb, NC.func ((h _ _ S₂).mono fun fl s' hb => ?_)⟩
  obtain ⟨L', m', l', S', q⟩ := hb
  cases fl <;> exact q
set_option maxHeartbeats 1000000 in
theorem ct_law {vs : List Value} {ns : List Int} (hh : y.h₀ = s.heap) (hK : (hd.heap_39 y.w.params).In y.h₀) (hT : TopRead y.p y.loose y.mg y.mb y.h₀) (hg : s.gens = #[]) (hos : s.os = y.os) (R : Rm A 20)
    (hsl : y.h₀.IsList sl vs.toArray) (hi : IntsAre vs ns) (hvl : vs.length ≤ 100) (h : ∀ s' L m l, St y.cx L m l [] s' → Q (.bool true) s') :
    N y.cx A (call (.ref 719) [.ref sl]) Q s := by
  have hsl' : ∀ {L : Addr} {m : Str → Option Value} {l k : List (Addr × Obj)} {s : Shared}, St y.cx L m l k s → s.heap.IsList sl vs.toArray := fun S => by
    obtain ⟨o, ho, q⟩ := hsl
    exact ⟨o, S.fr.keep _ _ ho, q⟩
  refine p_top (binds := [("script", .ref sl)]) hh hK hT hg hos (by rfl) (by rfl) (Rm.depth R) (BindsTo.of_eq rfl) (locs rfl) (fun Lx s₁ S₁ => ?_) (by decide) rfl rfl rfl
  refine n_cons ?_
  refine n_assign ?_
  refine e_list ?_
  refine sp_nil ?_
  refine k_newlist (by assumption) (by simp) fun pl s₂ S₂ => ?_
  (refine r_st (by assumption) ?_; intro _ _)
  show N _ _ _ _ _
  refine n_cons ?_
  refine n_for ?_
  refine e_sub ?_
  refine r_loc (by assumption) (by exact rfl) ?_
  refine e_slice_up ?_
  (refine r_cint (by assumption) ?_; intro _ _ _)
  (refine r_slice (by assumption) ?_; intro _ _ _)
  rename_i S₃
  refine r_item_list (hsl' S₃) ?_ (fun _ _ => by first | exact .inl rfl | exact .inr rfl)
  refine l_cut S₃ (hsl' S₃) .none (.int _ _) (by rw [List.size_toArray]; omega) fun cl s₄ S₄ => ?_
  skip
  have hi1 : IntsAre (slicePick vs.toArray none (some 18) none).toList (ns.take 18) := pick_upto hi 18
  obtain ⟨vs1, hvs1⟩ : ∃ vs1, vs1 = (slicePick vs.toArray none (some 18) none).toList := ⟨_, rfl⟩
  have hvs2 : slicePick vs.toArray none (some 18) none = vs1.toArray := by rw [hvs1, Array.toArray_toList]
  rw [← hvs1] at hi1
  rw [hvs2] at S₄
  have hl1 := hi1.length
  have hl2 : (ns.take 18).length ≤ 18 := by rw [List.length_take]; omega
  refine k_iter_list (items := vs1.toArray) S₄ (LsO.of.isList (S₄.get (.head _))) fun it s₅ S₅ => ?_
  refine NC.for_ind (fun n s' => ∃ (m' : Str → Option Value) (i : Nat) (io : Obj) (pvs : List Value) (np : Nat) (tls : List (Addr × Obj)), n + i = (ns.take 18).length ∧
    St y.cx Lx m' ((it, io) :: (pl, listOf pvs.toArray np) :: tls) [] s' ∧ LitO io cl i ∧ (cl, listOf vs1.toArray 0) ∈ tls ∧ PlanO tls pvs (((ns.take 18).take i).map planOf) ∧ m' "plan" = some (.ref pl) ∧ m' "script" = some (.ref sl)) ?_ (ns.take 18).length _
    ⟨_, 0, lit cl 0, [], _, [(cl, listOf vs1.toArray 0)], by omega, S₅.perm (.cons _ (.swap _ _ _)), ⟨rfl, rfl⟩, .head _, ⟨rfl, fun i d q => by simp at q⟩, by exact rfl, by exact rfl⟩
  rintro n s₆ ⟨m', i, io, pvs, np, tls, hni, S₆, Y, hcl, P, e1, e2⟩
  have hcl' : s₆.heap.IsList cl vs1.toArray := LsO.of.isList (S₆.get (.tail _ (.tail _ hcl)))
  cases n with
  | zero =>
    refine k_next_list_end Y S₆ hcl' (by exact R.h) (by rw [List.getElem?_toArray, List.getElem?_eq_none]; omega) fun s₇ S₇ => ?_
    have htk : (ns.take 18).take i = ns.take 18 := List.take_of_length_le (by omega)
    rw [htk] at P
    show N _ _ _ _ _
    refine n_cons ?_
    refine n_assign ?_
    refine e_bin ?_
    refine e_call ?_
    refine p_blt (by assumption) (gb_sum _) (by boot_by_name) (by decide) ?_ rfl rfl
    refine cw1 ?_
    refine sp_cons ?_
    refine e_sub ?_
    refine r_loc (by assumption) (by exact e2) ?_
    refine e_slice_up ?_
    (refine r_cint (by assumption) ?_; intro _ _ _)
    (refine r_slice (by assumption) ?_; intro _ _ _)
    rename_i S₈
    refine r_item_list (hsl' S₈) ?_ (fun _ _ => by first | exact .inl rfl | exact .inr rfl)
    refine l_cut S₈ (hsl' S₈) .none (.int _ _) (by rw [List.size_toArray]; omega) fun c3 s₉ S₉ => ?_
    have hi3 : IntsAre (slicePick vs.toArray none (some 3) none).toList (ns.take 3) := pick_upto hi 3
    show N _ _ _ _ _
    refine sp_nil ?_
    refine ⟨Kp.builtin, ?_⟩
    show N _ _ (call _ [_] _) _ _
    refine k_sum (vs := (slicePick vs.toArray none (some 3) none).toList) S₉ (by rw [Array.toArray_toList]; exact ⟨_, S₉.get (.head _), rfl, 0, rfl⟩) hi3 R.h ?_
    intro _
    intro _
    intro _
    (refine r_cint (by assumption) ?_; intro _ _ _)
    walk_at "n_leaf"
    (refine r_st (by assumption) ?_; intro _ _)
    show N _ _ _ _ _
    refine n_cons ?_
    refine n_assign ?_
    refine e_call ?_
    refine p_glob (by assumption) (gl_Builder _) ?_ rfl rfl
    refine cw1 ?_
    refine sp_cons ?_
    refine r_loc (by assumption) (by exact rfl) ?_
    refine sp_nil ?_
    refine ⟨Kp.of_K (by assumption) (kp_671 _), ?_⟩
    show N _ _ (call _ [_] _) _ _
    obtain ⟨f0, hf0⟩ : ∃ f0, f0 = ((ns.take 3).sum.fmod 70).toNat := ⟨_, rfl⟩
    have hf1 : (ns.take 3).sum.fmod 70 = (f0 : Int) := by rw [hf0]; exact fmod_cast (by decide)
    have hf2 : f0 < 70 := by have := Int.fmod_lt_of_pos (ns.take 3).sum (show (0 : Int) < 70 by decide); omega
    rw [hf1]
    rename_i S₁₀
    refine ct_Builder S₁₀ (R.deep.le (by omega)) (by omega) fun b r s₁₁ S₁₁ bd hvt hnn hss => ?_
    (refine r_st (by assumption) ?_; intro _ _)
    show N _ _ _ _ _
    refine n_cons ?_
    refine n_assignT ?_
    refine e_call ?_
    refine p_glob (by assumption) (gl__law_run _) ?_ rfl rfl
    refine cw1 ?_
    refine sp_cons ?_
    refine r_loc (by assumption) (by exact rfl) ?_
    refine sp_cons ?_
    refine r_loc (by assumption) (by exact e1) ?_
    refine sp_cons ?_
    refine r_loc (by assumption) (by exact rfl) ?_
    refine sp_nil ?_
    refine ⟨Kp.of_K (by assumption) (kp_712 _), ?_⟩
    show N _ _ (call _ [_, _, _] _) _ _
    rename_i S₁₂
    rw [hf1]
    obtain ⟨plan, hplan⟩ : ∃ plan, plan = (ns.take 18).map planOf := ⟨_, rfl⟩
    rw [← hplan] at P
    have hp18 : plan.length ≤ 18 := by rw [hplan, List.length_map]; exact hl2
    have hpd : ∀ d ∈ plan, d.1 ≤ 7 ∧ d.2 < 100000 := fun d hd => by
      rw [hplan] at hd
      obtain ⟨z, _, rfl⟩ := List.mem_map.mp hd
      exact planOf_ok z
    obtain ⟨G, hG⟩ : ∃ G, G = Gh.fin (Gh.run plan ⟨[], f0, 1, []⟩) := ⟨_, rfl⟩
    have hag : Gh.fin (Gh.run plan ⟨[], G.room, 1, []⟩) = G := by rw [hG]; exact again plan ⟨[], f0, 1, []⟩
    refine ct_run (R0 := f0) (tl := []) (plan := plan) (pvs := pvs) (np := np) S₁₂ (R.deep.le (by omega)) ⟨bd, ⟨[], rfl, VtO.new hvt⟩, hnn, (fun _ h => nomatch h), .inl rfl⟩ (.tail _ (.head _)) ⟨P.1, fun i d q => let ⟨a, t1, t2, h1, h2⟩ := P.2 i d q; ⟨a, t1, t2, h1, .tail _ (.tail _ h2)⟩⟩ hp18 hpd ?_
    rw [← hG]
    intro d1 fa nf u1 u2 r1 buf1 od1 tl1 s₁₃ bd1 S₁₃
    skip
    refine as_tup (vs := [.ref fa, .bytes G.out.toArray u1, .int (G.room : Nat) u2]) S₁₃ (.head _) R.h fun s₁₄ S₁₄ => ?_
    have S₁₄ := S₁₄.drop.under
    show N _ _ _ _ _
    walk_at "n_leaf"
    (refine r_st (by assumption) ?_; intro _ _)
    walk_at "n_leaf"
    (refine r_st (by assumption) ?_; intro _ _)
    walk_at "n_leaf"
    (refine r_st (by assumption) ?_; intro _ _)
    walk_at "n_leaf"
    show N _ _ _ _ _
    refine n_cons ?_
    refine n_expr ?_
    refine e_meth ?_
    refine r_loc (by assumption) (by exact rfl) ?_
    refine m_Clear (by assumption) ?_
    refine cw0 ?_ ?_
    exact Kp.of_K (by assumption) (kp_292 _)
    show N _ _ (call _ [_] _) _ _
    rename_i S₁₅
    refine ct_Clear S₁₅ (R.deep.le (by omega)) bd1 fun r2 s₁₆ hba S₁₆ bd2 hvt2 hnn2 => ?_
    refine ⟨(by intro _ h; cases h), ?_⟩
    show N _ _ _ _ _
    refine n_cons ?_
    refine n_assignT ?_
    refine e_call ?_
    refine p_glob (by assumption) (gl__law_run _) ?_ rfl rfl
    refine cw1 ?_
    refine sp_cons ?_
    refine r_loc (by assumption) (by exact rfl) ?_
    refine sp_cons ?_
    refine r_loc (by assumption) (by exact e1) ?_
    refine sp_cons ?_
    refine r_loc (by assumption) (by exact rfl) ?_
    refine sp_nil ?_
    refine ⟨Kp.of_K (by assumption) (kp_712 _), ?_⟩
    show N _ _ (call _ [_, _, _] _) _ _
    refine ct_run (R0 := G.room) (tl := []) (plan := plan) (pvs := pvs) (np := np) S₁₆ (R.deep.le (by omega)) ⟨bd2, ⟨[], rfl, VtO.new hvt2⟩, hnn2, (fun _ h => nomatch h), .inl rfl⟩ (.tail _ (.tail _ (List.mem_append_right _ (.tail _ (.head _))))) ⟨P.1, fun i d q => let ⟨a, t1, t2, h1, h2⟩ := P.2 i d q; ⟨a, t1, t2, h1, .tail _ (.tail _ (List.mem_append_right _ (.tail _ (.tail _ h2))))⟩⟩ hp18 hpd ?_
    rw [hag]
    intro d2 fa2 nf2 u3 u4 r3 buf3 od3 tl3 s₁₈ bd3 S₁₈
    skip
    refine as_tup (vs := [.ref fa2, .bytes G.out.toArray u3, .int (G.room : Nat) u4]) S₁₈ (.head _) R.h fun s₁₉ S₁₉ => ?_
    have S₁₉ := S₁₉.drop
    show N _ _ _ _ _
    walk_at "n_leaf"
    (refine r_st (by assumption) ?_; intro _ _)
    walk_at "n_leaf"
    (refine r_st (by assumption) ?_; intro _ _)
    walk_at "n_leaf"
    (refine r_st (by assumption) ?_; intro _ _)
    walk_at "n_leaf"
    show N _ _ _ _ _
    refine n_cons ?_
    refine n_ret ?_
    refine e_and ?_
    refine e_cmp ?_
    refine r_loc (by assumption) (by exact rfl) ?_
    refine e_list ?_
    refine sp_nil ?_
    refine k_newlist (by assumption) (by simp) fun w1 s₂₀ S₂₀ => ?_
    skip
    refine l_eq (ns := []) (ms := []) (vs := []) (us := []) (LsO.of (n := nf)) (LsO.of (n := 0)) S₂₀ (.tail _ (.tail _ (.tail _ (.tail _ (.tail _ (List.mem_append_right _ (.head _))))))) (.head _) .nil .nil (by have := R.u; show A.units + 3 + 64 < _; omega) ?_
    refine tr_bool ?_
    refine   g_yes     (by       first       | rfl       | assumption)     ?_
    refine e_and ?_
    refine e_cmp ?_
    refine r_loc (by assumption) (by exact rfl) ?_
    refine e_list ?_
    refine sp_nil ?_
    refine k_newlist (by assumption) (by simp) fun w2 s₂₁ S₂₁ => ?_
    skip
    refine l_eq (ns := []) (ms := []) (vs := []) (us := []) (LsO.of (n := nf2)) (LsO.of (n := 0)) S₂₁ (.tail _ (.tail _ (.head _))) (.head _) .nil .nil (by have := R.u; show A.units + 3 + 64 < _; omega) ?_
    refine tr_bool ?_
    refine   g_yes     (by       first       | rfl       | assumption)     ?_
    refine e_and ?_
    refine e_cmp ?_
    refine r_loc (by assumption) (by exact rfl) ?_
    refine r_loc (by assumption) (by exact rfl) ?_
    refine y_eq ?_
    refine tr_bool ?_
    refine g_yes (by simp) ?_
    skip
    refine e_and1 ?_
    refine e_cmp ?_
    refine r_loc (by assumption) (by exact rfl) ?_
    refine r_loc (by assumption) (by exact rfl) ?_
    refine c_eq ?_
    refine ⟨Lx, _, _, S₂₁, ?_⟩
    show Q (.bool ((G.room : Int) == (G.room : Int))) _
    rw [beq_self_eq_true]
    exact h _ _ _ _ S₂₁
  | succ n =>
    have hil : i < vs1.length := by omega
    obtain ⟨e, te, hve, hce⟩ := hi1.at i vs1[i] (List.getElem?_eq_getElem hil)
    refine k_next_list Y S₆ hcl' (v := .int e te) (by rw [List.getElem?_toArray, List.getElem?_eq_getElem hil, hve]) fun io' s₇ Y' S₇ => ?_
    show N _ _ _ _ _
    (refine r_st (by assumption) ?_; intro _ _)
    refine n_cons ?_
    refine n_expr ?_
    refine e_meth ?_
    refine r_loc (by assumption) (by exact e1) ?_
    walk_at "n_leaf"
    refine cw1 ?_
    refine sp_cons ?_
    refine e_tuple ?_
    refine sp_cons ?_
    refine e_bin ?_
    refine r_loc (by assumption) (by exact rfl) ?_
    (refine r_cint (by assumption) ?_; intro _ _ _)
    walk_at "n_leaf"
    refine sp_cons ?_
    refine e_bin ?_
    refine e_bin ?_
    refine e_bin ?_
    refine e_bin ?_
    refine r_loc (by assumption) (by exact rfl) ?_
    (refine r_cint (by assumption) ?_; intro _ _ _)
    walk_at "n_leaf"
    (refine r_cint (by assumption) ?_; intro _ _ _)
    walk_at "n_leaf"
    (refine r_cint (by assumption) ?_; intro _ _ _)
    (refine i_add (by assumption) ?_; intro _ _ _)
    (refine r_cint (by assumption) ?_; intro _ _ _)
    walk_at "n_leaf"
    refine sp_nil ?_
    have q1 : e.fmod 8 = (((planOf e).1 : Nat) : Int) := fmod_cast (by decide)
    have q2 : (e.fdiv 8 * 7919 + 19).fmod 100000 = (((planOf e).2 : Nat) : Int) := fmod_cast (by decide)
    rw [q1, q2]
    refine k_newtuple (by assumption) (by simp) fun ta s₈ S₈ => ?_
    refine sp_nil ?_
    refine ⟨Kp.builtin, ?_⟩
    show N _ _ (call _ [_, _] _) _ _
    have hpl := P.1
    have hpn : (((ns.take 18).take i).map planOf).length = i := by rw [List.length_map, List.length_take]; omega
    refine k_append (S₈.perm ((List.Perm.cons _ (.swap _ _ _)).trans (.swap _ _ _))) (by omega) fun s₉ S₉ => ?_
    refine ⟨(by intro _ h; cases h), ?_⟩
    show N _ _ _ _ _
    refine n_nil ?_
    refine ⟨n, by omega, _, i + 1, io', pvs ++ [.ref ta], np + 1, (ta, tup [.int ((planOf e).1 : Nat) _, .int ((planOf e).2 : Nat) _]) :: tls, by omega, S₉.perm ((List.Perm.cons _ (.swap _ _ _)).trans (.swap _ _ _)), Y', .tail _ hcl, ⟨?_, ?_⟩, by exact e1, by exact e2⟩
    · rw [List.length_append, List.length_singleton, hpl, hpn, List.length_map, List.length_take]; omega
    · intro j dj hj
      have e18 : (ns.take 18).take (i + 1) = (ns.take 18).take i ++ [e] := by rw [List.take_add_one, hce]; rfl
      rw [e18, List.map_append] at hj
      by_cases hji : j < i
      · rw [List.getElem?_append_left (by omega)] at hj
        obtain ⟨aj, u1, u2, z1, z2⟩ := P.2 j dj hj
        exact ⟨aj, u1, u2, by rw [List.getElem?_append_left (by omega)]; exact z1, .tail _ z2⟩
      · rw [List.getElem?_append_right (by omega), hpn] at hj
        have hj0 : j - i = 0 := by
          cases q : j - i with
          | zero => rfl
          | succ z => rw [q] at hj; simp at hj
        rw [hj0] at hj
        simp at hj
        subst hj
        exact ⟨ta, _, _, by rw [List.getElem?_append_right (by omega), show j - pvs.length = 0 by omega]; rfl, .head _⟩
end

end Mine

end
-- PK2
section
open PySem PySem.W PySem.Calls PyProof.Rows
set_option maxRecDepth 100000
set_option linter.unusedVariables false
set_option linter.deprecated false
namespace Mine
theorem wpC_of_N {α : Type} {c : Cx} {A : Around} {t : Sem α} {Q : α → Shared → Prop} {E : Value → Shared → Prop} {s : Shared} (h : N c A t Q s) : wpC c.M A t Q E s :=
  fun Γ p h1 h2 => Sem.wp_mono c.M Γ t (fun _ _ _ z => z) (fun _ _ _ z => z.elim) p s (h Γ p h1 h2)
set_option maxHeartbeats 4000000 in
theorem entry : PySem.Challenge.rw_fb0004_02.Holds := by
  refine hd ?_
  k_fill
  intro w s₀ s₁ mg mb G Y fa o pm cd doc dV kV ho hdd hcd hD hmg hg args vals as hpre hlay hrd hwl hlo
  have KX := kIn_of Y
  have X := (Ground.X G).1
  have V := (Ground.X G).2
  refine Ground.open G ?_
  intro T B D TE TW
  have hfa := hmg
  have TR := topRead_of T
  clear B D TE TW
  wrow_args hpre hlay hrd hwl hlo
  rename_i hcd1 hcd2
  have hfa2 : mg (PySem.Str.ofString "law") = some (.ref 719) := mg_of KX TR.g (by k_is)
  have hfa3 : fa = 719 := by
    have := hmg.symm.trans hfa2
    simpa using this
  subst hfa3
  refine ⟨GoodW.toG ⟨.inl ⟨_, .bool true, [], rfl, fun _ => rfl, .bool true, by with_unfolding_all rfl, fun _ => ⟨List.nodup_nil, fun _ h => nomatch h⟩⟩, fun _ _ e => e, rfl, hg⟩, ?_⟩
  obtain ⟨pp, ll, TR'⟩ : ∃ pp ll, TopRead pp ll mg mb s₁.heap := ⟨_, _, TR⟩
  have R : Rm callerA 20 := ⟨by decide, by decide, rfl, rfl⟩
  refine wpC_of_N (c := (Cy.mk PySem.Challenge.rw_fb0004_02.row.toRowW.prog w pp ll mg mb s₁.heap s₁.os).cx) (ct_law (y := ⟨PySem.Challenge.rw_fb0004_02.row.toRowW.prog, w, pp, ll, mg, mb, s₁.heap, s₁.os⟩) rfl KX TR' hg rfl R (by assumption) (by assumption) ?_ ?_)
  · have hI := ‹IntsAre _ _›
    have := hI.length
    omega
  · intro s' L m l S
    exact GoodW.toG (goodW_bool S.fr S.gens (fun _ => rfl) (by with_unfolding_all rfl) S.os)

end Mine

end
theorem PySem.Challenge.cw_fb0004_02_holds : PySem.Challenge.rw_fb0004_02.Holds :=
  Mine.entry
