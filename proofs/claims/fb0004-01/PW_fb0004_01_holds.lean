import PyProof.Rows.All
import Wide.All
import OpenK.AllK
import Wide.FinOn
import PySem.Challenge.RW_fb0004_01
open PySem PySem.W PySem.Calls PyProof.Rows
set_option Elab.async false
set_option linter.unusedVariables false
set_option linter.deprecated false
namespace Mine
end Mine
open Mine
local macro_rules | `(tactic| walk_at "in_l") => `(tactic| first | exact .head _ | exact .tail _ (.head _) | exact .tail _ (.tail _ (.head _)) | exact .tail _ (.tail _ (.tail _ (.head _))))
local macro_rules | `(tactic| walk_at "in_l6") => `(tactic| first | walk_at "in_l" | exact .tail _ (.tail _ (.tail _ (.tail _ (.head _)))) | exact .tail _ (.tail _ (.tail _ (.tail _ (.tail _ (.head _))))))
local macro_rules | `(tactic| walk_at "in_lw") => `(tactic| first | exact List.Mem.head _ | (refine List.Mem.tail _ ?_; walk_at "in_lw"))
-- H0
section
open PySem PySem.W PySem.Calls PyProof.Rows
set_option maxRecDepth 100000
namespace Mine
open PySem.Sem (wp)

/-- a builtin that holds a buffer while it decodes: what `bytearray` looks for on the stack -/
def dec (c : Code) : Bool := match c with
  | .builtin id _ => Builtin.Bytes.decodersThatHold.contains id
  | _ => false
/-- no such builtin runs here or below -/
def Cl (Γ : Ctx) : Prop := dec Γ.code = false ∧ ∀ x ∈ Γ.below, dec x.1 = false

def wpC {α : Type} (M : Model) (A : Around) (t : Sem α) (Q : α → Shared → Prop) (E : Value → Shared → Prop) (s : Shared) : Prop :=
  ∀ Γ p, Γ.In A → Cl Γ → wp M Γ t (fun a _ s' => Q a s') (fun e _ s' => E e s') p s

def cc : Code := .builtin "claim.caller" {}
theorem cl_caller : Cl ⟨cc, none, none, [], none⟩ := ⟨by decide +kernel, fun _ h => nomatch h⟩

/-- run t where the caller alone is on the stack, else hand back r -/
def loneIs (st : List (Code × Pos)) : Bool := match st with
  | [(.builtin id _, _)] => id == "claim.caller"
  | _ => false
def lone {α : Type} (t r : Sem α) : Sem α := .stack fun st => if loneIs st then t else r

theorem lone_wp {α : Type} {M : Model} {A : Around} {t r : Sem α} {Q : α → Shared → Prop} {E : Value → Shared → Prop} {s : Shared} (h : wpC M A t Q E s) (hr : wpAny M A r Q E s) : wpAny M A (lone t r) Q E s := by
  intro Γ p hΓ
  show wp M Γ (if loneIs ((Γ.code, p) :: Γ.below) then t else r) _ _ p s
  split
  · rename_i e
    refine h Γ p hΓ ?_
    unfold loneIs at e
    split at e
    · rename_i id a q e2
      obtain ⟨e3, e4⟩ := List.cons.inj e2
      have e5 : Γ.code = .builtin id a := (Prod.mk.inj e3).1
      refine ⟨?_, fun x hx => by rw [e4] at hx; exact nomatch hx⟩
      rw [e5, beq_iff_eq.mp e]
      show Builtin.Bytes.decodersThatHold.contains "claim.caller" = false
      decide +kernel
    · cases e
  · exact hr Γ p hΓ

theorem lone_sched {prog : Program} {w : World} {t r : Sem Fin} {a : Args} {s s' : Shared} {o : Outcome} {n : Nat} (hz : s.asleep)
    (h : schedN (denote table) prog w n (.single s ⟨lone t r, .builtin "claim.caller" a, default, []⟩) = .halted o s') :
    ∃ n, schedN (denote table) prog w n (.single s ⟨t, .builtin "claim.caller" a, default, []⟩) = .halted o s' := by
  cases n with
  | zero => cases h
  | succ n =>
    refine ⟨n, ?_⟩
    have st : step (denote table) prog w s ⟨lone t r, .builtin "claim.caller" a, default, []⟩ = .go s ⟨t, .builtin "claim.caller" a, default, []⟩ := rfl
    unfold schedN at h
    rcases sstep_single (denote table) prog w s ⟨lone t r, .builtin "claim.caller" a, default, []⟩ (by rfl) hz with e | e
    · rw [e, st] at h; exact h
    · rw [st] at e; cases e

theorem lone_open {c : ClaimW} {tree tree' : List Value → Sem Fin} {defs keeps : List Str} {writes : Bool}
    (h : c.HoldsOpenBy (fun vs => ⟨lone (tree vs) (tree' vs), .builtin "claim.caller" {}, default, []⟩) defs keeps writes) :
    c.HoldsOpenBy (fun vs => ⟨tree vs, .builtin "claim.caller" {}, default, []⟩) defs keeps writes := by
  obtain ⟨h1, h2, h3⟩ := h
  refine ⟨h1, h2, fun w => ⟨(h3 w).1, fun s hs => ?_⟩⟩
  obtain ⟨s₀, hf, hg, s₁, hT, hd, hr, ha, hC⟩ := (h3 w).2 s hs
  refine ⟨s₀, hf, hg, s₁, hT, hd, hr, ha, fun args hp hl ord ho => ?_⟩
  obtain ⟨vs, s₂, hlaid, n, o, s', hn, rest⟩ := hC args hp hl ord ho
  have hs' : AfterImport (opening c.prog) w s := hs
  have hz : s₂.asleep := Shared.asleep_of_life ((layAllW_rest _ _ _ hlaid).2.2.2.trans (hT.2.1.trans (fence_lifeW hf))) hs'.life
  obtain ⟨n', hn'⟩ := lone_sched hz hn
  exact ⟨vs, s₂, hlaid, n', o, s', hn', rest⟩

abbrev WalkC (q : Program) (loose : List Str) (XP : (Str → Option Value) → Heap → Prop) (YP : World → Heap → Prop) (r : RowW) (d : DefRec) (kwd : List (Str × Expr)) (run : Value → List Value → Sem Value) : Prop :=
  ∀ (w : World) (s₀ s₁ : Shared) (mg mb : Str → Option Value), Ground q loose r.records XP w s₀ mg mb s₁.heap → YP w s₁.heap → ∀ (a : Addr) (o : Obj) (pm cd doc dV kV : Value), s₁.heap.get? a = some o →
    o.data = .func { docDef d.name d.params d.body d.scope pm cd doc with defaults := dV, kwdefaults := kV } → s₁.heap.CodeRec cd d.name → Dflts mg s₁.heap d.params kwd dV kV → mg d.name = some (.ref a) → s₁.gens = #[] →
    ∀ (args : List WData) (vals : List Value) (as : List Addr), r.claim.pre args = true → WData.layableAll args = true → ReadsAllW r.records (classAt s₀.heap) s₁.heap vals args as → WellAll w.params s₁.heap vals args → (∀ a ∈ as, (a == sysModules) = false) →
      GoodWG r.claim (classAt s₀.heap) (ExcName.means s₀.heap) args s₁ (.ok (.ret (.bool true))) s₁ ∧
      wpC (model r.prog w) callerA (run (.ref a) vals) (fun v s' => GoodWG r.claim (classAt s₀.heap) (ExcName.means s₀.heap) args s₁ (.ok (.ret v)) s')
        (fun e s' => GoodWG r.claim (classAt s₀.heap) (ExcName.means s₀.heap) args s₁ (.error e) s') s₁

theorem lone_tree {prog : Program} {w : World} {A : Around} {name : Str} {f : Value} {vs : List Value} {s : Shared} {mg : Str → Option Value} {Q : Fin → Shared → Prop} {E : Value → Shared → Prop} (hg : s.heap.Ns mainGlobals mg) (hf : mg name = some f)
    (h : wpAny (model prog w) A (lone (PySem.call f vs) (pure (.bool true))) (fun v s' => Q (.done (.ret v)) s') E s) :
    wpAny (model prog w) A (lone (do match ← nsGet mainNs name with
      | some f => do ret (← PySem.call f vs)
      | none => unsupported "claim.caller:no-such-global") (ret (.bool true))) Q E s := by
  intro Γ p hΓ
  have h' : wp (model prog w) Γ (if loneIs ((Γ.code, p) :: Γ.below) then PySem.call f vs else pure (.bool true)) _ _ p s := h Γ p hΓ
  show wp (model prog w) Γ (if loneIs ((Γ.code, p) :: Γ.below) then _ else _) _ _ p s
  split
  · rename_i e
    rw [if_pos e] at h'
    rw [Sem.wp_bind', show (mainNs : Addr) = mainGlobals from rfl, Sem.wp_nsGet _ _ _ _ _ hg, hf]
    show wp (model prog w) Γ (PySem.call f vs >>= fun v => ret v) _ _ p s
    rw [Sem.wp_bind']
    exact h'
  · rename_i e
    rw [if_neg e] at h'
    exact h'

/-- the head for a walk on clean stacks (the name stands in our namespace: the head's tactic finds it there) -/
theorem PySem.W.holds_open {r : OpenRow} {q : Program} {loose : List Str} {Xt : Shared → Bool} {XP : (Str → Option Value) → Heap → Prop} {α : Type} {Yf : Shared → α} {Ya : World → α} {YP : World → Heap → Prop} {d : DefRec} {kwd : List (Str × Expr)} {N : Nat}
    (left : LeftO r.prog q loose Xt Yf Ya N) (hY : ∀ w s, Yf s = Ya w → YP w s.heap) (hYk : ∀ w h h', YP w h → (∀ b o, h.get? b = some o → h'.get? b = some o) → YP w h')
    (hX : ∀ s, Xt s = true → XP (s.heap.nsMap mainGlobals) s.heap) (hXk : ∀ mg h h', XP mg h → (∀ b o, h.get? b = some o → h'.get? b = some o) → XP mg h')
    (hdef : defOf q r.name = some (d, kwd)) (hp : r.prog.theDef r.name = some (d.params, d.body, d.scope)) (hk : kwWritten? d.params.kwonlyargs d.params.kw_defaults = some kwd) (hRf : ∀ s, Xt s = true → RecFacts r.records s.heap) (hwr : (!r.writes || r.records.isEmpty) = true)
    (k1 : r.wellSaid = true) (ok : (chainsOk q && opensWell r.prog && (frees r.toRowW && r.within.isEmpty)) = true) (hb : r.prog.bare) (hw : r.toRowW.promised)
    (call : WalkC q loose XP YP r.toRowW d kwd fun f vs => PySem.call f vs) : r.Holds := by
  refine ⟨k1, hw, lone_open (tree' := fun _ => ret (.bool true)) (open_anyG (r := r.toRowW) (run := fun f vs => lone (PySem.call f vs) (pure (.bool true)))
    left hY hYk hX hXk hRf hwr ok hb hw (fun vs w s mg f Q E hg hf h => lone_tree hg hf h) (fun w s hg G n hn => ?_) fun w s₀ s₁ mg mb G Y args vs as hpre hlay L low => ?_)⟩
  · obtain rfl : n = r.name := by split at hn <;> simp_all
    exact pinned_of_view hg G hdef hp hk
  · obtain ⟨a, o, pm, cd, doc, dV, kV, h1, h2, h3, h4, h5⟩ := G.fn hdef
    obtain ⟨c1, c2⟩ := call w s₀ s₁ mg mb G Y a o pm cd doc dV kV h2 h3 h4 h5 (defOf_name hdef ▸ h1) L.gens args vs as hpre hlay L.reads L.well (L.low low)
    exact ⟨.ref a, h1, lone_wp c2 (wpAny_pure c1)⟩
end Mine

end
section
namespace Mine
set_option maxRecDepth 100000 in
set_option maxHeartbeats 8000000 in
open_top hd for PySem.Challenge.rw_fb0004_01
end Mine
end
-- M1
section
open PySem PySem.W PySem.Calls PyProof.Rows
set_option maxRecDepth 100000
namespace Mine
open PySem.Sem (wp)

/-- what stands through the whole call -/
structure Cx where
  prog : Program
  w : World
  K : Frag
  p : Program
  loose : List Str
  mg : Str → Option Value
  mb : Str → Option Value
  h₀ : Heap
  os : OsState
abbrev Cx.M (c : Cx) : Model := model c.prog c.w

/-- on clean stacks t ends in Q, without an exception -/
def N (c : Cx) (A : Around) {α : Type} (t : Sem α) (Q : α → Shared → Prop) (s : Shared) : Prop := wpC c.M A t Q (fun _ _ => False) s
def NC (c : Cx) (A : Around) (code : Code) (R : Flow → Shared → Prop) (s : Shared) : Prop :=
  ∀ Γ p, Γ.code = code → Γ.Below A → (∀ x ∈ Γ.below, dec x.1 = false) → wpCode c.M Γ (fun r s' => match r with | .ok f => R f s' | .error _ => False) p s

section
variable {α β : Type} {c : Cx} {A : Around} {s : Shared}
theorem N.of {t : Sem α} {Q : α → Shared → Prop} (h : wpAny c.M A t Q (fun _ _ => False) s) : N c A t Q s := fun Γ p hΓ _ => h Γ p hΓ
theorem N.pure {a : α} {Q : α → Shared → Prop} (h : Q a s) : N c A (Pure.pure a) Q s := fun _ _ _ _ => h
theorem N.mono {t : Sem α} {Q Q' : α → Shared → Prop} (h : N c A t Q s) (hQ : ∀ a s, Q a s → Q' a s) : N c A t Q' s :=
  fun Γ p hΓ hc => Sem.wp_mono c.M Γ t (fun a _ s => hQ a s) (fun _ _ _ h => h) p s (h Γ p hΓ hc)
theorem N.bind {t : Sem α} {f : α → Sem β} {Q : β → Shared → Prop} (h : N c A t (fun a s' => N c A (f a) Q s') s) : N c A (t >>= f) Q s := fun Γ p hΓ hc => by
  rw [Sem.wp_bind']
  exact Sem.wp_mono c.M Γ t (fun a p' s' h' => h' Γ p' hΓ hc) (fun _ _ _ h' => h') p s (h Γ p hΓ hc)
theorem N.andThen {t : Sem α} {f : α → Sem β} {R : α → Shared → Prop} {Q : β → Shared → Prop} (h : wpAny c.M A t R (fun _ _ => False) s) (h' : ∀ a s', R a s' → N c A (f a) Q s') : N c A (t >>= f) Q s :=
  N.bind ((N.of h).mono h')
theorem N.holding {vs : List Value} {t : Sem α} {Q : α → Shared → Prop} (h : N c A t Q s) : N c A (holding vs t) Q s := fun Γ p hΓ hc => by rw [Sem.wp_holding]; exact h Γ p hΓ hc
theorem N.onRaise {t : Sem α} {k : Value → Sem Unit} {Q : α → Shared → Prop} (h : N c A t Q s) : N c A (t.onRaise k) Q s := fun Γ p hΓ hc => by
  rw [Sem.wp_onRaise]
  exact Sem.wp_mono c.M Γ t (fun _ _ _ h' => h') (fun _ _ _ h' => h'.elim) p s (h Γ p hΓ hc)
theorem N.standAt {pos : Pos} {f : Unit → Sem β} {Q : β → Shared → Prop} (h : N c A (f ()) Q s) : N c A (PySem.standAt pos >>= f) Q s := N.bind (N.of (wpAny_standAt h))
theorem N.rule {tag : String} {f : Unit → Sem β} {Q : β → Shared → Prop} (h : N c A (f ()) Q s) : N c A (PySem.rule tag >>= f) Q s := N.bind (N.of (wpAny_rule h))
theorem N.point {f : Unit → Sem β} {Q : β → Shared → Prop} (h : N c A (f ()) Q s) : N c A (PySem.point >>= f) Q s := N.bind (N.of (wpAny_point h))
theorem N.looks {t : Sem α} {f : α → Sem β} {a : α} {Q : β → Shared → Prop} (L : Looks c.M s.heap t a) (h : N c A (f a) Q s) : N c A (t >>= f) Q s := N.bind (N.of (L.here h))

theorem N.run {code : Code} {Q : Flow → Shared → Prop} (h : NC c A code Q s) : N c A (run code) Q s := fun Γ p hΓ hc => by
  rw [Sem.wp_run]
  refine wpCode_mono (fun r s' hr => ?_) (h _ p rfl (hΓ.enter code none p (by intro x; cases x)) (fun x hx => ?_))
  · cases r with
    | ok f => exact hr
    | error e => exact hr
  · rcases List.mem_cons.mp hx with rfl | hx
    · exact hc.1
    · exact hc.2 x hx
theorem N.runValue {code : Code} {Q : Value → Shared → Prop} (h : NC c A code (fun f s' => match f with | .ret v => Q v s' | _ => False) s) : N c A (runValue code) Q s := by
  refine N.bind ((N.run h).mono fun f s' hf => ?_)
  cases f with
  | ret v => exact N.pure hf
  | _ => exact hf.elim
theorem N.call {f : Value} {pos : List Value} {kw : List (Str × Value)} {Q : Value → Shared → Prop} (h : NC c A (.call f ⟨pos, kw⟩) (fun f s' => match f with | .ret v => Q v s' | _ => False) s) :
    N c A (PySem.call f pos kw) Q s := N.runValue h
theorem N.runOwn {code : Code} {env : Env} {Q : Flow → Shared → Prop} (h : NC c A code Q s) : N c A (runOwn code env) Q s := by
  unfold PySem.runOwn
  exact N.onRaise (N.run h)
theorem NC.tree {code : Code} {R : Flow → Shared → Prop} (hd : dec code = false)
    (h : N c (A.under code) (denote table code) (fun fin s' => match fin with | .done f => R f s' | .again c' => c'.quiet = true ∧ NC c A c' R s') s) : NC c A code R s := fun Γ p hc hΓ hb => by
  rw [wpCode_iff_wp, hc]
  refine Sem.wp_mono c.M Γ _ (fun fin p' s' h' => ?_) (fun _ _ _ h' => h'.elim) p s (h Γ p (hc ▸ hΓ.in) ⟨hc ▸ hd, hb⟩)
  cases fin with
  | done f => exact h'
  | again c' => exact ⟨h'.1, h'.2 (Γ.goto c') p' rfl (hΓ.goto c') hb⟩
theorem NC.mono {code : Code} {R R' : Flow → Shared → Prop} (h : NC c A code R s) (hR : ∀ f s, R f s → R' f s) : NC c A code R' s := fun Γ p hc hΓ hb =>
  wpCode_mono (fun r s' hr => by cases r with
    | ok f => exact hR _ _ hr
    | error e => exact hr) (h Γ p hc hΓ hb)
theorem NC.of {code : Code} {R : Flow → Shared → Prop} (h : codeAny c.M A code (fun r s' => match r with | .ok f => R f s' | .error _ => False) s) : NC c A code R s := fun Γ p hc hΓ _ => h Γ p hc hΓ
end

/-- the frame, the made objects (l: at hand; k: the callers' frames and what they hold), all apart -/
structure St0 (c : Cx) (L : Addr) (m : Str → Option Value) (l k : List (Addr × Obj)) (s : Shared) : Prop where
  fr : Fr c.h₀ L s.heap m
  nw : News c.h₀ L s.heap (l ++ k)
  nd : ((l ++ k).map (·.1)).Nodup
  gens : s.gens = #[]
  os : s.os = c.os
  kin : c.K.In c.h₀
  top : TopRead c.p c.loose c.mg c.mb c.h₀

section
variable {c : Cx} {L a d : Addr} {m m' : Str → Option Value} {l l' k : List (Addr × Obj)} {o o' : Obj} {s : Shared} {h' : Heap} {t : Nat}
theorem St0.get (S : St0 c L m l k s) (hm : (a, o) ∈ l) : s.heap.get? a = some o := S.nw.get (List.mem_append_left _ hm)
theorem St0.X (S : St0 c L m l k s) : c.K.In s.heap := S.kin.keeps S.fr.keep
theorem St0.set (S : St0 c L m l k s) (hn : h'.Ns L m') (hs : Heap.SameBut L s.heap h') : St0 c L m' l k { s with heap := h', toks := t } := ⟨S.fr.set hn hs, S.nw.set hs, S.nd, S.gens, S.os, S.kin, S.top⟩
theorem St0.tok (S : St0 c L m l k s) : St0 c L m l k { s with toks := t } := ⟨S.fr, S.nw, S.nd, S.gens, S.os, S.kin, S.top⟩
theorem St0.sub (S : St0 c L m l k s) (hs : l'.Sublist l) : St0 c L m l' k s :=
  have q : (l' ++ k).Sublist (l ++ k) := hs.append (List.Sublist.refl k)
  ⟨S.fr, fun p hp => S.nw p (q.subset hp), (q.map _).nodup S.nd, S.gens, S.os, S.kin, S.top⟩
theorem St0.perm (S : St0 c L m l k s) (hs : l.Perm l') : St0 c L m l' k s :=
  have q : (l ++ k).Perm (l' ++ k) := hs.append_right k
  ⟨S.fr, fun p hp => S.nw p (q.mem_iff.mpr hp), (q.map _).nodup_iff.mp S.nd, S.gens, S.os, S.kin, S.top⟩
theorem St0.push (S : St0 c L m l k s) (o : Obj) (hf : o.isFreed = false := by rfl) : St0 c L m ((s.heap.objs.size, o) :: l) k { s with heap := s.heap.push o, toks := t } := by
  refine ⟨S.fr.push o, S.nw.push S.fr o hf, ?_, S.gens, S.os, S.kin, S.top⟩
  show (List.map _ ((s.heap.objs.size, o) :: (l ++ k))).Nodup
  rw [List.map_cons, List.nodup_cons]
  refine ⟨fun q => ?_, S.nd⟩
  obtain ⟨p, hp, e⟩ := List.mem_map.mp q
  have := Heap.lt_size (S.nw p hp).1
  exact absurd (e ▸ this) (Nat.lt_irrefl _)
theorem St0.upd {pre post : List (Addr × Obj)} {f : Obj → Obj} (S : St0 c L m (pre ++ (d, o) :: post) k s) (e : f o = o') (hf : o'.isFreed = false) :
    St0 c L m (pre ++ (d, o') :: post) k { s with heap := s.heap.update d f, toks := t } := by
  have N := S.nw
  have D := S.nd
  rw [List.append_assoc, List.cons_append] at N D
  rw [List.map_append, List.map_cons] at D
  have D1 := List.nodup_append.mp D
  have h1 : ∀ p ∈ pre, p.1 ≠ d := fun p hp q => D1.2.2 p.1 (List.mem_map_of_mem hp) d (.head _) q
  have h2 : ∀ p ∈ post ++ k, p.1 ≠ d := fun p hp q => (List.nodup_cons.mp D1.2.1).1 (List.mem_map.mpr ⟨p, hp, q⟩)
  obtain ⟨F', N'⟩ := news_upd (f := f) S.fr N h1 h2 e hf
  refine ⟨F', ?_, ?_, S.gens, S.os, S.kin, S.top⟩
  · rw [List.append_assoc, List.cons_append]; exact N'
  · rw [List.append_assoc, List.cons_append, List.map_append, List.map_cons]; exact D
/-- of Fr and News for the head entry -/
theorem St0.of_head (S : St0 c L m ((d, o) :: l) k s) (F : Fr c.h₀ L h' m) (W : News c.h₀ L h' ((d, o') :: (l ++ k))) : St0 c L m ((d, o') :: l) k { s with heap := h', toks := t } :=
  ⟨F, W, S.nd, S.gens, S.os, S.kin, S.top⟩
theorem St0.head_apart (S : St0 c L m ((d, o) :: l) k s) : ∀ p ∈ l ++ k, p.1 ≠ d := fun p hp q => by
  have D := S.nd
  rw [List.cons_append, List.map_cons] at D
  exact (List.nodup_cons.mp D).1 (List.mem_map.mpr ⟨p, hp, q⟩)
end

/-- an instance of a class of the text -/
def instO (o : Obj) : Bool := match o.cls with
  | .ref _ => true
  | _ => false
/-- the dicts that instances bring and nobody touches -/
def dl (D : List Addr) : List (Addr × Obj) := D.map fun a => (a, emptyDict)
def Dk (l : List (Addr × Obj)) (D : List Addr) : Prop := ∀ p ∈ l, instO p.2 = true → ∀ dx, p.2.dict = some dx → dx ∈ D
/-- the frame, the made objects, all apart; the instances' own dicts stand empty -/
def St (c : Cx) (L : Addr) (m : Str → Option Value) (l k : List (Addr × Obj)) (s : Shared) : Prop := ∃ D, Dk l D ∧ St0 c L m l (k ++ dl D) s
theorem Dk.no {l : List (Addr × Obj)} {D : List Addr} {p : Addr × Obj} (h : Dk l D) (e : instO p.2 = false) : Dk (p :: l) D := by
  intro q hq e'
  rcases List.mem_cons.mp hq with rfl | hq
  · rw [e] at e'; cases e'
  · exact h q hq e'
theorem Dk.same {l : List (Addr × Obj)} {D : List Addr} {d : Addr} {o o' : Obj} (h : Dk ((d, o) :: l) D) (e : instO o' = false ∨ (o'.cls = o.cls ∧ o'.dict = o.dict)) : Dk ((d, o') :: l) D := by
  intro q hq e' dx hd
  rcases List.mem_cons.mp hq with rfl | hq
  · rcases e with e | ⟨e1, e2⟩
    · rw [e] at e'; cases e'
    · exact h (d, o) (.head _) (by unfold instO at e' ⊢; rw [← e1]; exact e') dx (by rw [← e2]; exact hd)
  · exact h q (.tail _ hq) e' dx hd
section
variable {c : Cx} {L a d : Addr} {m m' : Str → Option Value} {l l' k : List (Addr × Obj)} {o o' : Obj} {s : Shared} {h' : Heap} {t : Nat}
theorem St.fr (S : St c L m l k s) : Fr c.h₀ L s.heap m := let ⟨_, _, S⟩ := S; S.fr
theorem St.gens (S : St c L m l k s) : s.gens = #[] := let ⟨_, _, S⟩ := S; S.gens
theorem St.os (S : St c L m l k s) : s.os = c.os := let ⟨_, _, S⟩ := S; S.os
theorem St.kin (S : St c L m l k s) : c.K.In c.h₀ := let ⟨_, _, S⟩ := S; S.kin
theorem St.top (S : St c L m l k s) : TopRead c.p c.loose c.mg c.mb c.h₀ := let ⟨_, _, S⟩ := S; S.top
theorem St.get (S : St c L m l k s) (hm : (a, o) ∈ l) : s.heap.get? a = some o := let ⟨_, _, S⟩ := S; S.get hm
theorem St.X (S : St c L m l k s) : c.K.In s.heap := S.kin.keeps S.fr.keep
theorem St.set (S : St c L m l k s) (hn : h'.Ns L m') (hs : Heap.SameBut L s.heap h') : St c L m' l k { s with heap := h', toks := t } := let ⟨D, hD, S⟩ := S; ⟨D, hD, S.set hn hs⟩
theorem St.tok (S : St c L m l k s) : St c L m l k { s with toks := t } := let ⟨D, hD, S⟩ := S; ⟨D, hD, S.tok⟩
theorem St.sub (S : St c L m l k s) (hs : l'.Sublist l) : St c L m l' k s := let ⟨D, hD, S⟩ := S; ⟨D, fun p hp => hD p (hs.subset hp), S.sub hs⟩
theorem St.perm (S : St c L m l k s) (hs : l.Perm l') : St c L m l' k s := let ⟨D, hD, S⟩ := S; ⟨D, fun p hp => hD p (hs.mem_iff.mpr hp), S.perm hs⟩
theorem St.push (S : St c L m l k s) (o : Obj) (hf : o.isFreed = false := by rfl) (hi : instO o = false := by rfl) : St c L m ((s.heap.objs.size, o) :: l) k { s with heap := s.heap.push o, toks := t } :=
  let ⟨D, hD, S⟩ := S; ⟨D, hD.no hi, S.push o hf⟩
theorem St.upd {f : Obj → Obj} (S : St c L m ((d, o) :: l) k s) (e : f o = o') (hf : o'.isFreed = false) (hi : instO o' = false := by rfl) :
    St c L m ((d, o') :: l) k { s with heap := s.heap.update d f, toks := t } :=
  let ⟨D, hD, S⟩ := S; ⟨D, hD.same (.inl hi), S.upd (pre := []) e hf⟩
/-- an instance's own dict -/
theorem St.idict {dx : Addr} (S : St c L m l k s) (hm : (a, o) ∈ l) (hi : instO o = true) (hd : o.dict = some dx) : s.heap.get? dx = some emptyDict := by
  obtain ⟨D, hD, S⟩ := S
  have z := hD _ hm hi dx hd
  exact (S.nw (dx, emptyDict) (List.mem_append_right _ (List.mem_append_right _ (List.mem_map.mpr ⟨dx, z, rfl⟩)))).1
/-- an instance made, its dict beside it -/
theorem St.inst {C : Addr} (S : St c L m l k s) : St c L m ((s.heap.objs.size + 1, instObj C s.heap.objs.size) :: l) k { s with heap := (s.heap.push emptyDict).push (instObj C s.heap.objs.size), toks := t } := by
  obtain ⟨D, hD, S⟩ := S
  refine ⟨s.heap.objs.size :: D, fun p hp e dx hd => ?_, ?_⟩
  · rcases List.mem_cons.mp hp with rfl | hp
    · cases hd; exact .head _
    · exact .tail _ (hD p hp e dx hd)
  have S1 : St0 c L m ((s.heap.objs.size, emptyDict) :: l) (k ++ dl D) { s with heap := s.heap.push emptyDict, toks := t } := S.push emptyDict
  have S2 := S1.push (t := t) (instObj C s.heap.objs.size)
  have e : (({ s with heap := s.heap.push emptyDict, toks := t } : Shared).heap.objs.size) = s.heap.objs.size + 1 := Heap.size_push _ _
  rw [e] at S2
  have q : (((s.heap.objs.size + 1, instObj C s.heap.objs.size) :: (s.heap.objs.size, emptyDict) :: l) ++ (k ++ dl D)).Perm (((s.heap.objs.size + 1, instObj C s.heap.objs.size) :: l) ++ (k ++ dl (s.heap.objs.size :: D))) := by
    refine .cons _ ?_
    show ((s.heap.objs.size, emptyDict) :: (l ++ (k ++ dl D))).Perm (l ++ (k ++ (s.heap.objs.size, emptyDict) :: dl D))
    rw [← List.append_assoc, ← List.append_assoc]
    exact List.perm_middle.symm
  exact ⟨S2.fr, fun p hp => S2.nw p (q.mem_iff.mpr hp), (q.map _).nodup_iff.mp S2.nd, S2.gens, S2.os, S2.kin, S2.top⟩
end

section
variable {c : Cx} {A : Around} {s : Shared} {L f : Addr} {m : Str → Option Value} {l k : List (Addr × Obj)}
theorem NC.func {body : List Stmt} {env : Env} {R : Flow → Shared → Prop} (h : N c (A.deeper env) (execs body env) (fun f s' => R (.ret (match f with | .ret v => v | _ => .none)) s') s) : NC c A (.func body env) R s := by
  refine NC.tree rfl ?_
  show N c (A.deeper env) (do
    PySem.point
    match ← (execs body env).onRaise (leaving env) with
    | .ret v => ret v
    | _ => ret .none) _ s
  refine N.point (N.bind (N.onRaise (h.mono fun f s' hf => ?_)))
  cases f <;> exact N.pure hf

theorem NC.def_ {a : Addr} {args : Args} {o : Obj} {fd : FuncData} {body : List Stmt} {R : Flow → Shared → Prop} (hroom : A.depth < recursionLimit)
    (ho : s.heap.get? a = some o) (hd' : o.data = .func fd) (hco : fd.scope.isCoroutine = false) (hgen : fd.scope.isGenerator = false) (hbody : fd.body = .stmts body) (hcd : s.heap.CodeRec fd.code fd.qualname)
    (h : wpAny c.M A.in1 (bindArgs fd args) (fun binds s₁ =>
      wpAny c.M A.in1 (newFunctionEnv fd.scope fd.globals fd.closure binds (fd.qualname ++ ".<locals>.") (some a) fd.code none fd.builtins)
        (fun env s₂ => s₂.heap.NoLimit ∧ NC c A (.func body env) R s₂) (fun _ _ => False) s₁) (fun _ _ => False) s) :
    NC c A (.call (.ref a) args) R s := by
  refine NC.tree rfl ?_
  show N c A.in1 (callAny (.ref a) args) _ s
  simp only [callAny]
  refine N.of (wpAny_bind (wpAny_load ho ?_))
  obtain ⟨co, oc, vs, tq, hc, hoc, hdc, hq⟩ := hcd
  simp only [hd', callFunction, hco, hgen, hbody, hc]
  rw [hc] at h
  refine wpAny_bind (m := field (.ref co) 1) (wpAny_field hoc hdc hq (wpAny_bind (wpAny_pure ?_)))
  exact wpAny_bind (wpAny_mono h (fun binds s₁ h₁ => wpAny_bind (wpAny_mono h₁ (fun env s₂ h₂ => wpAny_bind (wpAny_enterFrame h₂.1 hroom
    (wpAny_pure (And.intro rfl h₂.2)))) fun _ _ h' => h')) fun _ _ h' => h')

/-- what a body hands back: the flow's value, the state seen from the caller's frame -/
def Back (c : Cx) (L : Addr) (m : Str → Option Value) (oL : Obj) (k : List (Addr × Obj)) (Q : Value → Shared → Prop) (fl : Flow) (s' : Shared) : Prop :=
  ∃ L' m' l', St c L' m' l' ((L, oL) :: k) s' ∧ (St c L m l' k s' → Q (match fl with | .ret v => v | _ => .none) s')
theorem Back.mk {Q : Value → Shared → Prop} {L' : Addr} {m' : Str → Option Value} {l' : List (Addr × Obj)} {oL : Obj} {fl : Flow} {s' : Shared} (S' : St c L' m' l' ((L, oL) :: k) s')
    (h : St c L m l' k s' → Q (match fl with | .ret v => v | _ => .none) s') : Back c L m oL k Q fl s' := ⟨L', m', l', S', h⟩

theorem St0.enter {m' : Str → Option Value} {h₁ : Heap} {t : Nat} (S : St0 c L m l k s) (hns : h₁.Ns s.heap.objs.size m') (hk₁ : ∀ b o, s.heap.get? b = some o → h₁.get? b = some o) :
    ∃ oL, St0 c s.heap.objs.size m' l ((L, oL) :: k) { s with heap := h₁, toks := t } ∧
      ∀ k' L' m' l' s', St0 c L' m' l' ((L, oL) :: k') s' → St0 c L m l' k' s' := by
  obtain ⟨oL, es, ep, hL, hLd, hLk, hLf⟩ := S.fr.ns
  have hlt := Heap.lt_size hL
  have nL : L ∉ (l ++ k).map (·.1) := fun q => by
    obtain ⟨p, hp, e⟩ := List.mem_map.mp q
    exact (S.nw p hp).2.1 e
  refine ⟨oL, ⟨⟨hns, fun b o e => hk₁ b o (S.fr.keep b o e), Nat.le_trans S.fr.above (Nat.le_of_lt hlt)⟩, fun p hp => ?_, ?_, S.gens, S.os, S.kin, S.top⟩, fun k' L' m' l' s' S' => ?_⟩
  · rcases List.mem_append.mp hp with q | q
    · have z := S.nw p (List.mem_append_left _ q)
      exact ⟨hk₁ _ _ z.1, Nat.ne_of_lt (Heap.lt_size z.1), z.2.2⟩
    · rcases List.mem_cons.mp q with rfl | q
      · refine ⟨hk₁ _ _ hL, Nat.ne_of_lt hlt, ?_⟩
        cases z : c.h₀.get? L with
        | none => rfl
        | some o => exact absurd (Heap.lt_size z) (Nat.not_lt.mpr S.fr.above)
      · have z := S.nw p (List.mem_append_right _ q)
        exact ⟨hk₁ _ _ z.1, Nat.ne_of_lt (Heap.lt_size z.1), z.2.2⟩
  · have := S.nd
    rw [List.map_append] at this nL ⊢
    rw [List.map_cons]
    have z := List.nodup_append.mp this
    refine List.nodup_append.mpr ⟨z.1, List.nodup_cons.mpr ⟨fun q => nL (List.mem_append_right _ q), z.2.1⟩, fun a ha b hb => ?_⟩
    rcases List.mem_cons.mp hb with rfl | hb
    · rintro rfl; exact nL (List.mem_append_left _ ha)
    · exact z.2.2 a ha b hb
  · have hL' : s'.heap.get? L = some oL := (S'.nw (L, oL) (by simp)).1
    refine ⟨⟨⟨oL, es, ep, hL', hLd, hLk, hLf⟩, S'.fr.keep, S.fr.above⟩, fun p hp => ?_, ?_, S'.gens, S'.os, S'.kin, S'.top⟩
    · have z : p ∈ l' ++ (L, oL) :: k' := by
        rcases List.mem_append.mp hp with q | q
        · exact List.mem_append_left _ q
        · exact List.mem_append_right _ (.tail _ q)
      refine ⟨(S'.nw p z).1, fun e => ?_, (S'.nw p z).2.2⟩
      have D := S'.nd
      rw [List.map_append, List.map_cons] at D
      have D1 := List.nodup_append.mp D
      rcases List.mem_append.mp hp with q | q
      · exact D1.2.2 p.1 (List.mem_map_of_mem q) L (.head _) e
      · exact (List.nodup_cons.mp D1.2.1).1 (List.mem_map.mpr ⟨p, q, e⟩)
    · exact (((List.Sublist.refl l').append (List.sublist_cons_self (L, oL) k')).map (·.1)).nodup S'.nd

theorem St.enter {m' : Str → Option Value} {h₁ : Heap} {t : Nat} (S : St c L m l k s) (hns : h₁.Ns s.heap.objs.size m') (hk₁ : ∀ b o, s.heap.get? b = some o → h₁.get? b = some o) :
    ∃ oL, St c s.heap.objs.size m' l ((L, oL) :: k) { s with heap := h₁, toks := t } ∧
      ∀ L' m' l' s', St c L' m' l' ((L, oL) :: k) s' → St c L m l' k s' := by
  obtain ⟨D, hD, S⟩ := S
  obtain ⟨oL, S₁, back⟩ := S.enter (t := t) hns hk₁
  refine ⟨oL, ⟨D, hD, S₁⟩, fun L' m' l' s' S' => ?_⟩
  obtain ⟨D', hD', S'⟩ := S'
  exact ⟨D', hD', back _ _ _ _ _ S'⟩

/-- a call of a def of the text (no cells): binds as they come, made on the way l₁ -/
theorem n_callB {name qual : Str} {params : Arguments} {body : List Stmt} {scope : Scope} {dV kV doc pm cdv ct oc : Value} {an od : Option Addr} {osl : Array (Option Value)} {pos : List Value} {kw : List (Str × Value)} {binds : List (Str × Value)} {l₁ : List (Addr × Obj)}
    {Q : Value → Shared → Prop} (S : St c L m l k s) (ho : c.K.lookup f = some ⟨oc, od, .func (fnOf name qual params body scope dV kV doc pm an cdv ct), osl⟩) (hcd : codeIn c.K cdv qual = true) (hroom : A.depth < recursionLimit)
    (hbind : wpAny c.M A.in1 (bindArgs (fnOf name qual params body scope dV kV doc pm an cdv ct) ⟨pos, kw⟩) (fun bs s₁ => bs = binds ∧ St c L m l₁ k s₁) (fun _ _ => False) s)
    (hloc : ∀ y ∈ binds, scope.names.lookup y.1 = some .local)
    (h : ∀ L' oL s₁, St c L' (fun y => binds.reverse.lookup y) l₁ ((L, oL) :: k) s₁ → N c (A.deeper (envOf qual scope L' f cdv)) (execs body (envOf qual scope L' f cdv)) (Back c L m oL k Q) s₁)
    (hcell : ∀ x ∈ scope.names, x.2 ≠ .cell) (hco : scope.isCoroutine = false := by rfl) (hgen : scope.isGenerator = false := by rfl) (hk : scope.kind = .function := by rfl) :
    N c A (call (.ref f) pos kw) Q s := by
  have X := S.X
  refine N.call (NC.def_ (fd := fnOf name qual params body scope dV kV doc pm an cdv ct) (body := body) hroom (X _ _ ho) rfl hco hgen rfl (codeRec_of X hcd) (wpAny_mono hbind (fun bs s₁ hb => ?_) fun _ _ h => h))
  obtain ⟨rfl, S₁⟩ := hb
  refine wpAny_newFunctionEnv hcell hloc (fun h₁ hns hsb => ?_) hk
  have hk₁ : ∀ b o, s₁.heap.get? b = some o → h₁.get? b = some o := fun b o e => hsb.extBut b o (Nat.ne_of_lt (Heap.lt_size e)) (Heap.get?_push_of_some _ e)
  obtain ⟨oL, S₂, back⟩ := S₁.enter (t := s₁.toks + bs.length) hns hk₁
  refine ⟨(S₁.top.nolimit.keeps S₁.fr.keep).fresh _ hsb, NC.func ((h _ oL _ S₂).mono fun fl s' hb => ?_)⟩
  obtain ⟨L', m', l', S', q⟩ := hb
  cases fl <;> exact q (back _ _ _ _ S')

theorem n_call {name qual : Str} {params : Arguments} {body : List Stmt} {scope : Scope} {dV kV doc pm cdv ct oc : Value} {an od : Option Addr} {osl : Array (Option Value)} {pos : List Value} {kw : List (Str × Value)} {binds : List (Str × Value)}
    {Q : Value → Shared → Prop} (S : St c L m l k s) (ho : c.K.lookup f = some ⟨oc, od, .func (fnOf name qual params body scope dV kV doc pm an cdv ct), osl⟩) (hcd : codeIn c.K cdv qual = true) (hroom : A.depth < recursionLimit)
    (hbind : BindsTo s (fnOf name qual params body scope dV kV doc pm an cdv ct) ⟨pos, kw⟩ binds)
    (hloc : ∀ y ∈ binds, scope.names.lookup y.1 = some .local)
    (h : ∀ L' oL s₁, St c L' (fun y => binds.reverse.lookup y) l ((L, oL) :: k) s₁ → N c (A.deeper (envOf qual scope L' f cdv)) (execs body (envOf qual scope L' f cdv)) (Back c L m oL k Q) s₁)
    (hcell : ∀ x ∈ scope.names, x.2 ≠ .cell) (hco : scope.isCoroutine = false := by rfl) (hgen : scope.isGenerator = false := by rfl) (hk : scope.kind = .function := by rfl) :
    N c A (call (.ref f) pos kw) Q s :=
  n_callB S ho hcd hroom (hbind _ _ _ _ ⟨rfl, S⟩) hloc h hcell hco hgen hk
end
end Mine

end
-- M2
section
open PySem PySem.W PySem.Calls PyProof.Rows
set_option maxRecDepth 100000
namespace Mine
open PySem.Sem (wp)

section
variable {α : Type} {c : Cx} {A : Around} {s : Shared} {env : Env}

theorem N.keep {vs : List Value} {t : Sem α} {Q : α → Shared → Prop} (h : N c A t Q s) : N c A (t.keep vs) Q s := fun Γ p hΓ hc => by rw [Sem.wp_keep]; exact h Γ p hΓ hc
theorem N.operate {vs : List Value} {t : Sem Value} {Q : Value → Shared → Prop} (h : N c A t Q s) : N c A (operate vs t) Q s := fun Γ p hΓ hc => by rw [Sem.wp_operate]; exact h Γ p hΓ hc
theorem N.release {β : Type} {vs keep : List Value} {f : Unit → Sem β} {Q : β → Shared → Prop} (h : N c A (f ()) Q s) : N c A (release vs keep >>= f) Q s := fun Γ p hΓ hc => by
  rw [Sem.wp_bind', Sem.wp_release]; exact h Γ p hΓ hc
theorem N.bindName {x : Str} {v : Value} {Q : Unit → Shared → Prop} (h : N c A (storeName env x v) Q s) : N c A (bindName env x v) Q s := fun Γ p hΓ hc => by
  rw [Sem.wp_bindName]; exact h Γ p hΓ hc
theorem N.ite {p : Prop} [Decidable p] {t u : Sem α} {Q : α → Shared → Prop} (h : if p then N c A t Q s else N c A u Q s) : N c A (if p then t else u) Q s := by split <;> simp_all

-- statements
theorem n_nil {Q : Flow → Shared → Prop} (h : Q .next s) : N c A (execs [] env) Q s := fun _ _ _ _ => h
theorem n_cons {st : Stmt} {rest : List Stmt} {Q : Flow → Shared → Prop} (h : N c A (exec st env) (fun f s' => match f with | .next => N c A (execs rest env) Q s' | f => Q f s') s) : N c A (execs (st :: rest) env) Q s := by
  rw [execs_cons]
  refine N.bind (h.mono fun f s' h' => ?_)
  cases f <;> first | exact h' | exact N.pure h'
theorem n_expr {e : Expr} {pos : Pos} {Q : Flow → Shared → Prop} (h : N c A (eval e env) (fun v s' => (∀ a, v ≠ .ref a) ∧ Q .next s') s)
    (hi : interactive env = false := by rfl) (hs : swapsWith e none pos.line env = pure false := by rfl) : N c A (exec (.Expr e pos) env) Q s := by
  rw [exec_Expr env e pos hi hs]
  refine N.standAt (N.bind (h.mono fun v s' h' => ?_))
  rw [dropValue_plain h'.1]
  exact N.pure h'.2
theorem n_assign {x : Str} {pos' pos : Pos} {value : Expr} {Q : Flow → Shared → Prop} (h : N c A (eval value env) (fun v s₁ => N c A (storeName env x v) (fun _ => Q .next) s₁) s)
    (hs : swapsWith value (some (.Name x pos')) pos.line env = pure false := by rfl) : N c A (exec (.Assign [.Name x pos'] value pos) env) Q s := by
  rw [exec_Assign_Name env x pos' value pos hs]
  exact N.standAt (N.bind (h.mono fun v s₁ h₁ => N.standAt (N.bind (N.bindName (h₁.mono fun _ _ h => N.pure h)))))
theorem n_aug {x : Str} {pos' pos : Pos} {op : Operator} {value : Expr} {Q : Flow → Shared → Prop}
    (h : N c A (loadName env x) (fun old s₁ => N c A (eval value env) (fun v s₂ => N c A (inplaceOp op old v) (fun r s₃ => N c A (storeName env x r) (fun _ => Q .next) s₃) s₂) s₁) s) :
    N c A (exec (.AugAssign (.Name x pos') op value pos) env) Q s := by
  rw [exec_AugAssign_Name]
  exact N.standAt (N.bind (h.mono fun _ _ h => N.bind (N.holding (h.mono fun _ _ h => N.standAt (N.bind (N.operate (h.mono fun _ _ h => N.standAt (N.bind (N.bindName (h.mono fun _ _ h => N.pure h))))))))))
theorem N.rel {vs keep : List Value} {Q : Unit → Shared → Prop} (h : Q () s) : N c A (PySem.release vs keep) Q s := fun Γ p _ _ => by rw [Sem.wp_release]; exact h
theorem n_setattr {o value : Expr} {attr : Str} {pos' pos : Pos} {Q : Flow → Shared → Prop}
    (h : N c A (eval value env) (fun v s₁ => N c A (eval o env) (fun ov s₂ => N c A (setAttr ov attr v) (fun _ => Q .next) s₂) s₁) s)
    (hs : swapsWith value (some (.Attribute o attr pos')) pos.line env = pure false := by rfl) : N c A (exec (.Assign [.Attribute o attr pos'] value pos) env) Q s := by
  rw [plainObj_exec_Assign_Attribute o attr pos' value pos hs]
  refine N.standAt (N.bind (h.mono fun v s₁ h₁ => N.bind ?_))
  rw [assign_Attribute]
  exact N.bind (N.holding (h₁.mono fun ov s₂ h₂ => N.standAt (N.bind (N.holding (h₂.mono fun _ _ h => N.rel (N.pure h))))))
theorem n_setitem {o i value : Expr} {pos' pos : Pos} {Q : Flow → Shared → Prop}
    (h : N c A (eval value env) (fun v s₁ => N c A (eval o env) (fun ov s₂ => N c A (eval i env) (fun iv s₃ => N c A (setItem ov iv v) (fun _ => Q .next) s₃) s₂) s₁) s)
    (hs : swapsWith value (some (.Subscript o i pos')) pos.line env = pure false := by rfl) : N c A (exec (.Assign [.Subscript o i pos'] value pos) env) Q s := by
  rw [exec_Assign_Subscript o i pos' value pos hs]
  refine N.standAt (N.bind (h.mono fun v s₁ h₁ => N.bind ?_))
  rw [assign_Subscript]
  exact N.bind (N.holding (h₁.mono fun ov s₂ h₂ => N.bind (N.holding (h₂.mono fun iv s₃ h₃ => N.standAt (N.bind (N.holding (h₃.mono fun _ _ h => N.rel (N.pure h))))))))
theorem n_if {test : Expr} {body orelse : List Stmt} {pos : Pos} {Q : Flow → Shared → Prop}
    (h : N c A (isTrue test env (eval test env)) (fun b s₂ => if b then N c A (execs body env) Q s₂ else N c A (execs orelse env) Q s₂) s) : N c A (exec (.If test body orelse pos) env) Q s := by
  rw [exec_If]
  refine N.standAt (N.bind (h.mono fun b s₂ h₂ => ?_))
  cases b <;> exact h₂
theorem n_ret {e : Expr} {pos : Pos} {Q : Flow → Shared → Prop} (h : N c A (eval e env) (fun v => Q (.ret v)) s) : N c A (exec (.Return (some e) pos) env) Q s := by
  rw [exec_Return_some]
  exact N.standAt (N.bind (h.mono fun _ _ h => N.pure h))
theorem n_ret0 {pos : Pos} {Q : Flow → Shared → Prop} (h : Q (.ret .none) s) : N c A (exec (.Return none pos) env) Q s := fun _ _ _ _ => h
theorem n_cont {pos : Pos} {Q : Flow → Shared → Prop} (h : Q .cont s) : N c A (exec (.Continue pos) env) Q s := fun _ _ _ _ => h
theorem n_while {test : Expr} {body orelse : List Stmt} {pos : Pos} {Q : Flow → Shared → Prop} (h : NC c A (.whileLoop test body orelse env) Q s) : N c A (exec (.While test body orelse pos) env) Q s := by
  rw [exec_While]
  exact N.standAt (N.runOwn h)
theorem NC.whl {test : Expr} {body orelse : List Stmt} {R : Flow → Shared → Prop}
    (h : N c A (isTrue test env (eval test env)) (fun b s₁ => if b then N c A (execs body env) (fun f s₂ => match f with
        | .next | .cont => NC c A (.whileLoop test body orelse env) R s₂ | .brk => R .next s₂ | .ret v => R (.ret v) s₂) s₁
      else N c A (execs orelse env) R s₁) s) : NC c A (.whileLoop test body orelse env) R s := by
  refine NC.tree rfl ?_
  rw [Around.under_of_weight rfl]
  show N c A ((whileTurn test body orelse env).onRaise _) _ s
  refine N.onRaise ?_
  show N c A (do
    if ← isTrue test env (eval test env) then
      match ← execs body env with
      | .next | .cont => again (.whileLoop test body orelse env)
      | .brk => pure (.done .next)
      | .ret v => pure (.done (.ret v))
    else return .done (← execs orelse env)) _ s
  refine N.bind (h.mono fun b s₁ h₁ => ?_)
  cases b with
  | true =>
    refine N.bind (N.mono (Q := fun f s₂ => match f with
        | .next | .cont => NC c A (.whileLoop test body orelse env) R s₂ | .brk => R .next s₂ | .ret v => R (.ret v) s₂) (by simpa using h₁) fun f s₂ h₂ => ?_)
    cases f <;> first | exact N.pure ⟨rfl, h₂⟩ | exact N.pure h₂
  | false => exact N.bind (N.mono (Q := R) (by simpa using h₁) fun f s₂ h₂ => N.pure h₂)
theorem n_for {target iter : Expr} {body orelse : List Stmt} {pos : Pos} {Q : Flow → Shared → Prop}
    (h : N c A (eval iter env) (fun x s₁ => N c A (pyIter x) (fun it s₂ => NC c A (.forLoop target it body orelse env) Q s₂) s₁) s)
    (hs : ∀ x, foldedSetIterable iter env x = pure x := by intro _; rfl) : N c A (exec (.For target iter body orelse pos) env) Q s := by
  show N c A (do
    standAt pos
    let x ← foldedSetIterable iter env (← eval iter env)
    standAt iter.pos
    runOwn (.forLoop target (← holding [x] (pyIter x)) body orelse env) env) Q s
  refine N.standAt (N.bind (h.mono fun x s₁ h₁ => ?_))
  rw [hs x]
  exact N.bind (N.pure (N.standAt (N.bind (N.holding (h₁.mono fun it s₂ h₂ => N.runOwn h₂)))))
theorem NC.block0 {R : Flow → Shared → Prop} (h : R .next s) : NC c A (.block [] env) R s := by
  refine NC.tree rfl ?_
  rw [Around.under_of_weight rfl]
  show N c A (do return PySem.Fin.done (← (execs [] env).onRaise (fun x => do noteFrame x env; theTreesLotGoes x)) : Sem PySem.Fin) _ s
  exact N.bind (N.onRaise (n_nil (N.pure h)))
/-- a turn of a for over a plain name -/
theorem NC.for_ {x : Str} {xp : Pos} {it : Value} {body : List Stmt} {R : Flow → Shared → Prop}
    (h : N c A (pyNext it) (fun o s₁ => match o with
      | none => R .next s₁
      | some v => N c A (storeName env x v) (fun _ s₂ => N c A (execs body env) (fun f s₃ => match f with
        | .next | .cont => NC c A (.forLoop (.Name x xp) it body [] env) R s₃ | .brk => R .next s₃ | .ret v => R (.ret v) s₃) s₂) s₁) s) :
    NC c A (.forLoop (.Name x xp) it body [] env) R s := by
  refine NC.tree rfl ?_
  rw [Around.under_of_weight rfl]
  show N c A ((forTurn (.Name x xp) it body [] env).onRaise _) _ s
  refine N.onRaise ?_
  show N c A (do
    standAt xp
    match ← (pyNext it).onRaise (fun _ => standAt { xp with line := 0 }) with
    | none => again (.block [] env)
    | some v =>
      (pure () : Sem Unit)
      (do standAt xp; bindName env x v)
      match ← execs body env with
      | .next | .cont => again (.forLoop (.Name x xp) it body [] env)
      | .brk => pure (.done .next)
      | .ret v => pure (.done (.ret v))) _ s
  refine N.standAt (N.bind (N.onRaise (h.mono fun o s₁ h₁ => ?_)))
  cases o with
  | none => exact N.pure ⟨rfl, NC.block0 h₁⟩
  | some v =>
    refine N.bind (N.standAt (N.bindName (N.mono h₁ fun _ s₂ h₂ => N.bind (N.mono h₂ fun f s₃ h₃ => ?_))))
    cases f <;> first | exact N.pure ⟨rfl, h₃⟩ | exact N.pure h₃

-- tests
theorem t_cmp {l r : Expr} {op : CmpOp} {pos : Pos} {whole : Sem Value} {Q : Bool → Shared → Prop}
    (h : N c A (eval l env) (fun a s₁ => N c A (eval r env) (fun b s₂ => N c A (compareOp op a b) (fun v s₃ => N c A (truthy v) Q s₃) s₂) s₁) s)
    (hm : behindInMarks op r = false := by with_unfolding_all rfl) : N c A (isTrue (.Compare l [op] [r] pos) env whole) Q s := by
  rw [isTrue_Compare1, markedBehindIn_of_false hm]
  exact N.bind (h.mono fun a s₁ h => N.bind (N.holding (h.mono fun b s₂ h => N.standAt (N.bind (N.operate (h.mono fun v s₃ h => N.holding h))))))
theorem t_chain2 {l r₁ r₂ : Expr} {o₁ o₂ : CmpOp} {pos : Pos} {whole : Sem Value} {Q : Bool → Shared → Prop}
    (h : N c A (eval l env) (fun a s₁ => N c A (eval r₁ env) (fun b s₂ => N c A (compareOp o₁ a b) (fun v s₃ => N c A (truthy v) (fun t s₄ =>
      if t then N c A (eval r₂ env) (fun d s₅ => N c A (compareOp o₂ b d) (fun v s₆ => N c A (truthy v) Q s₆) s₅) s₄ else Q false s₄) s₃) s₂) s₁) s)
    (hm : lastMarks [o₁, o₂] [r₁, r₂] = false := by with_unfolding_all rfl) : N c A (isTrue (.Compare l [o₁, o₂] [r₁, r₂] pos) env whole) Q s := by
  show N c A (do testChain pos (← eval l env) [o₁, o₂] (markedEach [o₁, o₂] [r₁, r₂] [eval r₁ env, eval r₂ env])) Q s
  rw [markedEach_of_false _ _ _ hm]
  refine N.bind (h.mono fun a s₁ h => ?_)
  show N c A (do
    let rv ← holding [a] (eval r₁ env)
    standAt pos
    let c ← holding [a, rv] (compareOp o₁ a rv)
    release [a, rv] [c]
    if ← holding [c, rv] (truthy c) then (do
      let rv₂ ← holding [rv] (eval r₂ env)
      standAt pos
      let c ← operate [rv, rv₂] (compareOp o₂ rv rv₂)
      holding [c] (truthy c)) else pure false) Q s₁
  refine N.bind (N.holding (h.mono fun b s₂ h => N.standAt (N.bind (N.holding (h.mono fun v s₃ h => N.release (N.bind (N.holding (h.mono fun t s₄ h => ?_))))))))
  cases t with
  | false => exact N.pure h
  | true => exact N.bind (N.holding (N.mono h fun d s₅ h => N.standAt (N.bind (N.operate (h.mono fun v s₆ h => N.holding h)))))
theorem t_not {x : Expr} {pos : Pos} {whole : Sem Value} {Q : Bool → Shared → Prop} (h : N c A (isTrue x env (eval x env)) (fun b s' => Q (!b) s') s) : N c A (isTrue (.UnaryOp .Not x pos) env whole) Q s := by
  show N c A (do return !(← isTrue x env (eval x env))) Q s
  exact N.bind (h.mono fun _ _ h => N.pure h)
theorem t_and0 {pos : Pos} {whole : Sem Value} {Q : Bool → Shared → Prop} (h : Q true s) : N c A (isTrue (.BoolOp .And [] pos) env whole) Q s := N.pure (a := true) h
theorem t_or0 {pos : Pos} {whole : Sem Value} {Q : Bool → Shared → Prop} (h : Q false s) : N c A (isTrue (.BoolOp .Or [] pos) env whole) Q s := N.pure (a := false) h
theorem t_and {x : Expr} {rest : List Expr} {pos : Pos} {whole : Sem Value} {Q : Bool → Shared → Prop}
    (h : N c A (isTrue x env (eval x env)) (fun b s' => if b then N c A (isTrue (.BoolOp .And rest pos) env whole) Q s' else Q false s') s) : N c A (isTrue (.BoolOp .And (x :: rest) pos) env whole) Q s := by
  show N c A (do
    match BoolOp.And, ← isTrue x env (eval x env) with
    | .And, false => pure false
    | .Or, true => pure true
    | _, _ => allTrue .And rest env) Q s
  refine N.bind (h.mono fun b s' h => ?_)
  cases b with
  | false => exact N.pure h
  | true => exact h
theorem t_or {x : Expr} {rest : List Expr} {pos : Pos} {whole : Sem Value} {Q : Bool → Shared → Prop}
    (h : N c A (isTrue x env (eval x env)) (fun b s' => if b then Q true s' else N c A (isTrue (.BoolOp .Or rest pos) env whole) Q s') s) : N c A (isTrue (.BoolOp .Or (x :: rest) pos) env whole) Q s := by
  show N c A (do
    match BoolOp.Or, ← isTrue x env (eval x env) with
    | .And, false => pure false
    | .Or, true => pure true
    | _, _ => allTrue .Or rest env) Q s
  refine N.bind (h.mono fun b s' h => ?_)
  cases b with
  | true => exact N.pure h
  | false => exact h
theorem t_plain {e : Expr} {whole : Sem Value} {Q : Bool → Shared → Prop} (h : N c A whole (fun v s₁ => N c A (truthy v) Q s₁) s)
    (he : isTrue e env whole = (do let v ← whole; standAt e.pos; holding [v] (truthy v)) := by rfl) : N c A (isTrue e env whole) Q s := by
  rw [he]
  exact N.bind (h.mono fun v s₁ h => N.standAt (N.holding h))

-- expressions
theorem e_bin {l r : Expr} {op : Operator} {pos : Pos} {Q : Value → Shared → Prop} (h : N c A (eval l env) (fun a s₁ => N c A (eval r env) (fun b s₂ => N c A (binaryOp op a b) Q s₂) s₁) s) :
    N c A (eval (.BinOp l op r pos) env) Q s := by
  rw [eval_BinOp]
  exact N.bind (h.mono fun a s₁ h => N.bind (N.holding (h.mono fun b s₂ h => N.standAt (N.operate h))))
theorem e_cmp {l r : Expr} {op : CmpOp} {pos : Pos} {Q : Value → Shared → Prop} (h : N c A (eval l env) (fun a s₁ => N c A (eval r env) (fun b s₂ => N c A (compareOp op a b) Q s₂) s₁) s)
    (hm : behindInMarks op r = false := by with_unfolding_all rfl) : N c A (eval (.Compare l [op] [r] pos) env) Q s := by
  rw [eval_Compare1, markedBehindIn_of_false hm]
  exact N.bind (h.mono fun a s₁ h => N.bind (N.holding (h.mono fun b s₂ h => N.standAt (N.operate h))))
theorem e_un {x : Expr} {op : PySem.UnaryOp} {pos : Pos} {Q : Value → Shared → Prop} (h : N c A (eval x env) (fun v s₁ => N c A (unaryOp op v) Q s₁) s) : N c A (eval (.UnaryOp op x pos) env) Q s := by
  show N c A (do let v ← eval x env; standAt pos; holding [v] (unaryOp op v)) Q s
  exact N.bind (h.mono fun v s₁ h => N.standAt (N.holding h))
theorem e_ifexp {t b o : Expr} {pos : Pos} {Q : Value → Shared → Prop} (h : N c A (isTrue t env (eval t env)) (fun k s' => if k then N c A (eval b env) Q s' else N c A (eval o env) Q s') s) : N c A (eval (.IfExp t b o pos) env) Q s := by
  show N c A (do if ← isTrue t env (eval t env) then eval b env else eval o env) Q s
  refine N.bind (h.mono fun k s' h => ?_)
  cases k <;> exact h
theorem e_attr {value : Expr} {attr : Str} {pos : Pos} {Q : Value → Shared → Prop} (h : N c A (eval value env) (fun o s₁ => N c A (getAttr o attr true) Q s₁) s)
    (he : eval (.Attribute value attr pos) env = (do
      let o ← eval value env
      standAt pos.atName
      let r ← holding [o] (getAttr o attr true)
      letTemporaryGo value o r
      pure r) := by with_unfolding_all rfl) : N c A (eval (.Attribute value attr pos) env) Q s := by
  rw [he]
  exact N.bind (h.mono fun o s₁ h => N.standAt (N.bind (N.holding (h.mono fun r s₂ h => N.bind (N.of (wpAny_letTemporaryGo (N.pure h)))))))
theorem e_sub {value slice : Expr} {pos : Pos} {Q : Value → Shared → Prop}
    (h : N c A (eval value env) (fun o s₁ => N c A (eval slice env) (fun i s₂ => N c A (getitemInPython o >>= fun b => subscripted slice b o i) Q s₂) s₁) s) : N c A (eval (.Subscript value slice pos) env) Q s := by
  show N c A (do
    let o ← eval value env
    let i ← holding [o] (eval slice env)
    standAt pos
    let r ← subscripted slice (← getitemInPython o) o i
    letTemporaryGo value o r
    pure r) Q s
  refine N.bind (h.mono fun o s₁ h => N.bind (N.holding (h.mono fun i s₂ h => N.standAt fun Γ p hΓ hc => ?_)))
  have z := h Γ p hΓ hc
  rw [Sem.wp_bind'] at z ⊢
  refine Sem.wp_mono c.M Γ _ (fun b p₁ s₃ z => ?_) (fun _ _ _ z => z) p s₂ z
  rw [Sem.wp_bind']
  refine Sem.wp_mono c.M Γ _ (fun r p₂ s₄ z => ?_) (fun _ _ _ z => z) p₁ s₃ z
  rw [Sem.wp_bind']
  exact wpAny_letTemporaryGo (Q := fun _ s' => Q r s') (E := fun _ _ => False) z Γ p₂ hΓ
theorem sp_nil {pos : Pos} {Q : List Value → Shared → Prop} (h : Q [] s) : N c A (spliced (backTo pos (starEach [] env))) Q s := N.pure h
theorem sp_cons {pos : Pos} {e : Expr} {rest : List Expr} {Q : List Value → Shared → Prop}
    (h : N c A (eval e env) (fun v s₁ => N c A (spliced (backTo pos (starEach rest env))) (fun vs s₂ => Q (v :: vs) s₂) s₁) s)
    (he : starEach (e :: rest) env = (false, eval e env) :: starEach rest env := by rfl) : N c A (spliced (backTo pos (starEach (e :: rest) env))) Q s := by
  rw [he]
  show N c A (do
    let v ← eval e env
    let here ← (pure [v] : Sem (List Value))
    return here ++ (← holding here (spliced (backTo pos (starEach rest env))))) Q s
  exact N.bind (h.mono fun v s₁ h => N.bind (N.pure (N.bind (N.holding (h.mono fun vs s₂ h => N.pure h)))))
theorem e_tuple {elts : List Expr} {k : Nat} {pos : Pos} {Q : Value → Shared → Prop} (h : N c A (spliced (backTo pos (starEach elts env))) (fun vs s₁ => N c A (newTuple vs) Q s₁) s) : N c A (eval (.Tuple elts k pos) env) Q s := by
  show N c A (do standAt pos; newTuple (← spliced (backTo pos (starEach elts env)))) Q s
  exact N.standAt (N.bind h)
theorem e_list {elts : List Expr} {pos : Pos} {Q : Value → Shared → Prop} (h : N c A (spliced (backTo pos (starEach elts env))) (fun vs s₁ => N c A (newList vs) Q s₁) s) : N c A (eval (.List elts pos) env) Q s := by
  show N c A (do standAt pos; newList (← spliced (backTo pos (starEach elts env)))) Q s
  exact N.standAt (N.bind h)

/-- what calls f is known -/
def Kp (c : Cx) (f : Value) (s : Shared) : Prop := ∃ k, (k = Keeper.frame ∨ k = Keeper.machine) ∧ Looks c.M s.heap (keeperOf f) k
theorem Kp.of_K {L : Addr} {m : Str → Option Value} {l k : List (Addr × Obj)} {f : Value} (S : St c L m l k s) (hk : keepIn c.K f = true) : Kp c f s := looks_keep hk S.X
theorem Kp.builtin {i : String} : Kp c (.builtin i) s := ⟨.machine, .inr rfl, Looks.of_pure rfl⟩
theorem Kp.type {i : String} : Kp c (.type i) s := ⟨.machine, .inr rfl, Looks.of_pure rfl⟩
theorem cw {pos : Pos} {f : Value} {first : List Value} {args : List (Bool × Sem Value)} {kws : List (Option Str × Sem Value)} {Q : Value → Shared → Prop} (hplain : (args.any (·.1) || kws.any (·.1.isNone)) = false)
    (h : N c A (evalArgs f true args kws) (fun a s₁ => Kp c f s₁ ∧ N c A (call f (first ++ a.pos) a.kw) Q s₁) s) : N c A (callWith pos f first args kws) Q s := by
  unfold callWith
  refine N.bind (N.holding (h.mono fun a s₁ h₁ => N.standAt ?_))
  obtain ⟨⟨k, hk, L⟩, h₂⟩ := h₁
  simp only [hplain]
  refine N.looks L ?_
  have tail : ∀ {t : Sem Value}, N c A t Q s₁ → N c A (t >>= fun r => holding [r] point >>= fun _ => pure r) Q s₁ :=
    fun ht => N.bind (ht.mono fun r s₂ hr => N.bind (N.holding (N.of (wpAny_point (N.pure hr)))))
  have marked (mk : Value) : N c A (callMarked mk f (first ++ a.pos) a.kw) Q s₁ := by unfold callMarked; exact N.keep h₂
  rcases hk with rfl | rfl <;> dsimp only <;> first | exact tail h₂ | (split <;> first | exact tail h₂ | exact tail (marked _))
theorem ea_plain {f : Value} {x : Sem Value} {rest : List (Bool × Sem Value)} {Q : Args → Shared → Prop} (h : N c A (spliced ((false, x) :: rest)) (fun vs s' => Q ⟨vs, []⟩ s') s) : N c A (evalArgs f true ((false, x) :: rest) []) Q s := by
  unfold evalArgs
  show N c A (spliced ((false, x) :: rest) >>= fun vs => (pure (vs, none) : Sem (List Value × Option Value)) >>= _) Q s
  exact N.bind (h.mono fun vs s' h => N.bind (N.pure (N.holding (N.bind (N.pure (N.bind (N.pure (N.pure h))))))))
theorem ea_nil {f : Value} {Q : Args → Shared → Prop} (h : Q ⟨[], []⟩ s) : N c A (evalArgs f true [] []) Q s := N.of (evalArgs_nil3 h)
theorem cw1 {pos : Pos} {f : Value} {first : List Value} {e : Expr} {rest : List Expr} {Q : Value → Shared → Prop}
    (h : N c A (spliced (backTo pos (starEach (e :: rest) env))) (fun vs s₁ => Kp c f s₁ ∧ N c A (call f (first ++ vs)) Q s₁) s)
    (he : starEach (e :: rest) env = (false, eval e env) :: starEach rest env := by rfl) (hplain : (backTo pos (starEach rest env)).any (·.1) = false := by rfl) :
    N c A (callWith pos f first (backTo pos (starEach (e :: rest) env)) (backToKw pos (keywordEach [] env))) Q s := by
  rw [he] at h ⊢
  exact cw (by show ((false || (backTo pos (starEach rest env)).any (·.1)) || false) = false; rw [hplain]; rfl) (ea_plain h)
theorem cw0 {pos : Pos} {f : Value} {first : List Value} {Q : Value → Shared → Prop} (hk : Kp c f s) (h : N c A (call f (first ++ [])) Q s) : N c A (callWith pos f first (backTo pos (starEach [] env)) (backToKw pos (keywordEach [] env))) Q s :=
  cw rfl (ea_nil ⟨hk, h⟩)
theorem e_call {x : Str} {xp pos : Pos} {args : List Expr} {kws : List Keyword} {Q : Value → Shared → Prop}
    (h : N c A (eval (.Name x xp) env) (fun f s₁ => N c A (callWith pos f [] (backTo pos (starEach args env)) (backToKw pos (keywordEach kws env))) Q s₁) s) : N c A (eval (.Call (.Name x xp) args kws pos) env) Q s := by
  show N c A (do callWith pos (← eval (.Name x xp) env) [] (backTo pos (starEach args env)) (backToKw pos (keywordEach kws env))) Q s
  exact N.bind h
theorem e_meth {o : Expr} {name : Str} {apos pos : Pos} {args : List Expr} {kws : List Keyword} {pl : Sem Bool} {Q : Value → Shared → Prop}
    (h : N c A (eval o env) (fun ov s₁ => N c A (getMethod ov name pl) (fun fx s₂ => N c A (callWith pos fx.1 fx.2 (backTo pos (starEach args env)) (backToKw pos (keywordEach kws env))) Q s₂) s₁) s)
    (he : eval (.Call (.Attribute o name apos) args kws pos) env = (do
      let ov ← eval o env
      standAt apos.atName
      let (f, first) ← holding [ov] (getMethod ov name pl)
      callWith pos f first (backTo pos (starEach args env)) (backToKw pos (keywordEach kws env))) := by rfl) : N c A (eval (.Call (.Attribute o name apos) args kws pos) env) Q s := by
  rw [he]
  exact N.bind (h.mono fun ov s₁ h => N.standAt (N.bind (N.holding (h.mono fun fx s₂ h => h))))
end
end Mine

end
-- M3
section
open PySem PySem.W PySem.Calls PyProof.Rows
set_option maxRecDepth 100000
namespace Mine
open PySem.Sem (wp)

section
variable {c : Cx} {A : Around} {s : Shared} {L a : Addr} {m : Str → Option Value} {l k : List (Addr × Obj)} {cn : Str} {cs : Scope} {ccd : Value}

-- names
theorem r_loc {x : Str} {pos : Pos} {v : Value} {Q : Value → Shared → Prop} (S : St c L m l k s) (hv : m x = some v) (h : Q v s)
    (hk : cs.kind = .function := by rfl) (hl : (envOf cn cs L a ccd).kindOf x = some .local := by rfl) (hd : (x == ("__debug__" : Str)) = false := by decide) :
    N c A (eval (.Name x pos) (envOf cn cs L a ccd)) Q s := N.of (ld S.fr hv h hk hl hd)
theorem r_ldn {x : Str} {v : Value} {Q : Value → Shared → Prop} (S : St c L m l k s) (hv : m x = some v) (h : Q v s)
    (hk : cs.kind = .function := by rfl) (hl : (envOf cn cs L a ccd).kindOf x = some .local := by rfl) : N c A (loadName (envOf cn cs L a ccd) x) Q s := N.of (ldn S.fr hv h hk hl)
theorem r_glob {x : Str} {pos : Pos} {v : Value} {Q : Value → Shared → Prop} (S : St c L m l k s) (e : nsIn c.K mainGlobals x = some (some v)) (h : Q v s)
    (hk : cs.kind = .function := by rfl) (hx : (envOf cn cs L a ccd).kindOf x = some .globalImplicit := by rfl) (hd : (x == ("__debug__" : Str)) = false := by decide) :
    N c A (eval (.Name x pos) (envOf cn cs L a ccd)) Q s := N.of (name_K S.fr S.kin S.top e h hk hx hd)
theorem r_blt {x : Str} {pos : Pos} {v : Value} {Q : Value → Shared → Prop} (S : St c L m l k s) (e : nsIn c.K mainGlobals x = some none) (hv : bootBuiltins x = some v) (hn : x ≠ "__name__") (h : Q v s)
    (hk : cs.kind = .function := by rfl) (hx : (envOf cn cs L a ccd).kindOf x = some .globalImplicit := by rfl) (hd : (x == ("__debug__" : Str)) = false := by decide) :
    N c A (eval (.Name x pos) (envOf cn cs L a ccd)) Q s := N.of (name_B S.fr S.kin S.top e hv hn h hk hx hd)
theorem r_st {x : Str} {v : Value} {Q : Unit → Shared → Prop} (S : St c L m l k s) (h : ∀ s', St c L (fun y => if y = x then some v else m y) l k s' → Q () s')
    (hk : cs.kind = .function := by rfl) (hl : (envOf cn cs L a ccd).kindOf x = some .local := by rfl) : N c A (storeName (envOf cn cs L a ccd) x v) Q s :=
  N.of (wpAny_storeName_local hl S.fr.ns (fun h' hn hs => h _ (S.set hn hs)) (by show (cs.kind == .class || (cs.kind == .module && L != mainGlobals)) = false; rw [hk]; rfl))

-- constants
theorem r_cint {i : Int} {q : Nat} {pos : Pos} {env : Env} {Q : Value → Shared → Prop} (S : St c L m l k s) (h : ∀ t s', St c L m l k s' → Q (.int i t) s') : N c A (eval (.Constant (.int i) q pos) env) Q s :=
  N.of (wpAny_Constant_int (h _ _ S.tok))
theorem r_cnone {q : Nat} {pos : Pos} {env : Env} {Q : Value → Shared → Prop} (h : Q .none s) : N c A (eval (.Constant .none q pos) env) Q s := fun _ _ _ _ => h
theorem r_cbool {b : Bool} {q : Nat} {pos : Pos} {env : Env} {Q : Value → Shared → Prop} (h : Q (.bool b) s) : N c A (eval (.Constant (.bool b) q pos) env) Q s := fun _ _ _ _ => h

-- ints
variable {x y : Int} {t u : Tok}
theorem i_add {Q : Value → Shared → Prop} (S : St c L m l k s) (h : ∀ t s', St c L m l k s' → Q (.int (x + y) t) s') : N c A (binaryOp .Add (.int x t) (.int y u)) Q s := N.of (PyProof.Rows.add_int (h _ _ S.tok))
theorem i_sub {Q : Value → Shared → Prop} (S : St c L m l k s) (h : ∀ t s', St c L m l k s' → Q (.int (x - y) t) s') : N c A (binaryOp .Sub (.int x t) (.int y u)) Q s := N.of (PyProof.Rows.sub_int (h _ _ S.tok))
theorem i_mul {Q : Value → Shared → Prop} (S : St c L m l k s) (hm : IntMulOk x y) (h : ∀ t s', St c L m l k s' → Q (.int (x * y) t) s') : N c A (binaryOp .Mult (.int x t) (.int y u)) Q s := N.of (PyProof.Rows.mul_int (h _ _ S.tok) hm)
theorem i_mod {Q : Value → Shared → Prop} (S : St c L m l k s) (hb : y ≠ 0) (h : ∀ t s', St c L m l k s' → Q (.int (x.fmod y) t) s') : N c A (binaryOp .Mod (.int x t) (.int y u)) Q s := N.of (PyProof.Rows.mod_int' hb (h _ _ S.tok))
theorem i_div {Q : Value → Shared → Prop} (S : St c L m l k s) (hb : y ≠ 0) (hp : Builtin.divisionGoesByPylong x y = false) (h : ∀ t s', St c L m l k s' → Q (.int (x.fdiv y) t) s') : N c A (binaryOp .FloorDiv (.int x t) (.int y u)) Q s := N.of (PyProof.Rows.floordiv_int hb (h _ _ S.tok) (.inl hp))
theorem i_and {Q : Value → Shared → Prop} (S : St c L m l k s) (h : ∀ t s', St c L m l k s' → Q (.int (Builtin.bitAnd x y) t) s') : N c A (binaryOp .BitAnd (.int x t) (.int y u)) Q s := N.of (PyProof.Rows.and_int (h _ _ S.tok))
theorem i_inv {Q : Value → Shared → Prop} (S : St c L m l k s) (h : ∀ t s', St c L m l k s' → Q (.int (Builtin.bitNot x) t) s') : N c A (unaryOp .Invert (.int x t)) Q s := N.of (PyProof.Rows.invert_int (h _ _ S.tok))
theorem i_neg {Q : Value → Shared → Prop} (S : St c L m l k s) (h : ∀ t s', St c L m l k s' → Q (.int (-x) t) s') : N c A (unaryOp .USub (.int x t)) Q s := N.of (PyProof.Rows.neg_int (h _ _ S.tok))
theorem c_lt {Q : Value → Shared → Prop} (h : Q (.bool (decide (x < y))) s) : N c A (compareOp .Lt (.int x t) (.int y u)) Q s := N.of (PyProof.Rows.lt_int h)
theorem c_le {Q : Value → Shared → Prop} (h : Q (.bool (decide (x ≤ y))) s) : N c A (compareOp .LtE (.int x t) (.int y u)) Q s := N.of (PyProof.Rows.le_int h)
theorem c_gt {Q : Value → Shared → Prop} (h : Q (.bool (decide (y < x))) s) : N c A (compareOp .Gt (.int x t) (.int y u)) Q s := N.of (PyProof.Rows.gt_int h)
theorem c_eq {Q : Value → Shared → Prop} (h : Q (.bool (x == y)) s) : N c A (compareOp .Eq (.int x t) (.int y u)) Q s := N.of (PyProof.Rows.eq_int h)
theorem c_ne {Q : Value → Shared → Prop} (h : Q (.bool (x != y)) s) : N c A (compareOp .NotEq (.int x t) (.int y u)) Q s := N.of (PyProof.Rows.ne_int h)
theorem c_is {v w : Value} {Q : Value → Shared → Prop} (hp : plainIs v w = true) (h : Q (.bool (v == w)) s) : N c A (compareOp .Is v w) Q s := N.of (wpAny_is_plain hp h)
theorem c_isnot {v w : Value} {Q : Value → Shared → Prop} (hp : plainIs v w = true) (h : Q (.bool (!(v == w))) s) : N c A (compareOp .IsNot v w) Q s := N.of (wpAny_isNot_plain hp h)
theorem tr_bool {b : Bool} {Q : Bool → Shared → Prop} (h : Q b s) : N c A (truthy (.bool b)) Q s := N.of (wpAny_truthy_bool h)
theorem tr_none {Q : Bool → Shared → Prop} (h : Q false s) : N c A (truthy .none) Q s := N.of (PyProof.Rows.truthy_none h)
end

section
variable {c : Cx} {A : Around} {s : Shared} {L x C p dx : Addr} {m : Str → Option Value} {l k : List (Addr × Obj)} {name : Str} {v : Value} {i : Nat}

theorem findObj_data0 {K : Frag} {a g : Value} {od : Option Obj} (hc : (clsIn K C).isSome = true) (ha : findIn K (.ref C) name = some (some a)) (hg : specialIn K a "__get__" = some (some g)) (ht : takesIn K a = some true) : findObj K C od name = some (.bind g a) := by
  obtain ⟨cd, hc⟩ := Option.isSome_iff_exists.mp hc
  unfold findObj
  rw [hc, Option.bind_some, ha, Option.bind_some]
  simp [hg, ht]

/-- a slot of an instance without a dict, read -/
theorem b_get {expr : Bool} {Q : Value → Shared → Prop} {sl : Array (Option Value)} (S : St c L m l k s) (hx : (x, (⟨.ref C, some dx, .plain, sl⟩ : Obj)) ∈ l) (hg : plainGet c.K C name = true) (hc : isClsIn c.K C = true)
    (ha : findIn c.K (.ref C) name = some (some (.ref p))) (hn : specialIn c.K (.ref p) "__get__" = some (some (.builtin "member_descriptor.__get__"))) (ht : takesIn c.K (.ref p) = some true) (hp : slotIn c.K p C = some i)
    (hv : (sl[i]?).join = some v) (hh : handedIn v = true) (h : ∀ s', St c L m l k s' → Q v s') : N c A (getAttr (.ref x) name expr) Q s :=
  have X := S.X
  have I : InstAt s.heap x ⟨.ref C, some dx, .plain, sl⟩ C (some emptyDict) := ⟨S.get hx, rfl, rfl, S.idict hx rfl rfl⟩
  N.of (get_bind X I (plainGet_of hg).1 (findObj_data0 hc ha hn ht) (plainGet_of hg).2 (wpAny_call (slot_get (s := { s with toks := s.toks + 1 }) X I hp hv (handed_on hh (h _ S.tok)))))

theorem b_set {Q : Unit → Shared → Prop} {sl sl' : Array (Option Value)} (S : St c L m ((x, (⟨.ref C, some dx, .plain, sl⟩ : Obj)) :: l) k s)
    (hs : findIn c.K (.ref C) "__setattr__" = some (some (.builtin "object.__setattr__"))) (hp : plainOver c.K C = true) (ht : takerIn c.K C name = some (some (.ref p))) (hT : typeIn c.K (.ref p) = some (.type "member_descriptor")) (hi : slotIn c.K p C = some i) (hz : i < 1000)
    (e : (sl ++ Array.replicate (i + 1 - sl.size) none).setIfInBounds i (some v) = sl')
    (h : ∀ s', St c L m ((x, (⟨.ref C, some dx, .plain, sl'⟩ : Obj)) :: l) k s' → Q () s') : N c A (setAttr (.ref x) name v) Q s := by
  have X := S.X
  have I : InstAt s.heap x ⟨.ref C, some dx, .plain, sl⟩ C (some emptyDict) := ⟨S.get (.head _), rfl, rfl, S.idict (.head _) rfl rfl⟩
  obtain ⟨D, hD, S⟩ := S
  have W := S.nw
  rw [List.cons_append] at W
  exact N.of (set_plain X I hs (osa_descr (s := { s with toks := s.toks + 1 }) KF.slot_mset X I hp ht hT
    (slot_set (s := { s with toks := s.toks + 1 }) (pre := []) (post := l ++ (k ++ dl D)) (ox' := ⟨.ref C, some dx, .plain, sl'⟩) S.fr W X I hi hz (fun _ h => nomatch h)
      S.head_apart (by rw [← e]) rfl fun h' F' N' => h _ ⟨D, hD.same (.inr ⟨rfl, rfl⟩), S.of_head F' N'⟩)))

/-- a method of such an instance -/
theorem b_meth {f : Addr} {pl : Sem Bool} {Q : Value × List Value → Shared → Prop} {sl : Array (Option Value)} (S : St c L m l k s) (hx : (x, (⟨.ref C, some dx, .plain, sl⟩ : Obj)) ∈ l) (hg : plainGet c.K C name = true)
    (hf : findIn c.K (.ref C) name = some (some (.ref f))) (ht : isFn c.K (.ref f) = true) (h : Q (.ref f, [.ref x]) s) : N c A (getMethod (.ref x) name pl) Q s :=
  have I : InstAt s.heap x ⟨.ref C, some dx, .plain, sl⟩ C (some emptyDict) := ⟨S.get hx, rfl, rfl, S.idict hx rfl rfl⟩
  N.of (method_fn S.X I (plainGet_of hg).1 (plainGet_of hg).2 hf (beq_iff_eq.mp ht) rfl h)

/-- an attribute of a class of the text -/
theorem k_attr {mc a : Value} {expr : Bool} {Q : Value → Shared → Prop} (S : St c L m l k s) (hm : typeIn c.K (.ref C) = some mc) (hr : readsIn c.K C mc = true) (e : findCls c.K (.ref C) mc name = some (.val a)) (hh : handedIn a = true)
    (h : ∀ s', St c L m l k s' → Q a s') : N c A (getAttr (.ref C) name expr) Q s := N.of (cls_val S.fr S.kin hm hr e hh (h _ S.tok))
/-- the same, called -/
theorem k_meth {mc a : Value} {pl : Sem Bool} {Q : Value × List Value → Shared → Prop} (S : St c L m l k s) (hg : specialIn c.K (.ref C) "__getattribute__" = some (some (.builtin "type.__getattribute__"))) (hm : typeIn c.K (.ref C) = some mc) (hr : readsIn c.K C mc = true) (e : findCls c.K (.ref C) mc name = some (.val a)) (hh : handedIn a = true)
    (h : ∀ s', St c L m l k s' → Q (a, []) s') : N c A (getMethod (.ref C) name pl) Q s := N.of (method_of_cls S.fr S.kin hg (cls_val S.fr S.kin hm hr e hh (h _ S.tok)))
end
end Mine

end
-- M3b
section
open PySem PySem.W PySem.Calls PyProof.Rows Builtin Builtin.ObjectAttr
set_option maxRecDepth 100000
namespace Mine
section
variable {prog : Program} {w : World} {A : Around} {E : Value → Shared → Prop} {s : Shared} {K : Frag} {C : Addr} {name : Str} {T : String}
theorem tga_type {tk : Tok} {Q : PySem.Fin → Shared → Prop} (X : K.In s.heap) (ho : Looks (model prog w) s.heap (opaqueClassAbove (.ref C)) none) (ht : Looks (model prog w) s.heap (typeOf (.ref C)) (.type "type"))
    (hm : findIn K (.type "type") name = some none) (hc : findIn K (.ref C) name = some (some (.type T))) (hheld : heldUnderItsOwnName name (.type T) = false) (hT : typeOf (.type T) = pure (.type "type"))
    (hg : findIn K (.type "type") "__get__" = some none) (h : Q (.done (.ret (.type T))) s) : wpAny (model prog w) A (Builtin.«type.__getattribute__» ⟨[.ref C, .str name tk], []⟩) Q E s := by
  obtain ⟨hh, g, d, t, os⟩ := s
  dsimp only at X ho ht
  have L1 := looks_findIn (M := model prog w) X hm
  have L2 := looks_findIn (M := model prog w) X hc
  have L3 : Looks (model prog w) hh (typeOf (.type T)) (.type "type") := Looks.of_pure hT
  have L4 := looks_findIn (M := model prog w) X hg
  unfold Builtin.«type.__getattribute__»
  refine wpAny_bind (wpAny_pure (wpAny_bind (ho.at (wpAny_bind (ht.at (wpAny_bind (L1.at ?_)))))))
  dsimp only
  refine wpAny_bind (wpAny_pure (wpAny_bind (L2.at ?_)))
  dsimp only
  rw [if_neg (by rw [hheld]; decide)]
  refine wpAny_bind (L3.at ?_)
  rw [if_neg (by decide)]
  unfold specialOf
  refine wpAny_bind (wpAny_bind (L3.at (L4.at ?_)))
  dsimp only
  exact wpAny_bind (handed_on rfl (wpAny_pure h))

theorem py_get {expr : Bool} {Q : Value → Shared → Prop} (X : K.In s.heap) (hr : readsIn K C (.type "type") = true)
    (hm : findIn K (.type "type") name = some none) (hc : findIn K (.ref C) name = some (some (.type T))) (hheld : heldUnderItsOwnName name (.type T) = false) (hT : typeOf (.type T) = pure (.type "type"))
    (hg : findIn K (.type "type") "__get__" = some none) (h : Q (.type T) { s with toks := s.toks + 1 }) : wpAny (model prog w) A (getAttr (.ref C) name expr) Q E s := by
  simp only [readsIn, Bool.and_eq_true, beq_iff_eq] at hr
  obtain ⟨⟨⟨⟨a, b⟩, c'⟩, d⟩, f⟩ := hr
  obtain ⟨hk, d⟩ := Option.isSome_iff_exists.mp d
  have ho := looks_opaque (M := model prog w) X (C := C) a
  have ht := looks_typeIn (M := model prog w) X b
  have hb := looks_hook (M := model prog w) X d
  refine wpAny_bind (wpAny_mkText (wpAny_holding (wpAny_bind (ht _ _ _ _ (fun _ _ e => e) (wpAny_bind (looks_findIn X c' _ _ _ _ (fun _ _ e => e) ?_))))))
  dsimp only
  rw [show (onTheHeap (.type "type") && Value.builtin "type.__getattribute__" == Value.builtin "object.__getattribute__") = false from rfl, if_neg (by decide)]
  refine wpAny_bind (hb _ _ _ _ (fun _ _ e => e) (wpAny_bind (wpAny_attempt (wpAny_holding ?_))))
  unfold callGetattribute
  rw [show (expr && onTheHeap (Value.builtin "type.__getattribute__")) = false from Bool.and_false _, if_neg (by decide)]
  unfold boundAndCalled
  rw [KF.slot_tga.bind]
  refine wpAny_bind (wpAny_pure (wpAny_call (codeAny_call_builtin KF.slot_tga.plain KF.entry_tga ?_)))
  refine @check_slot (model prog w) _ _ { s with toks := s.toks + 1 } "type.__getattribute__" "type" "__getattribute__" (.ref C) [.str name s.toks] [] _ (by decide +kernel) (by decide +kernel) (ht.andThen (looks_subIn X f)) (KF.args_tga (.ref C) (.str name s.toks)) ?_
  exact tga_type (s := { s with toks := s.toks + 1 }) X ho ht hm hc hheld hT hg (handed_on rfl h)
end
section
variable {c : Cx} {A : Around} {s : Shared} {L C : Addr} {m : Str → Option Value} {l k : List (Addr × Obj)} {name : Str} {T : String}
/-- a class's attribute that is a built-in type, called as a method would be -/
theorem t_meth {pl : Sem Bool} {Q : Value × List Value → Shared → Prop} (S : St c L m l k s) (hr : readsIn c.K C (.type "type") = true)
    (hm : findIn c.K (.type "type") name = some none) (hc : findIn c.K (.ref C) name = some (some (.type T))) (hheld : heldUnderItsOwnName name (.type T) = false) (hT : typeOf (.type T) = pure (.type "type"))
    (hg : findIn c.K (.type "type") "__get__" = some none) (h : ∀ s', St c L m l k s' → Q (.type T, []) s') : N c A (getMethod (.ref C) name pl) Q s := by
  have hr' := hr
  simp only [readsIn, Bool.and_eq_true, beq_iff_eq] at hr'
  obtain ⟨⟨⟨⟨_, b⟩, c'⟩, _⟩, _⟩ := hr'
  exact N.of (method_of_cls S.fr S.kin (show specialIn c.K (.ref C) "__getattribute__" = _ by unfold specialIn; rw [b]; exact c') (py_get S.X hr hm hc hheld hT hg (h _ S.tok)))
end
end Mine

end
-- M4
section
open PySem PySem.W PySem.Calls PyProof.Rows Builtin
set_option maxRecDepth 100000
namespace Mine
namespace BF
theorem mro : mroOf (.type "bytearray") = pure [.type "bytearray", .type "object"] := by rw [mroOf_type]; kernel_rfl
theorem lookup_new : typeLookup (.type "bytearray") "__new__" = pure (some (.builtin "bytearray.__new__")) := by rw [typeLookup_type, builtinLookup_eq_fast]; kernel_rfl
theorem slot_init : Slot "bytearray" "__init__" "bytearray.__init__" :=
  .of (owner := "bytearray") (n := "__init__") (by rw [typeLookup_type, builtinLookup_eq_fast]; kernel_rfl) (by decide +kernel) (by decide +kernel) (by decide +kernel)
    (by first | exact .inl (by decide +kernel) | exact .inr (by decide +kernel)) (by rw [isSubtype_type]; kernel_rfl)
theorem called : TypeCalled "bytearray" "bytearray.__new__" "bytearray.__init__" :=
  ⟨by decide +kernel, by decide +kernel, ⟨_, _, mro⟩, madeBy_type mro lookup_new (by decide +kernel), by decide +kernel, by rw [isSubtype_type]; kernel_rfl, slot_init⟩
theorem typeCall (a : Value) : checkTypeCall "bytearray" ⟨[a], []⟩ = pure () := by kernel_rfl
theorem newCall (a : Value) : checkBuiltinCall "bytearray.__new__" ⟨[.type "bytearray", a], []⟩ = pure () := by kernel_rfl
theorem plain_new : plainId "bytearray.__new__" = true := by decide +kernel
theorem entry_new : entryFor table "bytearray.__new__" = some Builtin.«list.__new__» := entryFor_alias (id' := "list.__new__") (by rw [fastTable_eq_tree]; kernel_rfl) (by first | rfl | decide +kernel) (by decide +kernel) (by rw [fastTable_eq_tree]; kernel_rfl)
theorem entry_init : entryFor table "bytearray.__init__" = some Builtin.«bytearray.__init__» := by first | exact entryFor_of_tree (by kernel_rfl) | exact entryFor_of_fast (by kernel_rfl)
theorem args_init (a b : Value) : argsOk "bytearray.__init__" ⟨[a, b], []⟩ := by unfold argsOk; kernel_rfl
theorem sub_self : isSubtype (.type "bytearray") (.type "bytearray") = pure true := by rw [isSubtype_type]; kernel_rfl
set_option maxRecDepth 1000000 in
set_option maxHeartbeats 4000000 in
theorem owner : ("bytearray.__new__".splitOn ".__new__").headD "" = "bytearray" := by simp +decide [String.splitOn, String.splitOnAux]
theorem bind (v : Value) : Bytes.bindOptional "bytearray.__init__" "bytearray" ["source", "encoding", "errors"] [v] [] = pure [some v, none, none] := by kernel_rfl
theorem look_release : typeLookup (.type "bytearray") "__release_buffer__" = pure (some (.builtin "bytearray.__release_buffer__")) := by rw [typeLookup_type, builtinLookup_eq_fast]; kernel_rfl
theorem look_buffer : typeLookup (.type "bytearray") "__buffer__" = pure (some (.builtin "bytearray.__buffer__")) := by rw [typeLookup_type, builtinLookup_eq_fast]; kernel_rfl
end BF

section
variable {prog : Program} {w : World} {A : Around} {E : Value → Shared → Prop} {s : Shared}
abbrev baObj (b : List UInt8) : Obj := { cls := .type "bytearray", data := .bytearray b.toArray 0 }
theorem code_ba_new (a : Value) {Q₁ : Value → Shared → Prop}
    (h : Q₁ (.ref s.heap.objs.size) { s with heap := s.heap.push (baObj []) }) :
    codeAny (model prog w) A (.call (.builtin "bytearray.__new__") ⟨[.type "bytearray", a], []⟩) (wants Q₁ E) s := by
  refine codeAny_of_tree ?_
  show wpAny _ A.in1 (do checkBuiltinCall "bytearray.__new__" ⟨[.type "bytearray", a], []⟩; again (.builtin "bytearray.__new__" ⟨[.type "bytearray", a], []⟩)) _ _ s
  refine wpAny_bind (wpAny_of_eq (BF.newCall a) (wpAny_pure ⟨plainId_quiet BF.plain_new _, codeAny_builtin_stack BF.entry_new rfl fun p st => ?_⟩))
  rw [Around.under_plainId BF.plain_new _]
  have hsub := BF.sub_self
  have hown := BF.owner
  obtain ⟨hp, g, d, tk, os⟩ := s
  simp only [hown]
  wp_walk
  exact h
end
end Mine

end
-- M4b
section
open PySem PySem.W PySem.Calls PyProof.Rows Builtin
set_option maxRecDepth 100000
set_option linter.unusedVariables false
set_option linter.deprecated false
namespace Mine
open PySem.Sem (wp)
theorem N.if_neg {c : Cx} {A : Around} {s : Shared} {α : Type} {p : Prop} [Decidable p] {t u : Sem α} {Q : α → Shared → Prop} (hp : ¬ p) (h : N c A u Q s) : N c A (if p then t else u) Q s := by rw [_root_.if_neg hp]; exact h
theorem N.if_pos {c : Cx} {A : Around} {s : Shared} {α : Type} {p : Prop} [Decidable p] {t u : Sem α} {Q : α → Shared → Prop} (hp : p) (h : N c A t Q s) : N c A (if p then t else u) Q s := by rw [_root_.if_pos hp]; exact h
theorem N.boolneg {c : Cx} {A : Around} {s : Shared} {α : Type} {b : Bool} {t u : Sem α} {Q : α → Shared → Prop} (hp : b = false) (h : N c A u Q s) : N c A (if b = true then t else u) Q s := by subst hp; exact h
theorem N.boolpos {c : Cx} {A : Around} {s : Shared} {α : Type} {b : Bool} {t u : Sem α} {Q : α → Shared → Prop} (hp : b = true) (h : N c A t Q s) : N c A (if b = true then t else u) Q s := by subst hp; exact h


section
variable {c : Cx} {A : Around} {s : Shared}

/-- the answer of a code's tree -/
def Ans (c : Cx) (A : Around) (R : Flow → Shared → Prop) (fin : PySem.Fin) (s' : Shared) : Prop := match fin with | .done f => R f s' | .again c' => c'.quiet = true ∧ NC c A c' R s'

theorem Ans.mono {R R' : Flow → Shared → Prop} {fin : PySem.Fin} (h : Ans c A R fin s) (hR : ∀ f s, R f s → R' f s) : Ans c A R' fin s := by
  cases fin with
  | done f => exact hR _ _ h
  | again c' => exact ⟨h.1, h.2.mono hR⟩
theorem NC.builtin {id : String} {args : Args} {b : Builtin} {R : Flow → Shared → Prop} (hd : Bytes.decodersThatHold.contains id = false) (hb : entryFor table id = some b)
    (h : N c (A.under (.builtin id args)) (b args) (Ans c A R) s) : NC c A (.builtin id args) R s := by
  refine NC.tree hd ?_
  show N c _ (match entryFor table id with | some b => b args | none => unsupported ((withoutEnding? id "#data").getD id)) _ s
  rw [hb]; exact h.mono fun fin s' h' => by cases fin <;> exact h'
theorem NC.callB {id : String} {args : Args} {b : Builtin} {R : Flow → Shared → Prop} (hq : plainId id = true) (hd : Bytes.decodersThatHold.contains id = false) (hb : entryFor table id = some b)
    (h : N c A.in1 (checkBuiltinCall id args) (fun _ s₁ => N c A.in1 (b args) (Ans c A R) s₁) s) : NC c A (.call (.builtin id) args) R s := by
  refine NC.tree rfl ?_
  show N c A.in1 (do checkBuiltinCall id args; again (.builtin id args)) _ s
  refine N.bind (h.mono fun _ s₁ h₁ => N.pure ⟨plainId_quiet hq args, NC.builtin hd hb (by rw [Around.under_plainId hq args]; exact h₁)⟩)

theorem notGuard {A : Around} {Γ : Ctx} (h : Γ.In A) (hg : A.guards = some []) : Γ.code.isGuard = false ∧ ∀ x ∈ Γ.below, x.1.isGuard = false := by
  have e := h.2.2.2.1 _ hg
  have e := List.append_eq_nil_iff.mp e
  constructor
  · have z := e.1
    unfold Code.guards at z
    split at z
    · cases z
    · simp_all
  · intro x hx
    have z := List.filter_eq_nil_iff.mp e.2 x.1 (List.mem_map_of_mem hx)
    simpa using z
def expP (self : Value) : Code × Pos → Bool
    | (.builtin "bytearray.__contains__" ⟨v :: _, _⟩, _) | (.builtin "bytearray.__mod__" ⟨v :: _, _⟩, _)
    | (.builtin "bytearray.__rmod__" ⟨_ :: v :: _, _⟩, _) | (.builtin "_struct.pack_into.held" ⟨v :: _, _⟩, _) => Bytes.sameRef v self
    | (.builtin "bytearray.find.held" ⟨_ :: _ :: held, _⟩, _) => held.any (Bytes.sameRef self)
    | (.builtin i ⟨v :: _, _⟩, _) => Bytes.sameRef v self && Bytes.decodersThatHold.contains i
    | _ => false
theorem not_exp {x : Code × Pos} {self : Value} (h1 : x.1.isGuard = false) (h2 : dec x.1 = false) : expP self x = false := by
  obtain ⟨cd, p⟩ := x
  unfold expP
  split
  · rename_i heq; cases heq; simp [Code.isGuard, guardIds] at h1
  · rename_i heq; cases heq; simp [Code.isGuard, guardIds] at h1
  · rename_i heq; cases heq; simp [Code.isGuard, guardIds] at h1
  · rename_i heq; cases heq; simp [Code.isGuard, guardIds] at h1
  · rename_i heq; cases heq; simp [Code.isGuard, guardIds] at h1
  · rename_i heq; cases heq
    have : Bytes.decodersThatHold.contains _ = false := h2
    rw [this, Bool.and_false]
  · rfl
theorem n_exported {self : Value} {Q : Bool → Shared → Prop} (hg : A.guards = some []) (h : Q false s) : N c A (Bytes.exported self) Q s := fun Γ p hΓ hc => by
  have g := notGuard hΓ hg
  have e : ((Γ.code, p) :: Γ.below).any (expP self) = false := by
    rw [List.any_cons, not_exp (x := (Γ.code, p)) g.1 hc.1, Bool.false_or, List.any_eq_false]
    intro x hx
    rw [not_exp (g.2 x hx) (hc.2 x hx)]
    decide
  rw [← e] at h
  exact h

theorem n_callType {T newId initId : String} {Bi : Builtin} {args : List Value} {Q : Value → Shared → Prop} (ft : TypeCalled T newId initId)
    (hct : checkTypeCall T ⟨args, []⟩ = pure ()) (hdi : Bytes.decodersThatHold.contains initId = false) (entryI : entryFor table initId = some Bi)
    (hnew : NC c A.in1 (.call (.builtin newId) ⟨.type T :: args, []⟩) (fun f s₁ => match f with
      | .ret obj => s₁.TypeIs obj T ∧ argsOk initId ⟨obj :: args, []⟩ ∧ N c A.in1.in1 (Bi ⟨obj :: args, []⟩) (Ans c A.in1 fun f s₂ => f = .ret .none ∧ Q obj s₂) s₁
      | _ => False) s) : N c A (call (.type T) args) Q s := by
  obtain ⟨cc, tl, hmro⟩ := ft.mro
  have hmade := ft.made
  have hsub := ft.sub
  refine N.call (NC.tree rfl ?_)
  show N c A.in1 (callAny (.type T) _) _ _
  refine N.pure ⟨Code.quiet_builtin _ (by decide +kernel), NC.builtin (by decide +kernel) F.entry_type_call ?_⟩
  rw [Around.under_plain (weight_type_call_type T args []) rfl]
  have h1 := ft.notType
  have h2 := ft.canCreate
  (unfold PySem.Builtin.«type.__call__»; try dsimp only)
  ((with_reducible apply N.if_neg); focus (simp [*]; done))
  ((with_reducible apply N.if_neg); focus (simp [*]; done))
  with_reducible refine N.bind ?_
  with_reducible refine N.of (wpAny_of_eq (by assumption) ?_)
  with_reducible refine N.bind ?_
  with_reducible refine N.of (wpAny_of_eq (by assumption) ?_)
  ((with_reducible apply N.boolneg); focus (rfl; done))
  with_reducible refine N.bind ?_
  with_reducible refine N.of (wpAny_of_eq (by assumption) ?_)
  with_reducible refine N.bind ?_
  with_reducible refine N.pure ?_
  with_reducible refine N.bind ?_
  with_reducible refine N.holding ?_
  refine N.call (hnew.mono fun f s₁ hr => ?_)
  cases f with
  | ret obj =>
    obtain ⟨hT, hok, hsi⟩ := hr
    have hli := ft.init.lookup
    have hbi := ft.init.bind obj
    with_reducible refine N.bind ?_
    with_reducible refine N.of (wpAny_isInstance (by assumption) (by assumption) ?_)
    ((with_reducible apply N.boolneg); focus (rfl; done))
    with_reducible refine N.bind ?_
    with_reducible refine N.holding ?_
    (unfold PySem.callSpecial?; try dsimp only)
    with_reducible refine N.bind ?_
    with_reducible refine N.of (wpAny_specialOf (by assumption) (by assumption) ?_)
    with_reducible refine N.holding ?_
    with_reducible refine N.bind ?_
    with_reducible refine N.of (wpAny_of_eq (by assumption) ?_)
    with_reducible refine N.bind ?_
    refine N.call (NC.callB ft.init.plain hdi entryI (N.of (ft.init.check _ _ _ _ _ _ _ _ hT hok (hsi.mono fun fin s₂ h₂ => h₂.mono ?_))))
    rintro f s₂ ⟨rfl, hq⟩
    with_reducible refine N.pure ?_
    ((with_reducible apply N.boolneg); focus (rfl; done))
    try dsimp only
    (unfold PySem.ret; try dsimp only)
    with_reducible refine N.pure ?_
    assumption
  | _ => exact hr.elim
end
end Mine

end
-- M4c
section
open PySem PySem.W PySem.Calls PyProof.Rows Builtin
set_option maxRecDepth 100000
set_option linter.unusedVariables false
set_option linter.deprecated false
namespace Mine
open PySem.Sem (wp)
namespace BF
theorem own_release : ("bytearray.__release_buffer__".dropRight (("__release_buffer__" : String).length + 1)) = "bytearray" := by decide +kernel
theorem ends_release : ("bytearray.__release_buffer__".endsWith ("." ++ "__release_buffer__")) = true := by decide +kernel
theorem int_index : typeLookup (.type "int") "__index__" = pure (some (.builtin "int.__index__")) := by rw [typeLookup_type, builtinLookup_eq_fast]; kernel_rfl
theorem bytes_index : typeLookup (.type "bytes") "__index__" = pure none := by rw [typeLookup_type, builtinLookup_eq_fast]; kernel_rfl
theorem ba_index : typeLookup (.type "bytearray") "__index__" = pure none := by rw [typeLookup_type, builtinLookup_eq_fast]; kernel_rfl
theorem bytes_buffer : typeLookup (.type "bytes") "__buffer__" = pure (some (.builtin "bytes.__buffer__")) := by rw [typeLookup_type, builtinLookup_eq_fast]; kernel_rfl
theorem bytes_release : typeLookup (.type "bytes") "__release_buffer__" = pure none := by rw [typeLookup_type, builtinLookup_eq_fast]; kernel_rfl
theorem bytes_own : ("bytes.__buffer__".dropRight (("__buffer__" : String).length + 1)) = "bytes" := by decide +kernel
theorem bytes_ends : ("bytes.__buffer__".endsWith ("." ++ "__buffer__")) = true := by decide +kernel
theorem bytes_sub : isSubtype (.type "bytes") (.type "bytes") = pure true := by rw [isSubtype_type]; kernel_rfl
theorem own_buffer : ("bytearray.__buffer__".dropRight (("__buffer__" : String).length + 1)) = "bytearray" := by decide +kernel
theorem ends_buffer : ("bytearray.__buffer__".endsWith ("." ++ "__buffer__")) = true := by decide +kernel
end BF
section
variable {M : Model} {A : Around} {E : Value → Shared → Prop} {s : Shared}
theorem wpAny_slotIsOwn {v : Value} {T name id owner : String} {Q : Bool → Shared → Prop} (hT : Looks M s.heap (typeOf v) (.type T)) (hl : typeLookup (.type T) (name : Str) = pure (some (.builtin id))) (he : id.endsWith ("." ++ name) = true)
    (ho : id.dropRight (name.length + 1) = owner) (hs : isSubtype (.type T) (.type owner) = pure true) (h : Q true s) : wpAny M A (Bytes.slotIsOwn v name) Q E s := by
  unfold Bytes.slotIsOwn
  refine wpAny_bind ?_
  unfold specialOf
  refine wpAny_bind (hT.at (wpAny_of_eq hl ?_))
  dsimp only
  rw [he, ho]
  refine wpAny_ite_false (by rfl) ?_
  unfold isInstance
  exact wpAny_bind (hT.at (wpAny_of_eq hs h))
end
section
variable {c : Cx} {A : Around} {s : Shared} {L d : Addr} {m : Str → Option Value} {l k : List (Addr × Obj)}
theorem ba_looks {b : List UInt8} {M : Model} {h : Heap} (ho : h.get? d = some (baObj b)) : Looks M h (typeOf (.ref d)) (.type "bytearray") := (Looks.ld ho).andThen .now
theorem ownRel {b : List UInt8} {Q : Bool → Shared → Prop} (ho : s.heap.get? d = some (baObj b)) (h : Q false s) : N c A (Bytes.ownRelease (.ref d)) Q s :=
  N.of (wpAny_bind (wpAny_slotIsOwn (ba_looks ho) BF.look_release BF.ends_release BF.own_release BF.sub_self (wpAny_pure h)))
theorem ba_exports {b : List UInt8} {Q : Nat → Shared → Prop} (ho : s.heap.get? d = some (baObj b)) (h : Q 0 s) : N c A (Bytes.exportsOf (.ref d)) Q s :=
  N.of (wpAny_bind (wpAny_load ho (wpAny_pure h)))
theorem ba_payload? {b : List UInt8} {Q : Option (Array UInt8) → Shared → Prop} (ho : s.heap.get? d = some (baObj b)) (h : Q (some b.toArray) s) : N c A (Bytes.payload? (.ref d)) Q s :=
  N.of (wpAny_bind (wpAny_load ho (wpAny_pure h)))
theorem ba_payload {b : List UInt8} {Q : Array UInt8 → Shared → Prop} (ho : s.heap.get? d = some (baObj b)) (h : Q b.toArray s) : N c A (Bytes.payload (.ref d)) Q s :=
  N.bind (ba_payload? ho (N.pure h))
theorem ba_write {b b' : List UInt8} {f : Array UInt8 → Array UInt8} {Q : Unit → Shared → Prop} (S : St c L m ((d, baObj b) :: l) k s) (e : (f b.toArray) = b'.toArray) (hz : b'.length ≤ 16777216)
    (h : ∀ s', St c L m ((d, baObj b') :: l) k s' → Q () s') : N c A (Bytes.write (.ref d) f) Q s := by
  have ho := S.get (.head _)
  have S' : St c L m ((d, baObj b') :: l) k { s with heap := s.heap.update d (Obj.mapBytearray f), toks := s.toks } :=
    St.upd (t := s.toks) (f := Obj.mapBytearray f) (o := baObj b) S (by show ({ cls := _, data := .bytearray (f b.toArray) 0 } : Obj) = _; rw [e]) rfl
  refine N.of ?_
  show wpAny _ _ (updateBytearray d f) _ _ _
  unfold updateBytearray
  refine wpAny_bind (wpAny_load ho ?_)
  refine wpAny_bind (wpAny_update ho ?_)
  refine wpAny_lookBehind (S'.get (.head _)) ?_ (h _ S')
  show (if b'.toArray.size > sizeLine then some "bytearray:memory" else none) = none
  rw [_root_.if_neg]
  rw [sizeLine_eq, List.size_toArray]; omega
theorem exp_both {b : List UInt8} {Q : Bool → Shared → Prop} (hg : A.guards = some []) (ho : s.heap.get? d = some (baObj b)) (h : Q false s) : N c A (Bytes.exported (.ref d) <||> (do return (← Bytes.exportsOf (.ref d)) > 0)) Q s :=
  N.bind (n_exported hg (N.bind (ba_exports ho (N.pure h))))
/-- the octets of a bytes-like thing -/
structure Octets (M : Model) (h : Heap) (v : Value) (x : Array UInt8) : Prop where
  ty : ∃ T id owner, Looks M h (typeOf v) (.type T) ∧ typeLookup (.type T) (("__buffer__" : String) : Str) = pure (some (.builtin id)) ∧ id.endsWith ("." ++ "__buffer__") = true ∧
    id.dropRight (("__buffer__" : String).length + 1) = owner ∧ isSubtype (.type T) (.type owner) = pure true ∧ (id = "bytes.__buffer__" ∨ id = "bytearray.__buffer__")
  own : Looks M h (Bytes.ownRelease v) false
  pay : Looks M h (Bytes.payload v) x
theorem Octets.bytes {M : Model} {h : Heap} {x : Array UInt8} {t : Tok} : Octets M h (.bytes x t) x where
  ty := ⟨"bytes", "bytes.__buffer__", "bytes", Looks.of_pure rfl, BF.bytes_buffer, BF.bytes_ends, BF.bytes_own, BF.bytes_sub, .inl rfl⟩
  own := fun A Q E s _ q => by
    unfold Bytes.ownRelease
    refine wpAny_bind ?_
    unfold Bytes.slotIsOwn
    refine wpAny_bind ?_
    unfold specialOf
    exact wpAny_bind (wpAny_pure (wpAny_of_eq BF.bytes_release (wpAny_pure (wpAny_pure q))))
  pay := Looks.of_pure rfl
theorem Octets.ba {M : Model} {h : Heap} {b : List UInt8} (ho : h.get? d = some (baObj b)) : Octets M h (.ref d) b.toArray where
  ty := ⟨"bytearray", "bytearray.__buffer__", "bytearray", ba_looks ho, BF.look_buffer, BF.ends_buffer, BF.own_buffer, BF.sub_self, .inr rfl⟩
  own := fun A Q E s k q => wpAny_bind (wpAny_slotIsOwn ((ba_looks ho).keeps k) BF.look_release BF.ends_release BF.own_release BF.sub_self (wpAny_pure q))
  pay := (show Looks M h (Bytes.payload? (.ref d)) (some b.toArray) from (Looks.ld ho).andThen .now).andThen .now
theorem buf_octets {M : Model} {E : Value → Shared → Prop} {v : Value} {x : Array UInt8} {i : String} {full : Bool} {Q : Option (Array UInt8) → Shared → Prop} (O : Octets M s.heap v x) (h : Q (some x) s) : wpAny M A (Bytes.buffer? i v full) Q E s := by
  obtain ⟨⟨T, id', owner, hT, hl, he, ho, hsub, hid⟩, own, pay⟩ := O
  have sp : Looks M s.heap (specialOf v "__buffer__") (some (.builtin id')) := hT.andThen (Looks.of_pure hl)
  unfold Bytes.buffer?
  refine wpAny_bind (sp.here ?_)
  dsimp only
  refine wpAny_bind (wpAny_slotIsOwn hT hl he ho hsub ?_)
  refine wpAny_ite_false rfl ?_
  refine wpAny_bind (sp.here ?_)
  rcases hid with rfl | rfl
  · exact wpAny_bind (own.here (wpAny_ite_false rfl (wpAny_bind (pay.here (wpAny_pure h)))))
  · exact wpAny_bind (own.here (wpAny_ite_false rfl (wpAny_bind (pay.here (wpAny_pure h)))))
theorem init_int {n : Int} {t : Tok} {Q : PySem.Fin → Shared → Prop} {b : List UInt8} (hg : A.guards = some []) (h0 : 0 ≤ n) (h1 : n ≤ 16777216) (S : St c L m ((d, baObj b) :: l) k s)
    (h : ∀ s', St c L m ((d, baObj (List.replicate n.toNat 0)) :: l) k s' → Q (.done (.ret .none)) s') : N c A (Builtin.«bytearray.__init__» ⟨[.ref d, .int n t], []⟩) Q s := by
  have ho := St.get S (.head _)
  have hb := BF.bind (.int n t)
  unfold Builtin.«bytearray.__init__»
  refine N.bind (ownRel ho ?_)
  refine N.boolneg rfl ?_
  refine N.bind (N.of (wpAny_of_eq hb ?_))
  refine N.bind (N.pure (N.bind (N.pure ?_)))
  refine N.bind (exp_both hg ho ?_)
  refine N.boolneg rfl ?_
  refine N.bind (ba_write S rfl (Nat.zero_le _) fun s' S' => ?_)
  refine N.bind (N.of (wpAny_of_eq (rfl : asStr? (.int n t) = pure none) ?_))
  refine N.boolneg rfl ?_
  refine N.bind (N.pure ?_)
  refine N.bind (N.of (wpAny_bind (wpAny_pure (wpAny_of_eq BF.int_index ?_))))
  refine N.boolpos rfl ?_
  rw [show asIndex (.int n t) = pure n from rfl]
  refine N.bind (N.of (wpAny_attempt (wpAny_pure ?_)))
  refine N.boolneg (by simp [Bytes.fitsIndex]; omega) ?_
  refine N.if_neg (by omega) ?_
  refine N.boolneg (by simp; omega) ?_
  refine N.boolneg (by simp [Bytes.tooLong, sizeLine_eq]; omega) ?_
  refine N.bind (N.of (wpAny_rule ?_))
  by_cases hn : n > 0
  · refine N.if_pos hn (N.bind (ba_write S' (b' := List.replicate n.toNat 0) ?_ (by simp; omega) fun s'' S'' => N.pure (h _ S'')))
    simp
  · refine N.if_neg hn (N.pure (h _ ?_))
    rw [show n.toNat = 0 by omega]
    exact S'
theorem init_bytes {v : Value} {x : Array UInt8} {Q : PySem.Fin → Shared → Prop} {b : List UInt8} (hg : A.guards = some []) (hz : x.size ≤ 16777216) (S : St c L m ((d, baObj b) :: l) k s) (hv : asStr? v = pure none)
    (hi : ∀ s', St c L m ((d, baObj []) :: l) k s' → Looks c.M s'.heap (specialOf v "__index__") none ∧ Octets c.M s'.heap v x)
    (h : ∀ s', St c L m ((d, baObj x.toList) :: l) k s' → Q (.done (.ret .none)) s') : N c A (Builtin.«bytearray.__init__» ⟨[.ref d, v], []⟩) Q s := by
  have ho := St.get S (.head _)
  have hb := BF.bind v
  unfold Builtin.«bytearray.__init__»
  refine N.bind (ownRel ho ?_)
  refine N.boolneg rfl ?_
  refine N.bind (N.of (wpAny_of_eq hb ?_))
  refine N.bind (N.pure (N.bind (N.pure ?_)))
  refine N.bind (exp_both hg ho ?_)
  refine N.boolneg rfl ?_
  refine N.bind (ba_write S rfl (Nat.zero_le _) fun s' S' => ?_)
  refine N.bind (N.of (wpAny_of_eq hv ?_))
  refine N.boolneg rfl ?_
  refine N.bind (N.pure ?_)
  obtain ⟨h1, h2⟩ := hi _ S'
  refine N.bind (N.of (h1.here ?_))
  refine N.boolneg rfl ?_
  refine N.bind (N.of (buf_octets h2 ?_))
  refine N.bind (N.of (wpAny_rule ?_))
  exact N.bind (ba_write S' (b' := x.toList) (by simp) (by simpa using hz) fun s'' S'' => N.pure (h _ S''))

/-- bytearray(v) -/
theorem n_ba {v : Value} {b' : List UInt8} {Q : Value → Shared → Prop} (S : St c L m l k s)
    (hi : ∀ (d : Addr) s' Q', St c L m ((d, baObj []) :: l) k s' → (∀ s'', St c L m ((d, baObj b') :: l) k s'' → Q' (.done (.ret .none)) s'') → N c A.in1.in1 (Builtin.«bytearray.__init__» ⟨[.ref d, v], []⟩) Q' s')
    (h : ∀ d s', St c L m ((d, baObj b') :: l) k s' → Q (.ref d) s') : N c A (call (.type "bytearray") [v]) Q s := by
  refine n_callType BF.called (BF.typeCall v) (by decide +kernel) BF.entry_init ?_
  refine NC.mono (R := fun f s₁ => f = .ret (.ref s.heap.objs.size) ∧ St c L m ((s.heap.objs.size, baObj []) :: l) k s₁) (NC.of (codeAny_mono (code_ba_new (E := fun _ _ => False) (Q₁ := fun v s₁ => v = .ref s.heap.objs.size ∧ St c L m ((s.heap.objs.size, baObj []) :: l) k s₁) v ⟨rfl, S.push (t := s.toks) (baObj [])⟩) fun r s₁ hr => ?_)) fun f s₁ hf => ?_
  · cases r with
    | ok f => cases f <;> first | exact ⟨by rw [hr.1], hr.2⟩ | exact hr.elim
    | error e => exact hr.elim
  · obtain ⟨rfl, S₁⟩ := hf
    exact ⟨⟨_, S₁.get (.head _), rfl⟩, BF.args_init _ _, hi _ _ _ S₁ fun s'' S'' => ⟨rfl, h _ _ S''⟩⟩
theorem n_ba_int {n : Int} {t : Tok} {Q : Value → Shared → Prop} (S : St c L m l k s) (hg : A.guards = some []) (h0 : 0 ≤ n) (h1 : n ≤ 16777216)
    (h : ∀ d s', St c L m ((d, baObj (List.replicate n.toNat 0)) :: l) k s' → Q (.ref d) s') : N c A (call (.type "bytearray") [.int n t]) Q s :=
  n_ba S (fun d s' Q' S' h' => init_int hg h0 h1 S' h') h
theorem n_ba_bytes {x : Array UInt8} {t : Tok} {Q : Value → Shared → Prop} (S : St c L m l k s) (hg : A.guards = some []) (h1 : x.size ≤ 16777216)
    (h : ∀ d s', St c L m ((d, baObj x.toList) :: l) k s' → Q (.ref d) s') : N c A (call (.type "bytearray") [.bytes x t]) Q s :=
  n_ba S (fun d s' Q' S' h' => init_bytes hg h1 S' rfl (fun s'' S'' => ⟨(Looks.of_pure rfl : Looks _ _ (typeOf (.bytes x t)) (.type "bytes")).andThen (Looks.of_pure BF.bytes_index), .bytes⟩) h') h
end
end Mine

end
-- M4d
section
open PySem PySem.W PySem.Calls PyProof.Rows Builtin
set_option maxRecDepth 100000
set_option linter.unusedVariables false
set_option linter.deprecated false
namespace Mine
open PySem.Sem (wp)
namespace BF
theorem slot_get : Slot "bytearray" "__getitem__" "bytearray.__getitem__" :=
  .of (owner := "bytearray") (n := "__getitem__") (by rw [typeLookup_type, builtinLookup_eq_fast]; kernel_rfl) (by decide +kernel) (by decide +kernel) (by decide +kernel)
    (by first | exact .inl (by decide +kernel) | exact .inr (by decide +kernel)) (by rw [isSubtype_type]; kernel_rfl)
theorem slot_set : Slot "bytearray" "__setitem__" "bytearray.__setitem__" :=
  .of (owner := "bytearray") (n := "__setitem__") (by rw [typeLookup_type, builtinLookup_eq_fast]; kernel_rfl) (by decide +kernel) (by decide +kernel) (by decide +kernel)
    (by first | exact .inl (by decide +kernel) | exact .inr (by decide +kernel)) (by rw [isSubtype_type]; kernel_rfl)
theorem slot_len : Slot "bytearray" "__len__" "bytearray.__len__" :=
  .of (owner := "bytearray") (n := "__len__") (by rw [typeLookup_type, builtinLookup_eq_fast]; kernel_rfl) (by decide +kernel) (by decide +kernel) (by decide +kernel)
    (by first | exact .inl (by decide +kernel) | exact .inr (by decide +kernel)) (by rw [isSubtype_type]; kernel_rfl)
theorem entry_get : entryFor table "bytearray.__getitem__" = some Builtin.«bytearray.__getitem__» := by first | exact entryFor_of_tree (by kernel_rfl) | exact entryFor_of_fast (by kernel_rfl)
theorem entry_set : entryFor table "bytearray.__setitem__" = some Builtin.«bytearray.__setitem__» := by first | exact entryFor_of_tree (by kernel_rfl) | exact entryFor_of_fast (by kernel_rfl)
theorem entry_len : entryFor table "bytearray.__len__" = some Builtin.«bytearray.__len__» := by first | exact entryFor_of_tree (by kernel_rfl) | exact entryFor_of_fast (by kernel_rfl)
theorem args_get (a b : Value) : argsOk "bytearray.__getitem__" ⟨[a, b], []⟩ := by unfold argsOk; kernel_rfl
theorem args_set (a b c : Value) : argsOk "bytearray.__setitem__" ⟨[a, b, c], []⟩ := by unfold argsOk; kernel_rfl
theorem args_len (a : Value) : argsOk "bytearray.__len__" ⟨[a], []⟩ := by unfold argsOk; kernel_rfl
theorem slice_index : typeLookup (.type "slice") "__index__" = pure none := by rw [typeLookup_type, builtinLookup_eq_fast]; kernel_rfl
theorem bytes_int : typeLookup (.type "bytes") "__int__" = pure none := by rw [typeLookup_type, builtinLookup_eq_fast]; kernel_rfl
theorem bytes_float : typeLookup (.type "bytes") "__float__" = pure none := by rw [typeLookup_type, builtinLookup_eq_fast]; kernel_rfl
theorem bytes_complex : isSubtype (.type "bytes") (.type "complex") = pure false := by rw [isSubtype_type]; kernel_rfl
theorem bytes_ba : isSubtype (.type "bytes") (.type "bytearray") = pure false := by rw [isSubtype_type]; kernel_rfl
end BF
section
variable {c : Cx} {A : Around} {s : Shared} {L d : Addr} {m : Str → Option Value} {l k : List (Addr × Obj)}
theorem n_callSpecial {T : String} {name : Str} {i : String} {Bi : Builtin} {o : Value} {args : List Value} {Q : Option Value → Shared → Prop} (hT : s.TypeIs o T) (slot : Slot T name i) (hdi : Bytes.decodersThatHold.contains i = false)
    (entry : entryFor table i = some Bi) (hok : argsOk i ⟨o :: args, []⟩)
    (h : N c A.in1 (Bi ⟨o :: args, []⟩) (Ans c A fun f s' => match f with | .ret v => Q (some v) s' | _ => False) s) : N c A (callSpecial? o name args) Q s := by
  have hl := slot.lookup
  have hb := slot.bind o
  (unfold PySem.callSpecial?; try dsimp only)
  with_reducible refine N.bind ?_
  with_reducible refine N.of (wpAny_specialOf (by assumption) (by assumption) ?_)
  with_reducible refine N.holding ?_
  with_reducible refine N.bind ?_
  with_reducible refine N.of (wpAny_of_eq (by assumption) ?_)
  with_reducible refine N.bind ?_
  refine N.call (NC.callB slot.plain hdi entry (N.of (slot.check _ _ _ _ _ _ _ _ hT hok (h.mono fun fin s₂ h₂ => h₂.mono fun f s₃ h₃ => ?_))))
  cases f with
  | ret v => with_reducible refine N.pure ?_
             assumption
  | _ => exact h₃
theorem n_getItem {T : String} {i : String} {Bi : Builtin} {o x : Value} {Q : Value → Shared → Prop} (hT : s.TypeIs o T) (hns : seqItemTypes.contains T = false) (slot : Slot T "__getitem__" i) (hdi : Bytes.decodersThatHold.contains i = false)
    (entry : entryFor table i = some Bi) (hok : argsOk i ⟨[o, x], []⟩) (h : N c A.in1 (Bi ⟨[o, x], []⟩) (Ans c A fun f s' => match f with | .ret v => Q v s' | _ => False) s) : N c A (getItem o x) Q s := by
  unfold getItem
  refine N.holding (N.bind (N.of (wpAny_sequenceKey hT hns ?_)))
  refine N.bind (n_callSpecial hT slot hdi entry hok (h.mono fun fin s₂ h₂ => h₂.mono fun f s₃ h₃ => ?_))
  cases f with
  | ret v => exact N.pure h₃
  | _ => exact h₃
theorem n_setItem {T : String} {i : String} {Bi : Builtin} {o x v : Value} {Q : Unit → Shared → Prop} (hT : s.TypeIs o T) (hns : seqItemTypes.contains T = false) (slot : Slot T "__setitem__" i) (hdi : Bytes.decodersThatHold.contains i = false)
    (entry : entryFor table i = some Bi) (hok : argsOk i ⟨[o, x, v], []⟩) (h : N c A.in1 (Bi ⟨[o, x, v], []⟩) (Ans c A fun f s' => match f with | .ret _ => Q () s' | _ => False) s) : N c A (setItem o x v) Q s := by
  unfold setItem
  refine N.holding (N.bind (N.of (wpAny_sequenceKey hT hns ?_)))
  refine N.bind (n_callSpecial hT slot hdi entry hok (h.mono fun fin s₂ h₂ => h₂.mono fun f s₃ h₃ => ?_))
  cases f with
  | ret v => exact N.pure h₃
  | _ => exact h₃
theorem St.swap {x y : Addr × Obj} (S : St c L m (x :: y :: l) k s) : St c L m (y :: x :: l) k s := S.perm (.swap _ _ _)
theorem St.drop {x : Addr × Obj} (S : St c L m (x :: l) k s) : St c L m l k s := S.sub (List.sublist_cons_self _ _)

abbrev sliceObj (l u : Value) : Obj := { cls := .type "slice", data := .fields #[l, u, .none] }
theorem parts_wp {M : Model} {E : Value → Shared → Prop} {a : Addr} {l u : Value} {lo hi : Option Int} {Q : Value × Value × Value → Shared → Prop} (hl : IsPart l lo) (hu : IsPart u hi) (ho : s.heap.get? a = some (sliceObj l u))
    (h : Q (rawPart lo, rawPart hi, rawPart none) s) : wpAny M A (Bytes.sliceParts (.ref a)) Q E s := by
  have hd : (sliceObj l u).data = .fields #[l, u, .none] := rfl
  unfold Bytes.sliceParts
  refine wpAny_bind (wpAny_field (x := .none) ho hd rfl ?_)
  kby_none
  refine wpAny_ite (KBy.ite_no (show ¬ ((Value.none == rawInt 0) = true) from Bool.false_ne_true) ?_)
  refine wpAny_bind (wpAny_field (x := l) ho hd rfl ?_)
  cases hl <;> cases hu <;> (first
    | (kby_none; (refine wpAny_bind (wpAny_field (x := .none) ho hd rfl ?_)); kby_none)
    | (kby_none; (refine wpAny_bind (wpAny_field (x := .int _ _) ho hd rfl ?_)); kby_int)
    | (kby_int; (refine wpAny_bind (wpAny_field (x := .none) ho hd rfl ?_)); kby_none)
    | (kby_int; (refine wpAny_bind (wpAny_field (x := .int _ _) ho hd rfl ?_)); kby_int)) <;> exact wpAny_pure h
def cutOf (b : List UInt8) (lo hi : Option Int) : List UInt8 := (b.drop (lo.elim 0 (clipAt b.length))).take (hi.elim b.length (clipAt b.length) - lo.elim 0 (clipAt b.length))
theorem picked_cut (b : List UInt8) (lo hi : Option Int) : KBy.picked b.toArray lo hi = (cutOf b lo hi).toArray := by rw [KBc.picked_eq]; simp [cutOf]
theorem noIdx {M : Model} {h : Heap} {a : Addr} {l u : Value} (ho : h.get? a = some (sliceObj l u)) : Looks M h (Bytes.subscript? (.ref a)) none := by
  unfold Bytes.subscript?
  exact (((Looks.ld ho).andThen (Looks.of_pure rfl) : Looks M h (typeOf (.ref a)) (.type "slice")).andThen (Looks.of_pure BF.slice_index)).andThen .now
/-- ba[lo:hi] -/
theorem n_ba_cut {a : Addr} {vl vu : Value} {lo hi : Option Int} {b : List UInt8} {Q : Value → Shared → Prop} (S : St c L m ((a, sliceObj vl vu) :: l) k s) (hm : (d, baObj b) ∈ l) (hl : IsPart vl lo) (hu : IsPart vu hi) (hz : b.length ≤ 16777216)
    (h : ∀ e s', St c L m ((e, baObj (cutOf b lo hi)) :: l) k s' → Q (.ref e) s') : N c A (getItem (.ref d) (.ref a)) Q s := by
  have ha := S.get (.head _)
  have ho := S.get (.tail _ hm)
  refine n_getItem (T := "bytearray") ⟨_, ho, rfl⟩ (by decide) BF.slot_get (by decide +kernel) BF.entry_get (BF.args_get _ _) (N.of ?_)
  show wpAny _ _ (Bytes.subscript? (.ref a) >>= _) _ _ s
  refine wpAny_bind ((noIdx ha).here ?_)
  refine wpAny_bind (wpAny_typeOf (T := "slice") ⟨_, ha, rfl⟩ ?_)
  refine wpAny_ite_false rfl ?_
  refine wpAny_bind (parts_wp hl hu ha ?_)
  unfold Bytes.payload Bytes.payload?
  refine wpAny_bind (wpAny_bind (wpAny_bind (wpAny_load ho (wpAny_pure (wpAny_pure ?_)))))
  refine wpAny_bind (wpAny_of_eq (sliceIndices_raw lo hi none _ (fun e => nomatch e)) ?_)
  have e : Bytes.sliced b.toArray (sliceBounds lo hi none b.toArray.size).1 (sliceBounds lo hi none b.toArray.size).2.1 (sliceBounds lo hi none b.toArray.size).2.2 = (cutOf b lo hi).toArray := picked_cut b lo hi
  rcases hsb : sliceBounds lo hi none b.toArray.size with ⟨x, y, z⟩
  rw [hsb] at e
  dsimp only at e ⊢
  rw [e]
  have hz' : (cutOf b lo hi).length ≤ b.length := by unfold cutOf; rw [List.length_take, List.length_drop]; omega
  unfold Bytes.newBytearray newObj
  refine wpAny_bind ?_
  dsimp only
  refine wpAny_ite_false (by rw [sizeLine_eq]; simp; omega) ?_
  unfold newObjAsIs
  refine wpAny_bind (wpAny_alloc (wpAny_pure ?_))
  exact wpAny_pure (h _ _ ((S.drop).push (t := s.toks) (baObj (cutOf b lo hi))))
/-- x is a source for a slice store -/
structure Source (c : Cx) (h : Heap) (d : Addr) (v : Value) (x : List UInt8) : Prop where
  pay : Looks c.M h (Bytes.payload v) x.toArray
theorem ba_store_end {i j : Nat} {b x : List UInt8} (hij : i ≤ j) (hj : j ≤ b.length) (hx : x.length = j - i) :
    (b.toArray.extract 0 ((i : Int)).toNat ++ x.toArray ++ b.toArray.extract (max (i : Int) (j : Int)).toNat b.toArray.size) = (b.take i ++ x ++ b.drop j).toArray := by
  have : (max (i : Int) (j : Int)).toNat = j := by omega
  rw [this]
  apply Array.ext'
  simp
  exact List.take_of_length_le (by simp)
/-- ba[i:j] = bytes of that size -/
theorem n_ba_put {a : Addr} {vl vu : Value} {lo hi : Option Int} {i j : Nat} {b : List UInt8} {x : Array UInt8} {t : Tok} {Q : Unit → Shared → Prop} (hg : A.guards = some []) (S : St c L m ((a, sliceObj vl vu) :: (d, baObj b) :: l) k s) (hl : IsPart vl lo) (hu : IsPart vu hi)
    (hb : sliceBounds lo hi none b.length = ((i : Int), (j : Int), 1)) (hij : i ≤ j) (hj : j ≤ b.length) (hx : x.size = j - i) (hz : b.length ≤ 16777216)
    (h : ∀ s', St c L m ((d, baObj (b.take i ++ x.toList ++ b.drop j)) :: l) k s' → Q () s') : N c A (setItem (.ref d) (.ref a) (.bytes x t)) Q s := by
  have ha := S.get (.head _)
  have ho := S.get (.tail _ (.head _))
  refine n_setItem (T := "bytearray") ⟨_, ho, rfl⟩ (by decide) BF.slot_set (by decide +kernel) BF.entry_set (BF.args_set _ _ _) ?_
  show N c _ (Bytes.subscript? (.ref a) >>= _) _ s
  refine N.bind (N.of ((noIdx ha).here ?_))
  refine N.bind (N.of (wpAny_typeOf (T := "slice") ⟨_, ha, rfl⟩ ?_))
  refine N.boolneg rfl ?_
  refine N.bind (N.of (parts_wp hl hu ha ?_))
  have T : s.TypeIs (.bytes x t) "bytes" := typeIs_bytes _ _ _
  refine N.boolneg rfl (N.bind (N.of (wpAny_isInstance T BF.bytes_ba ?_)))
  refine N.boolpos rfl ?_
  have l1 := BF.bytes_index
  have l2 := BF.bytes_int
  have l3 := BF.bytes_float
  have l4 := BF.bytes_complex
  with_reducible refine N.bind ?_
  with_reducible refine N.of (wpAny_isInstance (by assumption) (by assumption) ?_)
  with_reducible refine N.bind ?_
  (unfold PySem.asStr?; try dsimp only)
  with_reducible refine N.bind ?_
  (unfold PySem.notAStandIn; try dsimp only)
  with_reducible refine N.pure ?_
  with_reducible refine N.pure ?_
  ((with_reducible apply N.boolneg); focus (rfl; done))
  with_reducible refine N.bind ?_
  with_reducible refine N.of (wpAny_rule ?_)
  with_reducible refine N.bind ?_
  refine n_ba_bytes S hg (by omega) fun e s₁ S₁ => ?_
  have he := S₁.get (.head _)
  have ha := S₁.get (.tail _ (.head _))
  have ho := S₁.get (.tail _ (.tail _ (.head _)))
  refine N.bind (N.holding (N.of (parts_wp hl hu ha ?_)))
  refine N.bind (ba_payload he ?_)
  refine N.bind (ba_payload ho ?_)
  refine N.bind (N.of (wpAny_of_eq (sliceIndices_raw lo hi none _ (fun e => nomatch e)) ?_))
  rw [show b.toArray.size = b.length by simp, hb]
  refine N.boolpos rfl (N.bind (N.of (wpAny_rule ?_)))
  refine N.boolneg (by
    have : (x.toList.toArray.size : Int) = max (i : Int) j - i := by simp; omega
    rw [this]; simp) ?_
  refine N.bind (ba_write (b' := b.take i ++ x.toList ++ b.drop j) S₁.drop.drop (ba_store_end hij hj (by simpa using hx)) (by simp; omega) fun s₂ S₂ => N.pure (h _ S₂))
/-- ba[i:j] = another bytearray of that size -/
theorem n_ba_putA {a e : Addr} {vl vu : Value} {lo hi : Option Int} {i j : Nat} {b x : List UInt8} {Q : Unit → Shared → Prop} (S : St c L m ((a, sliceObj vl vu) :: (d, baObj b) :: l) k s) (hm : (e, baObj x) ∈ l) (hl : IsPart vl lo) (hu : IsPart vu hi)
    (hb : sliceBounds lo hi none b.length = ((i : Int), (j : Int), 1)) (hij : i ≤ j) (hj : j ≤ b.length) (hx : x.length = j - i) (hz : b.length ≤ 16777216)
    (h : ∀ s', St c L m ((d, baObj (b.take i ++ x ++ b.drop j)) :: l) k s' → Q () s') : N c A (setItem (.ref d) (.ref a) (.ref e)) Q s := by
  have ha := S.get (.head _)
  have ho := S.get (.tail _ (.head _))
  have he := S.get (.tail _ (.tail _ hm))
  have hne : e ≠ d := by
    obtain ⟨_, _, S⟩ := S
    have D := S.nd
    rw [List.cons_append, List.map_cons, List.nodup_cons, List.cons_append, List.map_cons, List.nodup_cons] at D
    rintro rfl
    exact D.2.1 (List.mem_map.mpr ⟨_, List.mem_append_left _ hm, rfl⟩)
  refine n_setItem (T := "bytearray") ⟨_, ho, rfl⟩ (by decide) BF.slot_set (by decide +kernel) BF.entry_set (BF.args_set _ _ _) ?_
  show N c _ (Bytes.subscript? (.ref a) >>= _) _ s
  refine N.bind (N.of ((noIdx ha).here ?_))
  refine N.bind (N.of (wpAny_typeOf (T := "slice") ⟨_, ha, rfl⟩ ?_))
  refine N.boolneg rfl ?_
  refine N.bind (N.of (parts_wp hl hu ha ?_))
  refine N.boolneg (by simp [Bytes.sameRef]; exact Ne.symm hne) ?_
  refine N.bind (N.of (wpAny_isInstance (T := "bytearray") ⟨_, he, rfl⟩ BF.sub_self ?_))
  refine N.boolneg rfl ?_
  refine N.bind (ba_payload he ?_)
  refine N.bind (ba_payload ho ?_)
  refine N.bind (N.of (wpAny_of_eq (sliceIndices_raw lo hi none _ (fun e => nomatch e)) ?_))
  rw [show b.toArray.size = b.length by simp, hb]
  refine N.boolpos rfl (N.bind (N.of (wpAny_rule ?_)))
  refine N.boolneg (by
    have : (x.toArray.size : Int) = max (i : Int) j - i := by simp; omega
    rw [this]; simp) ?_
  refine N.bind (ba_write (b' := b.take i ++ x ++ b.drop j) S.drop (ba_store_end hij hj hx) (by simp; omega) fun s₂ S₂ => N.pure (h _ S₂))
end
end Mine

end
-- M4e
section
open PySem PySem.W PySem.Calls PyProof.Rows Builtin
set_option maxRecDepth 100000
set_option linter.unusedVariables false
set_option linter.deprecated false
namespace Mine
open PySem.Sem (wp)
namespace SF
theorem slot_pack : Slot "_struct.Struct" "pack_into" "_struct.Struct.pack_into" :=
  .of (owner := "_struct.Struct") (n := "pack_into") (by rw [typeLookup_type, builtinLookup_eq_fast]; kernel_rfl) (by decide +kernel) (by decide +kernel) (by decide +kernel)
    (by first | exact .inl (by decide +kernel) | exact .inr (by decide +kernel)) (by rw [isSubtype_type]; kernel_rfl)
theorem entry_pack : entryFor table "_struct.Struct.pack_into" = some Builtin.«_struct.Struct.pack_into» := by first | exact entryFor_of_tree (by kernel_rfl) | exact entryFor_of_fast (by kernel_rfl)
theorem entry_held : entryFor table "_struct.pack_into.held" = some Builtin.«_struct.pack_into.held» := by first | exact entryFor_of_tree (by kernel_rfl) | exact entryFor_of_fast (by kernel_rfl)
theorem args_pack (a b c d : Value) : argsOk "_struct.Struct.pack_into" ⟨[a, b, c, d], []⟩ := by unfold argsOk; kernel_rfl
theorem parse_B : Struct.parse #[60, 66] = pure ⟨false, false, [⟨'B', 1, 0, 1⟩], 1, 1⟩ := by kernel_rfl
theorem parse_q : Struct.parse #[60, 113] = pure ⟨false, false, [⟨'q', 1, 0, 8⟩], 8, 1⟩ := by kernel_rfl
theorem ty_pack : typeOf (.builtin "_struct.Struct.pack_into") = pure (.type "method_descriptor") := by kernel_rfl
theorem plain : PlainAttrs "_struct.Struct" := ⟨⟨"_struct.Struct.__getattribute__", by rw [typeLookup_type, builtinLookup_eq_fast]; kernel_rfl, by decide +kernel⟩, by rw [typeLookup_type, builtinLookup_eq_fast]; kernel_rfl⟩
theorem quiet_held (a : Args) : (Code.builtin "_struct.pack_into.held" a).quiet = true := Code.quiet_builtin _ (by decide +kernel)
end SF
/-- the octets of i, w wide, the least first -/
def le (w : Nat) (i : Int) : List UInt8 := (Struct.intBytes false w i).toList
theorem le_length (w : Nat) (i : Int) : (le w i).length = w := by simp [le, Struct.intBytes, Memoryview.toLittleEndian]
/-- b with x laid over it from p on -/
def over (b : List UInt8) (p : Nat) (x : List UInt8) : List UInt8 := b.take p ++ x ++ b.drop (p + x.length)
theorem over_length {b x : List UInt8} {p : Nat} (h : p + x.length ≤ b.length) : (over b p x).length = b.length := by simp [over]; omega
theorem over_over {b x y : List UInt8} {p : Nat} (e : x.length = y.length) (h : p + x.length ≤ b.length) : over (over b p x) p y = over b p y := by
  have h1 : (b.take p).length = p := by simp; omega
  unfold over
  congr 1
  · congr 1
    rw [List.append_assoc, List.take_append_of_le_length (by omega), List.take_of_length_le (by omega)]
  · rw [← e, List.drop_append, List.drop_of_length_le (by rw [List.length_append]; omega), List.nil_append, List.length_append, h1, Nat.sub_self, List.drop_zero]
theorem fold_over (p : Nat) : ∀ (x : List UInt8) (j : Nat) (out : Array UInt8), p + j + x.length ≤ out.size →
    (x.zipIdx j).foldl (fun out (y : UInt8 × Nat) => out.setIfInBounds (p + y.2) y.1) out = (over out.toList (p + j) x).toArray
  | [], j, out, _ => by simp [over]
  | y :: x, j, out, h => by
    rw [List.length_cons] at h
    rw [List.zipIdx_cons, List.foldl_cons, fold_over p x (j + 1) _ (by rw [Array.size_setIfInBounds]; omega)]
    congr 1
    have hlt : p + j < out.toList.length := by rw [Array.length_toList]; omega
    unfold over
    rw [Array.toList_setIfInBounds]
    have e1 : (out.toList.set (p + j) y).take (p + (j + 1)) = out.toList.take (p + j) ++ [y] := by
      rw [show p + (j + 1) = (p + j) + 1 by omega, List.take_add_one, List.take_set_of_le (by omega), List.getElem?_set_self hlt]
      rfl
    have e2 : (out.toList.set (p + j) y).drop (p + (j + 1) + x.length) = out.toList.drop (p + j + (y :: x).length) := by
      rw [List.drop_set_of_lt (by omega)]
      congr 1
      simp; omega
    rw [e1, e2]
    simp
section
variable {c : Cx} {A : Around} {s : Shared} {L d st : Addr} {m : Str → Option Value} {l k : List (Addr × Obj)}
/-- what a struct of one number takes -/
structure Pk (fmt : Array UInt8) (w : Nat) (lo hi : Int) : Prop where
  parse : ∃ ch : Char, Struct.parse fmt = pure ⟨false, false, [⟨ch, 1, 0, w⟩], w, 1⟩ ∧ (ch = 'B' ∧ w = 1 ∧ lo = 0 ∧ hi = 255 ∨ ch = 'H' ∧ w = 2 ∧ lo = 0 ∧ hi = 65535 ∨ ch = 'I' ∧ w = 4 ∧ lo = 0 ∧ hi = 4294967295 ∨
    ch = 'Q' ∧ w = 8 ∧ lo = 0 ∧ hi = 18446744073709551615 ∨ ch = 'i' ∧ w = 4 ∧ lo = -2147483648 ∧ hi = 2147483647 ∨ ch = 'q' ∧ w = 8 ∧ lo = -9223372036854775808 ∧ hi = 9223372036854775807)
theorem Pk.B : Pk #[60, 66] 1 0 255 := ⟨'B', by kernel_rfl, .inl ⟨rfl, rfl, rfl, rfl⟩⟩
theorem Pk.H : Pk #[60, 72] 2 0 65535 := ⟨'H', by kernel_rfl, .inr (.inl ⟨rfl, rfl, rfl, rfl⟩)⟩
theorem Pk.I : Pk #[60, 73] 4 0 4294967295 := ⟨'I', by kernel_rfl, .inr (.inr (.inl ⟨rfl, rfl, rfl, rfl⟩))⟩
theorem Pk.Q : Pk #[60, 81] 8 0 18446744073709551615 := ⟨'Q', by kernel_rfl, .inr (.inr (.inr (.inl ⟨rfl, rfl, rfl, rfl⟩)))⟩
theorem Pk.i : Pk #[60, 105] 4 (-2147483648) 2147483647 := ⟨'i', by kernel_rfl, .inr (.inr (.inr (.inr (.inl ⟨rfl, rfl, rfl, rfl⟩))))⟩
theorem Pk.q : Pk #[60, 113] 8 (-9223372036854775808) 9223372036854775807 := ⟨'q', by kernel_rfl, .inr (.inr (.inr (.inr (.inr ⟨rfl, rfl, rfl, rfl⟩))))⟩

theorem held {own : Value} {fmt : Array UInt8} {w p : Nat} {lo hi i : Int} {tp ti tf : Tok} {b : List UInt8} {Q : PySem.Fin → Shared → Prop} (hf : Pk fmt w lo hi) (S : St c L m ((d, baObj b) :: l) k s) (hp : p + w ≤ b.length) (hz : b.length ≤ 16777216)
    (h0 : lo ≤ i) (h1 : i ≤ hi) (h : ∀ s', St c L m ((d, baObj (over b p (le w i))) :: l) k s' → Q (.done (.ret .none)) s') :
    N c A (Builtin.«_struct.pack_into.held» ⟨[.ref d, .ref d, rawInt 0, rawInt b.length, own, .bytes fmt tf, .int p tp, .int i ti], []⟩) Q s := by
  obtain ⟨ch, hparse, hc⟩ := hf.parse
  show N c A (Bytes.payload (.bytes fmt tf) >>= fun x => Struct.parse x >>= fun f => Struct.packHeld _ f (.ref d) (0 : Int).toNat ((b.length : Nat) : Int).toNat (.int p tp) [.int i ti]) Q s
  refine N.bind (N.of (wpAny_of_eq (a := fmt) rfl ?_))
  refine N.bind (N.of (wpAny_of_eq hparse ?_))
  unfold Struct.packHeld
  rw [show asIndex (.int p tp) = pure (p : Int) from rfl]
  rw [pure_bind]
  have hfi : (!Bytes.fitsIndex (p : Int)) = false := by unfold Bytes.fitsIndex; simp only [Bool.not_eq_false', Bool.and_eq_true, decide_eq_true_eq]; omega
  rw [hfi]
  refine N.boolneg rfl ?_
  have hpl : Struct.placeIn "pack_into" "packing" "no space to pack" ⟨false, false, [⟨ch, 1, 0, w⟩], w, 1⟩ (b.length : Int).toNat p = pure p := by
    have h2 : ¬ ((((b.length : Nat) : Int).toNat : Int) - (p : Int) < (w : Int)) := by omega
    have h3 : ¬ ((p : Int) < 0) := by omega
    unfold Struct.placeIn
    simp only [if_neg h3, if_neg h2]
    rfl
  refine N.bind (N.of (wpAny_of_eq hpl ?_))
  rw [show Int.toNat 0 + p = p by simp]
  have hzl : p + (List.replicate w (0 : UInt8)).length ≤ b.length := by rw [List.length_replicate]; exact hp
  have hol : (over b p (List.replicate w 0)).length = b.length := over_length hzl
  refine N.bind (ba_write (b' := over b p (List.replicate w 0)) S ?_ (by omega) fun s₁ S₁ => ?_)
  · exact fold_over p (List.replicate w 0) 0 b.toArray (by simpa using hp)
  have hll := le_length w i
  have hlt : ¬ (i < lo ∨ i > hi) := by omega
  have hb' : p + (le w i).length ≤ (over b p (List.replicate w 0)).toArray.size := by rw [hll, List.size_toArray, hol]; omega
  have fin : ((le w i).zipIdx 0).foldl (fun out (y : UInt8 × Nat) => out.setIfInBounds (p + y.2) y.1) (over b p (List.replicate w 0)).toArray = (over b p (le w i)).toArray := by
    rw [fold_over p (le w i) 0 _ (by simpa using hb')]
    show (over (over b p (List.replicate w 0)) p (le w i)).toArray = _
    rw [over_over (by rw [List.length_replicate, hll]) hzl]
  unfold Struct.packEach
  rcases hc with ⟨rfl, rfl, rfl, rfl⟩ | ⟨rfl, rfl, rfl, rfl⟩ | ⟨rfl, rfl, rfl, rfl⟩ | ⟨rfl, rfl, rfl, rfl⟩ | ⟨rfl, rfl, rfl, rfl⟩ | ⟨rfl, rfl, rfl, rfl⟩
  all_goals
    simp only [Std.Legacy.Range.forIn_eq_forIn_range', Std.Legacy.Range.size, Nat.sub_zero, Nat.add_sub_cancel, Nat.div_one, List.range', List.forIn_cons, List.forIn_nil]
    with_reducible refine N.bind ?_
    with_reducible refine N.bind ?_
    with_reducible refine N.bind ?_
    refine N.boolneg (by decide) (N.boolneg (by decide) ?_)
    refine N.bind (N.bind (N.bind ?_))
    k_delta "packOne"
    try dsimp only
    refine N.bind ?_
    k_delta "intArg"
    refine N.of (wpAny_attempt (wpAny_bind (wpAny_pure (wpAny_pure ?_))))
    dsimp only
    refine N.bind (N.pure ?_)
    refine N.boolneg (by simp [-Int.reducePow] <;> omega) ?_
    refine N.pure (N.bind (ba_write S₁ fin (by rw [over_length (by rw [hll]; exact hp)]; exact hz) fun s₂ S₂ => ?_))
    exact N.pure (N.pure (N.pure (N.pure (N.pure (N.pure (h _ S₂))))))

theorem n_pack {dd : Option Addr} {vs : Array Value} {sl : Array (Option Value)} {fmt : Array UInt8} {w p : Nat} {lo hi i : Int} {tp ti tf : Tok} {b : List UInt8} {Q : Value → Shared → Prop} (hf : Pk fmt w lo hi) (S : St c L m ((d, baObj b) :: l) k s)
    (hst : s.heap.get? st = some ⟨.type "_struct.Struct", dd, .fields vs, sl⟩) (hv : vs[0]? = some (.bytes fmt tf)) (hp : p + w ≤ b.length) (hz : b.length ≤ 16777216)
    (h0 : lo ≤ i) (h1 : i ≤ hi) (h : ∀ s', St c L m ((d, baObj (over b p (le w i))) :: l) k s' → Q .none s') :
    N c A (call (.builtin "_struct.Struct.pack_into") [.ref st, .ref d, .int p tp, .int i ti]) Q s := by
  obtain ⟨ch, hparse, hc⟩ := id hf.parse
  have ho := S.get (.head _)
  have hT : s.TypeIs (.ref d) "bytearray" := ⟨_, ho, rfl⟩
  have hlb := BF.look_buffer
  refine N.call (NC.callB SF.slot_pack.plain (by decide +kernel) SF.entry_pack (N.of (SF.slot_pack.check _ _ _ _ _ _ _ _ ⟨_, hst, rfl⟩ (SF.args_pack _ _ _ _) ?_)))
  have fl : Looks c.M s.heap (field (.ref st) 0) (.bytes fmt tf) := looks_field hst 0 hv
  show N c _ (Struct.structFormat (.ref st) >>= fun x => (field (.ref st) 0 >>= fun v => Struct.packInto (.ref st) v x.2 [.ref d, .int p tp, .int i ti])) _ s
  refine N.bind ?_
  unfold Struct.structFormat
  refine N.bind (N.of (fl.here ?_))
  refine N.boolneg rfl ?_
  refine N.bind (N.of (wpAny_of_eq (a := fmt) rfl ?_))
  refine N.bind (N.of (wpAny_of_eq hparse (N.pure ?_)))
  refine N.bind (N.of (fl.here ?_))
  unfold Struct.packInto
  refine N.boolneg rfl ?_
  refine N.bind (N.of (wpAny_specialOf hT hlb ?_))
  refine N.bind (ba_payload ho (N.bind (N.pure ?_)))
  refine N.pure ⟨SF.quiet_held _, NC.builtin (by decide +kernel) SF.entry_held ?_⟩
  rw [show b.toArray.size = b.length by simp]
  exact held hf S hp hz h0 h1 fun s' S' => h _ S'
theorem n_pack_meth {dd : Option Addr} {vs : Array Value} {sl : Array (Option Value)} {pl : Sem Bool} {Q : Value × List Value → Shared → Prop} (hst : s.heap.get? st = some ⟨.type "_struct.Struct", none, .fields vs, sl⟩)
    (h : Q (.builtin "_struct.Struct.pack_into", [.ref st]) s) : N c A (getMethod (.ref st) "pack_into" pl) Q s :=
  N.of (getMethod_builtin ⟨_, hst, rfl⟩ SF.plain SF.slot_pack SF.ty_pack (fun a e => by cases e; exact ⟨_, hst, rfl⟩) h)
theorem n_ba_len {b : List UInt8} {Q : Value → Shared → Prop} (S : St c L m l k s) (hm : (d, baObj b) ∈ l) (hz : b.length ≤ 16777216) (h : ∀ t s', St c L m l k s' → Q (.int b.length t) s') : N c A (call (.builtin "len") [.ref d]) Q s := by
  have ho := S.get hm
  have hT : s.TypeIs (.ref d) "bytearray" := ⟨_, ho, rfl⟩
  refine N.of (call_len_slot hT BF.slot_len (fun Q' hq => wpAny_call_entry BF.slot_len hT BF.entry_len ?_ (BF.args_len _)) (n := (b.length : Int)) (by omega) (by omega) (h _ _ S.tok))
  show wpAny _ _ (Bytes.payload (.ref d) >>= fun b => retInt b.size) _ _ _
  unfold Bytes.payload Bytes.payload?
  refine wpAny_bind (wpAny_bind (wpAny_bind (wpAny_load ho (wpAny_pure (wpAny_pure ?_)))))
  refine wpAny_ret_mkInt ?_
  simpa using hq
end
end Mine

end
-- M5
section
open PySem PySem.W PySem.Calls PyProof.Rows
set_option maxRecDepth 100000
set_option linter.unusedVariables false
set_option linter.deprecated false
namespace Mine
open PySem.Sem (wp)
/-- room for n calls, one in the other -/
structure Rm (A : Around) (n : Nat) : Prop where
  d : A.depth + n < recursionLimit
  u : A.units + 8 * n < cLine
  g : A.guards = some []
  h : A.handled = none
theorem Rm.le {A : Around} {n n' : Nat} (R : Rm A n) (h : n' ≤ n) : Rm A n' := ⟨by have := R.d; omega, by have := R.u; omega, R.g, R.h⟩
theorem Rm.deep {A : Around} {env : Env} {n : Nat} (R : Rm A (n + 1)) : Rm (A.deeper env) n := ⟨by have := R.d; show A.depth + 1 + n < _; omega, by have := R.u; show A.units + 3 + 8 * n < _; omega, R.g, R.h⟩
theorem Rm.depth {A : Around} {n : Nat} (R : Rm A n) : A.depth < recursionLimit := by have := R.d; omega
section
variable {c : Cx} {A : Around} {s : Shared} {L d : Addr} {m : Str → Option Value} {l k : List (Addr × Obj)} {x y : Int} {t u : Tok} {env : Env}
theorem ii_add {Q : Value → Shared → Prop} (S : St c L m l k s) (h : ∀ t s', St c L m l k s' → Q (.int (x + y) t) s') : N c A (inplaceOp .Add (.int x t) (.int y u)) Q s := N.of (PyProof.Rows.iadd_int (h _ _ S.tok))
theorem ii_sub {Q : Value → Shared → Prop} (S : St c L m l k s) (h : ∀ t s', St c L m l k s' → Q (.int (x - y) t) s') : N c A (inplaceOp .Sub (.int x t) (.int y u)) Q s := N.of (PyProof.Rows.isub_int (h _ _ S.tok))
theorem ii_and {Q : Value → Shared → Prop} (S : St c L m l k s) (h : ∀ t s', St c L m l k s' → Q (.int (Builtin.bitAnd x y) t) s') : N c A (inplaceOp .BitAnd (.int x t) (.int y u)) Q s := N.of (PyProof.Rows.iand_int (h _ _ S.tok))
theorem ii_mul {Q : Value → Shared → Prop} (S : St c L m l k s) (hm : IntMulOk x y) (h : ∀ t s', St c L m l k s' → Q (.int (x * y) t) s') : N c A (inplaceOp .Mult (.int x t) (.int y u)) Q s := N.of (PyProof.Rows.imul_int (h _ _ S.tok) hm)
theorem c_ge {Q : Value → Shared → Prop} (h : Q (.bool (decide (y ≤ x))) s) : N c A (compareOp .GtE (.int x t) (.int y u)) Q s := N.of (PyProof.Rows.ge_int h)
theorem e_slice_lo {e : Expr} {p : Pos} {Q : Value → Shared → Prop} (h : N c A (eval e env) (fun v s₁ => N c A (newFields "slice" [v, .none, .none]) Q s₁) s) : N c A (eval (.Slice (some e) none none p) env) Q s := by
  rw [arm_eval_Slice]
  exact N.bind (h.mono fun v s₁ h => N.bind (N.holding (N.pure (N.bind (N.holding (N.pure h))))))
theorem e_slice_up {e : Expr} {p : Pos} {Q : Value → Shared → Prop} (h : N c A (eval e env) (fun v s₁ => N c A (newFields "slice" [.none, v, .none]) Q s₁) s) : N c A (eval (.Slice none (some e) none p) env) Q s := by
  rw [arm_eval_Slice]
  exact N.bind (N.pure (N.bind (N.holding (h.mono fun v s₁ h => N.bind (N.holding (N.pure h))))))
theorem e_slice_lu {e e' : Expr} {p : Pos} {Q : Value → Shared → Prop} (h : N c A (eval e env) (fun v s₁ => N c A (eval e' env) (fun v' s₂ => N c A (newFields "slice" [v, v', .none]) Q s₂) s₁) s) : N c A (eval (.Slice (some e) (some e') none p) env) Q s := by
  rw [arm_eval_Slice]
  exact N.bind (h.mono fun v s₁ h => N.bind (N.holding (h.mono fun v s₁ h => N.bind (N.holding (N.pure h)))))
theorem r_slice {v v' : Value} {Q : Value → Shared → Prop} (S : St c L m l k s) (h : ∀ a s', St c L m ((a, sliceObj v v') :: l) k s' → Q (.ref a) s') : N c A (newFields "slice" [v, v', .none]) Q s :=
  N.of (wpAny_newObj_type (h _ _ (S.push (t := s.toks) (sliceObj v v'))))
/-- o[i] of a thing whose type keeps its own __getitem__ -/
theorem r_item {T id : String} {o i : Value} {slice : Expr} {Q : Value → Shared → Prop} (hT : s.TypeIs o T) (hl : typeLookup (.type T) "__getitem__" = pure (some (.builtin id))) (h : N c A (getItem o i) Q s)
    (hs : ∀ o i, subscripted slice false o i = operate [i, o] (getItem o i) ∨ subscripted slice false o i = operate [o, i] (getItem o i)) : N c A (getitemInPython o >>= fun b => subscripted slice b o i) Q s := by
  refine N.bind ?_
  unfold getitemInPython
  refine N.bind (N.of (wpAny_specialOf hT hl ?_))
  refine N.pure ?_
  rcases hs o i with e | e <;> (rw [e]; exact N.operate h)
theorem r_item_ba {b : List UInt8} {i : Value} {slice : Expr} {Q : Value → Shared → Prop} (S : St c L m l k s) (hm : (d, baObj b) ∈ l) (h : N c A (getItem (.ref d) i) Q s)
    (hs : ∀ o i, subscripted slice false o i = operate [i, o] (getItem o i) ∨ subscripted slice false o i = operate [o, i] (getItem o i)) : N c A (getitemInPython (.ref d) >>= fun b => subscripted slice b (.ref d) i) Q s :=
  r_item ⟨_, S.get hm, rfl⟩ BF.slot_get.lookup h hs
end
end Mine


namespace Mine

theorem g_no {b : Bool} {P Q : Prop} (h : b = false) (q : Q) : if b = true then P else Q := by rw [if_neg (by rw [h]; decide)]; exact q
theorem g_yes {b : Bool} {P Q : Prop} (h : b = true) (p : P) : if b = true then P else Q := by rw [if_pos h]; exact p
end Mine

end
-- M6
section
open PySem PySem.W PySem.Calls PyProof.Rows
set_option maxRecDepth 100000
set_option linter.unusedVariables false
set_option linter.deprecated false
namespace Mine
/-- room doubled till it is t at least -/
def growN (t room : Nat) : Nat := if h : t ≤ room then room else growN t (if room = 0 then 1 else 2 * room)
termination_by t - room
decreasing_by split <;> omega
theorem growN_pos {t room : Nat} (h : t ≤ room) : growN t room = room := by rw [growN, dif_pos h]
theorem growN_neg {t room : Nat} (h : ¬ t ≤ room) : growN t room = growN t (if room = 0 then 1 else 2 * room) := by rw [growN, dif_neg h]
theorem growN_ge (t room : Nat) : t ≤ growN t room ∧ room ≤ growN t room := by
  induction room using growN.induct (t := t) with
  | case1 room h => rw [growN_pos h]; exact ⟨h, Nat.le_refl _⟩
  | case2 room h ih => rw [growN_neg h]; refine ⟨ih.1, Nat.le_trans ?_ ih.2⟩; split <;> omega
theorem growN_le (t room : Nat) : growN t room ≤ max room (2 * t) := by
  induction room using growN.induct (t := t) with
  | case1 room h => rw [growN_pos h]; omega
  | case2 room h ih => rw [growN_neg h]; refine Nat.le_trans ih ?_; split <;> omega
/-- the buffer holds out at its end; hd tells where it begins -/
structure BufOk (hd : Int) (buf out : List UInt8) (room : Nat) : Prop where
  len : buf.length = room
  small : room ≤ 16777216
  le : out.length ≤ room
  hd : hd = ((room - out.length : Nat) : Int)
  tail : buf.drop (room - out.length) = out
theorem BufOk.push {hd hd' : Int} {buf out x : List UInt8} {room : Nat} (B : BufOk hd buf out room) (hx : x.length + out.length ≤ room) (e : hd' = hd - x.length) : BufOk hd' (over buf hd'.toNat x) (x ++ out) room := by
  obtain ⟨h1, h2, h3, h4, h5⟩ := B
  have e' : hd' = ((room - out.length - x.length : Nat) : Int) := by omega
  have en : hd'.toNat = room - out.length - x.length := by omega
  have ov : over buf hd'.toNat x = buf.take (room - out.length - x.length) ++ (x ++ out) := by
    rw [en]
    unfold over
    rw [List.append_assoc, show room - out.length - x.length + x.length = room - out.length by omega, h5]
  have ht : (buf.take (room - out.length - x.length)).length = room - out.length - x.length := by rw [List.length_take]; omega
  have hr : room - (x ++ out).length = room - out.length - x.length := by rw [List.length_append]; omega
  refine ⟨?_, h2, by rw [List.length_append]; omega, by rw [hr]; exact e', ?_⟩
  · rw [ov, List.length_append, List.length_append, ht]; omega
  · rw [ov, hr, List.drop_left' ht]
/-- what Prep puts ahead -/
def fillN (size o : Nat) : Nat := ((-(o : Int)) % (size : Int)).toNat
theorem fillN_lt {size o : Nat} (h : 0 < size) : fillN size o < size := by
  have := Int.emod_lt_of_pos (-(o : Int)) (show (0 : Int) < size by omega)
  have := Int.emod_nonneg (-(o : Int)) (show (size : Int) ≠ 0 by omega)
  unfold fillN; omega
theorem fillN_cast {size o : Nat} (h : 0 < size) : ((fillN size o : Nat) : Int) = (-(o : Int)) % (size : Int) := by
  have := Int.emod_nonneg (-(o : Int)) (show (size : Int) ≠ 0 by omega)
  unfold fillN; omega
def Width (size : Nat) : Prop := size = 1 ∨ size = 2 ∨ size = 4 ∨ size = 8
theorem and_fill {size : Nat} (hs : Width size) (o : Nat) : Builtin.bitAnd (Builtin.bitNot (o : Int) + 1) ((size : Int) - 1) = (fillN size o : Nat) := by
  have e : Builtin.bitNot (o : Int) + 1 = -(o : Int) := by
    show (-(o : Int) - 1) + 1 = _
    omega
  rw [e]
  rcases hs with rfl | rfl | rfl | rfl <;> rw [fillN_cast (by decide)]
  · show Builtin.bitAnd (-(o : Int)) 0 = (-(o : Int)) % 1
    rw [Int.emod_one, bitAnd_zero]
  · exact bitAnd_m1 _
  · exact bitAnd_m2 _
  · exact bitAnd_m3 _

section
variable {c : Cx} {A : Around} {s : Shared} {L d a e : Addr} {m : Str → Option Value} {l k : List (Addr × Obj)} {t u : Tok} {env : Env}
theorem r_cbytes {x : List UInt8} {q : Nat} {pos : Pos} {Q : Value → Shared → Prop} (S : St c L m l k s) (h : ∀ t s', St c L m l k s' → Q (.bytes x.toArray t) s') : N c A (eval (.Constant (.bytes x) q pos) env) Q s := N.of (Constant_bytes (h _ _ S.tok))
theorem y_mul {x : List UInt8} {n : Int} {Q : Value → Shared → Prop} (S : St c L m l k s) (hx : x ≠ []) (hs : x.length ≤ 16) (h0 : 0 ≤ n) (h1 : n ≤ 1048576) (h : ∀ t s', St c L m l k s' → Q (.bytes ((List.replicate n.toNat x).flatten).toArray t) s') :
    N c A (binaryOp .Mult (.bytes x.toArray t) (.int n u)) Q s := N.of (bytes_mul_any hx (by omega) h1 hs fun t' k' => h _ _ S.tok)
theorem y_mul1 {x : UInt8} {n : Nat} {Q : Value → Shared → Prop} (S : St c L m l k s) (h1 : n ≤ 1048576) (h : ∀ t s', St c L m l k s' → Q (.bytes (List.replicate n x).toArray t) s') :
    N c A (binaryOp .Mult (.bytes [x].toArray t) (.int n u)) Q s := y_mul S (by simp) (by simp) (by omega) (by omega) fun t s' S' => by
  have e : (List.replicate ((n : Int).toNat) [x]).flatten = List.replicate n x := by rw [Int.toNat_natCast, List.flatten_replicate_singleton]
  rw [e]; exact h t s' S'
theorem bounds_lu {i j : Int} {n p q : Nat} (hi : i = p) (hj : j = q) (h1 : p ≤ n) (h2 : q ≤ n) : sliceBounds (some i) (some j) none n = ((p : Int), (q : Int), 1) := by
  subst hi hj
  rw [sliceBounds_plain]
  simp only [Option.elim, clipAt_nat, Nat.min_eq_left h1, Nat.min_eq_left h2]
theorem bounds_l {i : Int} {n p : Nat} (hi : i = p) (h1 : p ≤ n) : sliceBounds (some i) none none n = ((p : Int), (n : Int), 1) := by
  subst hi
  rw [sliceBounds_plain]
  simp only [Option.elim, clipAt_nat, Nat.min_eq_left h1]
/-- ba[i:j] = bytes of that size; another object stands ahead -/
theorem put_b {o : Addr × Obj} {i j : Int} {ti tj : Tok} {b x : List UInt8} {Q : Unit → Shared → Prop} (hg : A.guards = some []) (S : St c L m ((a, sliceObj (.int i ti) (.int j tj)) :: o :: (d, baObj b) :: l) k s)
    (h0 : 0 ≤ i) (hx : j = i + x.length) (hj : j ≤ b.length) (hz : b.length ≤ 16777216) (h : ∀ s', St c L m (o :: (d, baObj (over b i.toNat x)) :: l) k s' → Q () s') : N c A (setItem (.ref d) (.ref a) (.bytes x.toArray t)) Q s := by
  refine n_ba_put (i := i.toNat) (j := j.toNat) hg (S.perm (.cons _ (.swap _ _ _))) (.int _ _) (.int _ _) (bounds_lu (by omega) (by omega) (by omega) (by omega)) (by omega) (by omega) (by rw [List.size_toArray]; omega) hz fun s' S' => h _ ?_
  have e : j.toNat = i.toNat + x.length := by omega
  rw [e] at S'
  exact S'.swap
end

theorem mulOk {x y : Int} (h : y.natAbs < 2 ^ 64) : IntMulOk x y := by
  refine IntMulOk.of_right ?_
  unfold Builtin.Int.intBits
  split
  · omega
  · rename_i h0
    have : y.natAbs ≠ 0 := by simpa using h0
    have := (Nat.log2_lt this).mpr h
    omega
section
variable {c : Cx} {A : Around} {s : Shared} {L d a e : Addr} {m : Str → Option Value} {l k : List (Addr × Obj)} {t u : Tok} {env : Env} {x y : Int}
theorem k_int {Q : Value → Shared → Prop} (h : Q (.int x t) s) : N c A (call (.type "int") [.int x t]) Q s := N.of (call_int_int h)

theorem St.grown {h' : Heap} {tk : Nat} (S : St c L m l k s) (hk : ∀ a o, s.heap.get? a = some o → h'.get? a = some o) : St c L m l k { s with heap := h', toks := tk } :=
  let ⟨D, hD, S⟩ := S; ⟨D, hD, S.fr.keptAll hk, S.nw.grown hk, S.nd, S.gens, S.os, S.kin, S.top⟩
theorem k_min {Q : Value → Shared → Prop} (S : St c L m l k s) (hh : A.handled = none) (h : ∀ s', St c L m l k s' → Q (if y < x then .int y u else .int x t) s') : N c A (call (.builtin "min") [.int x t, .int y u]) Q s :=
  N.of (min_two_ints hh fun h' tk hk => h _ (S.grown hk))
end

theorem NC.whl_ind {c : Cx} {A : Around} {test : Expr} {body : List Stmt} {env : Env} {R : Flow → Shared → Prop} (I : Nat → Shared → Prop)
    (step : ∀ n s, I n s → N c A (isTrue test env (eval test env)) (fun b s₁ => if b then N c A (execs body env) (fun f s₂ => match f with
      | .next | .cont => ∃ n', n' < n ∧ I n' s₂ | .brk => R .next s₂ | .ret v => R (.ret v) s₂) s₁ else N c A (execs [] env) R s₁) s) : ∀ n s, I n s → NC c A (.whileLoop test body [] env) R s := by
  intro n
  induction n using Nat.strongRecOn with
  | ind n ih =>
    intro s hI
    refine NC.whl ((step n s hI).mono fun b s₁ h => ?_)
    cases b with
    | false => simpa using h
    | true =>
      refine N.mono (Q := fun f s₂ => match f with
      | .next | .cont => ∃ n', n' < n ∧ I n' s₂ | .brk => R .next s₂ | .ret v => R (.ret v) s₂) (by simpa using h) fun f s₂ h₂ => ?_
      cases f with
      | next => obtain ⟨n', hn, hI'⟩ := h₂; exact ih n' hn _ hI'
      | cont => obtain ⟨n', hn, hI'⟩ := h₂; exact ih n' hn _ hI'
      | brk => exact h₂
      | ret v => exact h₂
theorem n_consJ {c : Cx} {A : Around} {s : Shared} {env : Env} {st : Stmt} {rest : List Stmt} {Q : Flow → Shared → Prop} (I : Shared → Prop) (h : N c A (exec st env) (fun f s' => f = .next ∧ I s') s) (h' : ∀ s', I s' → N c A (execs rest env) Q s') : N c A (execs (st :: rest) env) Q s :=
  n_cons (h.mono fun f s' hf => by obtain ⟨rfl, hi⟩ := hf; exact h' _ hi)
/-- what Prep asks for: the filling, the number, what comes behind it -/
def needN (w o a : Nat) : Nat := fillN w (o + a) + w + a
/-- what stands, and the room, after Prep -/
def prepO (w a : Nat) (out : List UInt8) : List UInt8 := List.replicate (fillN w (out.length + a)) 0 ++ out
def prepR (w a : Nat) (out : List UInt8) (room : Nat) : Nat := growN (out.length + needN w out.length a) room
theorem Width.pos {w : Nat} (h : Width w) : 0 < w ∧ w ≤ 8 := by rcases h with rfl | rfl | rfl | rfl <;> omega
theorem prepO_len {w a : Nat} {out : List UInt8} (h : Width w) : (prepO w a out).length = fillN w (out.length + a) + out.length ∧ (prepO w a out).length ≤ out.length + 7 := by
  have := fillN_lt (o := out.length + a) h.pos.1
  have := h.pos
  simp [prepO]; omega
theorem prepR_ge {w a room : Nat} {out : List UInt8} : (prepO w a out).length + w + a ≤ prepR w a out room := by
  have := (growN_ge (out.length + needN w out.length a) room).1
  simp [prepO, prepR, needN] at *; omega
theorem prepR_le {w a room : Nat} {out : List UInt8} (h : Width w) (hs : out.length + a ≤ 4000000) (hr : room ≤ 8388608) : prepR w a out room ≤ 8388608 := by
  have := growN_le (out.length + needN w out.length a) room
  have := fillN_lt (o := out.length + a) h.pos.1
  have := h.pos
  simp [prepR, needN] at *; omega
section
variable {c : Cx} {A : Around} {s : Shared} {L d a e : Addr} {m : Str → Option Value} {l k : List (Addr × Obj)} {t u : Tok} {env : Env} {x y : Int}
/-- an object that is a list of these -/
def LsO (o : Obj) (vs : List Value) : Prop := o.cls = .type "list" ∧ ∃ n, o.data = .seq vs.toArray n
theorem LsO.of {vs : List Value} {n : Nat} : LsO (listOf vs.toArray n) vs := ⟨rfl, n, rfl⟩
theorem LsO.isList {o : Obj} {vs : List Value} {h : Heap} (X : LsO o vs) (ho : h.get? d = some o) : h.IsList d vs.toArray := ⟨o, ho, X.1, X.2⟩
theorem St.same {o o' : Obj} {h' : Heap} {tk : Nat} (S : St c L m ((d, o) :: l) k s) (hs : Heap.SameBut d s.heap h') (ho : h'.get? d = some o') (hi : instO o' = false) : St c L m ((d, o') :: l) k { s with heap := h', toks := tk } := by
  obtain ⟨D, hD, S⟩ := S
  have W := S.nw
  have z := W (d, o) (.head _)
  exact ⟨D, hD.same (.inl hi), S.fr.change hs z.2.1 z.2.2, news_set (pre := []) W (fun _ q => nomatch q) S.head_apart hs ho, S.nd, S.gens, S.os, S.kin, S.top⟩
theorem noInst {o : Obj} {T : String} (h : o.cls = .type T) : instO o = false := by unfold instO; rw [h]
theorem n_list_set {o : Obj} {vs : List Value} {i : Nat} {v : Value} {Q : Unit → Shared → Prop} (X : LsO o vs) (S : St c L m ((d, o) :: l) k s) (hi : i < vs.length) (hz : vs.length ≤ 1000000)
    (h : ∀ o' s', LsO o' (vs.set i v) → St c L m ((d, o') :: l) k s' → Q () s') : N c A (setItem (.ref d) (.int i t) v) Q s :=
  N.of (wpAny_setItem_list (X.isList (S.get (.head _))) (by omega) (by omega) (by simpa using hi) fun h' hl hs => by
    obtain ⟨o', ho', hc, n', hd⟩ := hl
    refine h o' _ ⟨hc, n', ?_⟩ (S.same (tk := s.toks) hs ho' (noInst hc))
    rw [hd]; simp)
theorem n_list_get {o : Obj} {vs : List Value} {i : Nat} {v : Value} {Q : Value → Shared → Prop} (X : LsO o vs) (S : St c L m l k s) (hm : (d, o) ∈ l) (hi : vs[i]? = some v) (hz : vs.length ≤ 1000000)
    (h : Q v s) : N c A (getItem (.ref d) (.int i t)) Q s := by
  have := (List.getElem?_eq_some_iff.mp hi).1
  exact N.of (wpAny_getItem_list (X.isList (S.get hm)) (by omega) (by omega) (by simpa using hi) h)
theorem k_isi {tp : Addr} {dd : Option Addr} {its : List Value} {n : Nat} {sl : Array (Option Value)} {bb : Bool} {z : Array UInt8} {Q : Value → Shared → Prop} (S : St c L m l k s) (hl : c.K.lookup tp = some ⟨.type "tuple", dd, .seq its.toArray n, sl⟩)
    (e : kitAny c.K (.type "bytes") its = some bb) (h : ∀ s', St c L m l k s' → Q (.bool bb) s') : N c A (call (.builtin "isinstance") [.bytes z t, .ref tp]) Q s :=
  N.of (kia_tup kitx_bytes S.X trivial (S.X _ _ hl) e (fun q => nomatch q) fun tk => h _ S.tok)
theorem k_leny {z : List UInt8} {Q : Value → Shared → Prop} (S : St c L m l k s) (hz : z.length ≤ 16777216) (h : ∀ t s', St c L m l k s' → Q (.int (z.length : Nat) t) s') : N c A (call (.builtin "len") [.bytes z.toArray t]) Q s :=
  N.of (len_bytes (by rw [List.size_toArray]; omega) (h _ _ S.tok))
end
end Mine

end
-- M7
section
open PySem PySem.W PySem.Calls PyProof.Rows
set_option maxRecDepth 100000
set_option linter.unusedVariables false
set_option linter.deprecated false
namespace Mine
section
variable {c : Cx} {A : Around} {s : Shared} {L d a e : Addr} {m : Str → Option Value} {l k : List (Addr × Obj)} {t u : Tok} {env : Env} {x y : Int} {vs : List Value} {o : Obj}
theorem St0.cons {h' : Heap} {tk : Nat} (S : St0 c L m l k s) (F' : Fr c.h₀ L h' m) (N' : News c.h₀ L h' ((d, o) :: (l ++ k))) (lt : ∀ p ∈ l ++ k, p.1 < d) : St0 c L m ((d, o) :: l) k { s with heap := h', toks := tk } := by
  refine ⟨F', N', ?_, S.gens, S.os, S.kin, S.top⟩
  show (List.map _ ((d, o) :: (l ++ k))).Nodup
  rw [List.map_cons, List.nodup_cons]
  refine ⟨fun q => ?_, S.nd⟩
  obtain ⟨p, hp, e⟩ := List.mem_map.mp q
  exact absurd (lt p hp) (by rw [e]; exact Nat.lt_irrefl _)
theorem k_newlist {Q : Value → Shared → Prop} (S : St c L m l k s) (hz : vs.length ≤ 16777216) (h : ∀ d s', St c L m ((d, listOf vs.toArray 0) :: l) k s' → Q (.ref d) s') : N c A (newList vs) Q s :=
  by obtain ⟨D, hD, S⟩ := S; exact N.of (newList_K S.fr S.nw (fun d h' F' N' lt => h d _ ⟨D, hD.no rfl, S.cons (tk := s.toks) F' N' lt⟩) (by rw [sizeLine_eq]; exact hz))
theorem k_listmul {n : Nat} {Q : Value → Shared → Prop} (X : LsO o vs) (S : St c L m l k s) (hm : (d, o) ∈ l) (hz : vs.length * n ≤ 256) (hn : n ≤ 256) (h : ∀ e s', St c L m ((e, listOf ((List.replicate n vs).flatten).toArray 0) :: l) k s' → Q (.ref e) s') :
    N c A (binaryOp .Mult (.ref d) (.int n u)) Q s :=
  by obtain ⟨D, hD, S⟩ := S; exact N.of (KMa.mul (x := (n : Int)) S.fr S.nw (X.isList (S.get hm)) (by omega) (by omega) (by simpa using hz) (by rw [Int.toNat_natCast]) fun B h' F' N' lt => h B _ ⟨D, hD.no rfl, S.cons (tk := s.toks) F' N' lt⟩)
theorem k_reversed {Q : Value → Shared → Prop} (X : LsO o vs) (S : St c L m l k s) (hm : (d, o) ∈ l) (h : ∀ e s', St c L m ((e, revObj d ((vs.length : Int) - 1)) :: l) k s' → Q (.ref e) s') : N c A (call (.type "reversed") [.ref d]) Q s :=
  by obtain ⟨D, hD, S⟩ := S; exact N.of (krv_reversed S.fr S.nw (X.isList (S.get hm)) fun B h' F' N' lt => h B _ ⟨D, hD.no rfl, S.cons (tk := s.toks) F' N' lt⟩)
theorem k_tuple {Q : Value → Shared → Prop} (X : LsO o vs) (S : St c L m l k s) (hm : (d, o) ∈ l) (hz : vs.length ≤ 16384) (h : ∀ e s', St c L m ((e, ({ cls := .type "tuple", data := .seq vs.toArray } : Obj)) :: l) k s' → Q (.ref e) s') : N c A (call (.type "tuple") [.ref d]) Q s :=
  by obtain ⟨D, hD, S⟩ := S; exact N.of (kde_tupleOf S.fr S.nw (X.isList (S.get hm)) (by simpa using hz) (by simp) fun B h' F' N' lt => h B _ ⟨D, hD.no rfl, S.cons (tk := s.toks) F' N' lt⟩)
theorem k_append {v : Value} {n : Nat} {Q : Value → Shared → Prop} (S : St c L m ((d, listOf vs.toArray n) :: l) k s) (hz : vs.length ≤ 1000000) (h : ∀ s', St c L m ((d, listOf (vs ++ [v]).toArray (n + 1)) :: l) k s' → Q .none s') : N c A (call (.builtin "list.append") [.ref d, v]) Q s :=
  N.of (append_at (hsz := by rw [sizeLine_eq, List.size_toArray]; omega) (S.get (.head _)) fun h' hs ho' => h _ (S.same (tk := s.toks) hs (by rw [ho']; simp) rfl))
theorem k_append_meth {n : Nat} {pl : Sem Bool} {Q : Value × List Value → Shared → Prop} (S : St c L m l k s) (hm : (d, listOf vs.toArray n) ∈ l) (h : Q (.builtin "list.append", [.ref d]) s) : N c A (getMethod (.ref d) "append" pl) Q s :=
  N.of (getMethod_list_append (S.get hm) rfl rfl h)
theorem k_lenlist {Q : Value → Shared → Prop} (X : LsO o vs) (S : St c L m l k s) (hm : (d, o) ∈ l) (hz : vs.length ≤ 1000000) (h : ∀ t s', St c L m l k s' → Q (.int (vs.length : Nat) t) s') : N c A (call (.builtin "len") [.ref d]) Q s :=
  N.of (call_len_list (X.isList (S.get hm)) (by rw [List.size_toArray]; omega) (by rw [List.size_toArray]; exact h _ _ S.tok))
/-- a walk back over a list, at place i -/
def RevO (o : Obj) (d : Addr) (i : Int) : Prop := o.cls = .type "list_reverseiterator" ∧ o.data = .fields #[.ref d, rawInt i]
theorem St0.ext {o : Obj} {h' : Heap} {tk : Nat} (S : St0 c L m ((d, o) :: l) k s) (hx : Heap.ExtBut d s.heap h') : St0 c L m l k { s with heap := h', toks := tk } := by
  have z := S.nw (d, o) (.head _)
  have D := S.head_apart
  obtain ⟨oL, es, ep, hL, r⟩ := S.fr.ns
  refine ⟨⟨⟨oL, es, ep, hx _ _ (Ne.symm z.2.1) hL, r⟩, fun b o' e => hx _ _ (fun q => ?_) (S.fr.keep b o' e), S.fr.above⟩, fun p hp => ?_, (S.sub (List.sublist_cons_self _ _)).nd, S.gens, S.os, S.kin, S.top⟩
  · rw [q, z.2.2] at e; cases e
  · have w := S.nw p (List.mem_cons_of_mem _ hp)
    exact ⟨hx _ _ (D p hp) w.1, w.2⟩
theorem St.ext {o : Obj} {h' : Heap} {tk : Nat} (S : St c L m ((d, o) :: l) k s) (hx : Heap.ExtBut d s.heap h') : St c L m l k { s with heap := h', toks := tk } :=
  let ⟨D, hD, S⟩ := S; ⟨D, fun p hp => hD p (.tail _ hp), S.ext hx⟩
theorem k_iter_rev {i : Int} {io : Obj} {Q : Value → Shared → Prop} (Y : RevO io d i) (S : St c L m l k s) (hm : (e, io) ∈ l) (h : Q (.ref e) s) : N c A (pyIter (.ref e)) Q s :=
  N.of (wpAny_pyIter_revIter ⟨_, S.get hm, Y.1, Y.2⟩ h)
theorem k_next_rev {i : Nat} {io : Obj} {v : Value} {Q : Option Value → Shared → Prop} (Y : RevO io d (i : Int)) (X : LsO o vs) (S : St c L m ((e, io) :: l) k s) (hm : (d, o) ∈ l) (hv : vs[i]? = some v)
    (h : ∀ io' s', RevO io' d ((i : Int) - 1) → St c L m ((e, io') :: l) k s' → Q (some v) s') : N c A (pyNext (.ref e)) Q s :=
  N.of (wpAny_pyNext_rev_item (i := i) ⟨_, S.get (.head _), Y.1, Y.2⟩ (X.isList (S.get (.tail _ hm))) (by simpa using hv) fun h' hi hs => by
    obtain ⟨io', ho', hc, hd⟩ := hi
    exact h io' _ ⟨hc, hd⟩ (S.same (tk := s.toks) hs ho' (noInst hc)))
theorem k_next_rev_end {io : Obj} {Q : Option Value → Shared → Prop} (Y : RevO io d (-1)) (S : St c L m ((e, io) :: l) k s) (hh : A.handled = none) (h : ∀ s', St c L m l k s' → Q none s') : N c A (pyNext (.ref e)) Q s :=
  N.of (wpAny_pyNext_rev_end hh ⟨_, S.get (.head _), Y.1, Y.2⟩ fun h' hx => h _ (S.ext (tk := s.toks) hx))
abbrev dict0 : Obj := { cls := .type "dict", data := .dict #[] }
theorem k_newdict {pos : Pos} {Q : Value → Shared → Prop} (S : St c L m l k s) (h : ∀ d s', (d == sysModules) = false → St c L m ((d, dict0) :: l) k s' → Q (.ref d) s') : N c A (eval (.Dict [] [] pos) env) Q s := by
  rw [eval_Dict_empty]
  refine N.standAt (N.of ?_)
  exact wpAny_newObj_type (h _ _ (S.fr.notModules (modules_low S.top.nolimit)) (S.push (t := s.toks) dict0))
/-- a dict by tuples of ints -/
structure VtO (c : Cx) (l : List (Addr × Obj)) (o : Obj) (d : Addr) (xs : List (List Int × Addr × Value)) : Prop where
  lo : (d == sysModules) = false
  ex : o.ExactDict
  da : ∃ es ep, o.data = .dict es ep ∧ es.toList = xs.map (entryOfKey (tupleKind (intKind c.prog c.w)))
  ks : ∀ x ∈ xs, ∃ to items n, (x.2.1, to) ∈ l ∧ to.cls = .type "tuple" ∧ to.data = .seq items n ∧ ItemsAre (intKind c.prog c.w) x.1 items.toList
  nd : (xs.map (·.1)).Nodup
theorem VtO.sub {l' : List (Addr × Obj)} {xs : List (List Int × Addr × Value)} (V : VtO c l o d xs) (h : ∀ p ∈ l, p ∈ l') : VtO c l' o d xs :=
  ⟨V.lo, V.ex, V.da, fun x hx => let ⟨to, items, n, a, b⟩ := V.ks x hx; ⟨to, items, n, h _ a, b⟩, V.nd⟩
theorem VtO.new (lo : (d == sysModules) = false) : VtO c l dict0 d [] := ⟨lo, ⟨rfl, rfl, rfl⟩, ⟨_, _, rfl, rfl⟩, (fun _ h => nomatch h), List.nodup_nil⟩
theorem VtO.dict {xs : List (List Int × Addr × Value)} (V : VtO c l o d xs) (S : St c L m l k s) (hm : (d, o) ∈ l) : s.heap.DictOfH (tupleKind (intKind c.prog c.w)) d xs := by
  obtain ⟨es, ep, h1, h2⟩ := V.da
  refine ⟨o, es, ep, S.get hm, V.ex, h1, h2, fun x hx => ?_, V.nd⟩
  obtain ⟨to, items, n, a, b, e, f⟩ := V.ks x hx
  exact ⟨to, items, n, S.get a, b, e, f⟩
/-- a tuple of ints -/
def TupO (o : Obj) (ns : List Int) : Prop := o.cls = .type "tuple" ∧ ∃ items n, o.data = .seq items n ∧ ∀ (c : Cx), ItemsAre (intKind c.prog c.w) ns items.toList
theorem k_vget {to : Obj} {ns : List Int} {xs : List (List Int × Addr × Value)} {Q : Value → Shared → Prop} (V : VtO c l o d xs) (T : TupO to ns) (S : St c L m l k s) (hm : (d, o) ∈ l) (ht : (e, to) ∈ l) (hu : A.units + 8 < cLine)
    (h : ∀ s', St c L m l k s' → Q (((atKey xs ns).map (·.2)).getD .none) s') : N c A (call (.builtin "dict.get") [.ref d, .ref e]) Q s := by
  have hD := V.dict S hm
  obtain ⟨tc, items, n, td, ti⟩ := T
  exact N.of (call_meetsIn PySem.F.slot_dict_get hD.typeIs PySem.F.entry_dict_get (PySem.F.args_dict_get_2 _ _) (meetsH_dict_get (tupleKind (intKind c.prog c.w)) d e V.lo)
    ⟨by show A.units + 1 < _; omega, ns, xs, ⟨to, items, n, S.get ht, tc, td, ti c⟩, hD, h _ S.tok⟩)
theorem atKey_none {xs : List (List Int × Addr × Value)} {ns : List Int} (h : ∀ x ∈ xs, x.1 ≠ ns) : atKey xs ns = none := by
  unfold atKey
  rw [Option.map_eq_none_iff, List.find?_eq_none]
  intro x hx q
  exact h x hx (of_decide_eq_true q)
/-- a new key -/
theorem k_vset {to : Obj} {ns : List Int} {v : Value} {xs : List (List Int × Addr × Value)} {Q : Unit → Shared → Prop} (V : VtO c l o d xs) (T : TupO to ns) (S : St c L m ((d, o) :: l) k s) (ht : (e, to) ∈ l) (hu : A.units + 8 < cLine) (hz : xs.length ≤ 1000000) (hn : atKey xs ns = none)
    (h : ∀ o' s', VtO c l o' d (xs ++ [(ns, e, v)]) → St c L m ((d, o') :: l) k s' → Q () s') : N c A (setItem (.ref d) (.ref e) v) Q s := by
  have hD := (V.sub (l' := (d, o) :: l) fun p hp => .tail _ hp).dict S (.head _)
  obtain ⟨tc, items, n, td, ti⟩ := T
  have S0 := S
  refine N.of (wpAny_setItem_heap (knd := tupleKind (intKind c.prog c.w)) (by show A.units + 1 < _; omega) ⟨to, items, n, S.get (.tail _ ht), tc, td, ti c⟩ hD (fun h' hd hs => ?_) (by rw [sizeLine_eq]; omega))
  obtain ⟨o', es, ep, ho', hex, hda, hes, hk, hnd⟩ := hd
  rw [storedH_new hn] at hes hk hnd
  refine h o' _ ⟨V.lo, hex, ⟨es, ep, hda, hes⟩, fun x hx => ?_, hnd⟩ (S.same (tk := _) hs ho' (noInst hex.1))
  rcases List.mem_append.mp hx with q | q
  · exact V.ks x q
  · rw [List.mem_singleton.mp q]
    exact ⟨to, items, n, ht, tc, td, ti c⟩
theorem k_dict_meth {pl : Sem Bool} {Q : Value × List Value → Shared → Prop} (S : St c L m l k s) (hm : (d, o) ∈ l) (hx : o.ExactDict) (h : Q (.builtin "dict.get", [.ref d]) s) : N c A (getMethod (.ref d) "get" pl) Q s :=
  N.of (getMethod_builtin ⟨_, S.get hm, hx.1⟩ PySem.F.plainAttrs_dict PySem.F.slot_dict_get PySem.F.type_dict_get (fun a e => by cases e; exact ⟨_, S.get hm, hx.2.1⟩) h)
theorem NC.for_ind {x : Str} {xp : Pos} {it : Value} {body : List Stmt} {R : Flow → Shared → Prop} (I : Nat → Shared → Prop)
    (step : ∀ n s, I n s → N c A (pyNext it) (fun o s₁ => match o with
      | none => R .next s₁
      | some v => N c A (storeName env x v) (fun _ s₂ => N c A (execs body env) (fun f s₃ => match f with
        | .next | .cont => ∃ n', n' < n ∧ I n' s₃ | .brk => R .next s₃ | .ret v => R (.ret v) s₃) s₂) s₁) s) : ∀ n s, I n s → NC c A (.forLoop (.Name x xp) it body [] env) R s := by
  intro n
  induction n using Nat.strongRecOn with
  | ind n ih =>
    intro s hI
    refine NC.for_ ((step n s hI).mono fun o s₁ h => ?_)
    cases o with
    | none => exact h
    | some v =>
      refine N.mono h fun _ s₂ h => N.mono h fun f s₃ h => ?_
      cases f with
      | next => obtain ⟨n', hn, hI'⟩ := h; exact ih n' hn _ hI'
      | cont => obtain ⟨n', hn, hI'⟩ := h; exact ih n' hn _ hI'
      | brk => exact h
      | ret v => exact h
/-- one turn of the making of a vtable's key -/
def stepK (oo : Int) (p : Bool × List Int) (e : Int) : Bool × List Int := if e = 0 then (if p.1 then p else (p.1, p.2 ++ [0])) else (false, p.2 ++ [oo - e])
theorem St.under {p q z : Addr × Obj} (S : St c L m (z :: p :: q :: l) k s) : St c L m (p :: q :: z :: l) k s := S.perm ((List.Perm.swap _ _ _).trans (.cons _ (.swap _ _ _)))
theorem St.over {p q z : Addr × Obj} (S : St c L m (p :: q :: z :: l) k s) : St c L m (z :: p :: q :: l) k s := S.perm ((List.Perm.cons _ (.swap _ _ _)).trans (.swap _ _ _))
theorem ints_rep {t : Tok} : ∀ n : Nat, IntsAre (List.replicate n (Value.int 0 t)) (List.replicate n 0)
  | 0 => .nil
  | n + 1 => by rw [List.replicate_succ, List.replicate_succ]; exact .cons 0 t (ints_rep n)
theorem rev_take {cvs : List Int} {n : Nat} {e : Int} (h : cvs[n]? = some e) : cvs.reverse.take (cvs.length - n) = cvs.reverse.take (cvs.length - (n + 1)) ++ [e] := by
  have hl := (List.getElem?_eq_some_iff.mp h).1
  have e1 : cvs.length - n = (cvs.length - (n + 1)) + 1 := by omega
  rw [e1, List.take_add_one]
  congr 1
  rw [List.getElem?_reverse (by omega), show cvs.length - 1 - (cvs.length - (n + 1)) = n by omega, h]
  rfl
theorem St.up3 {p q z v : Addr × Obj} (S : St c L m (p :: q :: z :: v :: l) k s) : St c L m (v :: p :: q :: z :: l) k s := S.perm ((List.Perm.cons _ ((List.Perm.cons _ (.swap _ _ _)).trans (.swap _ _ _))).trans (.swap _ _ _))
theorem St.down3 {p q z v : Addr × Obj} (S : St c L m (v :: p :: q :: z :: l) k s) : St c L m (p :: q :: z :: v :: l) k s := S.perm ((List.Perm.swap _ _ _).trans (.cons _ ((List.Perm.swap _ _ _).trans (.cons _ (.swap _ _ _)))))
/-- the words of a vtable, the last slot first, the empty tail left out -/
def keyL (cvs : List Int) (oo : Int) : List Int := (cvs.reverse.foldl (stepK oo) (true, [])).2
theorem ints_items {ns : List Int} (h : IntsAre vs ns) (c : Cx) : ItemsAre (intKind c.prog c.w) ns vs := by
  induction h with
  | nil => exact .nil
  | cons n t h ih => exact .cons (by show Value.isInt n (.int n t) = true; simp [Value.isInt]) ih
theorem tupO_of {ns : List Int} (h : IntsAre vs ns) : TupO ({ cls := .type "tuple", data := .seq vs.toArray } : Obj) ns := ⟨rfl, _, _, rfl, fun c => ints_items h c⟩
theorem r_item_ls {i : Value} {slice : Expr} {Q : Value → Shared → Prop} (X : LsO o vs) (S : St c L m l k s) (hm : (d, o) ∈ l) (h : N c A (getItem (.ref d) i) Q s)
    (hs : ∀ o i, subscripted slice false o i = operate [i, o] (getItem o i) ∨ subscripted slice false o i = operate [o, i] (getItem o i)) : N c A (getitemInPython (.ref d) >>= fun b => subscripted slice b (.ref d) i) Q s :=
  r_item ⟨_, S.get hm, X.1⟩ slot_list_getitem.lookup h hs
/-- a word of two octets ahead -/
def stepV (p : List UInt8 × Nat) (off : Int) : List UInt8 × Nat := (le 2 off ++ prepO 2 0 p.1, prepR 2 0 p.1 p.2)
end
theorem BufOk.over {hd : Int} {buf out x : List UInt8} {room p : Nat} (B : BufOk hd buf out room) (hx : p + x.length ≤ out.length) : BufOk hd (over buf (room - out.length + p) x) (over out p x) room := by
  obtain ⟨h1, h2, h3, h4, h5⟩ := B
  have hol : (Mine.over out p x).length = out.length := over_length hx
  have ht : (buf.take (room - out.length)).length = room - out.length := by rw [List.length_take]; omega
  have eb : buf = buf.take (room - out.length) ++ out := by
    conv => lhs; rw [← List.take_append_drop (room - out.length) buf]
    rw [h5]
  have e : Mine.over buf (room - out.length + p) x = buf.take (room - out.length) ++ Mine.over out p x := by
    have h6 : buf.take (room - out.length + p) = buf.take (room - out.length) ++ out.take p := by
      conv => lhs; rw [eb]
      rw [List.take_append, ht, List.take_of_length_le (by omega), Nat.add_sub_cancel_left]
    have h7 : buf.drop (room - out.length + p + x.length) = out.drop (p + x.length) := by
      have : out.drop (p + x.length) = (buf.drop (room - out.length)).drop (p + x.length) := by rw [h5]
      rw [this, List.drop_drop]; congr 1; omega
    unfold Mine.over
    rw [h6, h7, List.append_assoc, List.append_assoc, List.append_assoc]
  refine ⟨by rw [over_length (by omega)]; exact h1, h2, by rw [hol]; exact h3, by rw [hol]; exact h4, ?_⟩
  rw [hol, e, List.drop_left' ht]
theorem stepV_len {p : List UInt8 × Nat} {off : Int} : (stepV p off).1.length ≤ p.1.length + 3 ∧ p.1.length ≤ (stepV p off).1.length := by
  have := fillN_lt (o := p.1.length) (show 0 < 2 by omega)
  simp [stepV, prepO, le_length]; omega
end Mine

end
-- M8
section
open PySem PySem.W PySem.Calls PyProof.Rows
set_option maxRecDepth 100000
set_option linter.unusedVariables false
set_option linter.deprecated false
namespace Mine
section
variable {c : Cx} {A : Around} {s : Shared} {L d a e : Addr} {m : Str → Option Value} {l k : List (Addr × Obj)} {t u : Tok} {env : Env} {x y : Int} {vs : List Value} {o : Obj}
/-- a call with starred things behind the first -/
theorem cwS {pos : Pos} {f : Value} {first : List Value} {e : Expr} {rest : List Expr} {Q : Value → Shared → Prop}
    (h : N c A (spliced (backTo pos (starEach (e :: rest) env))) (fun vs s₁ => Kp c f s₁ ∧ N c A (call f (first ++ vs)) Q s₁) s)
    (he : starEach (e :: rest) env = (false, eval e env) :: starEach rest env := by rfl) (hst : (backTo pos (starEach rest env)).any (·.1) = true := by rfl) :
    N c A (callWith pos f first (backTo pos (starEach (e :: rest) env)) (backToKw pos (keywordEach [] env))) Q s := by
  rw [he] at h ⊢
  have hst' : (backTo pos ((false, eval e env) :: starEach rest env)).any (·.1) = true := by show (false || (backTo pos (starEach rest env)).any (·.1)) = true; rw [hst]; rfl
  have h0 : N c A (evalArgs f true (backTo pos ((false, eval e env) :: starEach rest env)) []) (fun a s₁ => Kp c f s₁ ∧ N c A (call f (first ++ a.pos) a.kw) Q s₁) s := ea_plain h
  show N c A (callWith pos f first (backTo pos ((false, eval e env) :: starEach rest env)) []) Q s
  unfold callWith
  refine N.bind (N.holding (h0.mono fun a s₁ h₁ => N.standAt ?_))
  obtain ⟨⟨k, hk, L⟩, h₂⟩ := h₁
  simp only [hst', Bool.true_or]
  refine N.looks L ?_
  have tail : ∀ {t : Sem Value}, N c A t Q s₁ → N c A (t >>= fun r => holding [r] point >>= fun _ => pure r) Q s₁ :=
    fun ht => N.bind (ht.mono fun r s₂ hr => N.bind (N.holding (N.of (wpAny_point (N.pure hr)))))
  have marked (mk : Value) : N c A (callMarked mk f (first ++ a.pos) a.kw) Q s₁ := by unfold callMarked; exact N.keep h₂
  rcases hk with rfl | rfl <;> dsimp only <;> first | exact tail (marked _) | exact tail (N.operate h₂)
theorem sp_star {pos p : Pos} {e : Expr} {rest : List Expr} {Q : List Value → Shared → Prop}
    (h : N c A (eval e env) (fun v s₁ => N c A (notIterableAtAll v) (fun b s₂ => b = false ∧ N c A (collect v) (fun here s₃ => N c A (spliced (backTo pos (starEach rest env))) (fun vs s₄ => Q (here ++ vs) s₄) s₃) s₂) s₁) s)
    (he : starEach (.Starred e p :: rest) env = (true, eval e env) :: starEach rest env := by rfl) : N c A (spliced (backTo pos (starEach (.Starred e p :: rest) env))) Q s := by
  rw [he]
  show N c A (spliced ((true, (do let v ← eval e env; standAt pos; pure v)) :: backTo pos (starEach rest env))) Q s
  rw [spliced]
  refine N.bind (N.bind (h.mono fun v s₁ h₁ => N.standAt (N.pure ?_)))
  refine N.bind (h₁.mono fun b s₂ h₂ => ?_)
  obtain ⟨rfl, h₂⟩ := h₂
  simp only [Bool.false_eq_true, if_false]
  exact N.bind (h₂.mono fun here s₃ h₃ => N.bind (N.holding (h₃.mono fun vs s₄ h₄ => N.pure h₄)))
theorem st_tup {its : Array Value} {n : Nat} {Q : List Value → Shared → Prop} (S : St c L m l k s) (hm : (a, ({ cls := .type "tuple", data := .seq its n } : Obj)) ∈ l) (hz : its.size ≤ 1000) (h : ∀ s', St c L m l k s' → Q its.toList s') :
    N c A (notIterableAtAll (.ref a)) (fun b s₂ => b = false ∧ N c A (collect (.ref a)) Q s₂) s := by
  have ho := S.get hm
  unfold notIterableAtAll
  refine N.bind (N.of (wpAny_specialOf (T := "tuple") ⟨_, ho, rfl⟩ PySem.F.slot_tuple_iter.lookup ?_))
  exact N.pure ⟨rfl, N.of (wpAny_collect_seq a (.inr rfl) ho rfl rfl (fun h' hk => h _ (S.grown (tk := s.toks) hk)) (by rw [sizeLine_eq]; omega))⟩

-- keywords
theorem kw_nil {pos : Pos} {Q : List Value → Shared → Prop} (h : Q [] s) : N c A (evalAll ((backToKw pos (keywordEach [] env)).map (·.2))) Q s := N.pure h
theorem kw_cons {pos p : Pos} {name : Str} {value : Expr} {rest : List Keyword} {Q : List Value → Shared → Prop}
    (h : N c A (eval value env) (fun v s₁ => N c A (evalAll ((backToKw pos (keywordEach rest env)).map (·.2))) (fun vs s₂ => Q (v :: vs) s₂) s₁) s) :
    N c A (evalAll ((backToKw pos (keywordEach (⟨some name, value, p⟩ :: rest) env)).map (·.2))) Q s := by
  show N c A (evalAll ((do let v ← eval value env; standAt pos; pure v) :: (backToKw pos (keywordEach rest env)).map (·.2))) Q s
  rw [evalAll]
  exact N.bind (N.bind (h.mono fun v s₁ h₁ => N.standAt (N.pure (N.bind (N.holding (h₁.mono fun vs s₂ h₂ => N.pure h₂))))))
theorem cwK {pos : Pos} {f : Value} {first : List Value} {e : Expr} {rest : List Expr} {kws : List Keyword} {Q : Value → Shared → Prop}
    (h : N c A (spliced (backTo pos (starEach (e :: rest) env))) (fun vs s₁ => N c A (evalAll ((backToKw pos (keywordEach kws env)).map (·.2))) (fun ks s₂ =>
      Kp c f s₂ ∧ N c A (call f (first ++ vs) (((backToKw pos (keywordEach kws env)).filterMap (·.1)).zip ks)) Q s₂) s₁) s)
    (hall : (backToKw pos (keywordEach kws env)).all (·.1.isSome) = true := by rfl) (hplain : ((backTo pos (starEach (e :: rest) env)).any (·.1) || (backToKw pos (keywordEach kws env)).any (·.1.isNone)) = false := by rfl)
    (he : starEach (e :: rest) env = (false, eval e env) :: starEach rest env := by rfl) :
    N c A (callWith pos f first (backTo pos (starEach (e :: rest) env)) (backToKw pos (keywordEach kws env))) Q s := by
  refine cw hplain ?_
  rw [he] at h ⊢
  show N c A (evalArgs f true ((false, eval e env) :: backTo pos (starEach rest env)) (backToKw pos (keywordEach kws env))) _ s
  unfold evalArgs
  show N c A (spliced ((false, eval e env) :: backTo pos (starEach rest env)) >>= fun vs => (pure (vs, none) : Sem (List Value × Option Value)) >>= _) _ s
  refine N.bind (N.mono h fun vs s₁ h₁ => N.bind (N.pure (N.holding ?_)))
  simp only [hall, if_true]
  exact N.bind (h₁.mono fun ks s₂ h₂ => N.bind (N.pure (N.pure h₂)))

/-- a call of a def that takes the rest of the arguments as a tuple -/
theorem n_callV {f : Addr} {name qual : Str} {params : Arguments} {body : List Stmt} {scope : Scope} {dV kV doc pm cdv ct oc : Value} {an od : Option Addr} {osl : Array (Option Value)} {pos : List Value} {kw : List (Str × Value)} {binds : Addr → List (Str × Value)} {g₁ : Addr → Option (List (Str × Value))}
    {Q : Value → Shared → Prop} (S : St c L m l k s) (ho : c.K.lookup f = some ⟨oc, od, .func (fnOf name qual params body scope dV kV doc pm an cdv ct), osl⟩) (hcd : codeIn c.K cdv qual = true) (hroom : A.depth < recursionLimit)
    (hp : peek1 c.K ⟨c.prog, c.w.params⟩ (bindArgs (fnOf name qual params body scope dV kV doc pm an cdv ct) ⟨pos, kw⟩) = some (({ cls := .type "tuple", data := .seq vs.toArray } : Obj), g₁)) (hg : ∀ D, g₁ D = some (binds D))
    (hloc : ∀ D, ∀ y ∈ binds D, scope.names.lookup y.1 = some .local)
    (h : ∀ D L' oL s₁, St c L' (fun y => (binds D).reverse.lookup y) ((D, ({ cls := .type "tuple", data := .seq vs.toArray } : Obj)) :: l) ((L, oL) :: k) s₁ → N c (A.deeper (envOf qual scope L' f cdv)) (execs body (envOf qual scope L' f cdv)) (Back c L m oL k Q) s₁)
    (hcell : ∀ x ∈ scope.names, x.2 ≠ .cell) (hco : scope.isCoroutine = false := by rfl) (hgen : scope.isGenerator = false := by rfl) (hk : scope.kind = .function := by rfl) :
    N c A (call (.ref f) pos kw) Q s := by
  have X := S.X
  obtain ⟨D0, hD, S0⟩ := S
  refine N.call (NC.def_ (fd := fnOf name qual params body scope dV kV doc pm an cdv ct) (body := body) hroom (X _ _ ho) rfl hco hgen rfl (codeRec_of X hcd) ?_)
  refine wp_of_peek1 (o := ({ cls := .type "tuple", data := .seq vs.toArray } : Obj)) (r := binds) S0.fr S0.nw X rfl (fun D h' F' N' lt => ?_) _ g₁ hp hg
  have S₁ : St c L m ((D, ({ cls := .type "tuple", data := .seq vs.toArray } : Obj)) :: l) k { s with heap := h' } := ⟨D0, hD.no rfl, S0.cons (tk := s.toks) F' N' lt⟩
  refine wpAny_newFunctionEnv hcell (hloc D) (fun h₁ hns hsb => ?_) hk
  have hk₁ : ∀ b o, h'.get? b = some o → h₁.get? b = some o := fun b o e => hsb.extBut b o (Nat.ne_of_lt (Heap.lt_size e)) (Heap.get?_push_of_some _ e)
  obtain ⟨oL, S₂, back⟩ := S₁.enter (t := s.toks + (binds D).length) hns hk₁
  refine ⟨(S₁.top.nolimit.keeps S₁.fr.keep).fresh _ hsb, NC.func ((h D _ oL _ S₂).mono fun fl s' hb => ?_)⟩
  obtain ⟨L', m', l', S', q⟩ := hb
  cases fl <;> exact q (back _ _ _ _ S')

/-- the same as n_call, for a callee that a method object hands on to -/
theorem n_callC {f : Addr} {name qual : Str} {params : Arguments} {body : List Stmt} {scope : Scope} {dV kV doc pm cdv ct oc : Value} {an od : Option Addr} {osl : Array (Option Value)} {pos : List Value} {kw : List (Str × Value)} {binds : List (Str × Value)}
    {Q : Value → Shared → Prop} (S : St c L m l k s) (ho : c.K.lookup f = some ⟨oc, od, .func (fnOf name qual params body scope dV kV doc pm an cdv ct), osl⟩) (hcd : codeIn c.K cdv qual = true) (hroom : A.depth < recursionLimit)
    (hbind : BindsTo s (fnOf name qual params body scope dV kV doc pm an cdv ct) ⟨pos, kw⟩ binds)
    (hloc : ∀ y ∈ binds, scope.names.lookup y.1 = some .local)
    (h : ∀ L' oL s₁, St c L' (fun y => binds.reverse.lookup y) l ((L, oL) :: k) s₁ → N c (A.deeper (envOf qual scope L' f cdv)) (execs body (envOf qual scope L' f cdv)) (Back c L m oL k Q) s₁)
    (hcell : ∀ x ∈ scope.names, x.2 ≠ .cell) (hco : scope.isCoroutine = false := by rfl) (hgen : scope.isGenerator = false := by rfl) (hk : scope.kind = .function := by rfl) :
    NC c A (.call (.ref f) ⟨pos, kw⟩) (fun f s' => match f with | .ret v => Q v s' | _ => False) s := by
  have X := S.X
  refine NC.def_ (fd := fnOf name qual params body scope dV kV doc pm an cdv ct) (body := body) hroom (X _ _ ho) rfl hco hgen rfl (codeRec_of X hcd) (hbind _ _ _ _ ?_)
  refine wpAny_newFunctionEnv hcell hloc (fun h₁ hns hsb => ?_) hk
  have hk₁ : ∀ b o, s.heap.get? b = some o → h₁.get? b = some o := fun b o e => hsb.extBut b o (Nat.ne_of_lt (Heap.lt_size e)) (Heap.get?_push_of_some _ e)
  obtain ⟨oL, S₂, back⟩ := S.enter (t := s.toks + binds.length) hns hk₁
  refine ⟨(S.top.nolimit.keeps S.fr.keep).fresh _ hsb, NC.func ((h _ oL _ S₂).mono fun fl s' hb => ?_)⟩
  obtain ⟨L', m', l', S', q⟩ := hb
  cases fl <;> exact q (back _ _ _ _ S')
theorem n_callM {q : Addr} {f self : Value} {pos : List Value} {kw : List (Str × Value)} {Q : Value → Shared → Prop} (S : St c L m l k s) (hq : (q, methodObj f self) ∈ l) (h : NC c A (.call f ⟨self :: pos, kw⟩) (fun f s' => match f with | .ret v => Q v s' | _ => False) s) : N c A (call (.ref q) pos kw) Q s := by
  refine N.call (NC.tree rfl ?_)
  show N c A.in1 (load q >>= _) _ s
  refine N.bind (N.of (wpAny_load (S.get hq) ?_))
  cases f <;> exact N.pure ⟨rfl, h⟩
/-- a method bound: o.f(*rest) makes a method object first -/
theorem e_methS {o : Expr} {name : Str} {apos pos : Pos} {args : List Expr} {kws : List Keyword} {Q : Value → Shared → Prop}
    (h : N c A (eval o env) (fun ov s₁ => N c A (getAttr ov name true) (fun f s₂ => N c A (callWith pos f [] (backTo pos (starEach args env)) (backToKw pos (keywordEach kws env))) Q s₂) s₁) s)
    (he : eval (.Call (.Attribute o name apos) args kws pos) env = (do
      let ov ← eval o env
      standAt apos.atName
      let (f, first) ← holding [ov] (do pure (← getAttr ov name true, []))
      callWith pos f first (backTo pos (starEach args env)) (backToKw pos (keywordEach kws env))) := by rfl) : N c A (eval (.Call (.Attribute o name apos) args kws pos) env) Q s := by
  rw [he]
  exact N.bind (h.mono fun ov s₁ h => N.standAt (N.bind (N.holding (N.bind (h.mono fun f s₂ h => N.pure h)))))
theorem b_bound {x C dx : Addr} {name : Str} {f : Addr} {expr : Bool} {Q : Value → Shared → Prop} {sl : Array (Option Value)} (S : St c L m l k s) (hx : (x, (⟨.ref C, some dx, .plain, sl⟩ : Obj)) ∈ l) (hg : plainGet c.K C name = true)
    (hcl : isClsIn c.K C = true) (hnd : hasDictIn c.K C = false) (ha : findIn c.K (.ref C) name = some (some (.ref f))) (hf : isFn c.K (.ref f) = true)
    (hgf : specialIn c.K (.ref f) "__get__" = some (some (.builtin "function.__get__"))) (ht : takesIn c.K (.ref f) = some false) (hc : copiedNames.contains name = false)
    (h : ∀ q s', St c L m ((q, methodObj (.ref f) (.ref x)) :: l) k s' → Q (.ref q) s') : N c A (getAttr (.ref x) name expr) Q s := by
  have X := S.X
  have I : InstAt s.heap x ⟨.ref C, some dx, .plain, sl⟩ C (some emptyDict) := ⟨S.get hx, rfl, rfl, S.idict hx rfl rfl⟩
  have hfo : findObj c.K C (some emptyDict) name = some (.bind (.builtin "function.__get__") (.ref f)) := by
    obtain ⟨cd, hc'⟩ := Option.isSome_iff_exists.mp hcl
    have hd' : cd.hasDict = false := by
      unfold hasDictIn at hnd
      rw [hc'] at hnd
      simpa using hnd
    unfold findObj
    have ho : W.ownOf cd (some emptyDict) name = some none := by unfold W.ownOf; rw [if_neg (by rw [hd']; decide)]
    rw [hc', Option.bind_some, ha, Option.bind_some]
    simp only [hgf, ht, Option.bind_some, ho, hc, Bool.false_and, Bool.false_eq_true, if_false]
  exact N.of (get_bind X I (plainGet_of hg).1 hfo (plainGet_of hg).2
    (wpAny_call (fn_get (s := { s with toks := s.toks + 1 }) X (beq_iff_eq.mp hf) (handed_on rfl (h s.heap.objs.size _ (S.push (t := s.toks + 1) (methodObj (.ref f) (.ref x))))))))
theorem cwM {pos : Pos} {q f : Addr} {self : Value} {fst : List Value} {e : Expr} {rest : List Expr} {Q : Value → Shared → Prop} (hf : fnIn c.K f = true)
    (h : N c A (spliced (backTo pos (starEach (e :: rest) env))) (fun vs s₁ => MethP c.K q f self s₁.heap ∧ N c A (call (.ref q) (fst ++ vs)) Q s₁) s)
    (he : starEach (e :: rest) env = (false, eval e env) :: starEach rest env := by rfl) (hst : (backTo pos (starEach rest env)).any (·.1) = true := by rfl) :
    N c A (callWith pos (.ref q) fst (backTo pos (starEach (e :: rest) env)) (backToKw pos (keywordEach [] env))) Q s := by
  rw [he] at h ⊢
  have hst' : (backTo pos ((false, eval e env) :: starEach rest env)).any (·.1) = true := by show (false || (backTo pos (starEach rest env)).any (·.1)) = true; rw [hst]; rfl
  have h0 : N c A (evalArgs (.ref q) true (backTo pos ((false, eval e env) :: starEach rest env)) []) (fun a s₁ => MethP c.K q f self s₁.heap ∧ N c A (call (.ref q) (fst ++ a.pos) a.kw) Q s₁) s := ea_plain h
  show N c A (callWith pos (.ref q) fst (backTo pos ((false, eval e env) :: starEach rest env)) []) Q s
  unfold callWith
  refine N.bind (N.holding (h0.mono fun a s₁ h₁ => N.standAt ?_))
  obtain ⟨hM, h₂⟩ := h₁
  obtain ⟨k, hk, L⟩ := keeps_M (M := c.M) hf _ hM
  simp only [hst', Bool.true_or]
  refine N.looks L ?_
  have tail : ∀ {t : Sem Value}, N c A t Q s₁ → N c A (t >>= fun r => holding [r] point >>= fun _ => pure r) Q s₁ :=
    fun ht => N.bind (ht.mono fun r s₂ hr => N.bind (N.holding (N.of (wpAny_point (N.pure hr)))))
  have marked (mk : Value) : N c A (callMarked mk (.ref q) (fst ++ a.pos) a.kw) Q s₁ := by unfold callMarked; exact N.keep h₂
  rcases hk with rfl | rfl | rfl <;> dsimp only <;> first | exact tail (marked _) | exact tail (N.operate h₂)

theorem Rm.typ {A : Around} {args : Args} {n : Nat} (R : Rm A (n + 1)) (h : (Code.builtin "type.__call__" args).weight ≤ 1) (h2 : (Code.builtin "type.__call__" args).cUnits ≤ 7) (h3 : (Code.builtin "type.__call__" args).isGuard = false) : Rm (A.under (.builtin "type.__call__" args)) n := by
  refine ⟨?_, ?_, ?_, R.h⟩
  · have := R.d; show A.depth + _ + n < _; omega
  · have := R.u; show A.units + _ + 8 * n < _; omega
  · show pushGuards (Code.guards (.builtin "type.__call__" args)) A.guards = some []
    unfold Code.guards; rw [h3, R.g]; rfl
/-- an instance of a class of the text, its __init__ run -/
theorem n_make {C fI : Addr} {args : List Value} {Q : Value → Shared → Prop} (S : St c L m l k s) (hm : makesIn c.K C = true) (hi : findIn c.K (.ref C) "__init__" = some (some (.ref fI))) (hf : isFn c.K (.ref fI) = true)
    (h : ∀ x dx s', St c L m ((x, instObj C dx) :: l) k s' → N c (A.under (.builtin "type.__call__" ⟨.ref C :: args, []⟩)) (call (.ref fI) (.ref x :: args)) (fun v s'' => v = .none ∧ Q (.ref x) s'') s') : N c A (call (.ref C) args) Q s := by
  have X := S.X
  have Y := makes_of (M := c.M) X hm
  have Y' := Y
  obtain ⟨⟨oc, od, cd, sl, hC, e1, e2, e4⟩, made, base, self, top, call, typ⟩ := Y
  refine N.call (NC.tree rfl ?_)
  show N c A.in1 (load C >>= _) _ s
  refine N.bind (N.of (wpAny_load hC ?_))
  show N c A.in1 (callAny.viaDunder (.ref C) _) _ _
  unfold callAny.viaDunder
  refine N.bind (N.of (call.here ?_))
  dsimp only
  rw [tc_bind]
  refine N.bind (N.pure (N.bind (N.pure ?_)))
  refine N.pure (a := Fin.again (.call (.builtin "type.__call__") ⟨.ref C :: args, []⟩)) (And.intro rfl ?_)
  refine NC.tree rfl ?_
  show N c A.in1 (do checkBuiltinCall "type.__call__" ⟨.ref C :: args, []⟩; again (.builtin "type.__call__" ⟨.ref C :: args, []⟩)) _ s
  refine N.bind (N.of (check_slot tc_kind tc_split typ (tc_args _ _ _) ?_))
  refine N.pure ⟨Code.quiet_builtin _ (by decide +kernel), NC.builtin (by decide +kernel) entry_typeCall ?_⟩
  unfold Builtin.«type.__call__»
  have hmr : Looks c.M s.heap (mroOf (.ref C)) cd.mro := ((Looks.ld (part := none) hC).andThen .now).andThen .now
  refine N.boolneg rfl ?_
  refine N.looks hmr ?_
  refine N.boolneg (by simpa using e4) ?_
  refine N.looks made ?_
  have hil := looks_findIn (M := c.M) X hi
  have hbi := bind_fn (M := c.M) X (h := s.heap) (f := fI)
  have S₁ := S.inst (C := C) (t := s.toks)
  obtain ⟨hh, gg, d, t, os⟩ := s
  refine N.bind (N.pure (N.bind (N.holding (N.of (wpAny_call (new_K Y' hil (.inl rfl) ?_))))))
  have kk : ∀ b o, hh.get? b = some o → ((hh.push emptyDict).push (instObj C hh.objs.size)).get? b = some o := fun b o e => Heap.get?_push_of_some _ (Heap.get?_push_of_some _ e)
  have hx : ((hh.push emptyDict).push (instObj C hh.objs.size)).get? (hh.objs.size + 1) = some (instObj C hh.objs.size) := by heap_get
  have t1 : Looks c.M ((hh.push emptyDict).push (instObj C hh.objs.size)) (typeOf (.ref (hh.objs.size + 1))) (.ref C) := (Looks.ld hx).andThen .now
  refine N.looks (a := true) (t1.andThen (self.keeps kk)) ?_
  refine N.boolneg rfl ?_
  unfold callSpecial? specialOf
  refine N.bind (N.holding (N.bind (N.looks t1 (N.of ((hil.keeps kk).here ?_)))))
  refine N.holding ?_
  refine N.bind (N.of (((hbi (.ref (hh.objs.size + 1)) (beq_iff_eq.mp hf)).keeps kk).here ?_))
  dsimp only
  refine N.bind ((h _ _ _ S₁).mono fun v s'' hv => ?_)
  obtain ⟨rfl, hv⟩ := hv
  refine N.pure ?_
  exact N.pure hv
theorem mk_w {C : Addr} {v : Value} : (Code.builtin "type.__call__" ⟨[.ref C, v], []⟩).weight ≤ 1 := by
  rw [show (Code.builtin "type.__call__" ⟨[.ref C, v], []⟩).weight = 1 from rfl]; decide
theorem mk_u {C : Addr} {v : Value} : (Code.builtin "type.__call__" ⟨[.ref C, v], []⟩).cUnits ≤ 7 := by
  rw [show (Code.builtin "type.__call__" ⟨[.ref C, v], []⟩).cUnits = 1 from rfl]; decide
theorem mk_g {C : Addr} {v : Value} : (Code.builtin "type.__call__" ⟨[.ref C, v], []⟩).isGuard = false := by kernel_rfl
end
end Mine
end
local macro_rules | `(tactic| walk_at "n_leaf") => `(tactic| ((with_reducible show Mine.N _ _ (PySem.callWith _ _ _ _ _) _ _); first | refine Mine.cwS ?_ | refine Mine.cwK ?_))
section
open PySem PySem.W PySem.Calls PyProof.Rows
set_option maxRecDepth 100000
set_option linter.unusedVariables false
set_option linter.deprecated false
end
local macro_rules | `(tactic| walk_at "n_leaf") => `(tactic| ((with_reducible show Mine.N _ _ (PySem.spliced _) _ _); refine Mine.sp_star ?_))
section
open PySem PySem.W PySem.Calls PyProof.Rows
set_option maxRecDepth 100000
set_option linter.unusedVariables false
set_option linter.deprecated false
end
local macro_rules | `(tactic| walk_at "n_leaf") => `(tactic| ((with_reducible show Mine.N _ _ (PySem.evalAll _) _ _); first | refine Mine.kw_nil ?_ | refine Mine.kw_cons ?_))
section
open PySem PySem.W PySem.Calls PyProof.Rows
set_option maxRecDepth 100000
set_option linter.unusedVariables false
set_option linter.deprecated false

end
-- M9
section
open PySem PySem.W PySem.Calls PyProof.Rows
set_option maxRecDepth 100000
set_option linter.unusedVariables false
set_option linter.deprecated false
namespace Mine
/-- a tuple of these -/
abbrev tup (vs : List Value) : Obj := { cls := .type "tuple", data := .seq vs.toArray }
/-- a range's walk at x, so many left -/
abbrev rit (x left : Int) : Obj := { cls := .type "range_iterator", dict := none, data := .fields #[rawInt x, rawInt left, rawInt 1], slots := #[] }
section
variable {c : Cx} {A : Around} {s : Shared} {L d a e : Addr} {m : Str → Option Value} {l k : List (Addr × Obj)} {t u : Tok} {env : Env} {x y : Int} {vs : List Value} {o : Obj}
-- targets that are tuples
theorem n_assignT {elts : List Expr} {kk : Nat} {tpos pos : Pos} {value : Expr} {Q : Flow → Shared → Prop}
    (h : N c A (eval value env) (fun v s₁ => N c A (assign (.Tuple elts kk tpos) env v) (fun _ => Q .next) s₁) s)
    (hs : swapsWithSole [.Tuple elts kk tpos] value pos.line env = pure false := by rfl)
    (hw : swappedStores [.Tuple elts kk tpos] value env = pure none := by rfl) : N c A (exec (.Assign [.Tuple elts kk tpos] value pos) env) Q s := by
  rw [exec_Assign]
  refine N.standAt ?_
  rw [hs]
  refine N.bind (N.pure ?_)
  rw [if_neg (by decide)]
  refine N.bind (h.mono fun v s₁ h₁ => ?_)
  rw [hw]
  refine N.bind (N.pure ?_)
  show N c A (do assignAll v [assign (.Tuple elts kk tpos) env]; pure .next) Q s₁
  exact N.bind (h₁.mono fun _ _ x => N.pure x)
theorem as_tup {elts : List Expr} {kk : Nat} {pos : Pos} {Q : Unit → Shared → Prop} (S : St c L m l k s) (hm : (a, tup vs) ∈ l) (hh : A.handled = none)
    (h : ∀ s', St c L m l k s' → N c A (assignInOrder ((assignEach elts env).map (·.2)) vs) Q s')
    (hn : (assignEach elts env).length = vs.length := by rfl) (hstar : (assignEach elts env).findIdx? (·.1) = none := by rfl) : N c A (assign (.Tuple elts kk pos) env (.ref a)) Q s := by
  rw [assign_Tuple]
  refine N.standAt ?_
  unfold unpack
  rw [hn, hstar]
  obtain ⟨D, hD, S0⟩ := S
  exact N.bind (N.holding (N.of (unpackItemsN_ S0.fr S0.nw (t := a) (items := vs.toArray) ⟨_, S0.get hm, rfl, 0, rfl⟩ hh (by simp) fun h' F' N' => h _ ⟨D, hD, F', N', S0.nd, S0.gens, S0.os, S0.kin, S0.top⟩)))
theorem ao_nil {vs : List Value} {Q : Unit → Shared → Prop} (h : Q () s) : N c A (assignInOrder ((assignEach [] env).map (·.2)) vs) Q s := by
  cases vs <;> exact N.pure h
theorem ao_name {nm : Str} {np : Pos} {rest : List Expr} {v : Value} {vs : List Value} {Q : Unit → Shared → Prop}
    (h : N c A (storeName env nm v) (fun _ s₁ => N c A (assignInOrder ((assignEach rest env).map (·.2)) vs) Q s₁) s) : N c A (assignInOrder ((assignEach (.Name nm np :: rest) env).map (·.2)) (v :: vs)) Q s := by
  show N c A (do holding vs (do standAt np; bindName env nm v); assignInOrder ((assignEach rest env).map (·.2)) vs) Q s
  exact N.bind (N.holding (N.standAt (N.bindName (h.mono fun _ _ h => h))))
theorem k_newtuple {Q : Value → Shared → Prop} (S : St c L m l k s) (hz : vs.length ≤ 16777216) (h : ∀ d s', St c L m ((d, tup vs) :: l) k s' → Q (.ref d) s') : N c A (newTuple vs) Q s := by
  obtain ⟨D, hD, S⟩ := S
  exact N.of (kup_newTuple S.fr S.nw (fun B h' F' N' lt => h B _ ⟨D, hD.no rfl, S.cons (tk := s.toks) F' N' lt⟩) (by rw [sizeLine_eq]; exact hz))
theorem t_get {i : Nat} {v : Value} {Q : Value → Shared → Prop} (S : St c L m l k s) (hm : (a, tup vs) ∈ l) (hz : vs.length ≤ 1000) (hv : vs[i]? = some v) (h : Q v s) : N c A (getItem (.ref a) (.int i t)) Q s := by
  have := (List.getElem?_eq_some_iff.mp hv).1
  exact N.of (getItem_tuple (items := vs.toArray) (j := i) ⟨_, S.get hm, rfl, 0, rfl⟩ (by omega) (by omega) (by rw [List.size_toArray]; unfold seqIndex?; simp; omega) (by simpa using hv) h)
theorem r_item_tup {i : Value} {slice : Expr} {Q : Value → Shared → Prop} (S : St c L m l k s) (hm : (a, tup vs) ∈ l) (h : N c A (getItem (.ref a) i) Q s)
    (hs : ∀ o i, subscripted slice false o i = operate [i, o] (getItem o i) ∨ subscripted slice false o i = operate [o, i] (getItem o i)) : N c A (getitemInPython (.ref a) >>= fun b => subscripted slice b (.ref a) i) Q s :=
  r_item ⟨_, S.get hm, rfl⟩ slot_tuple_getitem.lookup h hs
-- ranges
theorem k_range {n : Nat} {Q : Value → Shared → Prop} (S : St c L m l k s) (h : ∀ r s' t₁ u₁ v₁, St c L m ((r, ({ cls := .type "range", dict := none, data := .fields #[.int 0 t₁, .int n u₁, .int 1 v₁], slots := #[] } : Obj)) :: l) k s' → Q (.ref r) s') :
    N c A (call (.type "range") [.int n t]) Q s := by
  obtain ⟨hp, g, dr, tk, os⟩ := s
  exact N.of (call_range_1 (h _ _ _ _ _ (S.push (t := tk + 1 + 1) _)))
theorem k_iter_range {n : Nat} {r : Addr} {t₁ u₁ v₁ : Tok} {Q : Value → Shared → Prop} (S : St c L m ((r, ({ cls := .type "range", dict := none, data := .fields #[.int 0 t₁, .int n u₁, .int 1 v₁], slots := #[] } : Obj)) :: l) k s) (hn : n ≤ 1000000)
    (h : ∀ i s', St c L m ((i, rit 0 n) :: l) k s' → Q (.ref i) s') : N c A (pyIter (.ref r)) Q s := by
  have hsz : Builtin.Range.rangeSize 0 (n : Int) 1 = (n : Int) := by rw [rangeSize_nat]; omega
  refine N.of (wpAny_pyIter_range (S.get (.head _)) ?_ ?_)
  · unfold Builtin.Range.small
    rw [hsz]
    simp [Builtin.Range.rangeFitsLong]; omega
  · rw [hsz]
    have S' := S.push (t := s.toks) (rit 0 n)
    exact h _ _ (S'.sub (.cons_cons _ (.cons _ (.refl _))))
theorem k_next_range {x : Int} {left : Int} {Q : Option Value → Shared → Prop} (S : St c L m ((e, rit x left) :: l) k s) (hl : 0 < left) (h : ∀ t s', St c L m ((e, rit (x + 1) (left - 1)) :: l) k s' → Q (some (.int x t)) s') : N c A (pyNext (.ref e)) Q s :=
  N.of (wpAny_pyNext_range_item (S.get (.head _)) hl fun h' hi hs => h _ _ (S.same hs hi rfl))
theorem k_next_range_end {x : Int} {Q : Option Value → Shared → Prop} (S : St c L m ((e, rit x 0) :: l) k s) (hh : A.handled = none) (h : ∀ s', St c L m l k s' → Q none s') : N c A (pyNext (.ref e)) Q s :=
  N.of (wpAny_pyNext_range_end hh (S.get (.head _)) (by omega) fun h' hx => h _ (S.ext (tk := s.toks) hx))
-- ints
theorem i_shl {n : Int} {Q : Value → Shared → Prop} (S : St c L m l k s) (h0 : 0 ≤ n) (h1 : n ≤ 1000) (ha : x.natAbs < 2 ^ 64) (h : ∀ t s', St c L m l k s' → Q (.int (x * 2 ^ n.toNat) t) s') : N c A (binaryOp .LShift (.int x t) (.int n u)) Q s :=
  N.of (lshift_int_small h0 (by omega) ha (h _ _ S.tok))
theorem k_max {Q : Value → Shared → Prop} (S : St c L m l k s) (hh : A.handled = none) (h : ∀ t s', St c L m l k s' → Q (.int (max x y) t) s') : N c A (call (.builtin "max") [.int x t, .int y u]) Q s :=
  N.of (max_two_ints hh fun h' tk hk => by
    by_cases q : y > x
    · rw [if_pos q]; have := h u _ (S.grown (tk := tk) hk); rwa [show max x y = y by omega] at this
    · rw [if_neg q]; have := h t _ (S.grown (tk := tk) hk); rwa [show max x y = x by omega] at this)
-- bytes
theorem k_bytes_list {ns : List Int} {Q : Value → Shared → Prop} (X : LsO o vs) (S : St c L m l k s) (hm : (d, o) ∈ l) (hi : IntsAre vs ns) (hr : ∀ n ∈ ns, 0 ≤ n ∧ n < 256) (hz : vs.length ≤ 1000000) (hh : A.handled = none)
    (h : ∀ t s', St c L m l k s' → Q (.bytes (byteArr ns) t) s') : N c A (call (.type "bytes") [.ref d]) Q s :=
  N.of (call_bytes_ints (X.isList (S.get hm)) hi hr (by rw [sizeLine_eq]; omega) hh fun h' t k' hk => h t _ (S.grown (tk := k') hk))
theorem y_ne {p q : Array UInt8} {Q : Value → Shared → Prop} (h : Q (.bool (p.toList != q.toList)) s) : N c A (compareOp .NotEq (.bytes p t) (.bytes q u)) Q s := N.of (ne_bytes h)
theorem y_eq {p q : Array UInt8} {Q : Value → Shared → Prop} (h : Q (.bool (p.toList == q.toList)) s) : N c A (compareOp .Eq (.bytes p t) (.bytes q u)) Q s := N.of (eq_bytes h)
end
namespace BF
theorem ba_no_bytes : typeLookup (.type "bytearray") "__bytes__" = pure none := by rw [typeLookup_type, builtinLookup_eq_fast]; kernel_rfl
end BF
section
variable {prog : Program} {w : World} {A : Around} {E : Value → Shared → Prop} {s : Shared}
theorem new_of_ba {d : Addr} {b : List UInt8} {Q : Value → Shared → Prop} (ho : s.heap.get? d = some (baObj b)) (hz : b.length ≤ 16777216)
    (hQ : Q (.bytes b.toArray s.toks) { s with toks := s.toks + 1 }) :
    codeAny (model prog w) A (.call (.builtin "bytes.__new__") ⟨[.type "bytes", .ref d], []⟩) (wants Q E) s := by
  refine codeAny_of_tree ?_
  show wpAny _ A.in1 (do checkBuiltinCall "bytes.__new__" ⟨[.type "bytes", .ref d], []⟩; again (.builtin "bytes.__new__" ⟨[.type "bytes", .ref d], []⟩)) _ _ s
  refine wpAny_bind (wpAny_of_eq (F.bm_newCall _) (wpAny_pure ⟨plainId_quiet F.bm_plain _, codeAny_builtin F.bm_entry ?_⟩))
  rw [Around.under_plainId F.bm_plain _]
  have hT : s.TypeIs (.ref d) "bytearray" := ⟨_, ho, rfl⟩
  unfold Builtin.«bytes.__new__»
  refine wpAny_bind (wpAny_of_eq (a := true) rfl ?_)
  refine bm_if_false rfl ?_
  refine wpAny_bind (wpAny_of_eq F.bm_sub ?_)
  refine bm_if_false rfl ?_
  refine wpAny_bind (wpAny_of_eq (F.bm_bind _) ?_)
  refine wpAny_bind (wpAny_of_eq (a := ()) rfl ?_)
  refine wpAny_bind (wpAny_of_eq (a := ()) rfl ?_)
  refine bm_if_false rfl ?_
  refine wpAny_bind (wpAny_specialOf hT BF.ba_no_bytes ?_)
  refine wpAny_bind (wpAny_bind ?_)
  show wpAny _ _ (load d >>= _) _ _ _
  refine wpAny_bind (wpAny_load ho ?_)
  refine wpAny_pure (wpAny_pure ?_)
  refine bm_if_false rfl ?_
  refine wpAny_bind (wpAny_specialOf hT BF.ba_index ?_)
  refine bm_if_true rfl ?_
  first
    | show wpAny _ _ (Builtin.Bytes.buffer? "bytes.__new__" (.ref d) true >>= _) _ _ _
    | (refine wpAny_bind ?_; show wpAny _ _ (Builtin.Bytes.buffer? "bytes.__new__" (.ref d) true >>= _) _ _ _)
  refine wpAny_bind (buf_octets (Octets.ba ho) ?_)
  refine wpAny_bind (wpAny_rule ?_)
  refine wpAny_bind (wpAny_mkBytes ?_ (by rw [sizeLine_eq, List.size_toArray]; omega))
  first
    | (show wpAny _ _ (if (Value.type "bytes" == Value.type "bytes") = true then _ else _) _ _ _
       refine bm_if_true (by decide) ?_
       first
         | exact wpAny_pure hQ
         | exact wpAny_bind (wpAny_pure (wpAny_pure hQ)))
    | (refine wpAny_bind ?_
       show wpAny _ _ (if (Value.type "bytes" == Value.type "bytes") = true then _ else _) _ _ _
       refine bm_if_true (by decide) ?_
       first
         | exact wpAny_pure (wpAny_pure hQ)
         | exact wpAny_bind (wpAny_pure (wpAny_pure (wpAny_pure hQ))))
end
section
variable {c : Cx} {A : Around} {s : Shared} {L d a e : Addr} {m : Str → Option Value} {l k : List (Addr × Obj)} {t u : Tok} {env : Env} {x y : Int} {vs : List Value} {o : Obj}
theorem k_bytes_ba {b : List UInt8} {Q : Value → Shared → Prop} (S : St c L m l k s) (hm : (d, baObj b) ∈ l) (hz : b.length ≤ 16777216) (h : ∀ t s', St c L m l k s' → Q (.bytes b.toArray t) s') : N c A (call (.type "bytes") [.ref d]) Q s :=
  N.of (callType_codes (Q₁ := fun obj s₁ => s₁.TypeIs obj "bytes" ∧ Q obj s₁) F.bm_called (F.bm_typeCall _) F.entry_object_init
    (new_of_ba (S.get hm) hz ⟨PySem.W.typeIs_bytes _ _ _, h _ _ S.tok⟩) fun obj s₁ h₁ =>
      ⟨h₁.1, F.args_object_init_2 obj _, object_init_meets F.bm_called.init.lookup F.bm_called.made (by decide) c.prog c.w A.in1 _ s₁ ⟨h₁.1, rfl, h₁.2⟩⟩)
end
end Mine

end
-- M10
section
open PySem PySem.W PySem.Calls PyProof.Rows
set_option maxRecDepth 100000
set_option linter.unusedVariables false
set_option linter.deprecated false
namespace Mine
section
variable {c : Cx} {A : Around} {s : Shared} {L d a e : Addr} {m : Str → Option Value} {l k : List (Addr × Obj)} {t u : Tok} {env : Env} {x y : Int} {vs us : List Value} {o o' : Obj}
theorem l_eq {ns ms : List Int} {Q : Value → Shared → Prop} (X : LsO o vs) (X' : LsO o' us) (S : St c L m l k s) (hm : (a, o) ∈ l) (hm' : (d, o') ∈ l) (hi : IntsAre vs ns) (hi' : IntsAre us ms) (hu : A.units + 64 < cLine)
    (h : Q (.bool (decide (ns = ms))) s) : N c A (compareOp .Eq (.ref a) (.ref d)) Q s :=
  N.of (eq_intsK (X.isList (S.get hm)) hi (X'.isList (S.get hm')) hi' hu h)
theorem l_ne {ns ms : List Int} {Q : Value → Shared → Prop} (X : LsO o vs) (X' : LsO o' us) (S : St c L m l k s) (hm : (a, o) ∈ l) (hm' : (d, o') ∈ l) (hi : IntsAre vs ns) (hi' : IntsAre us ms) (hu : A.units + 64 < cLine)
    (h : Q (.bool (!decide (ns = ms))) s) : N c A (compareOp .NotEq (.ref a) (.ref d)) Q s :=
  N.of (ne_intsK (X.isList (S.get hm)) hi (X'.isList (S.get hm')) hi' hu h)
theorem t_ne {ns ms : List Int} {Q : Value → Shared → Prop} (S : St c L m l k s) (hm : (a, tup vs) ∈ l) (hm' : (d, tup us) ∈ l) (hi : IntsAre vs ns) (hi' : IntsAre us ms) (hu : A.units + 64 < cLine)
    (h : Q (.bool (!decide (ns = ms))) s) : N c A (compareOp .NotEq (.ref a) (.ref d)) Q s := by
  have sh : ∀ ns : List Int, SeqAt.shaped (.tuple (ns.map PyData.int)) = true := fun ns => by
    have h1 := W.depthAll_ints ns
    have h2 : PyData.depth (.tuple (ns.map PyData.int)) ≤ 64 := by simp only [PyData.depth]; omega
    show (PyData.canLay0 (.tuple (ns.map PyData.int)) && decide (PyData.depth (.tuple (ns.map PyData.int)) ≤ 64)) = true
    rw [Bool.and_eq_true]
    exact ⟨by simp only [PyData.canLay0]; exact canLayAll0_ints ns, decide_eq_true h2⟩
  exact N.of (ne_dataH_same (reads_tuple_at (S.get hm) rfl rfl (by simpa using readsAll_of_ints hi)) (reads_tuple_at (S.get hm') rfl rfl (by simpa using readsAll_of_ints hi')) (sh ns) (sh ms) hu
    (by simp only [SeqAt.noMix]; exact noMix_ints ns ms) (by simp only [PySem.Spec.same]; rw [same_ints]; exact h))
theorem k_truthy_int {Q : Bool → Shared → Prop} (h : Q (x != 0) s) : N c A (truthy (.int x t)) Q s := N.of (PyProof.Rows.truthy_int h)
theorem k_sum {ns : List Int} {Q : Value → Shared → Prop} (S : St c L m l k s) (hl : s.heap.IsList d vs.toArray) (hi : IntsAre vs ns) (hh : A.handled = none) (h : ∀ t s', St c L m l k s' → Q (.int ns.sum t) s') : N c A (call (.builtin "sum") [.ref d]) Q s := by
  have ha := hi.allInts
  obtain ⟨xs, e⟩ := ha.items
  have en : (numsOf (intItems xs).toList) = ns := by rw [← e]; exact hi.numsOf
  rw [nums_intItems] at en
  rw [e] at hl
  refine N.of (sum_intListG hh hl fun h' tk t' hk => ?_)
  have := h t' _ (S.grown (tk := tk) hk)
  rw [preSum_eq, List.take_of_length_le (by simp)]
  rw [← en] at this
  exact this
/-- x[lo:hi] of a list: a list of its own -/
theorem l_cut {items : Array Value} {vl vu : Value} {lo hi : Option Int} {Q : Value → Shared → Prop} (S : St c L m ((a, sliceObj vl vu) :: l) k s) (hl : s.heap.IsList d items) (pl : IsPart vl lo) (pu : IsPart vu hi) (hz : items.size ≤ 1000000)
    (h : ∀ e s', St c L m ((e, listOf (slicePick items lo hi none) 0) :: l) k s' → Q (.ref e) s') : N c A (getItem (.ref d) (.ref a)) Q s := by
  refine N.of (wpAny_getItem_list_slice hl ⟨_, S.get (.head _), rfl, rfl⟩ pl pu .none (by simp) ?_ (by rw [sizeLine_eq]; omega))
  exact h _ _ (S.drop.push (t := s.toks) (listOf (slicePick items lo hi none) 0))
/-- x[lo:hi] of bytes -/
theorem y_cut {b : List UInt8} {vl vu : Value} {lo hi : Option Int} {Q : Value → Shared → Prop} (S : St c L m ((a, sliceObj vl vu) :: l) k s) (pl : IsPart vl lo) (pu : IsPart vu hi) (hz : b.length ≤ 16777216)
    (h : ∀ t s', St c L m l k s' → Q (.bytes (cutOf b lo hi).toArray t) s') : N c A (getItem (.bytes b.toArray t) (.ref a)) Q s := by
  refine N.of (getItem_meets (typeIs_bytes _ _ _) (by decide) FB.slot_bytes_getitem FB.entry_bytes_getitem (FB.args_bytes_getitem_2 _ _) (KBc.meets_slice2 b.toArray t _ pl pu) ⟨⟨_, S.get (.head _), rfl, rfl⟩, ?_, fun t' k' => ?_⟩)
  · rw [picked_cut, List.size_toArray, sizeLine_eq]
    have : (cutOf b lo hi).length ≤ b.length := by unfold cutOf; rw [List.length_take, List.length_drop]; omega
    omega
  · rw [picked_cut]
    exact h _ _ (S.drop.tok (t := k'))
theorem r_item_y {b : Array UInt8} {i : Value} {slice : Expr} {Q : Value → Shared → Prop} (h : N c A (getItem (.bytes b t) i) Q s)
    (hs : ∀ o i, subscripted slice false o i = operate [i, o] (getItem o i) ∨ subscripted slice false o i = operate [o, i] (getItem o i)) : N c A (getitemInPython (.bytes b t) >>= fun b' => subscripted slice b' (.bytes b t) i) Q s :=
  r_item (typeIs_bytes _ _ _) FB.slot_bytes_getitem.lookup h hs
theorem r_item_list {items : Array Value} {i : Value} {slice : Expr} {Q : Value → Shared → Prop} (hl : s.heap.IsList d items) (h : N c A (getItem (.ref d) i) Q s)
    (hs : ∀ o i, subscripted slice false o i = operate [i, o] (getItem o i) ∨ subscripted slice false o i = operate [o, i] (getItem o i)) : N c A (getitemInPython (.ref d) >>= fun b' => subscripted slice b' (.ref d) i) Q s :=
  r_item hl.typeIs slot_list_getitem.lookup h hs
/-- a key of ints, sought in a dict -/
theorem k_notin {to : Obj} {ns : List Int} {l0 : List (Addr × Obj)} {xs : List (List Int × Addr × Value)} {Q : Value → Shared → Prop} (V : VtO c l0 o d xs) (hsub : ∀ p ∈ l0, p ∈ l) (T : TupO to ns) (S : St c L m l k s) (hm : (d, o) ∈ l) (ht : (e, to) ∈ l) (hu : A.units + 8 < cLine)
    (h : ∀ s', St c L m l k s' → Q (.bool (!(atKey xs ns).isSome)) s') : N c A (compareOp .NotIn (.ref e) (.ref d)) Q s := by
  have hD := (V.sub hsub).dict S hm
  obtain ⟨tc, items, n, td, ti⟩ := T
  exact N.of (wpAny_notIn_heap (knd := tupleKind (intKind c.prog c.w)) (by show A.units + 1 < _; omega) ⟨to, items, n, S.get ht, tc, td, ti c⟩ V.lo hD (h _ (S.tok (t := _))))
-- or, and
theorem e_or2 {x z : Expr} {pos : Pos} {Q : Value → Shared → Prop} (h : N c A (eval x env) (fun v s₁ => N c A (truthy v) (fun b s₂ => if b then Q v s₂ else N c A (eval z env) Q s₂) s₁) s) : N c A (eval (.BoolOp .Or [x, z] pos) env) Q s := by
  show N c A (do
    let v ← eval x env
    standAt pos
    let t ← holding [v] (truthy v)
    match BoolOp.Or, t with
    | .And, false | .Or, true => pure v
    | _, _ => boolOp pos .Or [eval z env]) Q s
  refine N.bind (h.mono fun v s₁ h => N.standAt (N.bind (N.holding (h.mono fun b s₂ h => ?_))))
  cases b with
  | true => exact N.pure h
  | false => exact h
theorem e_and1 {x : Expr} {pos : Pos} {Q : Value → Shared → Prop} (h : N c A (eval x env) Q s) : N c A (eval (.BoolOp .And [x] pos) env) Q s := h
theorem e_and {x z : Expr} {rest : List Expr} {pos : Pos} {Q : Value → Shared → Prop} (h : N c A (eval x env) (fun v s₁ => N c A (truthy v) (fun b s₂ => if b then N c A (eval (.BoolOp .And (z :: rest) pos) env) Q s₂ else Q v s₂) s₁) s) :
    N c A (eval (.BoolOp .And (x :: z :: rest) pos) env) Q s := by
  show N c A (do
    let v ← eval x env
    standAt pos
    let t ← holding [v] (truthy v)
    match BoolOp.And, t with
    | .And, false | .Or, true => pure v
    | _, _ => boolOp pos .And (evalEach (z :: rest) env)) Q s
  refine N.bind (h.mono fun v s₁ h => N.standAt (N.bind (N.holding (h.mono fun b s₂ h => ?_))))
  cases b with
  | true => exact h
  | false => exact N.pure h
-- lists walked
abbrev lit (l : Addr) (i : Nat) : Obj := { cls := .type "list_iterator", data := .fields #[.ref l, .int i 0] }
theorem k_iter_list {items : Array Value} {Q : Value → Shared → Prop} (S : St c L m l k s) (hl : s.heap.IsList d items) (h : ∀ i s', St c L m ((i, lit d 0) :: l) k s' → Q (.ref i) s') : N c A (pyIter (.ref d)) Q s :=
  N.of (wpAny_pyIter_list hl (h _ _ (S.push (t := s.toks) (lit d 0))))
/-- a walk over a list, at i -/
def LitO (o : Obj) (d : Addr) (i : Nat) : Prop := o.cls = .type "list_iterator" ∧ o.data = .fields #[.ref d, .int i 0]
theorem k_next_list {items : Array Value} {i : Nat} {v : Value} {Q : Option Value → Shared → Prop} (Y : LitO o d i) (S : St c L m ((e, o) :: l) k s) (hl : s.heap.IsList d items) (hv : items[i]? = some v) (h : ∀ o' s', LitO o' d (i + 1) → St c L m ((e, o') :: l) k s' → Q (some v) s') : N c A (pyNext (.ref e)) Q s :=
  N.of (wpAny_pyNext_list_item ⟨_, S.get (.head _), Y.1, Y.2⟩ hl hv fun h' hi hs => by
    obtain ⟨o', ho', hc, hd⟩ := hi
    exact h o' _ ⟨hc, hd⟩ (S.same (tk := s.toks) hs ho' (noInst hc)))
theorem k_next_list_end {items : Array Value} {i : Nat} {Q : Option Value → Shared → Prop} (Y : LitO o d i) (S : St c L m ((e, o) :: l) k s) (hl : s.heap.IsList d items) (hh : A.handled = none) (hv : items[i]? = none) (h : ∀ s', St c L m l k s' → Q none s') : N c A (pyNext (.ref e)) Q s :=
  N.of (wpAny_pyNext_list_end hh ⟨_, S.get (.head _), Y.1, Y.2⟩ hl hv fun h' hx => h _ (S.ext (tk := s.toks) hx))
theorem k_owned {i : Nat} {elts : List Expr} {kk : Nat} {pos : Pos} {Q : Unit → Shared → Prop} (Y : LitO o d i) (S : St c L m l k s) (hm : (e, o) ∈ l) (h : Q () s) : N c A (letOwnedTupleGo (.Tuple elts kk pos) (.ref e) (.ref a)) Q s :=
  N.of (wpAny_letOwnedTupleGo_listiter ⟨_, S.get hm, Y.1, Y.2⟩ h)
/-- a turn of a for over a target that is a tuple -/
theorem NC.forT {elts : List Expr} {kk : Nat} {xp : Pos} {it : Value} {body : List Stmt} {R : Flow → Shared → Prop}
    (h : N c A (pyNext it) (fun o s₁ => match o with
      | none => R .next s₁
      | some v => N c A (letOwnedTupleGo (.Tuple elts kk xp) it v) (fun _ s₁' => N c A (assign (.Tuple elts kk xp) env v) (fun _ s₂ => N c A (execs body env) (fun f s₃ => match f with
        | .next | .cont => NC c A (.forLoop (.Tuple elts kk xp) it body [] env) R s₃ | .brk => R .next s₃ | .ret v => R (.ret v) s₃) s₂) s₁') s₁) s) :
    NC c A (.forLoop (.Tuple elts kk xp) it body [] env) R s := by
  refine NC.tree rfl ?_
  rw [Around.under_of_weight rfl]
  show N c A ((forTurn (.Tuple elts kk xp) it body [] env).onRaise _) _ s
  refine N.onRaise ?_
  show N c A (do
    standAt xp
    match ← (pyNext it).onRaise (fun _ => standAt { xp with line := 0 }) with
    | none => again (.block [] env)
    | some v =>
      letOwnedTupleGo (.Tuple elts kk xp) it v
      assign (.Tuple elts kk xp) env v
      match ← execs body env with
      | .next | .cont => again (.forLoop (.Tuple elts kk xp) it body [] env)
      | .brk => pure (.done .next)
      | .ret v => pure (.done (.ret v))) _ s
  refine N.standAt (N.bind (N.onRaise (h.mono fun o s₁ h₁ => ?_)))
  cases o with
  | none => exact N.pure ⟨rfl, NC.block0 h₁⟩
  | some v =>
    refine N.bind (N.mono h₁ fun _ s₁' h₁' => N.bind (N.mono h₁' fun _ s₂ h₂ => N.bind (N.mono h₂ fun f s₃ h₃ => ?_)))
    cases f <;> first | exact N.pure ⟨rfl, h₃⟩ | exact N.pure h₃
theorem NC.forT_ind {elts : List Expr} {kk : Nat} {xp : Pos} {it : Value} {body : List Stmt} {R : Flow → Shared → Prop} (I : Nat → Shared → Prop)
    (step : ∀ n s, I n s → N c A (pyNext it) (fun o s₁ => match o with
      | none => R .next s₁
      | some v => N c A (letOwnedTupleGo (.Tuple elts kk xp) it v) (fun _ s₁' => N c A (assign (.Tuple elts kk xp) env v) (fun _ s₂ => N c A (execs body env) (fun f s₃ => match f with
        | .next | .cont => ∃ n', n' < n ∧ I n' s₃ | .brk => R .next s₃ | .ret v => R (.ret v) s₃) s₂) s₁') s₁) s) : ∀ n s, I n s → NC c A (.forLoop (.Tuple elts kk xp) it body [] env) R s := by
  intro n
  induction n using Nat.strongRecOn with
  | ind n ih =>
    intro s hI
    refine NC.forT ((step n s hI).mono fun o s₁ h => ?_)
    cases o with
    | none => exact h
    | some v =>
      refine N.mono h fun _ s₁' h => N.mono h fun _ s₂ h => N.mono h fun f s₃ h => ?_
      cases f with
      | next => obtain ⟨n', hn, hI'⟩ := h; exact ih n' hn _ hI'
      | cont => obtain ⟨n', hn, hI'⟩ := h; exact ih n' hn _ hI'
      | brk => exact h
      | ret v => exact h
end
end Mine

end
-- M11
section
open PySem PySem.W PySem.Calls PyProof.Rows
set_option maxRecDepth 100000
set_option linter.unusedVariables false
set_option linter.deprecated false
namespace Mine
/-- a captured variable's cell -/
abbrev cellO (v : Option Value) : Obj := { cls := .type "cell", data := .cell v }
def cellsL (n : Nat) : List (Str × NameKind) → List (Addr × Obj) → List (Addr × Obj)
  | [], acc => acc
  | (_, kind) :: r, acc => if kind == .cell then cellsL (n + 1) r ((n, cellO none) :: acc) else cellsL n r acc
/-- the arguments laid into their names, one by one -/
def BindsDo (M : Model) (A : Around) (env : Env) (E : Value → Shared → Prop) : List (Str × Value) → (Shared → Prop) → Shared → Prop
  | [], Q, s => Q s
  | (n, v) :: r, Q, s => wpAny M A (storeName env n v) (fun _ s' => BindsDo M A env E r Q s') E s
theorem binds_each {M : Model} {A : Around} {E : Value → Shared → Prop} {env : Env} (f : Str × Value → PUnit → Sem (ForInStep PUnit)) (hf : ∀ n v u, f (n, v) u = (do storeName env n v; pure (.yield ⟨⟩))) :
    ∀ (binds : List (Str × Value)) (s : Shared) (Q : PUnit → Shared → Prop), BindsDo M A env E binds (fun s' => Q ⟨⟩ s') s → wpAny M A (forIn binds ⟨⟩ f) Q E s
  | [], s, Q, h => by rw [List.forIn_nil]; exact wpAny_pure h
  | (n, v) :: r, s, Q, h => by
    rw [List.forIn_cons, hf]
    exact wpAny_bind (wpAny_bind (wpAny_mono h (fun _ s' h' => wpAny_pure (binds_each f hf r s' Q h')) fun _ _ h' => h'))
theorem BindsDo.mono {M : Model} {A : Around} {E : Value → Shared → Prop} {env : Env} {Q Q' : Shared → Prop} (hQ : ∀ s, Q s → Q' s) : ∀ {binds : List (Str × Value)} {s : Shared}, BindsDo M A env E binds Q s → BindsDo M A env E binds Q' s
  | [], s, h => hQ s h
  | (n, v) :: r, s, h => wpAny_mono h (fun _ _ h' => BindsDo.mono hQ h') fun _ _ h' => h'
section
variable {c : Cx} {A : Around} {s : Shared} {L a d f : Addr} {m : Str → Option Value} {l k : List (Addr × Obj)} {cn : Str} {cs : Scope} {ccd : Value}
theorem St.cells : ∀ (names : List (Str × NameKind)) {s : Shared} {l : List (Addr × Obj)}, St c L m l k s → St c L m (cellsL s.heap.objs.size names l) k { s with heap := pushCells s.heap names }
  | [], s, l, S => S
  | (n, kind) :: r, s, l, S => by
    unfold cellsL pushCells
    by_cases h : (kind == NameKind.cell) = true
    · rw [if_pos h, if_pos h]
      have S1 := S.push (t := s.toks) (cellO none)
      have z := St.cells r S1
      have e : ({ s with heap := s.heap.push (cellO none), toks := s.toks } : Shared).heap.objs.size = s.heap.objs.size + 1 := Heap.size_push _ _
      rw [e] at z
      exact z
    · rw [if_neg h, if_neg h]
      exact St.cells r S

/-- a call of a def some of whose names are captured -/
theorem n_callF {name qual : Str} {params : Arguments} {body : List Stmt} {scope : Scope} {dV kV doc pm cdv ct oc : Value} {an od : Option Addr} {osl : Array (Option Value)} {pos : List Value} {kw : List (Str × Value)} {binds : List (Str × Value)}
    {Q : Value → Shared → Prop} (S : St c L m l k s) (ho : c.K.lookup f = some ⟨oc, od, .func (fnOf name qual params body scope dV kV doc pm an cdv ct), osl⟩) (hcd : codeIn c.K cdv qual = true) (hroom : A.depth < recursionLimit)
    (hbind : BindsTo s (fnOf name qual params body scope dV kV doc pm an cdv ct) ⟨pos, kw⟩ binds)
    (h : ∀ L' oL s₁, St c L' (fun _ => none) (cellsL (L' + 1) scope.names l) ((L, oL) :: k) s₁ →
      BindsDo c.M A.in1 (envOfC qual scope L' f cdv) (fun _ _ => False) binds (fun s₂ => ∃ L'' m'' l'', St c L'' m'' l'' ((L, oL) :: k) s₂ ∧ N c (A.deeper (envOfC qual scope L' f cdv)) (execs body (envOfC qual scope L' f cdv)) (Back c L m oL k Q) s₂) s₁)
    (hco : scope.isCoroutine = false := by rfl) (hgen : scope.isGenerator = false := by rfl) (hk : scope.kind = .function := by rfl) :
    N c A (call (.ref f) pos kw) Q s := by
  have X := S.X
  refine N.call (NC.def_ (fd := fnOf name qual params body scope dV kV doc pm an cdv ct) (body := body) hroom (X _ _ ho) rfl hco hgen rfl (codeRec_of X hcd) (hbind _ _ _ _ ?_))
  simp only [newFunctionEnv, Option.isSome_none, Bool.false_eq_true, if_false]
  refine wpAny_bind (wpAny_alloc ?_)
  refine wpAny_bind (wpAny_layCells _ (fun name kind cells => by cases hkc : kind == NameKind.cell <;> simp) _ _ _ _ ?_)
  have hsb : Heap.ExtBut s.heap.objs.size s.heap (s.heap.push { cls := .type "frame", data := .dict #[] }) := fun b o _ e => Heap.get?_push_of_some _ e
  have hk₁ : ∀ b o, s.heap.get? b = some o → (s.heap.push { cls := .type "frame", data := .dict #[] }).get? b = some o := fun b o e => Heap.get?_push_of_some _ e
  obtain ⟨oL, S₂, back⟩ := S.enter (t := s.toks) (Heap.Ns.new s.heap (.type "frame")) hk₁
  have S₃ := St.cells scope.names S₂
  have e1 : ({ s with heap := s.heap.push { cls := .type "frame", data := .dict #[] }, toks := s.toks } : Shared).heap.objs.size = s.heap.objs.size + 1 := Heap.size_push _ _
  rw [e1] at S₃
  rw [show ({ s with heap := s.heap.push { cls := .type "frame", data := .dict #[] } } : Shared).heap.objs.size = s.heap.objs.size + 1 from Heap.size_push ..]
  have z := h _ oL _ S₃
  refine wpAny_bind (binds_each (env := envOfC qual scope s.heap.objs.size f cdv) _ (fun _ _ _ => rfl) binds _ _ ?_)
  refine z.mono fun s₂ h₂ => ?_
  obtain ⟨L'', m'', l'', S'', hb⟩ := h₂
  refine wpAny_pure ⟨S''.top.nolimit.keeps S''.fr.keep, NC.func (hb.mono fun fl s' hb => ?_)⟩
  obtain ⟨L', m', l', S', q⟩ := hb
  cases fl <;> exact q (back _ _ _ _ S')
-- binding the arguments
theorem w_loc {x : Str} {v : Value} {r : List (Str × Value)} {E : Value → Shared → Prop} {Q : Shared → Prop} (S : St c L m l k s) (h : ∀ s', St c L (fun y => if y = x then some v else m y) l k s' → BindsDo c.M A (envOfC cn cs L a ccd) E r Q s')
    (hk : cs.kind = .function := by rfl) (hl : (envOfC cn cs L a ccd).kindOf x = some .local := by rfl) : BindsDo c.M A (envOfC cn cs L a ccd) E ((x, v) :: r) Q s :=
  wpAny_storeName_local hl S.fr.ns (fun h' hn hs => h _ (S.set hn hs)) (by show (cs.kind == .class || (cs.kind == .module && L != mainGlobals)) = false; rw [hk]; rfl)
theorem store_cell {M : Model} {x : Str} {v : Value} {v₀ : Option Value} {c₀ : Addr} {E : Value → Shared → Prop} {Q : Unit → Shared → Prop} (S : St c L m ((c₀, cellO v₀) :: l) k s) (h : ∀ s', St c L m ((c₀, cellO (some v)) :: l) k s' → Q () s')
    (hc : (envOfC cn cs L a ccd).cells.lookup x = some c₀) (hk : cs.kind = .function) (hl : (envOfC cn cs L a ccd).kindOf x = some .cell) : wpAny M A (storeName (envOfC cn cs L a ccd) x v) Q E s := by
  unfold storeName
  have hk' : (envOfC cn cs L a ccd).scope.kind = .function := hk
  simp only [hl, hk']
  refine wpAny_bind (wpAny_cellOf hc ?_)
  unfold cellSet
  have ho := S.get (.head _)
  refine wpAny_bind (wpAny_load ho ?_)
  exact wpAny_update ho (h _ (S.upd (t := s.toks) (o' := cellO (some v)) rfl rfl))
theorem w_cell {x : Str} {v : Value} {v₀ : Option Value} {c₀ : Addr} {r : List (Str × Value)} {E : Value → Shared → Prop} {Q : Shared → Prop} (S : St c L m ((c₀, cellO v₀) :: l) k s) (h : ∀ s', St c L m ((c₀, cellO (some v)) :: l) k s' → BindsDo c.M A (envOfC cn cs L a ccd) E r Q s')
    (hc : (envOfC cn cs L a ccd).cells.lookup x = some c₀ := by rfl) (hk : cs.kind = .function := by rfl) (hl : (envOfC cn cs L a ccd).kindOf x = some .cell := by rfl) : BindsDo c.M A (envOfC cn cs L a ccd) E ((x, v) :: r) Q s :=
  store_cell S h hc hk hl
-- names of such a def
theorem r_locC {x : Str} {pos : Pos} {v : Value} {Q : Value → Shared → Prop} (S : St c L m l k s) (hv : m x = some v) (h : Q v s)
    (hk : cs.kind = .function := by rfl) (hl : (envOfC cn cs L a ccd).kindOf x = some .local := by rfl) (hd : (x == ("__debug__" : Str)) = false := by decide) :
    N c A (eval (.Name x pos) (envOfC cn cs L a ccd)) Q s := N.of (ldLoc S.fr hv h hk hl hd)
theorem r_cell {x : Str} {pos : Pos} {v : Value} {c₀ : Addr} {Q : Value → Shared → Prop} (hc : (envOfC cn cs L a ccd).cells.lookup x = some c₀) (S : St c L m l k s) (hm : (c₀, cellO (some v)) ∈ l) (h : Q v s)
    (hk : cs.kind = .function := by rfl) (hl : (envOfC cn cs L a ccd).kindOf x = some .cell := by rfl) (hd : (x == ("__debug__" : Str)) = false := by decide) :
    N c A (eval (.Name x pos) (envOfC cn cs L a ccd)) Q s := N.of (wpAny_Name (wpAny_loadName_cell hk hl hc ⟨_, S.get hm, rfl⟩ h) hd)
theorem r_globC {x : Str} {pos : Pos} {v : Value} {Q : Value → Shared → Prop} (S : St c L m l k s) (e : nsIn c.K mainGlobals x = some (some v)) (h : Q v s)
    (hk : cs.kind = .function := by rfl) (hx : (envOfC cn cs L a ccd).kindOf x = some .globalImplicit := by rfl) (hd : (x == ("__debug__" : Str)) = false := by decide) :
    N c A (eval (.Name x pos) (envOfC cn cs L a ccd)) Q s :=
  N.of (Calls.Name_function_global hk hx (Calls.loadGlobal_global (env := envOfC cn cs L a ccd) (S.top.g.keeps S.fr.keep) (mg_of S.kin S.top.g e) h) hd)
theorem r_bltC {x : Str} {pos : Pos} {v : Value} {Q : Value → Shared → Prop} (S : St c L m l k s) (e : nsIn c.K mainGlobals x = some none) (hv : bootBuiltins x = some v) (hn : x ≠ "__name__") (h : Q v s)
    (hk : cs.kind = .function := by rfl) (hx : (envOfC cn cs L a ccd).kindOf x = some .globalImplicit := by rfl) (hd : (x == ("__debug__" : Str)) = false := by decide) :
    N c A (eval (.Name x pos) (envOfC cn cs L a ccd)) Q s :=
  N.of (Calls.Name_function_global hk hx (Calls.loadGlobal_builtin (env := envOfC cn cs L a ccd) (S.top.g.keeps S.fr.keep) (mg_none_of S.kin S.top.g e) (S.top.b.keeps S.fr.keep) ((S.top.builtins x hn).trans hv) h) hd)
theorem r_stC {x : Str} {v : Value} {Q : Unit → Shared → Prop} (S : St c L m l k s) (h : ∀ s', St c L (fun y => if y = x then some v else m y) l k s' → Q () s')
    (hk : cs.kind = .function := by rfl) (hl : (envOfC cn cs L a ccd).kindOf x = some .local := by rfl) : N c A (storeName (envOfC cn cs L a ccd) x v) Q s :=
  N.of (wpAny_storeName_local hl S.fr.ns (fun h' hn hs => h _ (S.set hn hs)) (by show (cs.kind == .class || (cs.kind == .module && L != mainGlobals)) = false; rw [hk]; rfl))
theorem r_stcell {x : Str} {v : Value} {v₀ : Option Value} {c₀ : Addr} {Q : Unit → Shared → Prop} (S : St c L m ((c₀, cellO v₀) :: l) k s) (h : ∀ s', St c L m ((c₀, cellO (some v)) :: l) k s' → Q () s')
    (hc : (envOfC cn cs L a ccd).cells.lookup x = some c₀ := by rfl) (hk : cs.kind = .function := by rfl) (hl : (envOfC cn cs L a ccd).kindOf x = some .cell := by rfl) : N c A (storeName (envOfC cn cs L a ccd) x v) Q s :=
  N.of (store_cell S h hc hk hl)
-- comprehensions
/-- a list made while something beside it was used up -/
theorem St.made {i : Addr} {io o : Obj} {h' : Heap} {t : Nat} (S : St c L m ((i, io) :: l) k s) (hk : ∀ b o, b ≠ i → s.heap.get? b = some o → h'.get? b = some o) (hn : s.heap.get? d = none) (ho : h'.get? d = some o) (hi : instO o = false) :
    St c L m ((d, o) :: l) k { s with heap := h', toks := t } := by
  obtain ⟨D, hD, S⟩ := S
  have S1 : St0 c L m l (k ++ dl D) { s with heap := h', toks := t } := S.ext (fun b o hb e => hk b o hb e)
  obtain ⟨oL, es, ep, hL, _⟩ := S.fr.ns
  refine ⟨D, Dk.no (fun p hp => hD p (.tail _ hp)) hi, S1.fr, fun p hp => ?_, ?_, S1.gens, S1.os, S1.kin, S1.top⟩
  · rcases List.mem_cons.mp hp with rfl | hp
    · refine ⟨ho, fun q => ?_, ?_⟩
      · have q : d = L := q
        rw [q, hL] at hn; cases hn
      · cases e : c.h₀.get? d with
        | none => rfl
        | some o' => rw [S.fr.keep _ _ e] at hn; cases hn
    · exact S1.nw p hp
  · refine List.nodup_cons.mpr ⟨fun q => ?_, S1.nd⟩
    obtain ⟨p, hp, e⟩ := List.mem_map.mp q
    have := (S.nw p (List.mem_cons_of_mem _ hp)).1
    rw [e] at this
    rw [this] at hn; cases hn
theorem e_comp0 {e : Expr} {scope : Scope} {env : Env} {pos : Pos} {newAcc first : Sem Value} {Q : Value → Shared → Prop} (h : N c A first (fun x s₁ => N c A (comprehension e scope env pos newAcc false (pure x)) Q s₁) s) :
    N c A (comprehension e scope env pos newAcc false first) Q s := by
  have q : comprehension e scope env pos newAcc false first = first >>= fun x => comprehension e scope env pos newAcc false (pure x) := by
    unfold comprehension
    rfl
  rw [q]
  exact N.bind h
/-- what a comprehension's element answers: the int g of the int that it is given -/
structure Elt (c : Cx) (A : Around) (env : Env) (scope : Scope) (cl : List (Str × Addr)) (x : Str) (elt : Expr) (wr : List Addr) (R : Int → Prop) (g : Int → Int) (s₂ : Shared) : Prop where
  elt : ∀ C e t s₃ m₃ E', R e → s₃.heap.Ns C m₃ → m₃ x = some (.int e t) → (∀ b o, b ∉ wr → s₂.heap.get? b = some o → s₃.heap.get? b = some o) →
    wpAny c.M A (eval elt (compEnvC scope cl C env)) (fun y s₄ => (∃ t', y = .int (g e) t') ∧ Keeps s₃ s₄) E' s₃
def EltF (g : Int → Int) (v y : Value) : Prop := ∃ e t t', v = .int e t ∧ y = .int (g e) t'
theorem Elt.quiet {env : Env} {scope : Scope} {cl : List (Str × Addr)} {x : Str} {elt : Expr} {wr : List Addr} {R : Int → Prop} {g : Int → Int} {s₂ : Shared} {P : Nat → Value → Prop} (h : Elt c A env scope cl x elt wr R g s₂) (hP : ∀ i v, P i v → ∃ e t, R e ∧ v = .int e t) :
    QuietOnC c.prog c.w A env scope cl x [] elt wr P (fun _ => true) (EltF g) s₂ where
  tests := fun C i v s₃ m₃ E' _ _ _ _ _ _ => wpAny_tests_nil ⟨rfl, s₃.heap, s₃.toks, rfl, fun _ _ e => e⟩
  elt := fun C i v s₃ m₃ E' _ hp _ hn hm hk _ => by
    obtain ⟨e, t, hR, rfl⟩ := hP i v hp
    exact wpAny_mono (h.elt C e t s₃ m₃ E' hR hn hm hk) (fun y s₄ q => ⟨let ⟨t', z⟩ := q.1; ⟨e, t, t', rfl, z⟩, q.2⟩) fun _ _ q => q
theorem paired_ints {g : Int → Int} {vs ys : List Value} {ns : List Int} (h : Paired (EltF g) vs ys) (hi : IntsAre vs ns) : IntsAre ys (ns.map g) := by
  induction h generalizing ns with
  | nil => cases hi; exact .nil
  | cons hf _ ih =>
    cases hi with
    | cons n t hi =>
      obtain ⟨e, t1, t2, q, rfl⟩ := hf
      cases q
      exact .cons _ _ (ih hi)
theorem ints_range {vs : List Value} {n b : Nat} (hl : vs.length = n) (hv : ∀ j v, vs[j]? = some v → ∃ t, v = Value.int ((b + j : Nat) : Int) t) : IntsAre vs ((List.range' b n).map fun (i : Nat) => (i : Int)) := by
  induction vs generalizing n b with
  | nil => subst hl; exact .nil
  | cons v r ih =>
    subst hl
    obtain ⟨t, e0⟩ := hv 0 v rfl
    rw [Nat.add_zero] at e0
    subst e0
    rw [List.length_cons, List.range'_succ, List.map_cons]
    refine .cons _ _ (ih rfl fun j v hj => ?_)
    obtain ⟨t', e⟩ := hv (j + 1) v (by simpa using hj)
    exact ⟨t', by rw [e, show b + (j + 1) = b + 1 + j by omega]⟩
section
variable {elt iter : Expr} {x : Str} {px pos pos' : Pos} {scope : Scope} {cl : List (Str × Addr)} {env : Env} {R : Int → Prop} {g : Int → Int}
/-- the block of a comprehension over what walks -/
theorem comp_walk {s₂ : Shared} {I : Addr} {io : Obj} {fp : List Addr} {n : Nat} {P : Nat → Value → Prop} {Sx : Nat → Heap → Prop} {Q : Value → Shared → Prop} (W : Walks c.prog c.w A I fp [I] n P Sx) (hz : n ≤ 1000000)
    (S : St c L m ((I, io) :: l) k s₂) (hst : Sx 0 s₂.heap) (hfp : ∀ b ∈ fp, b < s₂.heap.objs.size) (hP : ∀ i v, P i v → ∃ e t, R e ∧ v = .int e t)
    (hE : Elt c A env scope cl x elt [I] R g s₂) (hcell : ∀ y ∈ scope.names, y.2 ≠ .cell) (hkind : scope.kind = .function) (hx : scope.names.lookup x = some .local)
    (h : ∀ d vs ys nn s', vs.length = n → (∀ j v, vs[j]? = some v → P j v) → Paired (EltF g) vs ys → St c L m ((d, listOf ys.toArray nn) :: l) k s' → Q (.ref d) s') :
    wpAny c.M A (newList []) (fun acc s₃ => wpAny c.M A (newFunctionEnv scope env.globals cl [] env.qual none .none (some env)) (fun cenv s₄ =>
      codeAny c.M A (.compStart (.ListComp elt [⟨.Name x px, iter, [], 0⟩] scope pos) 0 (.ref I) acc { cenv with scope := relabel scope env }) (compPost c.M A (fun _ _ => False) none Q acc cenv.locals) s₄) (fun _ _ => False) s₃) (fun _ _ => False) s₂ := by
  refine comp_block_walkC (RR := fun acc C => compPost c.M A (fun _ _ => False) none Q acc C) W (by rw [sizeLine_eq]; omega) (fun _ => true) (EltF g) hcell hkind hx hst hfp (hE.quiet hP) ?_
  intro D C h' tk m' ys vs hD hC hDC hn hl hpl hlen hP' hF hk
  rw [List.filter_eq_self.mpr fun _ _ => rfl] at hF
  refine ⟨m', hn, fun h'' hs'' => ?_⟩
  obtain ⟨nn, hpl⟩ := hpl
  have hpl2 : h''.get? D = some { cls := .type "list", data := .seq ys nn } := hs''.extBut D _ hDC hpl
  refine h D vs ys.toList nn _ hlen hP' hF ?_
  rw [Array.toArray_toList]
  refine S.made (t := tk) (fun b o hb e => hs''.extBut b o ?_ (hk b o (by simpa using hb) e)) hD hpl2 rfl
  rintro rfl
  rw [hC] at e; cases e
end
end
section
variable {c : Cx} {A : Around} {s : Shared} {L a d f r : Addr} {m : Str → Option Value} {l k : List (Addr × Obj)} {elt iter : Expr} {x : Str} {px pos pos' : Pos} {scope : Scope} {cl : List (Str × Addr)} {env : Env} {R : Int → Prop} {g : Int → Int}
theorem comp_range {n : Nat} {t₁ u₁ v₁ : Tok} {Q : Value → Shared → Prop} (S : St c L m ((r, ({ cls := .type "range", dict := none, data := .fields #[.int 0 t₁, .int n u₁, .int 1 v₁], slots := #[] } : Obj)) :: l) k s) (hn : n ≤ 1000000) (hh : A.handled = none)
    (hE : ∀ I s₂, (∀ b o, s.heap.get? b = some o → s₂.heap.get? b = some o) → s.heap.get? I = none → Elt c A env scope cl x elt [I] (fun e => 0 ≤ e) g s₂)
    (h : ∀ d ys nn s', IntsAre ys ((List.range n).map fun (i : Nat) => g (i : Int)) → St c L m ((d, listOf ys.toArray nn) :: l) k s' → Q (.ref d) s')
    (hs : ∀ v, foldedSetIterable iter env v = pure v := by intro _; rfl) (hclos : closureFor scope env = pure cl := by rfl) (hcell : ∀ y ∈ scope.names, y.2 ≠ .cell := by decide) (hkind : scope.kind = .function := by rfl)
    (hnames : ∀ y ∈ scope.names, y.2 = .local → scope.names.lookup y.1 = some .local := by decide) (hx : scope.names.lookup x = some .local := by rfl) :
    N c A (comprehension (.ListComp elt [⟨.Name x px, iter, [], 0⟩] scope pos) scope env pos' (newList []) false (pure (.ref r))) Q s := by
  have hsz : Builtin.Range.rangeSize 0 (n : Int) 1 = (n : Int) := by rw [rangeSize_nat]; omega
  have S' := S.push (t := s.toks) (rit 0 n)
  have S₂ := S'.sub (.cons_cons _ (.cons _ (.refl _)))
  refine N.of (wpAny_comprehension_free (use := none) rfl hs hclos hkind hnames (wpAny_pure (wpAny_pyIter_range (S.get (.head _)) ?_ ?_)))
  · unfold Builtin.Range.small
    rw [hsz]
    simp [Builtin.Range.rangeFitsLong]; omega
  · rw [hsz]
    refine comp_walk (R := fun e => 0 ≤ e) (Walks.range hh s.heap.objs.size 0 1 n) hn S₂ ?_ ?_ ?_ (hE s.heap.objs.size _ (fun b o e => Heap.get?_push_of_some _ e) ?_) hcell hkind hx ?_
    · have z := S₂.get (.head _)
      show IsRangeIter _ _ (0 + ((0 : Nat) : Int) * 1) ((n : Int) - ((0 : Nat) : Int)) 1
      rw [show (0 : Int) + ((0 : Nat) : Int) * 1 = 0 by omega, show (n : Int) - ((0 : Nat) : Int) = n by omega]
      exact z
    · intro b hb
      have hb : b = s.heap.objs.size := by simpa using hb
      subst hb
      show _ < (s.heap.push (rit 0 n)).objs.size
      rw [Heap.size_push]
      exact Nat.lt_succ_self _
    · rintro i v ⟨t, rfl⟩
      exact ⟨_, t, by omega, rfl⟩
    · cases e : s.heap.get? s.heap.objs.size with
      | none => rfl
      | some o => exact absurd (Heap.lt_size e) (Nat.lt_irrefl _)
    · intro d vs ys nn s' hl hv hp S3
      refine h d ys nn s' ?_ S3
      have q := paired_ints hp (ints_range (b := 0) hl fun j v hj => let ⟨t, e⟩ := hv j v hj; ⟨t, by rw [e]; congr 1; omega⟩)
      rw [List.map_map, ← List.range_eq_range'] at q
      exact q
theorem comp_list {vs : List Value} {ns : List Int} {items : Array Value} {Q : Value → Shared → Prop} (S : St c L m l k s) (hl : s.heap.IsList a vs.toArray) (hi : IntsAre vs ns) (hz : vs.length ≤ 1000000) (hh : A.handled = none)
    (hE : ∀ I s₂, (∀ b o, s.heap.get? b = some o → s₂.heap.get? b = some o) → s.heap.get? I = none → Elt c A env scope cl x elt [I] (fun e => e ∈ ns) g s₂)
    (h : ∀ d ys nn s', IntsAre ys (ns.map g) → St c L m ((d, listOf ys.toArray nn) :: l) k s' → Q (.ref d) s')
    (hs : ∀ v, foldedSetIterable iter env v = pure v := by intro _; rfl) (hclos : closureFor scope env = pure cl := by rfl) (hcell : ∀ y ∈ scope.names, y.2 ≠ .cell := by decide) (hkind : scope.kind = .function := by rfl)
    (hnames : ∀ y ∈ scope.names, y.2 = .local → scope.names.lookup y.1 = some .local := by decide) (hx : scope.names.lookup x = some .local := by rfl) :
    N c A (comprehension (.ListComp elt [⟨.Name x px, iter, [], 0⟩] scope pos) scope env pos' (newList []) false (pure (.ref a))) Q s := by
  have S₂ := S.push (t := s.toks) (lit a 0)
  have hne : a ≠ s.heap.objs.size := by
    obtain ⟨o, ho, _⟩ := hl
    exact Nat.ne_of_lt (Heap.lt_size ho)
  have hk2 : ∀ b o, s.heap.get? b = some o → (s.heap.push (lit a 0)).get? b = some o := fun b o e => Heap.get?_push_of_some _ e
  refine N.of (wpAny_comprehension_free (use := none) rfl hs hclos hkind hnames (wpAny_pure (wpAny_pyIter_list hl ?_)))
  refine comp_walk (R := fun e => e ∈ ns) (Walks.list hh s.heap.objs.size a hne vs.toArray) (by rw [List.size_toArray]; exact hz) S₂ ?_ ?_ ?_ (hE s.heap.objs.size _ hk2 ?_) hcell hkind hx ?_
  · exact ⟨⟨_, S₂.get (.head _), rfl, rfl⟩, let ⟨o, ho, r⟩ := hl; ⟨o, hk2 _ _ ho, r⟩⟩
  · intro b hb
    have hb : b = s.heap.objs.size ∨ b = a := by simpa using hb
    show _ < (s.heap.push (lit a 0)).objs.size
    rw [Heap.size_push]
    rcases hb with rfl | rfl
    · exact Nat.lt_succ_self _
    · obtain ⟨o, ho, _⟩ := hl
      exact Nat.lt_succ_of_lt (Heap.lt_size ho)
  · intro i v hv
    obtain ⟨e, te, hve, hce⟩ := hi.at i v (by simpa using hv)
    exact ⟨e, te, List.mem_of_getElem? hce, hve⟩
  · cases e : s.heap.get? s.heap.objs.size with
    | none => rfl
    | some o => exact absurd (Heap.lt_size e) (Nat.lt_irrefl _)
  · intro d vs' ys nn s' hl' hv hp S3
    have e : vs' = vs := by
      refine List.ext_getElem? fun j => ?_
      cases q : vs'[j]? with
      | some v => have := hv j v q; simpa using this.symm
      | none =>
        rw [List.size_toArray] at hl'
        rw [List.getElem?_eq_none_iff] at q
        exact (List.getElem?_eq_none (by omega)).symm
    subst e
    exact h d ys nn s' (paired_ints hp hi) S3
-- sums of lists and of octets
theorem l_add {vs us : List Value} {n n' : Nat} {Q : Value → Shared → Prop} (S : St c L m l k s) (hm : (a, listOf vs.toArray n) ∈ l) (hm' : (d, listOf us.toArray n') ∈ l) (hz : vs.length + us.length ≤ 1000000)
    (h : ∀ e s', St c L m ((e, listOf (vs ++ us).toArray 0) :: l) k s' → Q (.ref e) s') : N c A (binaryOp .Add (.ref a) (.ref d)) Q s := by
  refine N.of (P.add_list (S.get hm) (S.get hm') ?_ (by rw [sizeLine_eq]; simp; omega))
  have S' := S.push (t := s.toks) (listOf (vs ++ us).toArray 0)
  rw [show vs.toArray ++ us.toArray = (vs ++ us).toArray by simp]
  exact h _ _ S'
theorem y_add {p q : Array UInt8} {t u : Tok} {Q : Value → Shared → Prop} (S : St c L m l k s) (hz : p.size + q.size ≤ 16777216) (h : ∀ t' s', St c L m l k s' → Q (.bytes (p ++ q) t') s') : N c A (binaryOp .Add (.bytes p t) (.bytes q u)) Q s :=
  N.of (KBy.add_bytes hz fun t' tk => h _ _ S.tok)
end
end Mine

end
-- M12
section
open PySem PySem.W PySem.Calls PyProof.Rows PySem.Builtin
set_option maxRecDepth 100000
set_option linter.unusedVariables false
set_option linter.deprecated false
namespace Mine
section
variable {c : Cx} {A : Around} {s : Shared} {L a d e : Addr} {m : Str → Option Value} {l k : List (Addr × Obj)} {o : Obj} {t u : Tok} {env : Env}
-- a dict by octets
def SsO (c : Cx) (o : Obj) (d : Addr) (xs : List (List UInt8 × Value)) : Prop := (d == sysModules) = false ∧ o.IsDictOf (bytesKind c.prog c.w) xs
theorem SsO.new (lo : (d == sysModules) = false) : SsO c dict0 d [] := ⟨lo, _, _, ⟨rfl, rfl, rfl⟩, rfl, by intro e he; simp at he, .nil, List.nodup_nil⟩
theorem SsO.dict {xs : List (List UInt8 × Value)} (V : SsO c o d xs) (S : St c L m l k s) (hm : (d, o) ∈ l) : s.heap.DictOf (bytesKind c.prog c.w) d xs := Heap.dictOf_iff.mpr ⟨o, S.get hm, V.2⟩
theorem isB {b : Array UInt8} : (bytesKind c.prog c.w).is b.toList (.bytes b t) = true := by show (b.toList == b.toList) = true; simp
theorem k_truthy_dict {xs : List (List UInt8 × Value)} {Q : Bool → Shared → Prop} (V : SsO c o d xs) (S : St c L m l k s) (hm : (d, o) ∈ l) (hz : xs.length ≤ 1000000) (h : ∀ s', St c L m l k s' → Q (!xs.isEmpty) s') : N c A (truthy (.ref d)) Q s :=
  N.of (wpAny_truthy_dict V.1 (V.dict S hm) (by omega) (h _ S.tok))
theorem k_in_dict {b : Array UInt8} {xs : List (List UInt8 × Value)} {Q : Value → Shared → Prop} (V : SsO c o d xs) (S : St c L m l k s) (hm : (d, o) ∈ l) (h : ∀ s', St c L m l k s' → Q (.bool (valueAt xs b.toList).isSome) s') : N c A (compareOp .In (.bytes b t) (.ref d)) Q s :=
  N.of (wpAny_in_of isB V.1 (V.dict S hm).mapOf (h _ S.tok))
theorem k_get_dict {b : Array UInt8} {v : Value} {xs : List (List UInt8 × Value)} {Q : Value → Shared → Prop} (V : SsO c o d xs) (S : St c L m l k s) (hm : (d, o) ∈ l) (hv : valueAt xs b.toList = some v) (h : ∀ s', St c L m l k s' → Q v s') : N c A (getItem (.ref d) (.bytes b t)) Q s :=
  N.of (wpAny_getItem_of isB (V.dict S hm).mapOf hv (h _ S.tok))
theorem k_set_dict {b : Array UInt8} {v : Value} {xs : List (List UInt8 × Value)} {Q : Unit → Shared → Prop} (V : SsO c o d xs) (S : St c L m ((d, o) :: l) k s) (hz : xs.length ≤ 1000000)
    (h : ∀ o' s', SsO c o' d (stored xs b.toList v) → St c L m ((d, o') :: l) k s' → Q () s') : N c A (setItem (.ref d) (.bytes b t) v) Q s :=
  N.of (wpAny_setItem_pairs isB (V.dict S (.head _)) (fun h' hd hs => by
    obtain ⟨o', ho', hd'⟩ := Heap.dictOf_iff.mp hd
    exact h o' _ ⟨V.1, hd'⟩ (S.same (tk := _) hs ho' (noInst hd'.choose_spec.choose_spec.1.1))) (by rw [sizeLine_eq]; omega))
-- list(x)
theorem St.made0 {h' : Heap} {t : Nat} (S : St c L m l k s) (hk : ∀ b o, s.heap.get? b = some o → h'.get? b = some o) (hn : s.heap.get? d = none) (ho : h'.get? d = some o) (hi : instO o = false) :
    St c L m ((d, o) :: l) k { s with heap := h', toks := t } := by
  obtain ⟨D, hD, S⟩ := S
  have S1 : St0 c L m l (k ++ dl D) { s with heap := h', toks := t } := ⟨S.fr.keptAll hk, S.nw.grown hk, S.nd, S.gens, S.os, S.kin, S.top⟩
  obtain ⟨oL, es, ep, hL, _⟩ := S.fr.ns
  refine ⟨D, Dk.no hD hi, S1.fr, fun p hp => ?_, ?_, S1.gens, S1.os, S1.kin, S1.top⟩
  · rcases List.mem_cons.mp hp with rfl | hp
    · refine ⟨ho, fun q => ?_, ?_⟩
      · have q : d = L := q
        rw [q, hL] at hn; cases hn
      · cases e : c.h₀.get? d with
        | none => rfl
        | some o' => rw [S.fr.keep _ _ e] at hn; cases hn
    · exact S1.nw p hp
  · refine List.nodup_cons.mpr ⟨fun q => ?_, S1.nd⟩
    obtain ⟨p, hp, e⟩ := List.mem_map.mp q
    have := (S.nw p hp).1
    rw [e] at this
    rw [this] at hn; cases hn
theorem k_list {vs : List Value} {n : Nat} {Q : Value → Shared → Prop} (S : St c L m l k s) (hm : (a, listOf vs.toArray n) ∈ l) (hz : vs.length ≤ 1000000) (h : ∀ d n' s', St c L m ((d, listOf vs.toArray n') :: l) k s' → Q (.ref d) s') :
    N c A (call (.type "list") [.ref a]) Q s := by
  refine N.of (call_list_seq a (.inl rfl) (S.get hm) rfl rfl (fun h' c' hk ho => ?_) (by rw [sizeLine_eq, List.size_toArray]; omega))
  have hn : s.heap.get? s.heap.objs.size = none := by
    cases e : s.heap.get? s.heap.objs.size with
    | none => rfl
    | some o => exact absurd (Heap.lt_size e) (Nat.lt_irrefl _)
  exact h _ c' _ (S.made0 (t := s.toks) hk hn ho rfl)
-- ranges of three
abbrev rits (x left step : Int) : Obj := { cls := .type "range_iterator", dict := none, data := .fields #[rawInt x, rawInt left, rawInt step], slots := #[] }
theorem k_range_dn {n : Nat} {Q : Value → Shared → Prop} {v : Tok} (S : St c L m l k s) (hn : n ≤ 1000) (h : ∀ r s', St c L m ((r, ({ cls := .type "range", dict := none, data := .fields #[.int n t, .int (-1) u, .int (-1) v], slots := #[] } : Obj)) :: l) k s' → Q (.ref r) s') :
    N c A (call (.type "range") [.int n t, .int (-1) u, .int (-1) v]) Q s := by
  obtain ⟨hp, g, dr, tk, os⟩ := s
  exact N.of (call_range_3 (by decide) (h _ _ (S.push (t := tk) _)) (.inl (PyProof.noPylong_small (by omega))))
theorem k_iter_dn {n : Nat} {r : Addr} {v : Tok} {Q : Value → Shared → Prop} (S : St c L m ((r, ({ cls := .type "range", dict := none, data := .fields #[.int n t, .int (-1) u, .int (-1) v], slots := #[] } : Obj)) :: l) k s) (hn : n ≤ 1000)
    (h : ∀ i s', St c L m ((i, rits n (n + 1) (-1)) :: l) k s' → Q (.ref i) s') : N c A (pyIter (.ref r)) Q s := by
  have hsz : Builtin.Range.rangeSize (n : Int) (-1) (-1) = (n : Int) + 1 := by unfold Builtin.Range.rangeSize; simp; omega
  refine N.of (wpAny_pyIter_range (S.get (.head _)) ?_ ?_)
  · unfold Builtin.Range.small
    rw [hsz]
    simp [Builtin.Range.rangeFitsLong]; omega
  · rw [hsz]
    have S' := S.push (t := s.toks) (rits n (n + 1) (-1))
    exact h _ _ (S'.sub (.cons_cons _ (.cons _ (.refl _))))
theorem k_next_dn {x left step : Int} {Q : Option Value → Shared → Prop} (S : St c L m ((e, rits x left step) :: l) k s) (hl : 0 < left) (h : ∀ t s', St c L m ((e, rits (x + step) (left - 1) step) :: l) k s' → Q (some (.int x t)) s') : N c A (pyNext (.ref e)) Q s :=
  N.of (wpAny_pyNext_range_item (S.get (.head _)) hl fun h' hi hs => h _ _ (S.same hs hi rfl))
theorem k_next_dn_end {x step : Int} {Q : Option Value → Shared → Prop} (S : St c L m ((e, rits x 0 step) :: l) k s) (hh : A.handled = none) (h : ∀ s', St c L m l k s' → Q none s') : N c A (pyNext (.ref e)) Q s :=
  N.of (wpAny_pyNext_range_end hh (S.get (.head _)) (by omega) fun h' hx => h _ (S.ext (tk := s.toks) hx))
-- struct.unpack, four octets
theorem entry_unpack : entryFor table "_struct.unpack" = some Builtin.«_struct.unpack» := by first | exact entryFor_of_tree (by kernel_rfl) | exact entryFor_of_fast (by kernel_rfl)
theorem kind_unpack : builtinKind "_struct.unpack" = none := by decide +kernel
theorem plain_unpack : plainId "_struct.unpack" = true := by decide +kernel
theorem args_unpack (a b : Value) : argsOk "_struct.unpack" ⟨[a, b], []⟩ := by unfold argsOk; kernel_rfl
theorem parse_4 : Struct.parse #[62, 66, 66, 66, 66] = pure ⟨true, false, [⟨'B', 1, 0, 1⟩, ⟨'B', 1, 1, 1⟩, ⟨'B', 1, 2, 1⟩, ⟨'B', 1, 3, 1⟩], 4, 4⟩ := by kernel_rfl
theorem nat4 (b0 b1 b2 b3 : UInt8) : Struct.natOf true (#[b0, b1, b2, b3].extract (0 + 0 + 0 * 1) (0 + 0 + (0 + 1) * 1)) = b0.toNat ∧ Struct.natOf true (#[b0, b1, b2, b3].extract (0 + 1 + 0 * 1) (0 + 1 + (0 + 1) * 1)) = b1.toNat ∧
    Struct.natOf true (#[b0, b1, b2, b3].extract (0 + 2 + 0 * 1) (0 + 2 + (0 + 1) * 1)) = b2.toNat ∧ Struct.natOf true (#[b0, b1, b2, b3].extract (0 + 3 + 0 * 1) (0 + 3 + (0 + 1) * 1)) = b3.toNat := by
  unfold Struct.natOf Memoryview.littleEndian
  simp
set_option maxHeartbeats 2000000 in
theorem nx_unpacked {b0 b1 b2 b3 : UInt8} {Q : Value → Shared → Prop} (S : St c L m l k s) (h : ∀ t0 t1 t2 t3 s', St c L m l k s' → N c A (newTuple [.int (b0.toNat : Int) t0, .int (b1.toNat : Int) t1, .int (b2.toNat : Int) t2, .int (b3.toNat : Int) t3]) Q s') :
    N c A (Struct.unpacked "_struct.unpack" ⟨true, false, [⟨'B', 1, 0, 1⟩, ⟨'B', 1, 1, 1⟩, ⟨'B', 1, 2, 1⟩, ⟨'B', 1, 3, 1⟩], 4, 4⟩ #[b0, b1, b2, b3] 0) Q s := by
  unfold Struct.unpacked
  simp only [Std.Legacy.Range.forIn_eq_forIn_range', Std.Legacy.Range.size, Nat.sub_zero, Nat.add_sub_cancel, Nat.div_one, List.range', List.forIn_cons, List.forIn_nil]
  rw [show Bytes.tooLong 1 = false by kernel_rfl]
  with_reducible refine N.bind ?_
  iterate 4
    with_reducible refine N.bind ?_
    refine N.boolneg rfl ?_
    with_reducible refine N.bind ?_
    with_reducible refine N.bind ?_
    refine N.bind ?_
    with_reducible refine N.of (wpAny_mkInt' ?_)
    with_reducible refine N.pure ?_
    with_reducible refine N.pure ?_
    with_reducible refine N.pure ?_
  with_reducible refine N.pure ?_
  have S' := S.tok (t := s.toks + 1 + 1 + 1 + 1)
  have z := h s.toks (s.toks + 1) (s.toks + 1 + 1) (s.toks + 1 + 1 + 1) _ S'
  have e : 'B'.isLower = false := by decide
  rw [e]
  simp only [Bool.false_and, Bool.false_eq_true, if_false]
  obtain ⟨q0, q1, q2, q3⟩ := nat4 b0 b1 b2 b3
  rw [q0, q1, q2, q3]
  exact z
theorem k_unpack {b0 b1 b2 b3 : UInt8} {Q : Value → Shared → Prop} (S : St c L m l k s) (h : ∀ d t0 t1 t2 t3 s', St c L m ((d, tup [.int (b0.toNat : Int) t0, .int (b1.toNat : Int) t1, .int (b2.toNat : Int) t2, .int (b3.toNat : Int) t3]) :: l) k s' → Q (.ref d) s') :
    N c A (call (.builtin "_struct.unpack") [.str ">BBBB" t, .bytes #[b0, b1, b2, b3] u]) Q s := by
  refine N.call (NC.callB plain_unpack (by decide +kernel) entry_unpack (N.of ?_))
  have hk : builtinKind "_struct.unpack" = none := kind_unpack
  have ha := args_unpack (.str ">BBBB" t) (.bytes #[b0, b1, b2, b3] u)
  have fin : N c A.in1 (Builtin.«_struct.unpack» ⟨[.str ">BBBB" t, .bytes #[b0, b1, b2, b3] u], []⟩) (Ans c A (fun f s' => match f with | .ret v => Q v s' | _ => False)) s := by
    have e1 : Struct.moduleFormat (.str ">BBBB" t) = Struct.parse #[62, 66, 66, 66, 66] := by kernel_rfl
    have e2 : Bytes.bytesLike "_struct.unpack" (.bytes #[b0, b1, b2, b3] u) = pure #[b0, b1, b2, b3] := by kernel_rfl
    show N _ _ (Struct.moduleFormat (.str ">BBBB" t) >>= fun f => Struct.unpackExact "_struct.unpack" (pure f) (.bytes #[b0, b1, b2, b3] u)) _ _
    rw [e1]
    refine N.bind (N.of (wpAny_of_eq parse_4 ?_))
    unfold Struct.unpackExact
    refine N.bind (N.of (wpAny_of_eq e2 ?_))
    refine N.bind (N.pure ?_)
    refine N.boolneg rfl ?_
    refine N.bind (nx_unpacked S fun t0 t1 t2 t3 s₁ S₁ => ?_)
    refine k_newtuple S₁ (by simp) fun d s₂ S₂ => ?_
    exact N.pure (h d t0 t1 t2 t3 s₂ S₂)
  simp only [checkBuiltinCall, hk]
  cases hsig : Manifest.signature? "_struct.unpack" with
  | none => exact wpAny_pure fin
  | some sig =>
    simp only [argsOk, hsig] at ha
    have h2 : Bind.checkArgs "_struct.unpack" sig ⟨[.str ">BBBB" t, .bytes #[b0, b1, b2, b3] u], []⟩ = pure () := ha
    show wpAny _ A.in1 (Bind.checkArgs "_struct.unpack" sig _) _ _ s
    rw [h2]; exact wpAny_pure fin
end
end Mine

end
-- M13
section
open PySem PySem.W PySem.Calls PyProof.Rows
set_option maxRecDepth 100000
set_option linter.unusedVariables false
set_option linter.deprecated false
namespace Mine
theorem r_cstr {c : Cx} {A : Around} {s : Shared} {L : Addr} {m : Str → Option Value} {l k : List (Addr × Obj)} {x : Str} {q : Nat} {pos : Pos} {env : Env} {Q : Value → Shared → Prop} (S : St c L m l k s) (h : ∀ t s', St c L m l k s' → Q (.str x t) s') : N c A (eval (.Constant (.str x) q pos) env) Q s :=
  N.of (wpAny_Constant_str (h _ _ S.tok))
theorem e_lc {c : Cx} {A : Around} {s : Shared} {elt target iter : Expr} {ifs : List Expr} {scope : Scope} {pos : Pos} {env : Env} {Q : Value → Shared → Prop} (h : N c A (eval iter env) (fun x s₁ => N c A (comprehension (.ListComp elt [⟨target, iter, ifs, 0⟩] scope pos) scope env iter.pos (newList []) false (pure x)) Q s₁) s) :
    N c A (eval (.ListComp elt [⟨target, iter, ifs, 0⟩] scope pos) env) Q s := by
  rw [eval_ListComp]
  exact e_comp0 h
end Mine
end
local macro_rules | `(tactic| walk_at "n_leaf") => `(tactic| ((with_reducible show N _ _ (eval (.Constant (.str _) _ _) _) _ _); refine r_cstr (by assumption) ?_; intro _ _ _))
section
open PySem PySem.W PySem.Calls PyProof.Rows
set_option maxRecDepth 100000
set_option linter.unusedVariables false
set_option linter.deprecated false
namespace Mine
end Mine

end
-- PA1
section
open PySem PySem.W PySem.Calls PyProof.Rows
set_option maxRecDepth 100000
namespace Mine
example : (fun (_ : OpenLaw) (_ : Params → Frag) => True) PySem.Challenge.rw_fb0004_01 hd.heap_39 := by k_fill; trivial
structure Cy where
  prog : Program
  w : World
  p : Program
  loose : List Str
  mg : Str → Option Value
  mb : Str → Option Value
  h₀ : Heap
  os : OsState
noncomputable abbrev Cy.cx (y : Cy) : Cx := ⟨y.prog, y.w, hd.heap_39 y.w.params, y.p, y.loose, y.mg, y.mb, y.h₀, y.os⟩
structure Fa (P : Params) : Prop where
  cls : isClsIn (hd.heap_39 P) 656 = true
  sa : findIn (hd.heap_39 P) (.ref 656) "__setattr__" = some (some (.builtin "object.__setattr__"))
  po : plainOver (hd.heap_39 P) 656 = true
  pg : plainGet (hd.heap_39 P) 656 "head" = true
  mkb : makesIn (hd.heap_39 P) 656 = true
  ini : findIn (hd.heap_39 P) (.ref 656) "__init__" = some (some (.ref 270))
  tpy : findIn (hd.heap_39 P) (.type "type") "py_type" = some none
  tgt : findIn (hd.heap_39 P) (.type "type") "__get__" = some none
  mdg : findIn (hd.heap_39 P) (.type "member_descriptor") "__get__" = some (some (.builtin "member_descriptor.__get__"))
  mds : findIn (hd.heap_39 P) (.type "member_descriptor") "__set__" = some (some (.builtin "member_descriptor.__set__"))
  at_Bytes : findIn (hd.heap_39 P) (.ref 656) "Bytes" = some (some (.ref 657))
  ty_Bytes : typeIn (hd.heap_39 P) (.ref 657) = some (.type "member_descriptor")
  sl_Bytes : slotIn (hd.heap_39 P) 657 656 = some 0
  at_current_vtable : findIn (hd.heap_39 P) (.ref 656) "current_vtable" = some (some (.ref 658))
  ty_current_vtable : typeIn (hd.heap_39 P) (.ref 658) = some (.type "member_descriptor")
  sl_current_vtable : slotIn (hd.heap_39 P) 658 656 = some 1
  at_finished : findIn (hd.heap_39 P) (.ref 656) "finished" = some (some (.ref 659))
  ty_finished : typeIn (hd.heap_39 P) (.ref 659) = some (.type "member_descriptor")
  sl_finished : slotIn (hd.heap_39 P) 659 656 = some 2
  at_forceDefaults : findIn (hd.heap_39 P) (.ref 656) "forceDefaults" = some (some (.ref 660))
  ty_forceDefaults : typeIn (hd.heap_39 P) (.ref 660) = some (.type "member_descriptor")
  sl_forceDefaults : slotIn (hd.heap_39 P) 660 656 = some 3
  at_head : findIn (hd.heap_39 P) (.ref 656) "head" = some (some (.ref 661))
  ty_head : typeIn (hd.heap_39 P) (.ref 661) = some (.type "member_descriptor")
  sl_head : slotIn (hd.heap_39 P) 661 656 = some 4
  at_minalign : findIn (hd.heap_39 P) (.ref 656) "minalign" = some (some (.ref 662))
  ty_minalign : typeIn (hd.heap_39 P) (.ref 662) = some (.type "member_descriptor")
  sl_minalign : slotIn (hd.heap_39 P) 662 656 = some 5
  at_nested : findIn (hd.heap_39 P) (.ref 656) "nested" = some (some (.ref 663))
  ty_nested : typeIn (hd.heap_39 P) (.ref 663) = some (.type "member_descriptor")
  sl_nested : slotIn (hd.heap_39 P) 663 656 = some 6
  at_objectEnd : findIn (hd.heap_39 P) (.ref 656) "objectEnd" = some (some (.ref 664))
  ty_objectEnd : typeIn (hd.heap_39 P) (.ref 664) = some (.type "member_descriptor")
  sl_objectEnd : slotIn (hd.heap_39 P) 664 656 = some 7
  at_sharedStrings : findIn (hd.heap_39 P) (.ref 656) "sharedStrings" = some (some (.ref 665))
  ty_sharedStrings : typeIn (hd.heap_39 P) (.ref 665) = some (.type "member_descriptor")
  sl_sharedStrings : slotIn (hd.heap_39 P) 665 656 = some 8
  at_vectorNumElems : findIn (hd.heap_39 P) (.ref 656) "vectorNumElems" = some (some (.ref 666))
  ty_vectorNumElems : typeIn (hd.heap_39 P) (.ref 666) = some (.type "member_descriptor")
  sl_vectorNumElems : slotIn (hd.heap_39 P) 666 656 = some 9
  at_vtables : findIn (hd.heap_39 P) (.ref 656) "vtables" = some (some (.ref 667))
  ty_vtables : typeIn (hd.heap_39 P) (.ref 667) = some (.type "member_descriptor")
  sl_vtables : slotIn (hd.heap_39 P) 667 656 = some 10
  at_Head : findIn (hd.heap_39 P) (.ref 656) "Head" = some (some (.ref 319))
  fn_Head : isFn (hd.heap_39 P) (.ref 319) = true
  kp_Head : keepIn (hd.heap_39 P) (.ref 319) = true
  at_Offset : findIn (hd.heap_39 P) (.ref 656) "Offset" = some (some (.ref 326))
  fn_Offset : isFn (hd.heap_39 P) (.ref 326) = true
  kp_Offset : keepIn (hd.heap_39 P) (.ref 326) = true
  at_Output : findIn (hd.heap_39 P) (.ref 656) "Output" = some (some (.ref 284))
  fn_Output : isFn (hd.heap_39 P) (.ref 284) = true
  kp_Output : keepIn (hd.heap_39 P) (.ref 284) = true
  at_StartObject : findIn (hd.heap_39 P) (.ref 656) "StartObject" = some (some (.ref 291))
  fn_StartObject : isFn (hd.heap_39 P) (.ref 291) = true
  kp_StartObject : keepIn (hd.heap_39 P) (.ref 291) = true
  at_WriteVtable : findIn (hd.heap_39 P) (.ref 656) "WriteVtable" = some (some (.ref 298))
  fn_WriteVtable : isFn (hd.heap_39 P) (.ref 298) = true
  kp_WriteVtable : keepIn (hd.heap_39 P) (.ref 298) = true
  at_EndObject : findIn (hd.heap_39 P) (.ref 656) "EndObject" = some (some (.ref 305))
  fn_EndObject : isFn (hd.heap_39 P) (.ref 305) = true
  kp_EndObject : keepIn (hd.heap_39 P) (.ref 305) = true
  at_GrowByteBuffer : findIn (hd.heap_39 P) (.ref 656) "GrowByteBuffer" = some (some (.ref 312))
  fn_GrowByteBuffer : isFn (hd.heap_39 P) (.ref 312) = true
  kp_GrowByteBuffer : keepIn (hd.heap_39 P) (.ref 312) = true
  at_Pad : findIn (hd.heap_39 P) (.ref 656) "Pad" = some (some (.ref 333))
  fn_Pad : isFn (hd.heap_39 P) (.ref 333) = true
  kp_Pad : keepIn (hd.heap_39 P) (.ref 333) = true
  at_Prep : findIn (hd.heap_39 P) (.ref 656) "Prep" = some (some (.ref 340))
  fn_Prep : isFn (hd.heap_39 P) (.ref 340) = true
  kp_Prep : keepIn (hd.heap_39 P) (.ref 340) = true
  at_PrependSOffsetTRelative : findIn (hd.heap_39 P) (.ref 656) "PrependSOffsetTRelative" = some (some (.ref 347))
  fn_PrependSOffsetTRelative : isFn (hd.heap_39 P) (.ref 347) = true
  kp_PrependSOffsetTRelative : keepIn (hd.heap_39 P) (.ref 347) = true
  at_PrependUOffsetTRelative : findIn (hd.heap_39 P) (.ref 656) "PrependUOffsetTRelative" = some (some (.ref 354))
  fn_PrependUOffsetTRelative : isFn (hd.heap_39 P) (.ref 354) = true
  kp_PrependUOffsetTRelative : keepIn (hd.heap_39 P) (.ref 354) = true
  at_StartVector : findIn (hd.heap_39 P) (.ref 656) "StartVector" = some (some (.ref 361))
  fn_StartVector : isFn (hd.heap_39 P) (.ref 361) = true
  kp_StartVector : keepIn (hd.heap_39 P) (.ref 361) = true
  at_EndVector : findIn (hd.heap_39 P) (.ref 656) "EndVector" = some (some (.ref 369))
  fn_EndVector : isFn (hd.heap_39 P) (.ref 369) = true
  kp_EndVector : keepIn (hd.heap_39 P) (.ref 369) = true
  at_CreateString : findIn (hd.heap_39 P) (.ref 656) "CreateString" = some (some (.ref 383))
  fn_CreateString : isFn (hd.heap_39 P) (.ref 383) = true
  kp_CreateString : keepIn (hd.heap_39 P) (.ref 383) = true
  at_assertNested : findIn (hd.heap_39 P) (.ref 656) "assertNested" = some (some (.ref 397))
  fn_assertNested : isFn (hd.heap_39 P) (.ref 397) = true
  kp_assertNested : keepIn (hd.heap_39 P) (.ref 397) = true
  at_assertNotNested : findIn (hd.heap_39 P) (.ref 656) "assertNotNested" = some (some (.ref 404))
  fn_assertNotNested : isFn (hd.heap_39 P) (.ref 404) = true
  kp_assertNotNested : keepIn (hd.heap_39 P) (.ref 404) = true
  at_Slot : findIn (hd.heap_39 P) (.ref 656) "Slot" = some (some (.ref 418))
  fn_Slot : isFn (hd.heap_39 P) (.ref 418) = true
  kp_Slot : keepIn (hd.heap_39 P) (.ref 418) = true
  at_Finish : findIn (hd.heap_39 P) (.ref 656) "Finish" = some (some (.ref 434))
  fn_Finish : isFn (hd.heap_39 P) (.ref 434) = true
  kp_Finish : keepIn (hd.heap_39 P) (.ref 434) = true
  at_Prepend : findIn (hd.heap_39 P) (.ref 656) "Prepend" = some (some (.ref 449))
  fn_Prepend : isFn (hd.heap_39 P) (.ref 449) = true
  kp_Prepend : keepIn (hd.heap_39 P) (.ref 449) = true
  at_PrependSlot : findIn (hd.heap_39 P) (.ref 656) "PrependSlot" = some (some (.ref 456))
  fn_PrependSlot : isFn (hd.heap_39 P) (.ref 456) = true
  kp_PrependSlot : keepIn (hd.heap_39 P) (.ref 456) = true
  at_PrependUint8 : findIn (hd.heap_39 P) (.ref 656) "PrependUint8" = some (some (.ref 561))
  fn_PrependUint8 : isFn (hd.heap_39 P) (.ref 561) = true
  kp_PrependUint8 : keepIn (hd.heap_39 P) (.ref 561) = true
  at_PrependUint32 : findIn (hd.heap_39 P) (.ref 656) "PrependUint32" = some (some (.ref 575))
  fn_PrependUint32 : isFn (hd.heap_39 P) (.ref 575) = true
  kp_PrependUint32 : keepIn (hd.heap_39 P) (.ref 575) = true
  at_PrependVOffsetT : findIn (hd.heap_39 P) (.ref 656) "PrependVOffsetT" = some (some (.ref 624))
  fn_PrependVOffsetT : isFn (hd.heap_39 P) (.ref 624) = true
  kp_PrependVOffsetT : keepIn (hd.heap_39 P) (.ref 624) = true
  at_Place : findIn (hd.heap_39 P) (.ref 656) "Place" = some (some (.ref 631))
  fn_Place : isFn (hd.heap_39 P) (.ref 631) = true
  kp_Place : keepIn (hd.heap_39 P) (.ref 631) = true
  at_PlaceSOffsetT : findIn (hd.heap_39 P) (.ref 656) "PlaceSOffsetT" = some (some (.ref 645))
  fn_PlaceSOffsetT : isFn (hd.heap_39 P) (.ref 645) = true
  kp_PlaceSOffsetT : keepIn (hd.heap_39 P) (.ref 645) = true
  at_PlaceUOffsetT : findIn (hd.heap_39 P) (.ref 656) "PlaceUOffsetT" = some (some (.ref 652))
  fn_PlaceUOffsetT : isFn (hd.heap_39 P) (.ref 652) = true
  kp_PlaceUOffsetT : keepIn (hd.heap_39 P) (.ref 652) = true
  at___Finish : findIn (hd.heap_39 P) (.ref 656) "_Builder__Finish" = some (some (.ref 426))
  fn___Finish : isFn (hd.heap_39 P) (.ref 426) = true
  kp___Finish : keepIn (hd.heap_39 P) (.ref 426) = true
  at_CreateSharedString : findIn (hd.heap_39 P) (.ref 656) "CreateSharedString" = some (some (.ref 376))
  fn_CreateSharedString : isFn (hd.heap_39 P) (.ref 376) = true
  kp_CreateSharedString : keepIn (hd.heap_39 P) (.ref 376) = true
  at_PrependUint8Slot : findIn (hd.heap_39 P) (.ref 656) "PrependUint8Slot" = some (some (.ref 477))
  fn_PrependUint8Slot : isFn (hd.heap_39 P) (.ref 477) = true
  kp_PrependUint8Slot : keepIn (hd.heap_39 P) (.ref 477) = true
  at_PrependUint64Slot : findIn (hd.heap_39 P) (.ref 656) "PrependUint64Slot" = some (some (.ref 498))
  fn_PrependUint64Slot : isFn (hd.heap_39 P) (.ref 498) = true
  kp_PrependUint64Slot : keepIn (hd.heap_39 P) (.ref 498) = true
  at_PrependUOffsetTRelativeSlot : findIn (hd.heap_39 P) (.ref 656) "PrependUOffsetTRelativeSlot" = some (some (.ref 533))
  fn_PrependUOffsetTRelativeSlot : isFn (hd.heap_39 P) (.ref 533) = true
  kp_PrependUOffsetTRelativeSlot : keepIn (hd.heap_39 P) (.ref 533) = true
  kp_Builder : keepIn (hd.heap_39 P) (.ref 656) = true
  kp_Write : keepIn (hd.heap_39 P) (.ref 176) = true
  kp_enforce_number : keepIn (hd.heap_39 P) (.ref 169) = true
  kp__law_message : keepIn (hd.heap_39 P) (.ref 674) = true
  ct_Uint8Flags : typeIn (hd.heap_39 P) (.ref 66) = some (.type "type")
  cr_Uint8Flags : readsIn (hd.heap_39 P) 66 (.type "type") = true
  ci_Uint8Flags : findIn (hd.heap_39 P) (.ref 66) "py_type" = some (some (.type "int"))
  ca_Uint8Flags_bytewidth : findCls (hd.heap_39 P) (.ref 66) (.type "type") "bytewidth" = some (.val (.int 1 365))
  ca_Uint8Flags_min_val : findCls (hd.heap_39 P) (.ref 66) (.type "type") "min_val" = some (.val (.int 0 367))
  ca_Uint8Flags_max_val : findCls (hd.heap_39 P) (.ref 66) (.type "type") "max_val" = some (.val (.int 255 373))
  ca_Uint8Flags_packer_type : findCls (hd.heap_39 P) (.ref 66) (.type "type") "packer_type" = some (.val (.ref 52))
  ct_Uint32Flags : typeIn (hd.heap_39 P) (.ref 94) = some (.type "type")
  cr_Uint32Flags : readsIn (hd.heap_39 P) 94 (.type "type") = true
  ci_Uint32Flags : findIn (hd.heap_39 P) (.ref 94) "py_type" = some (some (.type "int"))
  ca_Uint32Flags_bytewidth : findCls (hd.heap_39 P) (.ref 94) (.type "type") "bytewidth" = some (.val (.int 4 433))
  ca_Uint32Flags_min_val : findCls (hd.heap_39 P) (.ref 94) (.type "type") "min_val" = some (.val (.int 0 435))
  ca_Uint32Flags_max_val : findCls (hd.heap_39 P) (.ref 94) (.type "type") "max_val" = some (.val (.int 4294967295 441))
  ca_Uint32Flags_packer_type : findCls (hd.heap_39 P) (.ref 94) (.type "type") "packer_type" = some (.val (.ref 54))
  ct_Uint64Flags : typeIn (hd.heap_39 P) (.ref 108) = some (.type "type")
  cr_Uint64Flags : readsIn (hd.heap_39 P) 108 (.type "type") = true
  ci_Uint64Flags : findIn (hd.heap_39 P) (.ref 108) "py_type" = some (some (.type "int"))
  ca_Uint64Flags_bytewidth : findCls (hd.heap_39 P) (.ref 108) (.type "type") "bytewidth" = some (.val (.int 8 467))
  ca_Uint64Flags_min_val : findCls (hd.heap_39 P) (.ref 108) (.type "type") "min_val" = some (.val (.int 0 469))
  ca_Uint64Flags_max_val : findCls (hd.heap_39 P) (.ref 108) (.type "type") "max_val" = some (.val (.int 18446744073709551615 475))
  ca_Uint64Flags_packer_type : findCls (hd.heap_39 P) (.ref 108) (.type "type") "packer_type" = some (.val (.ref 55))
  ct_Int32Flags : typeIn (hd.heap_39 P) (.ref 122) = some (.type "type")
  cr_Int32Flags : readsIn (hd.heap_39 P) 122 (.type "type") = true
  ci_Int32Flags : findIn (hd.heap_39 P) (.ref 122) "py_type" = some (some (.type "int"))
  ca_Int32Flags_bytewidth : findCls (hd.heap_39 P) (.ref 122) (.type "type") "bytewidth" = some (.val (.int 4 501))
  ca_Int32Flags_min_val : findCls (hd.heap_39 P) (.ref 122) (.type "type") "min_val" = some (.val (.int (-2147483648) 506))
  ca_Int32Flags_max_val : findCls (hd.heap_39 P) (.ref 122) (.type "type") "max_val" = some (.val (.int 2147483647 512))
  ca_Int32Flags_packer_type : findCls (hd.heap_39 P) (.ref 122) (.type "type") "packer_type" = some (.val (.ref 56))
  ct_SOffsetTFlags : typeIn (hd.heap_39 P) (.ref 136) = some (.type "type")
  cr_SOffsetTFlags : readsIn (hd.heap_39 P) 136 (.type "type") = true
  ci_SOffsetTFlags : findIn (hd.heap_39 P) (.ref 136) "py_type" = some (some (.type "int"))
  ca_SOffsetTFlags_bytewidth : findCls (hd.heap_39 P) (.ref 136) (.type "type") "bytewidth" = some (.val (.int 4 501))
  ca_SOffsetTFlags_min_val : findCls (hd.heap_39 P) (.ref 136) (.type "type") "min_val" = some (.val (.int (-2147483648) 506))
  ca_SOffsetTFlags_max_val : findCls (hd.heap_39 P) (.ref 136) (.type "type") "max_val" = some (.val (.int 2147483647 512))
  ca_SOffsetTFlags_packer_type : findCls (hd.heap_39 P) (.ref 136) (.type "type") "packer_type" = some (.val (.ref 56))
  ct_UOffsetTFlags : typeIn (hd.heap_39 P) (.ref 148) = some (.type "type")
  cr_UOffsetTFlags : readsIn (hd.heap_39 P) 148 (.type "type") = true
  ci_UOffsetTFlags : findIn (hd.heap_39 P) (.ref 148) "py_type" = some (some (.type "int"))
  ca_UOffsetTFlags_bytewidth : findCls (hd.heap_39 P) (.ref 148) (.type "type") "bytewidth" = some (.val (.int 4 433))
  ca_UOffsetTFlags_min_val : findCls (hd.heap_39 P) (.ref 148) (.type "type") "min_val" = some (.val (.int 0 435))
  ca_UOffsetTFlags_max_val : findCls (hd.heap_39 P) (.ref 148) (.type "type") "max_val" = some (.val (.int 4294967295 441))
  ca_UOffsetTFlags_packer_type : findCls (hd.heap_39 P) (.ref 148) (.type "type") "packer_type" = some (.val (.ref 54))
  ct_VOffsetTFlags : typeIn (hd.heap_39 P) (.ref 160) = some (.type "type")
  cr_VOffsetTFlags : readsIn (hd.heap_39 P) 160 (.type "type") = true
  ci_VOffsetTFlags : findIn (hd.heap_39 P) (.ref 160) "py_type" = some (some (.type "int"))
  ca_VOffsetTFlags_bytewidth : findCls (hd.heap_39 P) (.ref 160) (.type "type") "bytewidth" = some (.val (.int 2 399))
  ca_VOffsetTFlags_min_val : findCls (hd.heap_39 P) (.ref 160) (.type "type") "min_val" = some (.val (.int 0 401))
  ca_VOffsetTFlags_max_val : findCls (hd.heap_39 P) (.ref 160) (.type "type") "max_val" = some (.val (.int 65535 407))
  ca_VOffsetTFlags_packer_type : findCls (hd.heap_39 P) (.ref 160) (.type "type") "packer_type" = some (.val (.ref 53))
  ct_Builder : typeIn (hd.heap_39 P) (.ref 656) = some (.type "type")
  cr_Builder : readsIn (hd.heap_39 P) 656 (.type "type") = true
  ca_Builder_MAX_BUFFER_SIZE : findCls (hd.heap_39 P) (.ref 656) (.type "type") "MAX_BUFFER_SIZE" = some (.val (.int 2147483648 735))
  gl_string_types : nsIn (hd.heap_39 P) mainGlobals "string_types" = some (some (.ref 50))
  gl_binary_types : nsIn (hd.heap_39 P) mainGlobals "binary_types" = some (some (.ref 51))
  gl_uoffset : nsIn (hd.heap_39 P) mainGlobals "uoffset" = some (some (.ref 54))
  gl_soffset : nsIn (hd.heap_39 P) mainGlobals "soffset" = some (some (.ref 56))
  gl_FILE_IDENTIFIER_LENGTH : nsIn (hd.heap_39 P) mainGlobals "FILE_IDENTIFIER_LENGTH" = some (some (.int 4 584))
  gl_VtableMetadataFields : nsIn (hd.heap_39 P) mainGlobals "VtableMetadataFields" = some (some (.int 2 706))
  gl_Write : nsIn (hd.heap_39 P) mainGlobals "Write" = some (some (.ref 176))
  gl_enforce_number : nsIn (hd.heap_39 P) mainGlobals "enforce_number" = some (some (.ref 169))
  gl_Builder : nsIn (hd.heap_39 P) mainGlobals "Builder" = some (some (.ref 656))
  gl_unpack : nsIn (hd.heap_39 P) mainGlobals "unpack" = some (some (.builtin "_struct.unpack"))
  gl__law_message : nsIn (hd.heap_39 P) mainGlobals "_law_message" = some (some (.ref 674))
  gl_Uint8Flags : nsIn (hd.heap_39 P) mainGlobals "Uint8Flags" = some (some (.ref 66))
  gl_Uint32Flags : nsIn (hd.heap_39 P) mainGlobals "Uint32Flags" = some (some (.ref 94))
  gl_Uint64Flags : nsIn (hd.heap_39 P) mainGlobals "Uint64Flags" = some (some (.ref 108))
  gl_Int32Flags : nsIn (hd.heap_39 P) mainGlobals "Int32Flags" = some (some (.ref 122))
  gl_SOffsetTFlags : nsIn (hd.heap_39 P) mainGlobals "SOffsetTFlags" = some (some (.ref 136))
  gl_UOffsetTFlags : nsIn (hd.heap_39 P) mainGlobals "UOffsetTFlags" = some (some (.ref 148))
  gl_VOffsetTFlags : nsIn (hd.heap_39 P) mainGlobals "VOffsetTFlags" = some (some (.ref 160))
  gb_len : nsIn (hd.heap_39 P) mainGlobals "len" = some none
  gb_bytearray : nsIn (hd.heap_39 P) mainGlobals "bytearray" = some none
  gb_min : nsIn (hd.heap_39 P) mainGlobals "min" = some none
  gb_reversed : nsIn (hd.heap_39 P) mainGlobals "reversed" = some none
  gb_tuple : nsIn (hd.heap_39 P) mainGlobals "tuple" = some none
  gb_isinstance : nsIn (hd.heap_39 P) mainGlobals "isinstance" = some none
  gb_range : nsIn (hd.heap_39 P) mainGlobals "range" = some none
  gb_bytes : nsIn (hd.heap_39 P) mainGlobals "bytes" = some none
  gb_sum : nsIn (hd.heap_39 P) mainGlobals "sum" = some none
  gb_list : nsIn (hd.heap_39 P) mainGlobals "list" = some none
theorem fa (P : Params) : Fa P := by constructor <;> k_is

/-- a reference or None -/
def refO : Option Addr → Value
  | none => .none
  | some a => .ref a
def intO : Option (Int × Tok) → Value
  | none => .none
  | some p => .int p.1 p.2
theorem handed_refO (v : Option Addr) : handedIn (refO v) = true := by cases v <;> rfl
theorem handed_intO (v : Option (Int × Tok)) : handedIn (intO v) = true := by cases v <;> rfl
/-- what a builder's slots hold -/
structure Raw where
  dx : Addr
  ba : Addr
  cv : Option Addr
  fin : Bool
  head : Int × Tok
  ma : Int × Tok
  nested : Bool
  oe : Option (Int × Tok)
  ss : Option Addr
  vne : Option (Option (Int × Tok))
  vt : Addr
abbrev Raw.slots (r : Raw) : Array (Option Value) := #[some (.ref r.ba), some (refO r.cv), some (.bool r.fin), some (.bool false), some (.int r.head.1 r.head.2), some (.int r.ma.1 r.ma.2), some (.bool r.nested), some (intO r.oe), some (refO r.ss), r.vne.map intO, some (.ref r.vt)]
abbrev Raw.obj (r : Raw) : Obj := ⟨.ref 656, some r.dx, .plain, r.slots⟩

section
variable {y : Cy} {A : Around} {s : Shared} {L b p : Addr} {m : Str → Option Value} {l k : List (Addr × Obj)} {r : Raw} {name : Str} {v : Value} {i : Nat}
theorem md_gt {K : Frag} (ht : typeIn K (.ref p) = some (.type "member_descriptor")) (hg : findIn K (.type "member_descriptor") "__get__" = some (some (.builtin "member_descriptor.__get__"))) : specialIn K (.ref p) "__get__" = some (some (.builtin "member_descriptor.__get__")) := by
  unfold specialIn; rw [ht]; exact hg
theorem md_tk {K : Frag} (ht : typeIn K (.ref p) = some (.type "member_descriptor")) (hg : findIn K (.type "member_descriptor") "__set__" = some (some (.builtin "member_descriptor.__set__"))) : takesIn K (.ref p) = some true := by
  unfold takesIn specialIn; rw [ht, Option.bind_some, hg]
theorem md_tr {K : Frag} {C : Addr} (ha : findIn K (.ref C) name = some (some (.ref p))) (ht : typeIn K (.ref p) = some (.type "member_descriptor")) (hg : findIn K (.type "member_descriptor") "__set__" = some (some (.builtin "member_descriptor.__set__"))) : takerIn K C name = some (some (.ref p)) := by
  unfold takerIn; rw [ha, Option.bind_some]; dsimp only; rw [md_tk ht hg]; rfl
theorem p_get {ex : Bool} {Q : Value → Shared → Prop} (S : St y.cx L m ((b, r.obj) :: l) k s) (ha : findIn (hd.heap_39 y.w.params) (.ref 656) name = some (some (.ref p))) (ht : typeIn (hd.heap_39 y.w.params) (.ref p) = some (.type "member_descriptor")) (hp : slotIn (hd.heap_39 y.w.params) p 656 = some i)
    (hv : (r.slots[i]?).join = some v) (hh : handedIn v = true) (h : ∀ s', St y.cx L m ((b, r.obj) :: l) k s' → Q v s') : N y.cx A (getAttr (.ref b) name ex) Q s :=
  b_get S (.head _) (fa _).pg (fa _).cls ha (md_gt ht (fa _).mdg) (md_tk ht (fa _).mds) hp hv hh h
theorem p_set {Q : Unit → Shared → Prop} {r' : Raw} (S : St y.cx L m ((b, r.obj) :: l) k s) (ha : findIn (hd.heap_39 y.w.params) (.ref 656) name = some (some (.ref p))) (ht : typeIn (hd.heap_39 y.w.params) (.ref p) = some (.type "member_descriptor")) (hp : slotIn (hd.heap_39 y.w.params) p 656 = some i) (hz : i < 1000)
    (e : (r.slots ++ Array.replicate (i + 1 - r.slots.size) none).setIfInBounds i (some v) = r'.slots)
    (h : ∀ s', St y.cx L m ((b, r'.obj) :: l) k s' → Q () s') (hdx : r'.dx = r.dx := by rfl) : N y.cx A (setAttr (.ref b) name v) Q s :=
  b_set S (fa _).sa (fa _).po (md_tr ha ht (fa _).mds) ht hp hz e (fun s' S' => h s' (by rw [Raw.obj, hdx]; exact S'))
theorem p_meth {pl : Sem Bool} {f : Addr} {Q : Value × List Value → Shared → Prop} (S : St y.cx L m ((b, r.obj) :: l) k s) (ha : findIn (hd.heap_39 y.w.params) (.ref 656) name = some (some (.ref f))) (hf : isFn (hd.heap_39 y.w.params) (.ref f) = true) (h : Q (.ref f, [.ref b]) s) : N y.cx A (getMethod (.ref b) name pl) Q s :=
  b_meth S (.head _) (fa _).pg ha hf h
theorem p_attr {C : Addr} {a : Value} {ex : Bool} {Q : Value → Shared → Prop} (S : St y.cx L m l k s) (hm : typeIn (hd.heap_39 y.w.params) (.ref C) = some (.type "type")) (hr : readsIn (hd.heap_39 y.w.params) C (.type "type") = true) (e : findCls (hd.heap_39 y.w.params) (.ref C) (.type "type") name = some (.val a)) (hh : handedIn a = true)
    (h : ∀ s', St y.cx L m l k s' → Q a s') : N y.cx A (getAttr (.ref C) name ex) Q s := k_attr S hm hr e hh h
theorem held_py : Builtin.heldUnderItsOwnName "py_type" (.type "int") = false := by decide +kernel
theorem ty_int : typeOf (.type "int") = pure (.type "type") := by kernel_rfl
theorem p_pyt {C : Addr} {pl : Sem Bool} {Q : Value × List Value → Shared → Prop} (S : St y.cx L m l k s) (hr : readsIn (hd.heap_39 y.w.params) C (.type "type") = true) (hc : findIn (hd.heap_39 y.w.params) (.ref C) "py_type" = some (some (.type "int")))
    (h : ∀ s', St y.cx L m l k s' → Q (.type "int", []) s') : N y.cx A (getMethod (.ref C) "py_type" pl) Q s := t_meth S hr (fa _).tpy hc held_py ty_int (fa _).tgt h
theorem p_glob {a : Addr} {cn : Str} {cs : Scope} {ccd : Value} {pos : Pos} {Q : Value → Shared → Prop} (S : St y.cx L m l k s) (e : nsIn (hd.heap_39 y.w.params) mainGlobals name = some (some v)) (h : Q v s)
    (hk : cs.kind = .function := by rfl) (hx : (envOf cn cs L a ccd).kindOf name = some .globalImplicit := by rfl) (hd : (name == ("__debug__" : Str)) = false := by decide) :
    N y.cx A (eval (.Name name pos) (envOf cn cs L a ccd)) Q s := r_glob S e h hk hx hd
theorem p_blt {a : Addr} {cn : Str} {cs : Scope} {ccd : Value} {pos : Pos} {Q : Value → Shared → Prop} (S : St y.cx L m l k s) (e : nsIn (hd.heap_39 y.w.params) mainGlobals name = some none) (hv : bootBuiltins name = some v) (hn : name ≠ "__name__") (h : Q v s)
    (hk : cs.kind = .function := by rfl) (hx : (envOf cn cs L a ccd).kindOf name = some .globalImplicit := by rfl) (hd : (name == ("__debug__" : Str)) = false := by decide) :
    N y.cx A (eval (.Name name pos) (envOf cn cs L a ccd)) Q s := r_blt S e hv hn h hk hx hd
theorem p_call {f : Addr} {nm qual : Str} {params : Arguments} {body : List Stmt} {scope : Scope} {dV kV doc pm cdv ct oc : Value} {an od : Option Addr} {osl : Array (Option Value)} {pos : List Value} {kw : List (Str × Value)} {binds : List (Str × Value)}
    {Q : Value → Shared → Prop} (S : St y.cx L m l k s) (ho : (hd.heap_39 y.w.params).lookup f = some ⟨oc, od, .func (fnOf nm qual params body scope dV kV doc pm an cdv ct), osl⟩) (hcd : codeIn (hd.heap_39 y.w.params) cdv qual = true) (hroom : A.depth < recursionLimit)
    (hbind : BindsTo s (fnOf nm qual params body scope dV kV doc pm an cdv ct) ⟨pos, kw⟩ binds)
    (hloc : ∀ y ∈ binds, scope.names.lookup y.1 = some .local)
    (h : ∀ L' oL s₁, St y.cx L' (fun y => binds.reverse.lookup y) l ((L, oL) :: k) s₁ → N y.cx (A.deeper (envOf qual scope L' f cdv)) (execs body (envOf qual scope L' f cdv)) (Back y.cx L m oL k Q) s₁)
    (hcell : ∀ x ∈ scope.names, x.2 ≠ .cell) (hco : scope.isCoroutine = false) (hgen : scope.isGenerator = false) (hk : scope.kind = .function) :
    N y.cx A (call (.ref f) pos kw) Q s := n_call S ho hcd hroom hbind hloc h hcell hco hgen hk

theorem g_Bytes {ex : Bool} {Q : Value → Shared → Prop} (S : St y.cx L m ((b, r.obj) :: l) k s) (h : ∀ s', St y.cx L m ((b, r.obj) :: l) k s' → Q (.ref r.ba) s') : N y.cx A (getAttr (.ref b) "Bytes" ex) Q s :=
  p_get S (fa _).at_Bytes (fa _).ty_Bytes (fa _).sl_Bytes rfl (rfl) h
theorem g_current_vtable {ex : Bool} {Q : Value → Shared → Prop} (S : St y.cx L m ((b, r.obj) :: l) k s) (h : ∀ s', St y.cx L m ((b, r.obj) :: l) k s' → Q (refO r.cv) s') : N y.cx A (getAttr (.ref b) "current_vtable" ex) Q s :=
  p_get S (fa _).at_current_vtable (fa _).ty_current_vtable (fa _).sl_current_vtable rfl (handed_refO _) h
theorem g_finished {ex : Bool} {Q : Value → Shared → Prop} (S : St y.cx L m ((b, r.obj) :: l) k s) (h : ∀ s', St y.cx L m ((b, r.obj) :: l) k s' → Q (.bool r.fin) s') : N y.cx A (getAttr (.ref b) "finished" ex) Q s :=
  p_get S (fa _).at_finished (fa _).ty_finished (fa _).sl_finished rfl (rfl) h
theorem g_forceDefaults {ex : Bool} {Q : Value → Shared → Prop} (S : St y.cx L m ((b, r.obj) :: l) k s) (h : ∀ s', St y.cx L m ((b, r.obj) :: l) k s' → Q (.bool false) s') : N y.cx A (getAttr (.ref b) "forceDefaults" ex) Q s :=
  p_get S (fa _).at_forceDefaults (fa _).ty_forceDefaults (fa _).sl_forceDefaults rfl (rfl) h
theorem g_head {ex : Bool} {Q : Value → Shared → Prop} (S : St y.cx L m ((b, r.obj) :: l) k s) (h : ∀ s', St y.cx L m ((b, r.obj) :: l) k s' → Q (.int r.head.1 r.head.2) s') : N y.cx A (getAttr (.ref b) "head" ex) Q s :=
  p_get S (fa _).at_head (fa _).ty_head (fa _).sl_head rfl (rfl) h
theorem g_minalign {ex : Bool} {Q : Value → Shared → Prop} (S : St y.cx L m ((b, r.obj) :: l) k s) (h : ∀ s', St y.cx L m ((b, r.obj) :: l) k s' → Q (.int r.ma.1 r.ma.2) s') : N y.cx A (getAttr (.ref b) "minalign" ex) Q s :=
  p_get S (fa _).at_minalign (fa _).ty_minalign (fa _).sl_minalign rfl (rfl) h
theorem g_nested {ex : Bool} {Q : Value → Shared → Prop} (S : St y.cx L m ((b, r.obj) :: l) k s) (h : ∀ s', St y.cx L m ((b, r.obj) :: l) k s' → Q (.bool r.nested) s') : N y.cx A (getAttr (.ref b) "nested" ex) Q s :=
  p_get S (fa _).at_nested (fa _).ty_nested (fa _).sl_nested rfl (rfl) h
theorem g_objectEnd {ex : Bool} {Q : Value → Shared → Prop} (S : St y.cx L m ((b, r.obj) :: l) k s) (h : ∀ s', St y.cx L m ((b, r.obj) :: l) k s' → Q (intO r.oe) s') : N y.cx A (getAttr (.ref b) "objectEnd" ex) Q s :=
  p_get S (fa _).at_objectEnd (fa _).ty_objectEnd (fa _).sl_objectEnd rfl (handed_intO _) h
theorem g_sharedStrings {ex : Bool} {Q : Value → Shared → Prop} (S : St y.cx L m ((b, r.obj) :: l) k s) (h : ∀ s', St y.cx L m ((b, r.obj) :: l) k s' → Q (refO r.ss) s') : N y.cx A (getAttr (.ref b) "sharedStrings" ex) Q s :=
  p_get S (fa _).at_sharedStrings (fa _).ty_sharedStrings (fa _).sl_sharedStrings rfl (handed_refO _) h
theorem g_vtables {ex : Bool} {Q : Value → Shared → Prop} (S : St y.cx L m ((b, r.obj) :: l) k s) (h : ∀ s', St y.cx L m ((b, r.obj) :: l) k s' → Q (.ref r.vt) s') : N y.cx A (getAttr (.ref b) "vtables" ex) Q s :=
  p_get S (fa _).at_vtables (fa _).ty_vtables (fa _).sl_vtables rfl (rfl) h
theorem g_vectorNumElems {ex : Bool} {i : Int} {t : Tok} {Q : Value → Shared → Prop} (S : St y.cx L m ((b, r.obj) :: l) k s) (hv : r.vne = some (some (i, t))) (h : ∀ s', St y.cx L m ((b, r.obj) :: l) k s' → Q (.int i t) s') : N y.cx A (getAttr (.ref b) "vectorNumElems" ex) Q s :=
  p_get S (fa _).at_vectorNumElems (fa _).ty_vectorNumElems (fa _).sl_vectorNumElems (show (some (r.vne.map intO)).join = some (.int i t) from by rw [hv]; rfl) rfl h
theorem s_Bytes {a : Addr} {Q : Unit → Shared → Prop} (S : St y.cx L m ((b, r.obj) :: l) k s) (h : ∀ s', St y.cx L m ((b, { r with ba := a }.obj) :: l) k s' → Q () s') : N y.cx A (setAttr (.ref b) "Bytes" (.ref a)) Q s :=
  p_set (r' := { r with ba := a }) S (fa _).at_Bytes (fa _).ty_Bytes (fa _).sl_Bytes (by decide) rfl h
theorem s_current_vtable {a : Addr} {Q : Unit → Shared → Prop} (S : St y.cx L m ((b, r.obj) :: l) k s) (h : ∀ s', St y.cx L m ((b, { r with cv := some a }.obj) :: l) k s' → Q () s') : N y.cx A (setAttr (.ref b) "current_vtable" (.ref a)) Q s :=
  p_set (r' := { r with cv := some a }) S (fa _).at_current_vtable (fa _).ty_current_vtable (fa _).sl_current_vtable (by decide) rfl h
theorem s_finished {v : Bool} {Q : Unit → Shared → Prop} (S : St y.cx L m ((b, r.obj) :: l) k s) (h : ∀ s', St y.cx L m ((b, { r with fin := v }.obj) :: l) k s' → Q () s') : N y.cx A (setAttr (.ref b) "finished" (.bool v)) Q s :=
  p_set (r' := { r with fin := v }) S (fa _).at_finished (fa _).ty_finished (fa _).sl_finished (by decide) rfl h
theorem s_head {i : Int} {t : Tok} {Q : Unit → Shared → Prop} (S : St y.cx L m ((b, r.obj) :: l) k s) (h : ∀ s', St y.cx L m ((b, { r with head := (i, t) }.obj) :: l) k s' → Q () s') : N y.cx A (setAttr (.ref b) "head" (.int i t)) Q s :=
  p_set (r' := { r with head := (i, t) }) S (fa _).at_head (fa _).ty_head (fa _).sl_head (by decide) rfl h
theorem s_minalign {i : Int} {t : Tok} {Q : Unit → Shared → Prop} (S : St y.cx L m ((b, r.obj) :: l) k s) (h : ∀ s', St y.cx L m ((b, { r with ma := (i, t) }.obj) :: l) k s' → Q () s') : N y.cx A (setAttr (.ref b) "minalign" (.int i t)) Q s :=
  p_set (r' := { r with ma := (i, t) }) S (fa _).at_minalign (fa _).ty_minalign (fa _).sl_minalign (by decide) rfl h
theorem s_nested {v : Bool} {Q : Unit → Shared → Prop} (S : St y.cx L m ((b, r.obj) :: l) k s) (h : ∀ s', St y.cx L m ((b, { r with nested := v }.obj) :: l) k s' → Q () s') : N y.cx A (setAttr (.ref b) "nested" (.bool v)) Q s :=
  p_set (r' := { r with nested := v }) S (fa _).at_nested (fa _).ty_nested (fa _).sl_nested (by decide) rfl h
theorem s_objectEnd {i : Int} {t : Tok} {Q : Unit → Shared → Prop} (S : St y.cx L m ((b, r.obj) :: l) k s) (h : ∀ s', St y.cx L m ((b, { r with oe := some (i, t) }.obj) :: l) k s' → Q () s') : N y.cx A (setAttr (.ref b) "objectEnd" (.int i t)) Q s :=
  p_set (r' := { r with oe := some (i, t) }) S (fa _).at_objectEnd (fa _).ty_objectEnd (fa _).sl_objectEnd (by decide) rfl h
theorem s_sharedStrings {a : Addr} {Q : Unit → Shared → Prop} (S : St y.cx L m ((b, r.obj) :: l) k s) (h : ∀ s', St y.cx L m ((b, { r with ss := some a }.obj) :: l) k s' → Q () s') : N y.cx A (setAttr (.ref b) "sharedStrings" (.ref a)) Q s :=
  p_set (r' := { r with ss := some a }) S (fa _).at_sharedStrings (fa _).ty_sharedStrings (fa _).sl_sharedStrings (by decide) rfl h
theorem s_vectorNumElems {i : Int} {t : Tok} {Q : Unit → Shared → Prop} (S : St y.cx L m ((b, r.obj) :: l) k s) (h : ∀ s', St y.cx L m ((b, { r with vne := some (some (i, t)) }.obj) :: l) k s' → Q () s') : N y.cx A (setAttr (.ref b) "vectorNumElems" (.int i t)) Q s :=
  p_set (r' := { r with vne := some (some (i, t)) }) S (fa _).at_vectorNumElems (fa _).ty_vectorNumElems (fa _).sl_vectorNumElems (by decide) rfl h
theorem s_vtables {a : Addr} {Q : Unit → Shared → Prop} (S : St y.cx L m ((b, r.obj) :: l) k s) (h : ∀ s', St y.cx L m ((b, { r with vt := a }.obj) :: l) k s' → Q () s') : N y.cx A (setAttr (.ref b) "vtables" (.ref a)) Q s :=
  p_set (r' := { r with vt := a }) S (fa _).at_vtables (fa _).ty_vtables (fa _).sl_vtables (by decide) rfl h
theorem s_current_vtable0  {Q : Unit → Shared → Prop} (S : St y.cx L m ((b, r.obj) :: l) k s) (h : ∀ s', St y.cx L m ((b, { r with cv := none }.obj) :: l) k s' → Q () s') : N y.cx A (setAttr (.ref b) "current_vtable" (.none)) Q s :=
  p_set (r' := { r with cv := none }) S (fa _).at_current_vtable (fa _).ty_current_vtable (fa _).sl_current_vtable (by decide) rfl h
theorem s_objectEnd0  {Q : Unit → Shared → Prop} (S : St y.cx L m ((b, r.obj) :: l) k s) (h : ∀ s', St y.cx L m ((b, { r with oe := none }.obj) :: l) k s' → Q () s') : N y.cx A (setAttr (.ref b) "objectEnd" (.none)) Q s :=
  p_set (r' := { r with oe := none }) S (fa _).at_objectEnd (fa _).ty_objectEnd (fa _).sl_objectEnd (by decide) rfl h
theorem s_sharedStrings0  {Q : Unit → Shared → Prop} (S : St y.cx L m ((b, r.obj) :: l) k s) (h : ∀ s', St y.cx L m ((b, { r with ss := none }.obj) :: l) k s' → Q () s') : N y.cx A (setAttr (.ref b) "sharedStrings" (.none)) Q s :=
  p_set (r' := { r with ss := none }) S (fa _).at_sharedStrings (fa _).ty_sharedStrings (fa _).sl_sharedStrings (by decide) rfl h
theorem s_vectorNumElems0  {Q : Unit → Shared → Prop} (S : St y.cx L m ((b, r.obj) :: l) k s) (h : ∀ s', St y.cx L m ((b, { r with vne := some none }.obj) :: l) k s' → Q () s') : N y.cx A (setAttr (.ref b) "vectorNumElems" (.none)) Q s :=
  p_set (r' := { r with vne := some none }) S (fa _).at_vectorNumElems (fa _).ty_vectorNumElems (fa _).sl_vectorNumElems (by decide) rfl h
theorem m_Head {pl : Sem Bool} {Q : Value × List Value → Shared → Prop} (S : St y.cx L m ((b, r.obj) :: l) k s) (h : Q (.ref 319, [.ref b]) s) : N y.cx A (getMethod (.ref b) "Head" pl) Q s := p_meth S (fa _).at_Head (fa _).fn_Head h
theorem m_Offset {pl : Sem Bool} {Q : Value × List Value → Shared → Prop} (S : St y.cx L m ((b, r.obj) :: l) k s) (h : Q (.ref 326, [.ref b]) s) : N y.cx A (getMethod (.ref b) "Offset" pl) Q s := p_meth S (fa _).at_Offset (fa _).fn_Offset h
theorem m_Output {pl : Sem Bool} {Q : Value × List Value → Shared → Prop} (S : St y.cx L m ((b, r.obj) :: l) k s) (h : Q (.ref 284, [.ref b]) s) : N y.cx A (getMethod (.ref b) "Output" pl) Q s := p_meth S (fa _).at_Output (fa _).fn_Output h
theorem m_StartObject {pl : Sem Bool} {Q : Value × List Value → Shared → Prop} (S : St y.cx L m ((b, r.obj) :: l) k s) (h : Q (.ref 291, [.ref b]) s) : N y.cx A (getMethod (.ref b) "StartObject" pl) Q s := p_meth S (fa _).at_StartObject (fa _).fn_StartObject h
theorem m_WriteVtable {pl : Sem Bool} {Q : Value × List Value → Shared → Prop} (S : St y.cx L m ((b, r.obj) :: l) k s) (h : Q (.ref 298, [.ref b]) s) : N y.cx A (getMethod (.ref b) "WriteVtable" pl) Q s := p_meth S (fa _).at_WriteVtable (fa _).fn_WriteVtable h
theorem m_EndObject {pl : Sem Bool} {Q : Value × List Value → Shared → Prop} (S : St y.cx L m ((b, r.obj) :: l) k s) (h : Q (.ref 305, [.ref b]) s) : N y.cx A (getMethod (.ref b) "EndObject" pl) Q s := p_meth S (fa _).at_EndObject (fa _).fn_EndObject h
theorem m_GrowByteBuffer {pl : Sem Bool} {Q : Value × List Value → Shared → Prop} (S : St y.cx L m ((b, r.obj) :: l) k s) (h : Q (.ref 312, [.ref b]) s) : N y.cx A (getMethod (.ref b) "GrowByteBuffer" pl) Q s := p_meth S (fa _).at_GrowByteBuffer (fa _).fn_GrowByteBuffer h
theorem m_Pad {pl : Sem Bool} {Q : Value × List Value → Shared → Prop} (S : St y.cx L m ((b, r.obj) :: l) k s) (h : Q (.ref 333, [.ref b]) s) : N y.cx A (getMethod (.ref b) "Pad" pl) Q s := p_meth S (fa _).at_Pad (fa _).fn_Pad h
theorem m_Prep {pl : Sem Bool} {Q : Value × List Value → Shared → Prop} (S : St y.cx L m ((b, r.obj) :: l) k s) (h : Q (.ref 340, [.ref b]) s) : N y.cx A (getMethod (.ref b) "Prep" pl) Q s := p_meth S (fa _).at_Prep (fa _).fn_Prep h
theorem m_PrependSOffsetTRelative {pl : Sem Bool} {Q : Value × List Value → Shared → Prop} (S : St y.cx L m ((b, r.obj) :: l) k s) (h : Q (.ref 347, [.ref b]) s) : N y.cx A (getMethod (.ref b) "PrependSOffsetTRelative" pl) Q s := p_meth S (fa _).at_PrependSOffsetTRelative (fa _).fn_PrependSOffsetTRelative h
theorem m_PrependUOffsetTRelative {pl : Sem Bool} {Q : Value × List Value → Shared → Prop} (S : St y.cx L m ((b, r.obj) :: l) k s) (h : Q (.ref 354, [.ref b]) s) : N y.cx A (getMethod (.ref b) "PrependUOffsetTRelative" pl) Q s := p_meth S (fa _).at_PrependUOffsetTRelative (fa _).fn_PrependUOffsetTRelative h
theorem m_StartVector {pl : Sem Bool} {Q : Value × List Value → Shared → Prop} (S : St y.cx L m ((b, r.obj) :: l) k s) (h : Q (.ref 361, [.ref b]) s) : N y.cx A (getMethod (.ref b) "StartVector" pl) Q s := p_meth S (fa _).at_StartVector (fa _).fn_StartVector h
theorem m_EndVector {pl : Sem Bool} {Q : Value × List Value → Shared → Prop} (S : St y.cx L m ((b, r.obj) :: l) k s) (h : Q (.ref 369, [.ref b]) s) : N y.cx A (getMethod (.ref b) "EndVector" pl) Q s := p_meth S (fa _).at_EndVector (fa _).fn_EndVector h
theorem m_CreateString {pl : Sem Bool} {Q : Value × List Value → Shared → Prop} (S : St y.cx L m ((b, r.obj) :: l) k s) (h : Q (.ref 383, [.ref b]) s) : N y.cx A (getMethod (.ref b) "CreateString" pl) Q s := p_meth S (fa _).at_CreateString (fa _).fn_CreateString h
theorem m_assertNested {pl : Sem Bool} {Q : Value × List Value → Shared → Prop} (S : St y.cx L m ((b, r.obj) :: l) k s) (h : Q (.ref 397, [.ref b]) s) : N y.cx A (getMethod (.ref b) "assertNested" pl) Q s := p_meth S (fa _).at_assertNested (fa _).fn_assertNested h
theorem m_assertNotNested {pl : Sem Bool} {Q : Value × List Value → Shared → Prop} (S : St y.cx L m ((b, r.obj) :: l) k s) (h : Q (.ref 404, [.ref b]) s) : N y.cx A (getMethod (.ref b) "assertNotNested" pl) Q s := p_meth S (fa _).at_assertNotNested (fa _).fn_assertNotNested h
theorem m_Slot {pl : Sem Bool} {Q : Value × List Value → Shared → Prop} (S : St y.cx L m ((b, r.obj) :: l) k s) (h : Q (.ref 418, [.ref b]) s) : N y.cx A (getMethod (.ref b) "Slot" pl) Q s := p_meth S (fa _).at_Slot (fa _).fn_Slot h
theorem m_Finish {pl : Sem Bool} {Q : Value × List Value → Shared → Prop} (S : St y.cx L m ((b, r.obj) :: l) k s) (h : Q (.ref 434, [.ref b]) s) : N y.cx A (getMethod (.ref b) "Finish" pl) Q s := p_meth S (fa _).at_Finish (fa _).fn_Finish h
theorem m_Prepend {pl : Sem Bool} {Q : Value × List Value → Shared → Prop} (S : St y.cx L m ((b, r.obj) :: l) k s) (h : Q (.ref 449, [.ref b]) s) : N y.cx A (getMethod (.ref b) "Prepend" pl) Q s := p_meth S (fa _).at_Prepend (fa _).fn_Prepend h
theorem m_PrependSlot {pl : Sem Bool} {Q : Value × List Value → Shared → Prop} (S : St y.cx L m ((b, r.obj) :: l) k s) (h : Q (.ref 456, [.ref b]) s) : N y.cx A (getMethod (.ref b) "PrependSlot" pl) Q s := p_meth S (fa _).at_PrependSlot (fa _).fn_PrependSlot h
theorem m_PrependUint8 {pl : Sem Bool} {Q : Value × List Value → Shared → Prop} (S : St y.cx L m ((b, r.obj) :: l) k s) (h : Q (.ref 561, [.ref b]) s) : N y.cx A (getMethod (.ref b) "PrependUint8" pl) Q s := p_meth S (fa _).at_PrependUint8 (fa _).fn_PrependUint8 h
theorem m_PrependUint32 {pl : Sem Bool} {Q : Value × List Value → Shared → Prop} (S : St y.cx L m ((b, r.obj) :: l) k s) (h : Q (.ref 575, [.ref b]) s) : N y.cx A (getMethod (.ref b) "PrependUint32" pl) Q s := p_meth S (fa _).at_PrependUint32 (fa _).fn_PrependUint32 h
theorem m_PrependVOffsetT {pl : Sem Bool} {Q : Value × List Value → Shared → Prop} (S : St y.cx L m ((b, r.obj) :: l) k s) (h : Q (.ref 624, [.ref b]) s) : N y.cx A (getMethod (.ref b) "PrependVOffsetT" pl) Q s := p_meth S (fa _).at_PrependVOffsetT (fa _).fn_PrependVOffsetT h
theorem m_Place {pl : Sem Bool} {Q : Value × List Value → Shared → Prop} (S : St y.cx L m ((b, r.obj) :: l) k s) (h : Q (.ref 631, [.ref b]) s) : N y.cx A (getMethod (.ref b) "Place" pl) Q s := p_meth S (fa _).at_Place (fa _).fn_Place h
theorem m_PlaceSOffsetT {pl : Sem Bool} {Q : Value × List Value → Shared → Prop} (S : St y.cx L m ((b, r.obj) :: l) k s) (h : Q (.ref 645, [.ref b]) s) : N y.cx A (getMethod (.ref b) "PlaceSOffsetT" pl) Q s := p_meth S (fa _).at_PlaceSOffsetT (fa _).fn_PlaceSOffsetT h
theorem m_PlaceUOffsetT {pl : Sem Bool} {Q : Value × List Value → Shared → Prop} (S : St y.cx L m ((b, r.obj) :: l) k s) (h : Q (.ref 652, [.ref b]) s) : N y.cx A (getMethod (.ref b) "PlaceUOffsetT" pl) Q s := p_meth S (fa _).at_PlaceUOffsetT (fa _).fn_PlaceUOffsetT h
theorem m___Finish {pl : Sem Bool} {Q : Value × List Value → Shared → Prop} (S : St y.cx L m ((b, r.obj) :: l) k s) (h : Q (.ref 426, [.ref b]) s) : N y.cx A (getMethod (.ref b) "_Builder__Finish" pl) Q s := p_meth S (fa _).at___Finish (fa _).fn___Finish h
theorem m_CreateSharedString {pl : Sem Bool} {Q : Value × List Value → Shared → Prop} (S : St y.cx L m ((b, r.obj) :: l) k s) (h : Q (.ref 376, [.ref b]) s) : N y.cx A (getMethod (.ref b) "CreateSharedString" pl) Q s := p_meth S (fa _).at_CreateSharedString (fa _).fn_CreateSharedString h
theorem m_PrependUint8Slot {pl : Sem Bool} {Q : Value × List Value → Shared → Prop} (S : St y.cx L m ((b, r.obj) :: l) k s) (h : Q (.ref 477, [.ref b]) s) : N y.cx A (getMethod (.ref b) "PrependUint8Slot" pl) Q s := p_meth S (fa _).at_PrependUint8Slot (fa _).fn_PrependUint8Slot h
theorem m_PrependUint64Slot {pl : Sem Bool} {Q : Value × List Value → Shared → Prop} (S : St y.cx L m ((b, r.obj) :: l) k s) (h : Q (.ref 498, [.ref b]) s) : N y.cx A (getMethod (.ref b) "PrependUint64Slot" pl) Q s := p_meth S (fa _).at_PrependUint64Slot (fa _).fn_PrependUint64Slot h
theorem m_PrependUOffsetTRelativeSlot {pl : Sem Bool} {Q : Value × List Value → Shared → Prop} (S : St y.cx L m ((b, r.obj) :: l) k s) (h : Q (.ref 533, [.ref b]) s) : N y.cx A (getMethod (.ref b) "PrependUOffsetTRelativeSlot" pl) Q s := p_meth S (fa _).at_PrependUOffsetTRelativeSlot (fa _).fn_PrependUOffsetTRelativeSlot h
theorem a_Uint8Flags_bytewidth {ex : Bool} {Q : Value → Shared → Prop} (S : St y.cx L m l k s) (h : ∀ s', St y.cx L m l k s' → Q (.int 1 365) s') : N y.cx A (getAttr (.ref 66) "bytewidth" ex) Q s := p_attr S (fa _).ct_Uint8Flags (fa _).cr_Uint8Flags (fa _).ca_Uint8Flags_bytewidth (by decide +kernel) h
theorem a_Uint8Flags_min_val {ex : Bool} {Q : Value → Shared → Prop} (S : St y.cx L m l k s) (h : ∀ s', St y.cx L m l k s' → Q (.int 0 367) s') : N y.cx A (getAttr (.ref 66) "min_val" ex) Q s := p_attr S (fa _).ct_Uint8Flags (fa _).cr_Uint8Flags (fa _).ca_Uint8Flags_min_val (by decide +kernel) h
theorem a_Uint8Flags_max_val {ex : Bool} {Q : Value → Shared → Prop} (S : St y.cx L m l k s) (h : ∀ s', St y.cx L m l k s' → Q (.int 255 373) s') : N y.cx A (getAttr (.ref 66) "max_val" ex) Q s := p_attr S (fa _).ct_Uint8Flags (fa _).cr_Uint8Flags (fa _).ca_Uint8Flags_max_val (by decide +kernel) h
theorem a_Uint8Flags_packer_type {ex : Bool} {Q : Value → Shared → Prop} (S : St y.cx L m l k s) (h : ∀ s', St y.cx L m l k s' → Q (.ref 52) s') : N y.cx A (getAttr (.ref 66) "packer_type" ex) Q s := p_attr S (fa _).ct_Uint8Flags (fa _).cr_Uint8Flags (fa _).ca_Uint8Flags_packer_type (by decide +kernel) h
theorem y_Uint8Flags {pl : Sem Bool} {Q : Value × List Value → Shared → Prop} (S : St y.cx L m l k s) (h : ∀ s', St y.cx L m l k s' → Q (.type "int", []) s') : N y.cx A (getMethod (.ref 66) "py_type" pl) Q s := p_pyt S (fa _).cr_Uint8Flags (fa _).ci_Uint8Flags h
theorem a_Uint32Flags_bytewidth {ex : Bool} {Q : Value → Shared → Prop} (S : St y.cx L m l k s) (h : ∀ s', St y.cx L m l k s' → Q (.int 4 433) s') : N y.cx A (getAttr (.ref 94) "bytewidth" ex) Q s := p_attr S (fa _).ct_Uint32Flags (fa _).cr_Uint32Flags (fa _).ca_Uint32Flags_bytewidth (by decide +kernel) h
theorem a_Uint32Flags_min_val {ex : Bool} {Q : Value → Shared → Prop} (S : St y.cx L m l k s) (h : ∀ s', St y.cx L m l k s' → Q (.int 0 435) s') : N y.cx A (getAttr (.ref 94) "min_val" ex) Q s := p_attr S (fa _).ct_Uint32Flags (fa _).cr_Uint32Flags (fa _).ca_Uint32Flags_min_val (by decide +kernel) h
theorem a_Uint32Flags_max_val {ex : Bool} {Q : Value → Shared → Prop} (S : St y.cx L m l k s) (h : ∀ s', St y.cx L m l k s' → Q (.int 4294967295 441) s') : N y.cx A (getAttr (.ref 94) "max_val" ex) Q s := p_attr S (fa _).ct_Uint32Flags (fa _).cr_Uint32Flags (fa _).ca_Uint32Flags_max_val (by decide +kernel) h
theorem a_Uint32Flags_packer_type {ex : Bool} {Q : Value → Shared → Prop} (S : St y.cx L m l k s) (h : ∀ s', St y.cx L m l k s' → Q (.ref 54) s') : N y.cx A (getAttr (.ref 94) "packer_type" ex) Q s := p_attr S (fa _).ct_Uint32Flags (fa _).cr_Uint32Flags (fa _).ca_Uint32Flags_packer_type (by decide +kernel) h
theorem y_Uint32Flags {pl : Sem Bool} {Q : Value × List Value → Shared → Prop} (S : St y.cx L m l k s) (h : ∀ s', St y.cx L m l k s' → Q (.type "int", []) s') : N y.cx A (getMethod (.ref 94) "py_type" pl) Q s := p_pyt S (fa _).cr_Uint32Flags (fa _).ci_Uint32Flags h
theorem a_Uint64Flags_bytewidth {ex : Bool} {Q : Value → Shared → Prop} (S : St y.cx L m l k s) (h : ∀ s', St y.cx L m l k s' → Q (.int 8 467) s') : N y.cx A (getAttr (.ref 108) "bytewidth" ex) Q s := p_attr S (fa _).ct_Uint64Flags (fa _).cr_Uint64Flags (fa _).ca_Uint64Flags_bytewidth (by decide +kernel) h
theorem a_Uint64Flags_min_val {ex : Bool} {Q : Value → Shared → Prop} (S : St y.cx L m l k s) (h : ∀ s', St y.cx L m l k s' → Q (.int 0 469) s') : N y.cx A (getAttr (.ref 108) "min_val" ex) Q s := p_attr S (fa _).ct_Uint64Flags (fa _).cr_Uint64Flags (fa _).ca_Uint64Flags_min_val (by decide +kernel) h
theorem a_Uint64Flags_max_val {ex : Bool} {Q : Value → Shared → Prop} (S : St y.cx L m l k s) (h : ∀ s', St y.cx L m l k s' → Q (.int 18446744073709551615 475) s') : N y.cx A (getAttr (.ref 108) "max_val" ex) Q s := p_attr S (fa _).ct_Uint64Flags (fa _).cr_Uint64Flags (fa _).ca_Uint64Flags_max_val (by decide +kernel) h
theorem a_Uint64Flags_packer_type {ex : Bool} {Q : Value → Shared → Prop} (S : St y.cx L m l k s) (h : ∀ s', St y.cx L m l k s' → Q (.ref 55) s') : N y.cx A (getAttr (.ref 108) "packer_type" ex) Q s := p_attr S (fa _).ct_Uint64Flags (fa _).cr_Uint64Flags (fa _).ca_Uint64Flags_packer_type (by decide +kernel) h
theorem y_Uint64Flags {pl : Sem Bool} {Q : Value × List Value → Shared → Prop} (S : St y.cx L m l k s) (h : ∀ s', St y.cx L m l k s' → Q (.type "int", []) s') : N y.cx A (getMethod (.ref 108) "py_type" pl) Q s := p_pyt S (fa _).cr_Uint64Flags (fa _).ci_Uint64Flags h
theorem a_Int32Flags_bytewidth {ex : Bool} {Q : Value → Shared → Prop} (S : St y.cx L m l k s) (h : ∀ s', St y.cx L m l k s' → Q (.int 4 501) s') : N y.cx A (getAttr (.ref 122) "bytewidth" ex) Q s := p_attr S (fa _).ct_Int32Flags (fa _).cr_Int32Flags (fa _).ca_Int32Flags_bytewidth (by decide +kernel) h
theorem a_Int32Flags_min_val {ex : Bool} {Q : Value → Shared → Prop} (S : St y.cx L m l k s) (h : ∀ s', St y.cx L m l k s' → Q (.int (-2147483648) 506) s') : N y.cx A (getAttr (.ref 122) "min_val" ex) Q s := p_attr S (fa _).ct_Int32Flags (fa _).cr_Int32Flags (fa _).ca_Int32Flags_min_val (by decide +kernel) h
theorem a_Int32Flags_max_val {ex : Bool} {Q : Value → Shared → Prop} (S : St y.cx L m l k s) (h : ∀ s', St y.cx L m l k s' → Q (.int 2147483647 512) s') : N y.cx A (getAttr (.ref 122) "max_val" ex) Q s := p_attr S (fa _).ct_Int32Flags (fa _).cr_Int32Flags (fa _).ca_Int32Flags_max_val (by decide +kernel) h
theorem a_Int32Flags_packer_type {ex : Bool} {Q : Value → Shared → Prop} (S : St y.cx L m l k s) (h : ∀ s', St y.cx L m l k s' → Q (.ref 56) s') : N y.cx A (getAttr (.ref 122) "packer_type" ex) Q s := p_attr S (fa _).ct_Int32Flags (fa _).cr_Int32Flags (fa _).ca_Int32Flags_packer_type (by decide +kernel) h
theorem y_Int32Flags {pl : Sem Bool} {Q : Value × List Value → Shared → Prop} (S : St y.cx L m l k s) (h : ∀ s', St y.cx L m l k s' → Q (.type "int", []) s') : N y.cx A (getMethod (.ref 122) "py_type" pl) Q s := p_pyt S (fa _).cr_Int32Flags (fa _).ci_Int32Flags h
theorem a_SOffsetTFlags_bytewidth {ex : Bool} {Q : Value → Shared → Prop} (S : St y.cx L m l k s) (h : ∀ s', St y.cx L m l k s' → Q (.int 4 501) s') : N y.cx A (getAttr (.ref 136) "bytewidth" ex) Q s := p_attr S (fa _).ct_SOffsetTFlags (fa _).cr_SOffsetTFlags (fa _).ca_SOffsetTFlags_bytewidth (by decide +kernel) h
theorem a_SOffsetTFlags_min_val {ex : Bool} {Q : Value → Shared → Prop} (S : St y.cx L m l k s) (h : ∀ s', St y.cx L m l k s' → Q (.int (-2147483648) 506) s') : N y.cx A (getAttr (.ref 136) "min_val" ex) Q s := p_attr S (fa _).ct_SOffsetTFlags (fa _).cr_SOffsetTFlags (fa _).ca_SOffsetTFlags_min_val (by decide +kernel) h
theorem a_SOffsetTFlags_max_val {ex : Bool} {Q : Value → Shared → Prop} (S : St y.cx L m l k s) (h : ∀ s', St y.cx L m l k s' → Q (.int 2147483647 512) s') : N y.cx A (getAttr (.ref 136) "max_val" ex) Q s := p_attr S (fa _).ct_SOffsetTFlags (fa _).cr_SOffsetTFlags (fa _).ca_SOffsetTFlags_max_val (by decide +kernel) h
theorem a_SOffsetTFlags_packer_type {ex : Bool} {Q : Value → Shared → Prop} (S : St y.cx L m l k s) (h : ∀ s', St y.cx L m l k s' → Q (.ref 56) s') : N y.cx A (getAttr (.ref 136) "packer_type" ex) Q s := p_attr S (fa _).ct_SOffsetTFlags (fa _).cr_SOffsetTFlags (fa _).ca_SOffsetTFlags_packer_type (by decide +kernel) h
theorem y_SOffsetTFlags {pl : Sem Bool} {Q : Value × List Value → Shared → Prop} (S : St y.cx L m l k s) (h : ∀ s', St y.cx L m l k s' → Q (.type "int", []) s') : N y.cx A (getMethod (.ref 136) "py_type" pl) Q s := p_pyt S (fa _).cr_SOffsetTFlags (fa _).ci_SOffsetTFlags h
theorem a_UOffsetTFlags_bytewidth {ex : Bool} {Q : Value → Shared → Prop} (S : St y.cx L m l k s) (h : ∀ s', St y.cx L m l k s' → Q (.int 4 433) s') : N y.cx A (getAttr (.ref 148) "bytewidth" ex) Q s := p_attr S (fa _).ct_UOffsetTFlags (fa _).cr_UOffsetTFlags (fa _).ca_UOffsetTFlags_bytewidth (by decide +kernel) h
theorem a_UOffsetTFlags_min_val {ex : Bool} {Q : Value → Shared → Prop} (S : St y.cx L m l k s) (h : ∀ s', St y.cx L m l k s' → Q (.int 0 435) s') : N y.cx A (getAttr (.ref 148) "min_val" ex) Q s := p_attr S (fa _).ct_UOffsetTFlags (fa _).cr_UOffsetTFlags (fa _).ca_UOffsetTFlags_min_val (by decide +kernel) h
theorem a_UOffsetTFlags_max_val {ex : Bool} {Q : Value → Shared → Prop} (S : St y.cx L m l k s) (h : ∀ s', St y.cx L m l k s' → Q (.int 4294967295 441) s') : N y.cx A (getAttr (.ref 148) "max_val" ex) Q s := p_attr S (fa _).ct_UOffsetTFlags (fa _).cr_UOffsetTFlags (fa _).ca_UOffsetTFlags_max_val (by decide +kernel) h
theorem a_UOffsetTFlags_packer_type {ex : Bool} {Q : Value → Shared → Prop} (S : St y.cx L m l k s) (h : ∀ s', St y.cx L m l k s' → Q (.ref 54) s') : N y.cx A (getAttr (.ref 148) "packer_type" ex) Q s := p_attr S (fa _).ct_UOffsetTFlags (fa _).cr_UOffsetTFlags (fa _).ca_UOffsetTFlags_packer_type (by decide +kernel) h
theorem y_UOffsetTFlags {pl : Sem Bool} {Q : Value × List Value → Shared → Prop} (S : St y.cx L m l k s) (h : ∀ s', St y.cx L m l k s' → Q (.type "int", []) s') : N y.cx A (getMethod (.ref 148) "py_type" pl) Q s := p_pyt S (fa _).cr_UOffsetTFlags (fa _).ci_UOffsetTFlags h
theorem a_VOffsetTFlags_bytewidth {ex : Bool} {Q : Value → Shared → Prop} (S : St y.cx L m l k s) (h : ∀ s', St y.cx L m l k s' → Q (.int 2 399) s') : N y.cx A (getAttr (.ref 160) "bytewidth" ex) Q s := p_attr S (fa _).ct_VOffsetTFlags (fa _).cr_VOffsetTFlags (fa _).ca_VOffsetTFlags_bytewidth (by decide +kernel) h
theorem a_VOffsetTFlags_min_val {ex : Bool} {Q : Value → Shared → Prop} (S : St y.cx L m l k s) (h : ∀ s', St y.cx L m l k s' → Q (.int 0 401) s') : N y.cx A (getAttr (.ref 160) "min_val" ex) Q s := p_attr S (fa _).ct_VOffsetTFlags (fa _).cr_VOffsetTFlags (fa _).ca_VOffsetTFlags_min_val (by decide +kernel) h
theorem a_VOffsetTFlags_max_val {ex : Bool} {Q : Value → Shared → Prop} (S : St y.cx L m l k s) (h : ∀ s', St y.cx L m l k s' → Q (.int 65535 407) s') : N y.cx A (getAttr (.ref 160) "max_val" ex) Q s := p_attr S (fa _).ct_VOffsetTFlags (fa _).cr_VOffsetTFlags (fa _).ca_VOffsetTFlags_max_val (by decide +kernel) h
theorem a_VOffsetTFlags_packer_type {ex : Bool} {Q : Value → Shared → Prop} (S : St y.cx L m l k s) (h : ∀ s', St y.cx L m l k s' → Q (.ref 53) s') : N y.cx A (getAttr (.ref 160) "packer_type" ex) Q s := p_attr S (fa _).ct_VOffsetTFlags (fa _).cr_VOffsetTFlags (fa _).ca_VOffsetTFlags_packer_type (by decide +kernel) h
theorem y_VOffsetTFlags {pl : Sem Bool} {Q : Value × List Value → Shared → Prop} (S : St y.cx L m l k s) (h : ∀ s', St y.cx L m l k s' → Q (.type "int", []) s') : N y.cx A (getMethod (.ref 160) "py_type" pl) Q s := p_pyt S (fa _).cr_VOffsetTFlags (fa _).ci_VOffsetTFlags h
theorem a_Builder_MAX_BUFFER_SIZE {ex : Bool} {Q : Value → Shared → Prop} (S : St y.cx L m l k s) (h : ∀ s', St y.cx L m l k s' → Q (.int 2147483648 735) s') : N y.cx A (getAttr (.ref 656) "MAX_BUFFER_SIZE" ex) Q s := p_attr S (fa _).ct_Builder (fa _).cr_Builder (fa _).ca_Builder_MAX_BUFFER_SIZE (by decide +kernel) h
theorem m__Builder__Finish {pl : Sem Bool} {Q : Value × List Value → Shared → Prop} (S : St y.cx L m ((b, r.obj) :: l) k s) (h : Q (.ref 426, [.ref b]) s) : N y.cx A (getMethod (.ref b) "_Builder__Finish" pl) Q s := m___Finish S h
end
theorem gl_string_types (P : Params) : nsIn (hd.heap_39 P) mainGlobals "string_types" = some (some (.ref 50)) := (fa P).gl_string_types
theorem gl_binary_types (P : Params) : nsIn (hd.heap_39 P) mainGlobals "binary_types" = some (some (.ref 51)) := (fa P).gl_binary_types
theorem gl_uoffset (P : Params) : nsIn (hd.heap_39 P) mainGlobals "uoffset" = some (some (.ref 54)) := (fa P).gl_uoffset
theorem gl_soffset (P : Params) : nsIn (hd.heap_39 P) mainGlobals "soffset" = some (some (.ref 56)) := (fa P).gl_soffset
theorem gl_FILE_IDENTIFIER_LENGTH (P : Params) : nsIn (hd.heap_39 P) mainGlobals "FILE_IDENTIFIER_LENGTH" = some (some (.int 4 584)) := (fa P).gl_FILE_IDENTIFIER_LENGTH
theorem gl_VtableMetadataFields (P : Params) : nsIn (hd.heap_39 P) mainGlobals "VtableMetadataFields" = some (some (.int 2 706)) := (fa P).gl_VtableMetadataFields
theorem gl_Write (P : Params) : nsIn (hd.heap_39 P) mainGlobals "Write" = some (some (.ref 176)) := (fa P).gl_Write
theorem gl_enforce_number (P : Params) : nsIn (hd.heap_39 P) mainGlobals "enforce_number" = some (some (.ref 169)) := (fa P).gl_enforce_number
theorem gl_Builder (P : Params) : nsIn (hd.heap_39 P) mainGlobals "Builder" = some (some (.ref 656)) := (fa P).gl_Builder
theorem gl_unpack (P : Params) : nsIn (hd.heap_39 P) mainGlobals "unpack" = some (some (.builtin "_struct.unpack")) := (fa P).gl_unpack
theorem gl__law_message (P : Params) : nsIn (hd.heap_39 P) mainGlobals "_law_message" = some (some (.ref 674)) := (fa P).gl__law_message
theorem gl_Uint8Flags (P : Params) : nsIn (hd.heap_39 P) mainGlobals "Uint8Flags" = some (some (.ref 66)) := (fa P).gl_Uint8Flags
theorem gl_Uint32Flags (P : Params) : nsIn (hd.heap_39 P) mainGlobals "Uint32Flags" = some (some (.ref 94)) := (fa P).gl_Uint32Flags
theorem gl_Uint64Flags (P : Params) : nsIn (hd.heap_39 P) mainGlobals "Uint64Flags" = some (some (.ref 108)) := (fa P).gl_Uint64Flags
theorem gl_Int32Flags (P : Params) : nsIn (hd.heap_39 P) mainGlobals "Int32Flags" = some (some (.ref 122)) := (fa P).gl_Int32Flags
theorem gl_SOffsetTFlags (P : Params) : nsIn (hd.heap_39 P) mainGlobals "SOffsetTFlags" = some (some (.ref 136)) := (fa P).gl_SOffsetTFlags
theorem gl_UOffsetTFlags (P : Params) : nsIn (hd.heap_39 P) mainGlobals "UOffsetTFlags" = some (some (.ref 148)) := (fa P).gl_UOffsetTFlags
theorem gl_VOffsetTFlags (P : Params) : nsIn (hd.heap_39 P) mainGlobals "VOffsetTFlags" = some (some (.ref 160)) := (fa P).gl_VOffsetTFlags
theorem gb_len (P : Params) : nsIn (hd.heap_39 P) mainGlobals "len" = some none := (fa P).gb_len
theorem gb_bytearray (P : Params) : nsIn (hd.heap_39 P) mainGlobals "bytearray" = some none := (fa P).gb_bytearray
theorem gb_min (P : Params) : nsIn (hd.heap_39 P) mainGlobals "min" = some none := (fa P).gb_min
theorem gb_reversed (P : Params) : nsIn (hd.heap_39 P) mainGlobals "reversed" = some none := (fa P).gb_reversed
theorem gb_tuple (P : Params) : nsIn (hd.heap_39 P) mainGlobals "tuple" = some none := (fa P).gb_tuple
theorem gb_isinstance (P : Params) : nsIn (hd.heap_39 P) mainGlobals "isinstance" = some none := (fa P).gb_isinstance
theorem gb_range (P : Params) : nsIn (hd.heap_39 P) mainGlobals "range" = some none := (fa P).gb_range
theorem gb_bytes (P : Params) : nsIn (hd.heap_39 P) mainGlobals "bytes" = some none := (fa P).gb_bytes
theorem gb_sum (P : Params) : nsIn (hd.heap_39 P) mainGlobals "sum" = some none := (fa P).gb_sum
theorem gb_list (P : Params) : nsIn (hd.heap_39 P) mainGlobals "list" = some none := (fa P).gb_list
theorem kp_319 (P : Params) : keepIn (hd.heap_39 P) (.ref 319) = true := (fa P).kp_Head
theorem kp_326 (P : Params) : keepIn (hd.heap_39 P) (.ref 326) = true := (fa P).kp_Offset
theorem kp_284 (P : Params) : keepIn (hd.heap_39 P) (.ref 284) = true := (fa P).kp_Output
theorem kp_291 (P : Params) : keepIn (hd.heap_39 P) (.ref 291) = true := (fa P).kp_StartObject
theorem kp_298 (P : Params) : keepIn (hd.heap_39 P) (.ref 298) = true := (fa P).kp_WriteVtable
theorem kp_305 (P : Params) : keepIn (hd.heap_39 P) (.ref 305) = true := (fa P).kp_EndObject
theorem kp_312 (P : Params) : keepIn (hd.heap_39 P) (.ref 312) = true := (fa P).kp_GrowByteBuffer
theorem kp_333 (P : Params) : keepIn (hd.heap_39 P) (.ref 333) = true := (fa P).kp_Pad
theorem kp_340 (P : Params) : keepIn (hd.heap_39 P) (.ref 340) = true := (fa P).kp_Prep
theorem kp_347 (P : Params) : keepIn (hd.heap_39 P) (.ref 347) = true := (fa P).kp_PrependSOffsetTRelative
theorem kp_354 (P : Params) : keepIn (hd.heap_39 P) (.ref 354) = true := (fa P).kp_PrependUOffsetTRelative
theorem kp_361 (P : Params) : keepIn (hd.heap_39 P) (.ref 361) = true := (fa P).kp_StartVector
theorem kp_369 (P : Params) : keepIn (hd.heap_39 P) (.ref 369) = true := (fa P).kp_EndVector
theorem kp_383 (P : Params) : keepIn (hd.heap_39 P) (.ref 383) = true := (fa P).kp_CreateString
theorem kp_397 (P : Params) : keepIn (hd.heap_39 P) (.ref 397) = true := (fa P).kp_assertNested
theorem kp_404 (P : Params) : keepIn (hd.heap_39 P) (.ref 404) = true := (fa P).kp_assertNotNested
theorem kp_418 (P : Params) : keepIn (hd.heap_39 P) (.ref 418) = true := (fa P).kp_Slot
theorem kp_434 (P : Params) : keepIn (hd.heap_39 P) (.ref 434) = true := (fa P).kp_Finish
theorem kp_449 (P : Params) : keepIn (hd.heap_39 P) (.ref 449) = true := (fa P).kp_Prepend
theorem kp_456 (P : Params) : keepIn (hd.heap_39 P) (.ref 456) = true := (fa P).kp_PrependSlot
theorem kp_561 (P : Params) : keepIn (hd.heap_39 P) (.ref 561) = true := (fa P).kp_PrependUint8
theorem kp_575 (P : Params) : keepIn (hd.heap_39 P) (.ref 575) = true := (fa P).kp_PrependUint32
theorem kp_624 (P : Params) : keepIn (hd.heap_39 P) (.ref 624) = true := (fa P).kp_PrependVOffsetT
theorem kp_631 (P : Params) : keepIn (hd.heap_39 P) (.ref 631) = true := (fa P).kp_Place
theorem kp_645 (P : Params) : keepIn (hd.heap_39 P) (.ref 645) = true := (fa P).kp_PlaceSOffsetT
theorem kp_652 (P : Params) : keepIn (hd.heap_39 P) (.ref 652) = true := (fa P).kp_PlaceUOffsetT
theorem kp_426 (P : Params) : keepIn (hd.heap_39 P) (.ref 426) = true := (fa P).kp___Finish
theorem kp_376 (P : Params) : keepIn (hd.heap_39 P) (.ref 376) = true := (fa P).kp_CreateSharedString
theorem kp_477 (P : Params) : keepIn (hd.heap_39 P) (.ref 477) = true := (fa P).kp_PrependUint8Slot
theorem kp_498 (P : Params) : keepIn (hd.heap_39 P) (.ref 498) = true := (fa P).kp_PrependUint64Slot
theorem kp_533 (P : Params) : keepIn (hd.heap_39 P) (.ref 533) = true := (fa P).kp_PrependUOffsetTRelativeSlot
theorem kp_176 (P : Params) : keepIn (hd.heap_39 P) (.ref 176) = true := (fa P).kp_Write
theorem kp_169 (P : Params) : keepIn (hd.heap_39 P) (.ref 169) = true := (fa P).kp_enforce_number
theorem kp_674 (P : Params) : keepIn (hd.heap_39 P) (.ref 674) = true := (fa P).kp__law_message
theorem kp_656 (P : Params) : keepIn (hd.heap_39 P) (.ref 656) = true := (fa P).kp_Builder
theorem a_66_bytewidth : type_of% @a_Uint8Flags_bytewidth := @a_Uint8Flags_bytewidth
theorem a_66_min_val : type_of% @a_Uint8Flags_min_val := @a_Uint8Flags_min_val
theorem a_66_max_val : type_of% @a_Uint8Flags_max_val := @a_Uint8Flags_max_val
theorem a_66_packer_type : type_of% @a_Uint8Flags_packer_type := @a_Uint8Flags_packer_type
theorem y_66 : type_of% @y_Uint8Flags := @y_Uint8Flags
theorem a_94_bytewidth : type_of% @a_Uint32Flags_bytewidth := @a_Uint32Flags_bytewidth
theorem a_94_min_val : type_of% @a_Uint32Flags_min_val := @a_Uint32Flags_min_val
theorem a_94_max_val : type_of% @a_Uint32Flags_max_val := @a_Uint32Flags_max_val
theorem a_94_packer_type : type_of% @a_Uint32Flags_packer_type := @a_Uint32Flags_packer_type
theorem y_94 : type_of% @y_Uint32Flags := @y_Uint32Flags
theorem a_108_bytewidth : type_of% @a_Uint64Flags_bytewidth := @a_Uint64Flags_bytewidth
theorem a_108_min_val : type_of% @a_Uint64Flags_min_val := @a_Uint64Flags_min_val
theorem a_108_max_val : type_of% @a_Uint64Flags_max_val := @a_Uint64Flags_max_val
theorem a_108_packer_type : type_of% @a_Uint64Flags_packer_type := @a_Uint64Flags_packer_type
theorem y_108 : type_of% @y_Uint64Flags := @y_Uint64Flags
theorem a_122_bytewidth : type_of% @a_Int32Flags_bytewidth := @a_Int32Flags_bytewidth
theorem a_122_min_val : type_of% @a_Int32Flags_min_val := @a_Int32Flags_min_val
theorem a_122_max_val : type_of% @a_Int32Flags_max_val := @a_Int32Flags_max_val
theorem a_122_packer_type : type_of% @a_Int32Flags_packer_type := @a_Int32Flags_packer_type
theorem y_122 : type_of% @y_Int32Flags := @y_Int32Flags
theorem a_136_bytewidth : type_of% @a_SOffsetTFlags_bytewidth := @a_SOffsetTFlags_bytewidth
theorem a_136_min_val : type_of% @a_SOffsetTFlags_min_val := @a_SOffsetTFlags_min_val
theorem a_136_max_val : type_of% @a_SOffsetTFlags_max_val := @a_SOffsetTFlags_max_val
theorem a_136_packer_type : type_of% @a_SOffsetTFlags_packer_type := @a_SOffsetTFlags_packer_type
theorem y_136 : type_of% @y_SOffsetTFlags := @y_SOffsetTFlags
theorem a_148_bytewidth : type_of% @a_UOffsetTFlags_bytewidth := @a_UOffsetTFlags_bytewidth
theorem a_148_min_val : type_of% @a_UOffsetTFlags_min_val := @a_UOffsetTFlags_min_val
theorem a_148_max_val : type_of% @a_UOffsetTFlags_max_val := @a_UOffsetTFlags_max_val
theorem a_148_packer_type : type_of% @a_UOffsetTFlags_packer_type := @a_UOffsetTFlags_packer_type
theorem y_148 : type_of% @y_UOffsetTFlags := @y_UOffsetTFlags
theorem a_160_bytewidth : type_of% @a_VOffsetTFlags_bytewidth := @a_VOffsetTFlags_bytewidth
theorem a_160_min_val : type_of% @a_VOffsetTFlags_min_val := @a_VOffsetTFlags_min_val
theorem a_160_max_val : type_of% @a_VOffsetTFlags_max_val := @a_VOffsetTFlags_max_val
theorem a_160_packer_type : type_of% @a_VOffsetTFlags_packer_type := @a_VOffsetTFlags_packer_type
theorem y_160 : type_of% @y_VOffsetTFlags := @y_VOffsetTFlags
theorem a_656_MAX_BUFFER_SIZE : type_of% @a_Builder_MAX_BUFFER_SIZE := @a_Builder_MAX_BUFFER_SIZE

end Mine

end
-- PC1
section
open PySem PySem.W PySem.Calls PyProof.Rows
set_option maxRecDepth 100000
set_option linter.unusedVariables false
set_option linter.deprecated false
namespace Mine
end Mine
end
local macro_rules | `(tactic| walk_at "n_leafcall") => `(tactic| ((with_reducible show N _ _ (call (.builtin "len") [.ref _]) _ _); refine n_ba_len (by assumption) (by walk_at "in_l") (by omega) ?_; intro _ _ _))
section
open PySem PySem.W PySem.Calls PyProof.Rows
set_option maxRecDepth 100000
set_option linter.unusedVariables false
set_option linter.deprecated false
namespace Mine
end Mine
end
local macro_rules | `(tactic| walk_at "n_leafitem") => `(tactic| refine r_item_ba (by assumption) (by walk_at "in_l") ?_ (fun _ _ => by first | exact .inl rfl | exact .inr rfl))
section
open PySem PySem.W PySem.Calls PyProof.Rows
set_option maxRecDepth 100000
set_option linter.unusedVariables false
set_option linter.deprecated false
namespace Mine
end Mine
end
local macro_rules | `(tactic| walk_at "n_leaf") => `(tactic| ((with_reducible show N _ _ (eval (.Constant (.bytes _) _ _) _) _ _); refine r_cbytes (by assumption) ?_; intro _ _ _))
section
open PySem PySem.W PySem.Calls PyProof.Rows
set_option maxRecDepth 100000
set_option linter.unusedVariables false
set_option linter.deprecated false
namespace Mine
section
variable {y : Cy} {A : Around} {s : Shared} {L b : Addr} {m : Str → Option Value} {l k : List (Addr × Obj)} {r : Raw} {Q : Value → Shared → Prop}
theorem ct_Head (S : St y.cx L m ((b, r.obj) :: l) k s) (R : Rm A 1)
    (h : ∀ s', St y.cx L m ((b, r.obj) :: l) k s' → Q (.int r.head.1 r.head.2) s') : N y.cx A (call (.ref 319) [.ref b]) Q s := by
  refine p_call (binds := [("self", .ref b)]) S (by rfl) (by rfl) (Rm.depth R) (BindsTo.of_eq rfl) (locs rfl) (fun Lx oLx s₁ S₁ => ?_) (by decide) rfl rfl rfl
  refine n_cons ?_
  refine n_ret ?_
  refine e_attr ?_
  refine r_loc (by assumption) (by exact rfl) ?_
  (refine g_head (by assumption) ?_; intro _ _)
  refine Back.mk (by assumption) (fun S' => ?_)
  exact h _ S'
theorem ct_Offset {buf : List UInt8} (S : St y.cx L m ((b, r.obj) :: (r.ba, baObj buf) :: l) k s) (R : Rm A 1) (hz : buf.length ≤ 16777216)
    (h : ∀ t s', St y.cx L m ((b, r.obj) :: (r.ba, baObj buf) :: l) k s' → Q (.int (buf.length - r.head.1) t) s') : N y.cx A (call (.ref 326) [.ref b]) Q s := by
  refine p_call (binds := [("self", .ref b)]) S (by rfl) (by rfl) (Rm.depth R) (BindsTo.of_eq rfl) (locs rfl) (fun Lx oLx s₁ S₁ => ?_) (by decide) rfl rfl rfl
  refine n_cons ?_
  refine n_ret ?_
  refine e_bin ?_
  refine e_call ?_
  refine p_blt (by assumption) (gb_len _) (by boot_by_name) (by decide) ?_ rfl rfl
  refine cw1 ?_
  refine sp_cons ?_
  refine e_attr ?_
  refine r_loc (by assumption) (by exact rfl) ?_
  (refine g_Bytes (by assumption) ?_; intro _ _)
  refine sp_nil ?_
  refine ⟨Kp.builtin, ?_⟩
  show N _ _ (call _ [_] _) _ _
  walk_at "n_leafcall"
  refine e_attr ?_
  refine r_loc (by assumption) (by exact rfl) ?_
  (refine g_head (by assumption) ?_; intro _ _)
  (refine i_sub (by assumption) ?_; intro _ _ _)
  refine Back.mk (by assumption) (fun S' => ?_)
  exact h _ _ S'
theorem ct_assertNested (S : St y.cx L m ((b, r.obj) :: l) k s) (R : Rm A 1) (hn : r.nested = true)
    (h : ∀ s', St y.cx L m ((b, r.obj) :: l) k s' → Q .none s') : N y.cx A (call (.ref 397) [.ref b]) Q s := by
  refine p_call (binds := [("self", .ref b)]) S (by rfl) (by rfl) (Rm.depth R) (BindsTo.of_eq rfl) (locs rfl) (fun Lx oLx s₁ S₁ => ?_) (by decide) rfl rfl rfl
  refine n_cons ?_
  refine n_if ?_
  refine t_not ?_
  refine t_plain ?_
  refine e_attr ?_
  refine r_loc (by assumption) (by exact rfl) ?_
  (refine g_nested (by assumption) ?_; intro _ _)
  refine tr_bool ?_
  refine g_no (by rw [hn]; rfl) ?_
  refine n_nil ?_
  show N _ _ _ _ _
  refine n_nil ?_
  refine Back.mk (by assumption) (fun S' => ?_)
  exact h _ S'
theorem ct_assertNotNested (S : St y.cx L m ((b, r.obj) :: l) k s) (R : Rm A 1) (hn : r.nested = false)
    (h : ∀ s', St y.cx L m ((b, r.obj) :: l) k s' → Q .none s') : N y.cx A (call (.ref 404) [.ref b]) Q s := by
  refine p_call (binds := [("self", .ref b)]) S (by rfl) (by rfl) (Rm.depth R) (BindsTo.of_eq rfl) (locs rfl) (fun Lx oLx s₁ S₁ => ?_) (by decide) rfl rfl rfl
  refine n_cons ?_
  refine n_if ?_
  refine t_plain ?_
  refine e_attr ?_
  refine r_loc (by assumption) (by exact rfl) ?_
  (refine g_nested (by assumption) ?_; intro _ _)
  refine tr_bool ?_
  refine   g_no     (by       first       | rfl       | assumption)     ?_
  refine n_nil ?_
  show N _ _ _ _ _
  refine n_nil ?_
  refine Back.mk (by assumption) (fun S' => ?_)
  exact h _ S'
theorem ct_Pad {buf out : List UInt8} {room n : Nat} {t : Tok} (S : St y.cx L m ((b, r.obj) :: (r.ba, baObj buf) :: l) k s) (R : Rm A 1) (B : BufOk r.head.1 buf out room) (hn : n + out.length ≤ room) (hn8 : n < 8)
    (h : ∀ hd buf' s', St y.cx L m ((b, { r with head := hd }.obj) :: (r.ba, baObj buf') :: l) k s' → BufOk hd.1 buf' (List.replicate n 0 ++ out) room → Q .none s') : N y.cx A (call (.ref 333) [.ref b, .int n t]) Q s := by
  refine p_call (binds := [("self", .ref b), ("n", .int n t)]) S (by rfl) (by rfl) (Rm.depth R) (BindsTo.of_eq rfl) (locs rfl) (fun Lx oLx s₁ S₁ => ?_) (by decide) rfl rfl rfl
  refine n_cons ?_
  refine n_if ?_
  refine t_cmp ?_
  refine r_loc (by assumption) (by exact rfl) ?_
  (refine r_cint (by assumption) ?_; intro _ _ _)
  refine c_le ?_
  refine tr_bool ?_
  by_cases h0 : n = 0
  · refine g_yes (by simp [h0]) ?_
    refine n_cons ?_
    refine n_ret0 ?_
    refine Back.mk (by assumption) (fun S' => ?_)
    subst h0
    exact h _ _ _ S' B
  refine g_no (by simp; omega) ?_
  refine n_nil ?_
  show N _ _ _ _ _
  refine n_cons ?_
  refine n_assign ?_
  refine e_bin ?_
  refine e_attr ?_
  refine r_loc (by assumption) (by exact rfl) ?_
  (refine g_head (by assumption) ?_; intro _ _)
  refine r_loc (by assumption) (by exact rfl) ?_
  (refine i_sub (by assumption) ?_; intro _ _ _)
  (refine r_st (by assumption) ?_; intro _ _)
  show N _ _ _ _ _
  refine n_cons ?_
  refine n_setitem ?_
  refine e_bin ?_
  walk_at "n_leaf"
  refine r_loc (by assumption) (by exact rfl) ?_
  refine y_mul1 (by assumption) (by omega) ?_
  intro _ _ _
  refine e_attr ?_
  refine r_loc (by assumption) (by exact rfl) ?_
  (refine g_Bytes (by assumption) ?_; intro _ _)
  refine e_slice_lu ?_
  refine r_loc (by assumption) (by exact rfl) ?_
  refine e_attr ?_
  refine r_loc (by assumption) (by exact rfl) ?_
  (refine g_head (by assumption) ?_; intro _ _)
  (refine r_slice (by assumption) ?_; intro _ _ _)
  obtain ⟨b1, b2, b3, b4, b5⟩ := id B
  refine put_b R.g (by assumption) (by omega) (by rw [List.length_replicate]; omega) (by omega) (by omega) fun s₂ S₂ => ?_
  show N _ _ _ _ _
  refine n_cons ?_
  refine n_setattr ?_
  refine r_loc (by assumption) (by exact rfl) ?_
  refine r_loc (by assumption) (by exact rfl) ?_
  (refine s_head (by assumption) ?_; intro _ _)
  show N _ _ _ _ _
  refine n_nil ?_
  refine Back.mk (by assumption) (fun S' => ?_)
  exact h (_, _) _ _ S' (B.push (by rw [List.length_replicate]; omega) (by rw [List.length_replicate]))
/-- after Grow -/
theorem ct_Grow {buf : List UInt8} (S : St y.cx L m ((b, r.obj) :: (r.ba, baObj buf) :: l) k s) (R : Rm A 1) (hz : 2 * buf.length ≤ 16777216)
    (h : ∀ ba s', St y.cx L m ((b, { r with ba := ba }.obj) :: (ba, baObj (List.replicate ((if buf.length = 0 then 1 else 2 * buf.length) - buf.length) 0 ++ buf)) :: l) k s' → Q .none s') : N y.cx A (call (.ref 312) [.ref b]) Q s := by
  refine p_call (binds := [("self", .ref b)]) S (by rfl) (by rfl) (Rm.depth R) (BindsTo.of_eq rfl) (locs rfl) (fun Lx oLx s₁ S₁ => ?_) (by decide) rfl rfl rfl
  refine n_cons ?_
  refine n_if ?_
  refine t_cmp ?_
  refine e_call ?_
  refine p_blt (by assumption) (gb_len _) (by boot_by_name) (by decide) ?_ rfl rfl
  refine cw1 ?_
  refine sp_cons ?_
  refine e_attr ?_
  refine r_loc (by assumption) (by exact rfl) ?_
  (refine g_Bytes (by assumption) ?_; intro _ _)
  refine sp_nil ?_
  refine ⟨Kp.builtin, ?_⟩
  show N _ _ (call _ [_] _) _ _
  walk_at "n_leafcall"
  refine e_attr ?_
  refine p_glob (by assumption) (gl_Builder _) ?_ rfl rfl
  (refine a_656_MAX_BUFFER_SIZE (by assumption) ?_; intro _ _)
  refine c_eq ?_
  refine tr_bool ?_
  refine g_no (by simp; omega) ?_
  refine n_nil ?_
  show N _ _ _ _ _
  refine n_cons ?_
  refine n_assign ?_
  refine e_call ?_
  refine p_blt (by assumption) (gb_min _) (by boot_by_name) (by decide) ?_ rfl rfl
  refine cw1 ?_
  refine sp_cons ?_
  refine e_bin ?_
  refine e_call ?_
  refine p_blt (by assumption) (gb_len _) (by boot_by_name) (by decide) ?_ rfl rfl
  refine cw1 ?_
  refine sp_cons ?_
  refine e_attr ?_
  refine r_loc (by assumption) (by exact rfl) ?_
  (refine g_Bytes (by assumption) ?_; intro _ _)
  refine sp_nil ?_
  refine ⟨Kp.builtin, ?_⟩
  show N _ _ (call _ [_] _) _ _
  walk_at "n_leafcall"
  (refine r_cint (by assumption) ?_; intro _ _ _)
  refine i_mul (by assumption) (mulOk (by decide)) ?_
  intro _ _ _
  refine sp_cons ?_
  refine e_attr ?_
  refine p_glob (by assumption) (gl_Builder _) ?_ rfl rfl
  (refine a_656_MAX_BUFFER_SIZE (by assumption) ?_; intro _ _)
  refine sp_nil ?_
  refine ⟨Kp.builtin, ?_⟩
  show N _ _ (call _ [_, _] _) _ _
  refine k_min (by assumption) R.h ?_
  intro _ _
  rw [if_neg (by omega)]
  (refine r_st (by assumption) ?_; intro _ _)
  show N _ _ _ _ _
  refine n_cons ?_
  refine n_if ?_
  refine t_cmp ?_
  refine r_loc (by assumption) (by exact rfl) ?_
  (refine r_cint (by assumption) ?_; intro _ _ _)
  refine c_eq ?_
  refine tr_bool ?_
  have tl : ∀ {nw : Nat}, buf.length ≤ nw → (List.replicate nw (0 : UInt8)).take (nw - buf.length) ++ buf ++ (List.replicate nw (0 : UInt8)).drop nw = List.replicate (nw - buf.length) 0 ++ buf := fun {nw} hl => by
    rw [List.take_replicate, List.drop_replicate]; simp
  by_cases h0 : buf.length = 0
  · refine g_yes (by simp [h0]) ?_
    refine n_cons ?_
    refine n_assign ?_
    (refine r_cint (by assumption) ?_; intro _ _ _)
    (refine r_st (by assumption) ?_; intro _ _)
    show N _ _ _ _ _
    refine n_nil ?_
    show N _ _ _ _ _
    refine n_cons ?_
    refine n_assign ?_
    refine e_call ?_
    refine p_blt (by assumption) (gb_bytearray _) (by boot_by_name) (by decide) ?_ rfl rfl
    refine cw1 ?_
    refine sp_cons ?_
    refine r_loc (by assumption) (by exact rfl) ?_
    refine sp_nil ?_
    refine ⟨Kp.type, ?_⟩
    show N _ _ (call _ [_] _) _ _
    refine n_ba_int (by assumption) R.g (by decide) (by decide) fun d s₂ S₂ => ?_
    have S₂ := S₂.swap
    show N _ _ _ _ _
    (refine r_st (by assumption) ?_; intro _ _)
    show N _ _ _ _ _
    refine n_cons ?_
    refine n_setitem ?_
    refine e_attr ?_
    refine r_loc (by assumption) (by exact rfl) ?_
    (refine g_Bytes (by assumption) ?_; intro _ _)
    refine r_loc (by assumption) (by exact rfl) ?_
    refine e_slice_lo ?_
    refine e_bin ?_
    refine r_loc (by assumption) (by exact rfl) ?_
    refine e_call ?_
    refine p_blt (by assumption) (gb_len _) (by boot_by_name) (by decide) ?_ rfl rfl
    refine cw1 ?_
    refine sp_cons ?_
    refine e_attr ?_
    refine r_loc (by assumption) (by exact rfl) ?_
    (refine g_Bytes (by assumption) ?_; intro _ _)
    refine sp_nil ?_
    refine ⟨Kp.builtin, ?_⟩
    show N _ _ (call _ [_] _) _ _
    walk_at "n_leafcall"
    (refine i_sub (by assumption) ?_; intro _ _ _)
    (refine r_slice (by assumption) ?_; intro _ _ _)
    rename_i S₃
    refine n_ba_putA (i := 1 - buf.length) (j := 1) (S₃.perm (.cons _ (.swap _ _ _))) (by walk_at "in_l") (.int _ _) .none (bounds_l (by omega) (by simp)) (by omega) (by simp) (by omega) (by simp) fun s₄ S₄ => ?_
    have S₄ := S₄.swap
    show N _ _ _ _ _
    refine n_cons ?_
    refine n_setattr ?_
    refine r_loc (by assumption) (by exact rfl) ?_
    refine r_loc (by assumption) (by exact rfl) ?_
    (refine s_Bytes (by assumption) ?_; intro _ _)
    show N _ _ _ _ _
    refine n_nil ?_
    refine Back.mk (by assumption) (fun S' => ?_)
    have S' := S'.sub (.cons_cons _ (.cons_cons _ (.cons _ (.refl _))))
    have e := tl (nw := 1) (by omega)
    rw [show ((1 : Int).toNat) = 1 from rfl, e] at S'
    rw [if_pos h0] at h
    exact h _ _ S'
  · refine g_no (beq_eq_false_iff_ne.mpr (by omega)) ?_
    refine n_nil ?_
    show N _ _ _ _ _
    refine n_cons ?_
    refine n_assign ?_
    refine e_call ?_
    refine p_blt (by assumption) (gb_bytearray _) (by boot_by_name) (by decide) ?_ rfl rfl
    refine cw1 ?_
    refine sp_cons ?_
    refine r_loc (by assumption) (by exact rfl) ?_
    refine sp_nil ?_
    refine ⟨Kp.type, ?_⟩
    show N _ _ (call _ [_] _) _ _
    refine n_ba_int (by assumption) R.g (by omega) (by omega) fun d s₂ S₂ => ?_
    have S₂ := S₂.swap
    show N _ _ _ _ _
    (refine r_st (by assumption) ?_; intro _ _)
    show N _ _ _ _ _
    refine n_cons ?_
    refine n_setitem ?_
    refine e_attr ?_
    refine r_loc (by assumption) (by exact rfl) ?_
    (refine g_Bytes (by assumption) ?_; intro _ _)
    refine r_loc (by assumption) (by exact rfl) ?_
    refine e_slice_lo ?_
    refine e_bin ?_
    refine r_loc (by assumption) (by exact rfl) ?_
    refine e_call ?_
    refine p_blt (by assumption) (gb_len _) (by boot_by_name) (by decide) ?_ rfl rfl
    refine cw1 ?_
    refine sp_cons ?_
    refine e_attr ?_
    refine r_loc (by assumption) (by exact rfl) ?_
    (refine g_Bytes (by assumption) ?_; intro _ _)
    refine sp_nil ?_
    refine ⟨Kp.builtin, ?_⟩
    show N _ _ (call _ [_] _) _ _
    walk_at "n_leafcall"
    (refine i_sub (by assumption) ?_; intro _ _ _)
    (refine r_slice (by assumption) ?_; intro _ _ _)
    rename_i S₃
    have en : ((buf.length : Int) * 2).toNat = 2 * buf.length := by omega
    rw [en] at S₃
    refine n_ba_putA (i := 2 * buf.length - buf.length) (j := 2 * buf.length) (S₃.perm (.cons _ (.swap _ _ _))) (by walk_at "in_l") (.int _ _) .none (by rw [List.length_replicate]; exact bounds_l (by omega) (by omega)) (by omega) (by simp) (by omega) (by simp; omega) fun s₄ S₄ => ?_
    have S₄ := S₄.swap
    show N _ _ _ _ _
    refine n_cons ?_
    refine n_setattr ?_
    refine r_loc (by assumption) (by exact rfl) ?_
    refine r_loc (by assumption) (by exact rfl) ?_
    (refine s_Bytes (by assumption) ?_; intro _ _)
    show N _ _ _ _ _
    refine n_nil ?_
    refine Back.mk (by assumption) (fun S' => ?_)
    have S' := S'.sub (.cons_cons _ (.cons_cons _ (.cons _ (.refl _))))
    rw [tl (nw := 2 * buf.length) (by omega)] at S'
    rw [if_neg h0] at h
    exact h _ _ S'
end

end Mine

end
-- PC21
section
open PySem PySem.W PySem.Calls PyProof.Rows
set_option maxRecDepth 100000
set_option linter.unusedVariables false
set_option linter.deprecated false
namespace Mine
/-- a struct that packs one number -/
def Sx (y : Cy) (st : Addr) (w : Nat) (lo hi : Int) : Prop := ∃ (fmt : Array UInt8) (tf : Tok) (vs : Array Value) (sl : Array (Option Value)), (hd.heap_39 y.w.params).lookup st = some ⟨.type "_struct.Struct", none, .fields vs, sl⟩ ∧ vs[0]? = some (.bytes fmt tf) ∧ Pk fmt w lo hi
/-- a class that tells of a kind of number -/
structure Fl (y : Cy) (F : Addr) (w : Nat) (lo hi : Int) : Prop where
  bw : ∃ t : Tok, ∀ {A : Around} {s : Shared} {L : Addr} {m : Str → Option Value} {l k : List (Addr × Obj)} {ex : Bool} {Q : Value → Shared → Prop}, St y.cx L m l k s → (∀ s', St y.cx L m l k s' → Q (.int w t) s') → N y.cx A (getAttr (.ref F) "bytewidth" ex) Q s
  mn : ∃ t : Tok, ∀ {A : Around} {s : Shared} {L : Addr} {m : Str → Option Value} {l k : List (Addr × Obj)} {ex : Bool} {Q : Value → Shared → Prop}, St y.cx L m l k s → (∀ s', St y.cx L m l k s' → Q (.int lo t) s') → N y.cx A (getAttr (.ref F) "min_val" ex) Q s
  mx : ∃ t : Tok, ∀ {A : Around} {s : Shared} {L : Addr} {m : Str → Option Value} {l k : List (Addr × Obj)} {ex : Bool} {Q : Value → Shared → Prop}, St y.cx L m l k s → (∀ s', St y.cx L m l k s' → Q (.int hi t) s') → N y.cx A (getAttr (.ref F) "max_val" ex) Q s
  pk : ∃ st : Addr, Sx y st w lo hi ∧ ∀ {A : Around} {s : Shared} {L : Addr} {m : Str → Option Value} {l k : List (Addr × Obj)} {ex : Bool} {Q : Value → Shared → Prop}, St y.cx L m l k s → (∀ s', St y.cx L m l k s' → Q (.ref st) s') → N y.cx A (getAttr (.ref F) "packer_type" ex) Q s
section
variable {y : Cy}
theorem fl_Uint8Flags : Fl y 66 1 0 255 := ⟨⟨_, a_Uint8Flags_bytewidth⟩, ⟨_, a_Uint8Flags_min_val⟩, ⟨_, a_Uint8Flags_max_val⟩, ⟨_, ⟨_, _, _, _, rfl, rfl, Pk.B⟩, a_Uint8Flags_packer_type⟩⟩
theorem fl_Uint32Flags : Fl y 94 4 0 4294967295 := ⟨⟨_, a_Uint32Flags_bytewidth⟩, ⟨_, a_Uint32Flags_min_val⟩, ⟨_, a_Uint32Flags_max_val⟩, ⟨_, ⟨_, _, _, _, rfl, rfl, Pk.I⟩, a_Uint32Flags_packer_type⟩⟩
theorem fl_Uint64Flags : Fl y 108 8 0 18446744073709551615 := ⟨⟨_, a_Uint64Flags_bytewidth⟩, ⟨_, a_Uint64Flags_min_val⟩, ⟨_, a_Uint64Flags_max_val⟩, ⟨_, ⟨_, _, _, _, rfl, rfl, Pk.Q⟩, a_Uint64Flags_packer_type⟩⟩
theorem fl_Int32Flags : Fl y 122 4 (-2147483648) 2147483647 := ⟨⟨_, a_Int32Flags_bytewidth⟩, ⟨_, a_Int32Flags_min_val⟩, ⟨_, a_Int32Flags_max_val⟩, ⟨_, ⟨_, _, _, _, rfl, rfl, Pk.i⟩, a_Int32Flags_packer_type⟩⟩
theorem fl_SOffsetTFlags : Fl y 136 4 (-2147483648) 2147483647 := ⟨⟨_, a_SOffsetTFlags_bytewidth⟩, ⟨_, a_SOffsetTFlags_min_val⟩, ⟨_, a_SOffsetTFlags_max_val⟩, ⟨_, ⟨_, _, _, _, rfl, rfl, Pk.i⟩, a_SOffsetTFlags_packer_type⟩⟩
theorem fl_UOffsetTFlags : Fl y 148 4 0 4294967295 := ⟨⟨_, a_UOffsetTFlags_bytewidth⟩, ⟨_, a_UOffsetTFlags_min_val⟩, ⟨_, a_UOffsetTFlags_max_val⟩, ⟨_, ⟨_, _, _, _, rfl, rfl, Pk.I⟩, a_UOffsetTFlags_packer_type⟩⟩
theorem fl_VOffsetTFlags : Fl y 160 2 0 65535 := ⟨⟨_, a_VOffsetTFlags_bytewidth⟩, ⟨_, a_VOffsetTFlags_min_val⟩, ⟨_, a_VOffsetTFlags_max_val⟩, ⟨_, ⟨_, _, _, _, rfl, rfl, Pk.H⟩, a_VOffsetTFlags_packer_type⟩⟩
end
theorem St.at {c : Cx} {s : Shared} {L a : Addr} {m : Str → Option Value} {l k : List (Addr × Obj)} {o : Obj} (S : St c L m l k s) (e : c.K.lookup a = some o) : s.heap.get? a = some o := S.X _ _ e
section
variable {y : Cy} {A : Around} {s : Shared} {L b st F d : Addr} {m : Str → Option Value} {l k : List (Addr × Obj)} {r : Raw} {Q : Value → Shared → Prop} {w : Nat} {lo hi : Int}
/-- enforce_number, within the bounds -/
theorem ct_enf {n : Int} {t : Tok} (FL : Fl y F w lo hi) (S : St y.cx L m l k s) (R : Rm A 1) (h0 : lo ≤ n) (h1 : n ≤ hi) (h : ∀ s', St y.cx L m l k s' → Q .none s') : N y.cx A (call (.ref 169) [.int n t, .ref F]) Q s := by
  obtain ⟨t1, g_min_val⟩ := FL.mn
  obtain ⟨t2, g_max_val⟩ := FL.mx
  refine p_call (binds := [("n", .int n t), ("flags", .ref F)]) S (by rfl) (by rfl) (Rm.depth R) (BindsTo.of_eq rfl) (locs rfl) (fun Lx oLx s₁ S₁ => ?_) (by decide) rfl rfl rfl
  refine n_cons ?_
  refine n_if ?_
  refine t_and ?_
  refine t_cmp ?_
  refine e_attr ?_
  refine r_loc (by assumption) (by exact rfl) ?_
  (refine g_min_val (by assumption) ?_; intro _ _)
  refine r_cnone ?_
  refine c_is (by rfl) ?_
  refine tr_bool ?_
  refine   g_no     (by       first       | rfl       | assumption)     ?_
  refine   g_no     (by       first       | rfl       | assumption)     ?_
  refine n_nil ?_
  show N _ _ _ _ _
  refine n_cons ?_
  refine n_if ?_
  refine t_not ?_
  refine t_chain2 ?_
  refine e_attr ?_
  refine r_loc (by assumption) (by exact rfl) ?_
  (refine g_min_val (by assumption) ?_; intro _ _)
  refine r_loc (by assumption) (by exact rfl) ?_
  refine c_le ?_
  refine tr_bool ?_
  refine g_yes (decide_eq_true h0) ?_
  refine e_attr ?_
  refine r_loc (by assumption) (by exact rfl) ?_
  (refine g_max_val (by assumption) ?_; intro _ _)
  refine c_le ?_
  refine tr_bool ?_
  refine g_no (by simp; exact h1) ?_
  refine n_nil ?_
  show N _ _ _ _ _
  refine n_nil ?_
  refine Back.mk (by assumption) (fun S' => ?_)
  exact h _ S'
theorem ct_Write {buf : List UInt8} {p i : Int} {tp ti : Tok} (X : Sx y st w lo hi) (S : St y.cx L m ((d, baObj buf) :: l) k s) (R : Rm A 1) (hp : 0 ≤ p) (hp' : p + w ≤ buf.length) (hz : buf.length ≤ 16777216) (h0 : lo ≤ i) (h1 : i ≤ hi)
    (h : ∀ s', St y.cx L m ((d, baObj (over buf p.toNat (le w i))) :: l) k s' → Q .none s') : N y.cx A (call (.ref 176) [.ref st, .ref d, .int p tp, .int i ti]) Q s := by
  obtain ⟨fmt, tf, vs, sl, e1, e2, e3⟩ := X
  obtain ⟨p, rfl⟩ := Int.eq_ofNat_of_zero_le hp
  refine p_call (binds := [("packer_type", .ref st), ("buf", .ref d), ("head", .int p tp), ("n", .int i ti)]) S (by rfl) (by rfl) (Rm.depth R) (BindsTo.of_eq rfl) (locs rfl) (fun Lx oLx s₁ S₁ => ?_) (by decide) rfl rfl rfl
  refine n_cons ?_
  refine n_expr ?_
  refine e_meth ?_
  refine r_loc (by assumption) (by exact rfl) ?_
  refine n_pack_meth (dd := none) (St.at (c := y.cx) (by assumption) e1) ?_
  refine cw1 ?_
  refine sp_cons ?_
  refine r_loc (by assumption) (by exact rfl) ?_
  refine sp_cons ?_
  refine r_loc (by assumption) (by exact rfl) ?_
  refine sp_cons ?_
  refine r_loc (by assumption) (by exact rfl) ?_
  refine sp_nil ?_
  refine ⟨Kp.builtin, ?_⟩
  show N _ _ (call _ [_, _, _, _] _) _ _
  refine n_pack e3 (by assumption) (St.at (c := y.cx) (by assumption) e1) e2 (by omega) hz h0 h1 fun s₄ S₄ => ?_
  refine ⟨(by intro _ h; cases h), ?_⟩
  show N _ _ _ _ _
  refine n_nil ?_
  refine Back.mk (by assumption) (fun S' => ?_)
  exact h _ S'

/-- Place: x, w wide, ahead of what stands -/
theorem ct_Place {buf out : List UInt8} {room : Nat} {n : Int} {t : Tok} (FL : Fl y F w lo hi) (S : St y.cx L m ((b, r.obj) :: (r.ba, baObj buf) :: l) k s) (R : Rm A 2) (B : BufOk r.head.1 buf out room) (hn : w + out.length ≤ room) (h0 : lo ≤ n) (h1 : n ≤ hi)
    (h : ∀ hd buf' s', St y.cx L m ((b, { r with head := hd }.obj) :: (r.ba, baObj buf') :: l) k s' → BufOk hd.1 buf' (le w n ++ out) room → Q .none s') : N y.cx A (call (.ref 631) [.ref b, .int n t, .ref F]) Q s := by
  obtain ⟨t1, g_bytewidth⟩ := FL.bw
  obtain ⟨st, X, g_packer_type⟩ := FL.pk
  obtain ⟨b1, b2, b3, b4, b5⟩ := id B
  refine p_call (binds := [("self", .ref b), ("x", .int n t), ("flags", .ref F)]) S (by rfl) (by rfl) (Rm.depth R) (BindsTo.of_eq rfl) (locs rfl) (fun Lx oLx s₁ S₁ => ?_) (by decide) rfl rfl rfl
  refine n_cons ?_
  refine n_expr ?_
  refine e_call ?_
  refine p_glob (by assumption) (gl_enforce_number _) ?_ rfl rfl
  refine cw1 ?_
  refine sp_cons ?_
  refine r_loc (by assumption) (by exact rfl) ?_
  refine sp_cons ?_
  refine r_loc (by assumption) (by exact rfl) ?_
  refine sp_nil ?_
  refine ⟨Kp.of_K (by assumption) (kp_169 _), ?_⟩
  show N _ _ (call _ [_, _] _) _ _
  refine ct_enf FL (by assumption) R.deep h0 h1 ?_
  intro _
  intro _
  refine ⟨(by intro _ h; cases h), ?_⟩
  show N _ _ _ _ _
  refine n_cons ?_
  refine n_assign ?_
  refine e_bin ?_
  refine e_attr ?_
  refine r_loc (by assumption) (by exact rfl) ?_
  (refine g_head (by assumption) ?_; intro _ _)
  refine e_attr ?_
  refine r_loc (by assumption) (by exact rfl) ?_
  (refine g_bytewidth (by assumption) ?_; intro _ _)
  (refine i_sub (by assumption) ?_; intro _ _ _)
  (refine r_st (by assumption) ?_; intro _ _)
  show N _ _ _ _ _
  refine n_cons ?_
  refine n_setattr ?_
  refine r_loc (by assumption) (by exact rfl) ?_
  refine r_loc (by assumption) (by exact rfl) ?_
  (refine s_head (by assumption) ?_; intro _ _)
  show N _ _ _ _ _
  refine n_cons ?_
  refine n_expr ?_
  refine e_call ?_
  refine p_glob (by assumption) (gl_Write _) ?_ rfl rfl
  refine cw1 ?_
  refine sp_cons ?_
  refine e_attr ?_
  refine r_loc (by assumption) (by exact rfl) ?_
  (refine g_packer_type (by assumption) ?_; intro _ _)
  refine sp_cons ?_
  refine e_attr ?_
  refine r_loc (by assumption) (by exact rfl) ?_
  (refine g_Bytes (by assumption) ?_; intro _ _)
  refine sp_cons ?_
  refine r_loc (by assumption) (by exact rfl) ?_
  refine sp_cons ?_
  refine r_loc (by assumption) (by exact rfl) ?_
  refine sp_nil ?_
  refine ⟨Kp.of_K (by assumption) (kp_176 _), ?_⟩
  show N _ _ (call _ [_, _, _, _] _) _ _
  rename_i S₂
  refine ct_Write X S₂.swap R.deep (by omega) (by omega) (by omega) h0 h1 fun s₃ S₃ => ?_
  have S₃ := S₃.swap
  refine ⟨(by intro _ h; cases h), ?_⟩
  show N _ _ _ _ _
  refine n_nil ?_
  refine Back.mk (by assumption) (fun S' => ?_)
  exact h (_, _) _ _ S' (B.push (by rw [le_length]; omega) (by rw [le_length]))
theorem ct_PlaceU {buf out : List UInt8} {room : Nat} {n : Int} {t : Tok} (S : St y.cx L m ((b, r.obj) :: (r.ba, baObj buf) :: l) k s) (R : Rm A 2) (B : BufOk r.head.1 buf out room) (hn : 4 + out.length ≤ room) (h0 : 0 ≤ n) (h1 : n ≤ 4294967295)
    (h : ∀ hd buf' s', St y.cx L m ((b, { r with head := hd }.obj) :: (r.ba, baObj buf') :: l) k s' → BufOk hd.1 buf' (le 4 n ++ out) room → Q .none s') : N y.cx A (call (.ref 652) [.ref b, .int n t]) Q s := by
  obtain ⟨b1, b2, b3, b4, b5⟩ := id B
  refine p_call (binds := [("self", .ref b), ("x", .int n t)]) S (by rfl) (by rfl) (Rm.depth R) (BindsTo.of_eq rfl) (locs rfl) (fun Lx oLx s₁ S₁ => ?_) (by decide) rfl rfl rfl
  refine n_cons ?_
  refine n_expr ?_
  refine e_call ?_
  refine p_glob (by assumption) (gl_enforce_number _) ?_ rfl rfl
  refine cw1 ?_
  refine sp_cons ?_
  refine r_loc (by assumption) (by exact rfl) ?_
  refine sp_cons ?_
  refine p_glob (by assumption) (gl_UOffsetTFlags _) ?_ rfl rfl
  refine sp_nil ?_
  refine ⟨Kp.of_K (by assumption) (kp_169 _), ?_⟩
  show N _ _ (call _ [_, _] _) _ _
  refine ct_enf fl_UOffsetTFlags (by assumption) R.deep h0 h1 ?_
  intro _
  intro _
  refine ⟨(by intro _ h; cases h), ?_⟩
  show N _ _ _ _ _
  refine n_cons ?_
  refine n_assign ?_
  refine e_bin ?_
  refine e_attr ?_
  refine r_loc (by assumption) (by exact rfl) ?_
  (refine g_head (by assumption) ?_; intro _ _)
  refine e_attr ?_
  refine p_glob (by assumption) (gl_UOffsetTFlags _) ?_ rfl rfl
  (refine a_148_bytewidth (by assumption) ?_; intro _ _)
  (refine i_sub (by assumption) ?_; intro _ _ _)
  (refine r_st (by assumption) ?_; intro _ _)
  show N _ _ _ _ _
  refine n_cons ?_
  refine n_setattr ?_
  refine r_loc (by assumption) (by exact rfl) ?_
  refine r_loc (by assumption) (by exact rfl) ?_
  (refine s_head (by assumption) ?_; intro _ _)
  show N _ _ _ _ _
  refine n_cons ?_
  refine n_expr ?_
  refine e_call ?_
  refine p_glob (by assumption) (gl_Write _) ?_ rfl rfl
  refine cw1 ?_
  refine sp_cons ?_
  refine p_glob (by assumption) (gl_uoffset _) ?_ rfl rfl
  refine sp_cons ?_
  refine e_attr ?_
  refine r_loc (by assumption) (by exact rfl) ?_
  (refine g_Bytes (by assumption) ?_; intro _ _)
  refine sp_cons ?_
  refine r_loc (by assumption) (by exact rfl) ?_
  refine sp_cons ?_
  refine r_loc (by assumption) (by exact rfl) ?_
  refine sp_nil ?_
  refine ⟨Kp.of_K (by assumption) (kp_176 _), ?_⟩
  show N _ _ (call _ [_, _, _, _] _) _ _
  rename_i S₂
  refine ct_Write (show Sx y 54 4 0 4294967295 from ⟨_, _, _, _, rfl, rfl, Pk.I⟩) S₂.swap R.deep (by omega) (by omega) (by omega) h0 h1 fun s₃ S₃ => ?_
  have S₃ := S₃.swap
  refine ⟨(by intro _ h; cases h), ?_⟩
  show N _ _ _ _ _
  refine n_nil ?_
  refine Back.mk (by assumption) (fun S' => ?_)
  exact h (_, _) _ _ S' (B.push (by rw [le_length]; omega) (by rw [le_length]; rfl))
theorem ct_PlaceS {buf out : List UInt8} {room : Nat} {n : Int} {t : Tok} (S : St y.cx L m ((b, r.obj) :: (r.ba, baObj buf) :: l) k s) (R : Rm A 2) (B : BufOk r.head.1 buf out room) (hn : 4 + out.length ≤ room) (h0 : -2147483648 ≤ n) (h1 : n ≤ 2147483647)
    (h : ∀ hd buf' s', St y.cx L m ((b, { r with head := hd }.obj) :: (r.ba, baObj buf') :: l) k s' → BufOk hd.1 buf' (le 4 n ++ out) room → Q .none s') : N y.cx A (call (.ref 645) [.ref b, .int n t]) Q s := by
  obtain ⟨b1, b2, b3, b4, b5⟩ := id B
  refine p_call (binds := [("self", .ref b), ("x", .int n t)]) S (by rfl) (by rfl) (Rm.depth R) (BindsTo.of_eq rfl) (locs rfl) (fun Lx oLx s₁ S₁ => ?_) (by decide) rfl rfl rfl
  refine n_cons ?_
  refine n_expr ?_
  refine e_call ?_
  refine p_glob (by assumption) (gl_enforce_number _) ?_ rfl rfl
  refine cw1 ?_
  refine sp_cons ?_
  refine r_loc (by assumption) (by exact rfl) ?_
  refine sp_cons ?_
  refine p_glob (by assumption) (gl_SOffsetTFlags _) ?_ rfl rfl
  refine sp_nil ?_
  refine ⟨Kp.of_K (by assumption) (kp_169 _), ?_⟩
  show N _ _ (call _ [_, _] _) _ _
  refine ct_enf fl_SOffsetTFlags (by assumption) R.deep h0 h1 ?_
  intro _
  intro _
  refine ⟨(by intro _ h; cases h), ?_⟩
  show N _ _ _ _ _
  refine n_cons ?_
  refine n_assign ?_
  refine e_bin ?_
  refine e_attr ?_
  refine r_loc (by assumption) (by exact rfl) ?_
  (refine g_head (by assumption) ?_; intro _ _)
  refine e_attr ?_
  refine p_glob (by assumption) (gl_SOffsetTFlags _) ?_ rfl rfl
  (refine a_136_bytewidth (by assumption) ?_; intro _ _)
  (refine i_sub (by assumption) ?_; intro _ _ _)
  (refine r_st (by assumption) ?_; intro _ _)
  show N _ _ _ _ _
  refine n_cons ?_
  refine n_setattr ?_
  refine r_loc (by assumption) (by exact rfl) ?_
  refine r_loc (by assumption) (by exact rfl) ?_
  (refine s_head (by assumption) ?_; intro _ _)
  show N _ _ _ _ _
  refine n_cons ?_
  refine n_expr ?_
  refine e_call ?_
  refine p_glob (by assumption) (gl_Write _) ?_ rfl rfl
  refine cw1 ?_
  refine sp_cons ?_
  refine p_glob (by assumption) (gl_soffset _) ?_ rfl rfl
  refine sp_cons ?_
  refine e_attr ?_
  refine r_loc (by assumption) (by exact rfl) ?_
  (refine g_Bytes (by assumption) ?_; intro _ _)
  refine sp_cons ?_
  refine r_loc (by assumption) (by exact rfl) ?_
  refine sp_cons ?_
  refine r_loc (by assumption) (by exact rfl) ?_
  refine sp_nil ?_
  refine ⟨Kp.of_K (by assumption) (kp_176 _), ?_⟩
  show N _ _ (call _ [_, _, _, _] _) _ _
  rename_i S₂
  refine ct_Write (show Sx y 56 4 (-2147483648) 2147483647 from ⟨_, _, _, _, rfl, rfl, Pk.i⟩) S₂.swap R.deep (by omega) (by omega) (by omega) h0 h1 fun s₃ S₃ => ?_
  have S₃ := S₃.swap
  refine ⟨(by intro _ h; cases h), ?_⟩
  show N _ _ _ _ _
  refine n_nil ?_
  refine Back.mk (by assumption) (fun S' => ?_)
  exact h (_, _) _ _ S' (B.push (by rw [le_length]; omega) (by rw [le_length]; rfl))
end

end Mine

end
-- PC31
section
open PySem PySem.W PySem.Calls PyProof.Rows
set_option maxRecDepth 100000
set_option linter.unusedVariables false
set_option linter.deprecated false
namespace Mine
section
variable {y : Cy} {A : Around} {s : Shared} {L b st F d : Addr} {m : Str → Option Value} {l k : List (Addr × Obj)} {r : Raw} {Q : Value → Shared → Prop} {w : Nat} {lo hi : Int}
theorem ct_Prep {buf out : List UInt8} {room ma a : Nat} {tw ta : Tok} (S : St y.cx L m ((b, r.obj) :: (r.ba, baObj buf) :: l) k s) (R : Rm A 2) (B : BufOk r.head.1 buf out room) (hma : r.ma.1 = ma) (hw : Width w) (hs : out.length + a ≤ 4000000) (hr : room ≤ 8388608)
    (h : ∀ ba hd ma' buf' s', St y.cx L m ((b, { r with ba := ba, head := hd, ma := ma' }.obj) :: (ba, baObj buf') :: l) k s' → ma'.1 = ((max ma w : Nat) : Int) → BufOk hd.1 buf' (List.replicate (fillN w (out.length + a)) 0 ++ out) (growN (out.length + needN w out.length a) room) → Q .none s') :
    N y.cx A (call (.ref 340) [.ref b, .int w tw, .int a ta]) Q s := by
  obtain ⟨b1, b2, b3, b4, b5⟩ := id B
  have hw0 : 0 < w ∧ w ≤ 8 := by rcases hw with rfl | rfl | rfl | rfl <;> omega
  have hf := fillN_lt (o := out.length + a) hw0.1
  refine p_call (binds := [("self", .ref b), ("size", .int w tw), ("additionalBytes", .int a ta)]) S (by rfl) (by rfl) (Rm.depth R) (BindsTo.of_eq rfl) (locs rfl) (fun Lx oLx s₁ S₁ => ?_) (by decide) rfl rfl rfl
  refine n_consJ (fun s' => ∃ ma' : Int × Tok, ma'.1 = ((max ma w : Nat) : Int) ∧ St y.cx Lx (fun y => List.lookup y [(("self" : Str), Value.ref b), ("size", .int w tw), ("additionalBytes", .int a ta)].reverse) ((b, { r with ma := ma' }.obj) :: (r.ba, baObj buf) :: l) ((L, oLx) :: k) s') ?_ ?_
  · refine n_if ?_
    refine t_cmp ?_
    refine r_loc (by assumption) (by exact rfl) ?_
    refine e_attr ?_
    refine r_loc (by assumption) (by exact rfl) ?_
    (refine g_minalign (by assumption) ?_; intro _ _)
    refine c_gt ?_
    refine tr_bool ?_
    by_cases hlt : ma < w
    · refine g_yes (by rw [hma]; exact decide_eq_true (by omega)) ?_
      refine n_cons ?_
      refine n_setattr ?_
      refine r_loc (by assumption) (by exact rfl) ?_
      refine r_loc (by assumption) (by exact rfl) ?_
      (refine s_minalign (by assumption) ?_; intro _ _)
      show N _ _ _ _ _
      refine n_nil ?_
      exact ⟨rfl, ((w : Int), tw), by dsimp only; omega, by assumption⟩
    · refine g_no (by rw [hma]; exact decide_eq_false (by omega)) ?_
      refine n_nil ?_
      exact ⟨rfl, r.ma, by omega, by assumption⟩
  rintro s₂ ⟨ma', hma', S₂⟩
  refine n_cons ?_
  refine n_assign ?_
  refine e_attr ?_
  refine r_loc (by assumption) (by exact rfl) ?_
  (refine g_head (by assumption) ?_; intro _ _)
  (refine r_st (by assumption) ?_; intro _ _)
  show N _ _ _ _ _
  refine n_cons ?_
  refine n_assign ?_
  refine e_call ?_
  refine p_blt (by assumption) (gb_len _) (by boot_by_name) (by decide) ?_ rfl rfl
  refine cw1 ?_
  refine sp_cons ?_
  refine e_attr ?_
  refine r_loc (by assumption) (by exact rfl) ?_
  (refine g_Bytes (by assumption) ?_; intro _ _)
  refine sp_nil ?_
  refine ⟨Kp.builtin, ?_⟩
  show N _ _ (call _ [_] _) _ _
  walk_at "n_leafcall"
  (refine r_st (by assumption) ?_; intro _ _)
  show N _ _ _ _ _
  refine n_cons ?_
  refine n_assign ?_
  refine e_bin ?_
  refine e_un ?_
  refine e_bin ?_
  refine e_bin ?_
  refine r_loc (by assumption) (by exact rfl) ?_
  refine r_loc (by assumption) (by exact rfl) ?_
  (refine i_sub (by assumption) ?_; intro _ _ _)
  refine r_loc (by assumption) (by exact rfl) ?_
  (refine i_add (by assumption) ?_; intro _ _ _)
  (refine i_inv (by assumption) ?_; intro _ _ _)
  (refine r_cint (by assumption) ?_; intro _ _ _)
  (refine i_add (by assumption) ?_; intro _ _ _)
  (refine r_st (by assumption) ?_; intro _ _)
  show N _ _ _ _ _
  refine n_cons ?_
  refine n_aug ?_
  refine r_ldn (by assumption) (by exact rfl) ?_
  refine e_bin ?_
  refine r_loc (by assumption) (by exact rfl) ?_
  (refine r_cint (by assumption) ?_; intro _ _ _)
  (refine i_sub (by assumption) ?_; intro _ _ _)
  (refine ii_and (by assumption) ?_; intro _ _ _)
  (refine r_st (by assumption) ?_; intro _ _)
  show N _ _ _ _ _
  refine n_cons ?_
  refine n_assign ?_
  refine e_bin ?_
  refine e_bin ?_
  refine r_loc (by assumption) (by exact rfl) ?_
  refine r_loc (by assumption) (by exact rfl) ?_
  (refine i_add (by assumption) ?_; intro _ _ _)
  refine r_loc (by assumption) (by exact rfl) ?_
  (refine i_add (by assumption) ?_; intro _ _ _)
  (refine r_st (by assumption) ?_; intro _ _)
  show N _ _ _ _ _
  refine n_cons ?_
  refine n_while ?_
  have eal : Builtin.bitAnd (Builtin.bitNot ((buf.length : Int) - r.head.1 + a) + 1) ((w : Int) - 1) = ((fillN w (out.length + a) : Nat) : Int) := by
    rw [show (buf.length : Int) - r.head.1 + a = ((out.length + a : Nat) : Int) by omega]; exact and_fill hw _
  refine NC.whl_ind (fun n s' => ∃ (ba : Addr) (buf' : List UInt8) (m' : Str → Option Value) (hv bv nv av : Int) (th tb tn tl : Tok), St y.cx Lx m' ((b, { r with ba := ba, ma := ma' }.obj) :: (ba, baObj buf') :: l) ((L, oLx) :: k) s' ∧
    m' "self" = some (.ref b) ∧ m' "head" = some (.int hv th) ∧ m' "buf_len" = some (.int bv tb) ∧ m' "needed" = some (.int nv tn) ∧ m' "alignSize" = some (.int av tl) ∧
    hv = (buf'.length : Int) - out.length ∧ bv = buf'.length ∧ nv = (fillN w (out.length + a) : Nat) + w + a ∧ av = (fillN w (out.length + a) : Nat) ∧
    out.length ≤ buf'.length ∧ buf'.drop (buf'.length - out.length) = out ∧ buf'.length ≤ 8388608 ∧ growN (out.length + needN w out.length a) buf'.length = growN (out.length + needN w out.length a) room ∧ n = out.length + needN w out.length a - buf'.length) ?_ _ _
    ⟨r.ba, buf, _, _, _, _, _, _, _, _, _, by assumption, by exact rfl, by exact rfl, by exact rfl, by exact rfl, by exact rfl, by dsimp only; omega, by omega, by rw [eal], by rw [eal], by omega, by rw [b1]; exact b5, by omega, by rw [b1], rfl⟩
  rintro n s₃ ⟨ba, buf', m', hv, bv, nv, av, th, tb, tn, tl, S₃, e1, e2, e3, e4, e5, f1, f2, f3, f4, f5, f6, f7, f8, f9⟩
  subst f1 f2 f3 f4
  have hne : needN w out.length a = fillN w (out.length + a) + w + a := rfl
  show N _ _ _ _ _
  refine t_cmp ?_
  refine r_loc (by assumption) (by exact e2) ?_
  refine r_loc (by assumption) (by exact e4) ?_
  refine c_lt ?_
  refine tr_bool ?_
  by_cases hlt : (buf'.length : Int) - out.length < (fillN w (out.length + a) : Nat) + w + a
  · refine g_yes (decide_eq_true hlt) ?_
    refine n_cons ?_
    refine n_assign ?_
    refine r_loc (by assumption) (by exact e3) ?_
    (refine r_st (by assumption) ?_; intro _ _)
    show N _ _ _ _ _
    refine n_cons ?_
    refine n_expr ?_
    refine e_meth ?_
    refine r_loc (by assumption) (by exact e1) ?_
    refine m_GrowByteBuffer (by assumption) ?_
    refine cw0 ?_ ?_
    exact Kp.of_K (by assumption) (kp_312 _)
    show N _ _ (call _ [_] _) _ _
    refine ct_Grow (by assumption) R.deep (by omega) fun ba2 s₄ S₄ => ?_
    have hgl : (List.replicate ((if buf'.length = 0 then 1 else 2 * buf'.length) - buf'.length) (0 : UInt8) ++ buf').length = (if buf'.length = 0 then 1 else 2 * buf'.length) := by
      rw [List.length_append, List.length_replicate]; split <;> omega
    have hgt : ¬ out.length + needN w out.length a ≤ buf'.length := by omega
    have hgn := growN_neg hgt
    have hnl : buf'.length < (if buf'.length = 0 then 1 else 2 * buf'.length) := by split <;> omega
    have hns : (if buf'.length = 0 then 1 else 2 * buf'.length) ≤ 8388608 := by split <;> omega
    generalize (if buf'.length = 0 then 1 else 2 * buf'.length) = nl at *
    generalize hb2 : (List.replicate (nl - buf'.length) (0 : UInt8) ++ buf') = buf2 at *
    have hd2 : buf2.drop (buf2.length - out.length) = out := by
      rw [hgl, ← hb2, List.drop_append, List.drop_of_length_le (by rw [List.length_replicate]; omega), List.nil_append, List.length_replicate, show nl - out.length - (nl - buf'.length) = buf'.length - out.length by omega]; exact f6
    refine ⟨(by intro _ h; cases h), ?_⟩
    show N _ _ _ _ _
    refine n_cons ?_
    refine n_assign ?_
    refine e_call ?_
    refine p_blt (by assumption) (gb_len _) (by boot_by_name) (by decide) ?_ rfl rfl
    refine cw1 ?_
    refine sp_cons ?_
    refine e_attr ?_
    refine r_loc (by assumption) (by exact e1) ?_
    (refine g_Bytes (by assumption) ?_; intro _ _)
    refine sp_nil ?_
    refine ⟨Kp.builtin, ?_⟩
    show N _ _ (call _ [_] _) _ _
    walk_at "n_leafcall"
    (refine r_st (by assumption) ?_; intro _ _)
    show N _ _ _ _ _
    refine n_cons ?_
    refine n_aug ?_
    refine r_ldn (by assumption) (by exact e2) ?_
    refine e_bin ?_
    refine r_loc (by assumption) (by exact rfl) ?_
    refine r_loc (by assumption) (by exact rfl) ?_
    (refine i_sub (by assumption) ?_; intro _ _ _)
    (refine ii_add (by assumption) ?_; intro _ _ _)
    (refine r_st (by assumption) ?_; intro _ _)
    show N _ _ _ _ _
    refine n_nil ?_
    exact ⟨_, by omega, _, buf2, _, _, _, _, _, _, _, _, _, by assumption, by exact e1, by exact rfl, by exact rfl, by exact e4, by exact e5, by omega, by omega, rfl, rfl, by omega, hd2, by omega, by rw [hgl, ← hgn]; exact f8, rfl⟩
  · refine g_no (decide_eq_false hlt) ?_
    refine n_nil ?_
    show N _ _ _ _ _
    refine n_cons ?_
    refine n_setattr ?_
    refine r_loc (by assumption) (by exact e2) ?_
    refine r_loc (by assumption) (by exact e1) ?_
    (refine s_head (by assumption) ?_; intro _ _)
    show N _ _ _ _ _
    refine n_cons ?_
    refine n_expr ?_
    refine e_meth ?_
    refine r_loc (by assumption) (by exact e1) ?_
    refine m_Pad (by assumption) ?_
    refine cw1 ?_
    refine sp_cons ?_
    refine r_loc (by assumption) (by exact e5) ?_
    refine sp_nil ?_
    refine ⟨Kp.of_K (by assumption) (kp_333 _), ?_⟩
    show N _ _ (call _ [_, _] _) _ _
    have B' : BufOk ((buf'.length : Int) - out.length) buf' out buf'.length := ⟨rfl, by omega, f5, by omega, f6⟩
    rw [growN_pos (room := buf'.length) (by omega)] at f8
    refine ct_Pad (by assumption) R.deep B' (by omega) (by omega) fun hd buf2 s₄ S₄ B₄ => ?_
    refine ⟨(by intro _ h; cases h), ?_⟩
    show N _ _ _ _ _
    refine n_nil ?_
    refine Back.mk (by assumption) (fun S' => ?_)
    rw [f8] at B₄
    exact h _ _ _ _ _ S' hma' B₄
end

end Mine

end
-- PC41
section
open PySem PySem.W PySem.Calls PyProof.Rows
set_option maxRecDepth 100000
set_option linter.unusedVariables false
set_option linter.deprecated false
namespace Mine
end Mine
end
local macro_rules | `(tactic| walk_at "n_leaf") => `(tactic| ((with_reducible show N _ _ (getAttr _ "vectorNumElems" _) _ _); refine g_vectorNumElems (by assumption) (by first | assumption | rfl) ?_; intro _ _))
section
open PySem PySem.W PySem.Calls PyProof.Rows
set_option maxRecDepth 100000
set_option linter.unusedVariables false
set_option linter.deprecated false
namespace Mine
structure Bd (r : Raw) (buf out : List UInt8) (room ma : Nat) : Prop where
  ok : BufOk r.head.1 buf out room
  ma : r.ma.1 = ((ma : Nat) : Int)
  rm : room ≤ 8388608
/-- the same builder, its buffer, head and alignment aside -/
abbrev Raw.at (r : Raw) (ba : Addr) (hd ma : Int × Tok) : Raw := { r with ba := ba, head := hd, ma := ma }
section
variable {y : Cy} {A : Around} {s : Shared} {L b st F d : Addr} {m : Str → Option Value} {l k : List (Addr × Obj)} {r : Raw} {Q : Value → Shared → Prop} {w : Nat} {lo hi : Int} {buf out : List UInt8} {room ma : Nat}
theorem cp_Prep {a : Nat} {tw ta : Tok} (S : St y.cx L m ((b, r.obj) :: (r.ba, baObj buf) :: l) k s) (R : Rm A 2) (B : Bd r buf out room ma) (hw : Width w) (hs : out.length + a ≤ 4000000)
    (h : ∀ ba hd ma' buf' s', St y.cx L m ((b, (r.at ba hd ma').obj) :: (ba, baObj buf') :: l) k s' → Bd (r.at ba hd ma') buf' (prepO w a out) (prepR w a out room) (max ma w) → Q .none s') :
    N y.cx A (call (.ref 340) [.ref b, .int w tw, .int a ta]) Q s :=
  ct_Prep S R B.ok B.ma hw hs B.rm fun ba hd ma' buf' s' S' e B' => h ba hd ma' buf' s' S' ⟨B', e, prepR_le hw hs B.rm⟩
theorem cp_Offset (S : St y.cx L m ((b, r.obj) :: (r.ba, baObj buf) :: l) k s) (R : Rm A 1) (B : BufOk r.head.1 buf out room)
    (h : ∀ t s', St y.cx L m ((b, r.obj) :: (r.ba, baObj buf) :: l) k s' → Q (.int ((out.length : Nat) : Int) t) s') : N y.cx A (call (.ref 326) [.ref b]) Q s := by
  obtain ⟨b1, b2, b3, b4, b5⟩ := id B
  refine ct_Offset S R (by omega) fun t s' S' => ?_
  rw [show (buf.length : Int) - r.head.1 = (out.length : Nat) by omega]
  exact h t s' S'
theorem ct_Prepend {n : Int} {t : Tok} (FL : Fl y F w lo hi) (hw : Width w) (S : St y.cx L m ((b, r.obj) :: (r.ba, baObj buf) :: l) k s) (R : Rm A 3) (B : Bd r buf out room ma) (hs : out.length ≤ 3000000) (h0 : lo ≤ n) (h1 : n ≤ hi)
    (h : ∀ ba hd ma' buf' s', St y.cx L m ((b, (r.at ba hd ma').obj) :: (ba, baObj buf') :: l) k s' → Bd (r.at ba hd ma') buf' (le w n ++ prepO w 0 out) (prepR w 0 out room) (max ma w) → Q .none s') :
    N y.cx A (call (.ref 449) [.ref b, .ref F, .int n t]) Q s := by
  obtain ⟨t1, g_bytewidth⟩ := FL.bw
  refine p_call (binds := [("self", .ref b), ("flags", .ref F), ("off", .int n t)]) S (by rfl) (by rfl) (Rm.depth R) (BindsTo.of_eq rfl) (locs rfl) (fun Lx oLx s₁ S₁ => ?_) (by decide) rfl rfl rfl
  refine n_cons ?_
  refine n_expr ?_
  refine e_meth ?_
  refine r_loc (by assumption) (by exact rfl) ?_
  refine m_Prep (by assumption) ?_
  refine cw1 ?_
  refine sp_cons ?_
  refine e_attr ?_
  refine r_loc (by assumption) (by exact rfl) ?_
  (refine g_bytewidth (by assumption) ?_; intro _ _)
  refine sp_cons ?_
  (refine r_cint (by assumption) ?_; intro _ _ _)
  refine sp_nil ?_
  refine ⟨Kp.of_K (by assumption) (kp_340 _), ?_⟩
  show N _ _ (call _ [_, _, _] _) _ _
  refine cp_Prep (a := 0) (by assumption) R.deep B hw (by omega) fun ba hd ma' buf' s₂ S₂ B₂ => ?_
  refine ⟨(by intro _ h; cases h), ?_⟩
  show N _ _ _ _ _
  refine n_cons ?_
  refine n_expr ?_
  refine e_meth ?_
  refine r_loc (by assumption) (by exact rfl) ?_
  refine m_Place (by assumption) ?_
  refine cw1 ?_
  refine sp_cons ?_
  refine r_loc (by assumption) (by exact rfl) ?_
  refine sp_cons ?_
  refine r_loc (by assumption) (by exact rfl) ?_
  refine sp_nil ?_
  refine ⟨Kp.of_K (by assumption) (kp_631 _), ?_⟩
  show N _ _ (call _ [_, _, _] _) _ _
  have hg := prepR_ge (w := w) (a := 0) (out := out) (room := room)
  refine ct_Place FL (by assumption) R.deep B₂.ok (by omega) h0 h1 fun hd' buf2 s₃ S₃ B₃ => ?_
  refine ⟨(by intro _ h; cases h), ?_⟩
  show N _ _ _ _ _
  refine n_nil ?_
  refine Back.mk (by assumption) (fun S' => ?_)
  exact h _ _ _ _ _ S' ⟨B₃, B₂.ma, B₂.rm⟩
theorem ct_PrependV {n : Int} {t : Tok} (S : St y.cx L m ((b, r.obj) :: (r.ba, baObj buf) :: l) k s) (R : Rm A 4) (B : Bd r buf out room ma) (hs : out.length ≤ 3000000) (h0 : 0 ≤ n) (h1 : n ≤ 65535)
    (h : ∀ ba hd ma' buf' s', St y.cx L m ((b, (r.at ba hd ma').obj) :: (ba, baObj buf') :: l) k s' → Bd (r.at ba hd ma') buf' (le 2 n ++ prepO 2 0 out) (prepR 2 0 out room) (max ma 2) → Q .none s') :
    N y.cx A (call (.ref 624) [.ref b, .int n t]) Q s := by
  refine p_call (binds := [("self", .ref b), ("x", .int n t)]) S (by rfl) (by rfl) (Rm.depth R) (BindsTo.of_eq rfl) (locs rfl) (fun Lx oLx s₁ S₁ => ?_) (by decide) rfl rfl rfl
  refine n_cons ?_
  refine n_expr ?_
  refine e_meth ?_
  refine r_loc (by assumption) (by exact rfl) ?_
  refine m_Prepend (by assumption) ?_
  refine cw1 ?_
  refine sp_cons ?_
  refine p_glob (by assumption) (gl_VOffsetTFlags _) ?_ rfl rfl
  refine sp_cons ?_
  refine r_loc (by assumption) (by exact rfl) ?_
  refine sp_nil ?_
  refine ⟨Kp.of_K (by assumption) (kp_449 _), ?_⟩
  show N _ _ (call _ [_, _, _] _) _ _
  refine ct_Prepend fl_VOffsetTFlags (.inr (.inl rfl)) (by assumption) R.deep B hs h0 h1 fun ba hd ma' buf' s₂ S₂ B₂ => ?_
  refine ⟨(by intro _ h; cases h), ?_⟩
  show N _ _ _ _ _
  refine n_nil ?_
  refine Back.mk (by assumption) (fun S' => ?_)
  exact h _ _ _ _ _ S' B₂
theorem ct_PrependU8 {n : Int} {t : Tok} (S : St y.cx L m ((b, r.obj) :: (r.ba, baObj buf) :: l) k s) (R : Rm A 4) (B : Bd r buf out room ma) (hs : out.length ≤ 3000000) (h0 : 0 ≤ n) (h1 : n ≤ 255)
    (h : ∀ ba hd ma' buf' s', St y.cx L m ((b, (r.at ba hd ma').obj) :: (ba, baObj buf') :: l) k s' → Bd (r.at ba hd ma') buf' (le 1 n ++ prepO 1 0 out) (prepR 1 0 out room) (max ma 1) → Q .none s') :
    N y.cx A (call (.ref 561) [.ref b, .int n t]) Q s := by
  refine p_call (binds := [("self", .ref b), ("x", .int n t)]) S (by rfl) (by rfl) (Rm.depth R) (BindsTo.of_eq rfl) (locs rfl) (fun Lx oLx s₁ S₁ => ?_) (by decide) rfl rfl rfl
  refine n_cons ?_
  refine n_expr ?_
  refine e_meth ?_
  refine r_loc (by assumption) (by exact rfl) ?_
  refine m_Prepend (by assumption) ?_
  refine cw1 ?_
  refine sp_cons ?_
  refine p_glob (by assumption) (gl_Uint8Flags _) ?_ rfl rfl
  refine sp_cons ?_
  refine r_loc (by assumption) (by exact rfl) ?_
  refine sp_nil ?_
  refine ⟨Kp.of_K (by assumption) (kp_449 _), ?_⟩
  show N _ _ (call _ [_, _, _] _) _ _
  refine ct_Prepend fl_Uint8Flags (.inl rfl) (by assumption) R.deep B hs h0 h1 fun ba hd ma' buf' s₂ S₂ B₂ => ?_
  refine ⟨(by intro _ h; cases h), ?_⟩
  show N _ _ _ _ _
  refine n_nil ?_
  refine Back.mk (by assumption) (fun S' => ?_)
  exact h _ _ _ _ _ S' B₂
theorem ct_PrependU32 {n : Int} {t : Tok} (S : St y.cx L m ((b, r.obj) :: (r.ba, baObj buf) :: l) k s) (R : Rm A 4) (B : Bd r buf out room ma) (hs : out.length ≤ 3000000) (h0 : 0 ≤ n) (h1 : n ≤ 4294967295)
    (h : ∀ ba hd ma' buf' s', St y.cx L m ((b, (r.at ba hd ma').obj) :: (ba, baObj buf') :: l) k s' → Bd (r.at ba hd ma') buf' (le 4 n ++ prepO 4 0 out) (prepR 4 0 out room) (max ma 4) → Q .none s') :
    N y.cx A (call (.ref 575) [.ref b, .int n t]) Q s := by
  refine p_call (binds := [("self", .ref b), ("x", .int n t)]) S (by rfl) (by rfl) (Rm.depth R) (BindsTo.of_eq rfl) (locs rfl) (fun Lx oLx s₁ S₁ => ?_) (by decide) rfl rfl rfl
  refine n_cons ?_
  refine n_expr ?_
  refine e_meth ?_
  refine r_loc (by assumption) (by exact rfl) ?_
  refine m_Prepend (by assumption) ?_
  refine cw1 ?_
  refine sp_cons ?_
  refine p_glob (by assumption) (gl_Uint32Flags _) ?_ rfl rfl
  refine sp_cons ?_
  refine r_loc (by assumption) (by exact rfl) ?_
  refine sp_nil ?_
  refine ⟨Kp.of_K (by assumption) (kp_449 _), ?_⟩
  show N _ _ (call _ [_, _, _] _) _ _
  refine ct_Prepend fl_Uint32Flags (.inr (.inr (.inl rfl))) (by assumption) R.deep B hs h0 h1 fun ba hd ma' buf' s₂ S₂ B₂ => ?_
  refine ⟨(by intro _ h; cases h), ?_⟩
  show N _ _ _ _ _
  refine n_nil ?_
  refine Back.mk (by assumption) (fun S' => ?_)
  exact h _ _ _ _ _ S' B₂
theorem ct_RelU {n : Nat} {t : Tok} (S : St y.cx L m ((b, r.obj) :: (r.ba, baObj buf) :: l) k s) (R : Rm A 3) (B : Bd r buf out room ma) (hs : out.length ≤ 3000000) (hn : n ≤ out.length)
    (h : ∀ ba hd ma' buf' s', St y.cx L m ((b, (r.at ba hd ma').obj) :: (ba, baObj buf') :: l) k s' → Bd (r.at ba hd ma') buf' (le 4 ((prepO 4 0 out).length - n + 4 : Nat) ++ prepO 4 0 out) (prepR 4 0 out room) (max ma 4) → Q .none s') :
    N y.cx A (call (.ref 354) [.ref b, .int n t]) Q s := by
  have hW : Width 4 := .inr (.inr (.inl rfl))
  refine p_call (binds := [("self", .ref b), ("off", .int n t)]) S (by rfl) (by rfl) (Rm.depth R) (BindsTo.of_eq rfl) (locs rfl) (fun Lx oLx s₁ S₁ => ?_) (by decide) rfl rfl rfl
  refine n_cons ?_
  refine n_expr ?_
  refine e_meth ?_
  refine r_loc (by assumption) (by exact rfl) ?_
  refine m_Prep (by assumption) ?_
  refine cw1 ?_
  refine sp_cons ?_
  refine e_attr ?_
  refine p_glob (by assumption) (gl_UOffsetTFlags _) ?_ rfl rfl
  (refine a_148_bytewidth (by assumption) ?_; intro _ _)
  refine sp_cons ?_
  (refine r_cint (by assumption) ?_; intro _ _ _)
  refine sp_nil ?_
  refine ⟨Kp.of_K (by assumption) (kp_340 _), ?_⟩
  show N _ _ (call _ [_, _, _] _) _ _
  refine cp_Prep (w := 4) (a := 0) (by assumption) R.deep B hW (by omega) fun ba hd ma' buf' s₂ S₂ B₂ => ?_
  obtain ⟨b1, b2, b3, b4, b5⟩ := id B₂.ok
  have hg := prepR_ge (w := 4) (a := 0) (out := out) (room := room)
  have hl := prepO_len (a := 0) (out := out) hW
  refine ⟨(by intro _ h; cases h), ?_⟩
  show N _ _ _ _ _
  refine n_cons ?_
  refine n_if ?_
  refine t_not ?_
  refine t_cmp ?_
  refine r_loc (by assumption) (by exact rfl) ?_
  refine e_meth ?_
  refine r_loc (by assumption) (by exact rfl) ?_
  refine m_Offset (by assumption) ?_
  refine cw0 ?_ ?_
  exact Kp.of_K (by assumption) (kp_326 _)
  show N _ _ (call _ [_] _) _ _
  refine ct_Offset (by assumption) (R.deep.le (by omega)) (by omega) ?_
  intro _
  intro _
  intro _
  refine c_le ?_
  refine tr_bool ?_
  refine g_no (by rw [b4]; simp; omega) ?_
  refine n_nil ?_
  show N _ _ _ _ _
  refine n_cons ?_
  refine n_assign ?_
  refine e_bin ?_
  refine e_bin ?_
  refine e_meth ?_
  refine r_loc (by assumption) (by exact rfl) ?_
  refine m_Offset (by assumption) ?_
  refine cw0 ?_ ?_
  exact Kp.of_K (by assumption) (kp_326 _)
  show N _ _ (call _ [_] _) _ _
  refine ct_Offset (by assumption) (R.deep.le (by omega)) (by omega) ?_
  intro _
  intro _
  intro _
  refine r_loc (by assumption) (by exact rfl) ?_
  (refine i_sub (by assumption) ?_; intro _ _ _)
  refine e_attr ?_
  refine p_glob (by assumption) (gl_UOffsetTFlags _) ?_ rfl rfl
  (refine a_148_bytewidth (by assumption) ?_; intro _ _)
  (refine i_add (by assumption) ?_; intro _ _ _)
  (refine r_st (by assumption) ?_; intro _ _)
  show N _ _ _ _ _
  refine n_cons ?_
  refine n_expr ?_
  refine e_meth ?_
  refine r_loc (by assumption) (by exact rfl) ?_
  refine m_PlaceUOffsetT (by assumption) ?_
  refine cw1 ?_
  refine sp_cons ?_
  refine r_loc (by assumption) (by exact rfl) ?_
  refine sp_nil ?_
  refine ⟨Kp.of_K (by assumption) (kp_652 _), ?_⟩
  show N _ _ (call _ [_, _] _) _ _
  have e : (buf'.length : Int) - (r.at ba hd ma').head.1 - n + 4 = (((prepO 4 0 out).length - n + 4 : Nat) : Int) := by omega
  rw [e]
  refine ct_PlaceU (by assumption) (R.deep.le (by omega)) B₂.ok (by omega) (by omega) (by omega) fun hd' buf2 s₃ S₃ B₃ => ?_
  refine ⟨(by intro _ h; cases h), ?_⟩
  show N _ _ _ _ _
  refine n_nil ?_
  refine Back.mk (by assumption) (fun S' => ?_)
  exact h _ _ _ _ _ S' ⟨B₃, B₂.ma, B₂.rm⟩
theorem ct_RelS0 {t : Tok} (S : St y.cx L m ((b, r.obj) :: (r.ba, baObj buf) :: l) k s) (R : Rm A 3) (B : Bd r buf out room ma) (hs : out.length ≤ 3000000)
    (h : ∀ ba hd ma' buf' s', St y.cx L m ((b, (r.at ba hd ma').obj) :: (ba, baObj buf') :: l) k s' → Bd (r.at ba hd ma') buf' (le 4 ((prepO 4 0 out).length + 4 : Nat) ++ prepO 4 0 out) (prepR 4 0 out room) (max ma 4) → Q .none s') :
    N y.cx A (call (.ref 347) [.ref b, .int 0 t]) Q s := by
  have hW : Width 4 := .inr (.inr (.inl rfl))
  refine p_call (binds := [("self", .ref b), ("off", .int 0 t)]) S (by rfl) (by rfl) (Rm.depth R) (BindsTo.of_eq rfl) (locs rfl) (fun Lx oLx s₁ S₁ => ?_) (by decide) rfl rfl rfl
  refine n_cons ?_
  refine n_expr ?_
  refine e_meth ?_
  refine r_loc (by assumption) (by exact rfl) ?_
  refine m_Prep (by assumption) ?_
  refine cw1 ?_
  refine sp_cons ?_
  refine e_attr ?_
  refine p_glob (by assumption) (gl_SOffsetTFlags _) ?_ rfl rfl
  (refine a_136_bytewidth (by assumption) ?_; intro _ _)
  refine sp_cons ?_
  (refine r_cint (by assumption) ?_; intro _ _ _)
  refine sp_nil ?_
  refine ⟨Kp.of_K (by assumption) (kp_340 _), ?_⟩
  show N _ _ (call _ [_, _, _] _) _ _
  refine cp_Prep (w := 4) (a := 0) (by assumption) R.deep B hW (by omega) fun ba hd ma' buf' s₂ S₂ B₂ => ?_
  obtain ⟨b1, b2, b3, b4, b5⟩ := id B₂.ok
  have hg := prepR_ge (w := 4) (a := 0) (out := out) (room := room)
  have hl := prepO_len (a := 0) (out := out) hW
  refine ⟨(by intro _ h; cases h), ?_⟩
  show N _ _ _ _ _
  refine n_cons ?_
  refine n_if ?_
  refine t_not ?_
  refine t_cmp ?_
  refine r_loc (by assumption) (by exact rfl) ?_
  refine e_meth ?_
  refine r_loc (by assumption) (by exact rfl) ?_
  refine m_Offset (by assumption) ?_
  refine cw0 ?_ ?_
  exact Kp.of_K (by assumption) (kp_326 _)
  show N _ _ (call _ [_] _) _ _
  refine ct_Offset (by assumption) (R.deep.le (by omega)) (by omega) ?_
  intro _
  intro _
  intro _
  refine c_le ?_
  refine tr_bool ?_
  refine g_no (by rw [b4]; simp; omega) ?_
  refine n_nil ?_
  show N _ _ _ _ _
  refine n_cons ?_
  refine n_assign ?_
  refine e_bin ?_
  refine e_bin ?_
  refine e_meth ?_
  refine r_loc (by assumption) (by exact rfl) ?_
  refine m_Offset (by assumption) ?_
  refine cw0 ?_ ?_
  exact Kp.of_K (by assumption) (kp_326 _)
  show N _ _ (call _ [_] _) _ _
  refine ct_Offset (by assumption) (R.deep.le (by omega)) (by omega) ?_
  intro _
  intro _
  intro _
  refine r_loc (by assumption) (by exact rfl) ?_
  (refine i_sub (by assumption) ?_; intro _ _ _)
  refine e_attr ?_
  refine p_glob (by assumption) (gl_SOffsetTFlags _) ?_ rfl rfl
  (refine a_136_bytewidth (by assumption) ?_; intro _ _)
  (refine i_add (by assumption) ?_; intro _ _ _)
  (refine r_st (by assumption) ?_; intro _ _)
  show N _ _ _ _ _
  refine n_cons ?_
  refine n_expr ?_
  refine e_meth ?_
  refine r_loc (by assumption) (by exact rfl) ?_
  refine m_PlaceSOffsetT (by assumption) ?_
  refine cw1 ?_
  refine sp_cons ?_
  refine r_loc (by assumption) (by exact rfl) ?_
  refine sp_nil ?_
  refine ⟨Kp.of_K (by assumption) (kp_645 _), ?_⟩
  show N _ _ (call _ [_, _] _) _ _
  have e : (buf'.length : Int) - (r.at ba hd ma').head.1 - 0 + 4 = (((prepO 4 0 out).length + 4 : Nat) : Int) := by omega
  rw [e]
  refine ct_PlaceS (by assumption) (R.deep.le (by omega)) B₂.ok (by omega) (by omega) (by omega) fun hd' buf2 s₃ S₃ B₃ => ?_
  refine ⟨(by intro _ h; cases h), ?_⟩
  show N _ _ _ _ _
  refine n_nil ?_
  refine Back.mk (by assumption) (fun S' => ?_)
  exact h _ _ _ _ _ S' ⟨B₃, B₂.ma, B₂.rm⟩
/-- numbers in a row: how many, kept till EndVector -/
theorem ct_StartVector {e n : Nat} {te tn ta : Tok} (S : St y.cx L m ((b, r.obj) :: (r.ba, baObj buf) :: l) k s) (R : Rm A 3) (B : Bd r buf out room ma) (hs : out.length ≤ 3000000) (hw : Width w) (he : e ≤ 8) (hn : n ≤ 1000) (hnn : r.nested = false)
    (h : ∀ ba hd ma' buf' t s', St y.cx L m ((b, ({ r with nested := true, vne := some (some ((n : Int), tn)) }.at ba hd ma').obj) :: (ba, baObj buf') :: l) k s' →
      Bd ({ r with nested := true, vne := some (some ((n : Int), tn)) }.at ba hd ma') buf' (prepO w (e * n) (prepO 4 (e * n) out)) (prepR w (e * n) (prepO 4 (e * n) out) (prepR 4 (e * n) out room)) (max (max ma 4) w) → Q (.int (prepO w (e * n) (prepO 4 (e * n) out)).length t) s') :
    N y.cx A (call (.ref 361) [.ref b, .int e te, .int n tn, .int w ta]) Q s := by
  have hW : Width 4 := .inr (.inr (.inl rfl))
  have hen : e * n ≤ 8 * 1000 := Nat.mul_le_mul he hn
  refine p_call (binds := [("self", .ref b), ("elemSize", .int e te), ("numElems", .int n tn), ("alignment", .int w ta)]) S (by rfl) (by rfl) (Rm.depth R) (BindsTo.of_eq rfl) (locs rfl) (fun Lx oLx s₁ S₁ => ?_) (by decide) rfl rfl rfl
  refine n_cons ?_
  refine n_expr ?_
  refine e_meth ?_
  refine r_loc (by assumption) (by exact rfl) ?_
  refine m_assertNotNested (by assumption) ?_
  refine cw0 ?_ ?_
  exact Kp.of_K (by assumption) (kp_404 _)
  show N _ _ (call _ [_] _) _ _
  refine ct_assertNotNested (by assumption) (R.deep.le (by omega)) hnn ?_
  intro _
  intro _
  refine ⟨(by intro _ h; cases h), ?_⟩
  show N _ _ _ _ _
  refine n_cons ?_
  refine n_setattr ?_
  refine r_cbool ?_
  refine r_loc (by assumption) (by exact rfl) ?_
  (refine s_nested (by assumption) ?_; intro _ _)
  show N _ _ _ _ _
  refine n_cons ?_
  refine n_setattr ?_
  refine r_loc (by assumption) (by exact rfl) ?_
  refine r_loc (by assumption) (by exact rfl) ?_
  (refine s_vectorNumElems (by assumption) ?_; intro _ _)
  show N _ _ _ _ _
  refine n_cons ?_
  refine n_expr ?_
  refine e_meth ?_
  refine r_loc (by assumption) (by exact rfl) ?_
  refine m_Prep (by assumption) ?_
  refine cw1 ?_
  refine sp_cons ?_
  refine e_attr ?_
  refine p_glob (by assumption) (gl_Uint32Flags _) ?_ rfl rfl
  (refine a_94_bytewidth (by assumption) ?_; intro _ _)
  refine sp_cons ?_
  refine e_bin ?_
  refine r_loc (by assumption) (by exact rfl) ?_
  refine r_loc (by assumption) (by exact rfl) ?_
  refine i_mul (by assumption) (mulOk (by omega)) ?_
  intro _
  intro _
  intro _
  refine sp_nil ?_
  refine ⟨Kp.of_K (by assumption) (kp_340 _), ?_⟩
  show N _ _ (call _ [_, _, _] _) _ _
  rw [show (e : Int) * (n : Int) = ((e * n : Nat) : Int) by simp]
  refine cp_Prep (w := 4) (r := { r with nested := true, vne := some (some ((n : Int), tn)) }) (by assumption) R.deep ⟨B.ok, B.ma, B.rm⟩ hW (by omega) fun ba hd ma' buf' s₂ S₂ B₂ => ?_
  have hl := prepO_len (a := e * n) (out := out) hW
  refine ⟨(by intro _ h; cases h), ?_⟩
  show N _ _ _ _ _
  refine n_cons ?_
  refine n_expr ?_
  refine e_meth ?_
  refine r_loc (by assumption) (by exact rfl) ?_
  refine m_Prep (by assumption) ?_
  refine cw1 ?_
  refine sp_cons ?_
  refine r_loc (by assumption) (by exact rfl) ?_
  refine sp_cons ?_
  refine e_bin ?_
  refine r_loc (by assumption) (by exact rfl) ?_
  refine r_loc (by assumption) (by exact rfl) ?_
  refine i_mul (by assumption) (mulOk (by omega)) ?_
  intro _
  intro _
  intro _
  refine sp_nil ?_
  refine ⟨Kp.of_K (by assumption) (kp_340 _), ?_⟩
  show N _ _ (call _ [_, _, _] _) _ _
  rw [show (e : Int) * (n : Int) = ((e * n : Nat) : Int) by simp]
  refine cp_Prep (by assumption) R.deep B₂ hw (by omega) fun ba hd ma' buf' s₂ S₂ B₂ => ?_
  refine ⟨(by intro _ h; cases h), ?_⟩
  show N _ _ _ _ _
  refine n_cons ?_
  refine n_ret ?_
  refine e_meth ?_
  refine r_loc (by assumption) (by exact rfl) ?_
  refine m_Offset (by assumption) ?_
  refine cw0 ?_ ?_
  exact Kp.of_K (by assumption) (kp_326 _)
  show N _ _ (call _ [_] _) _ _
  refine cp_Offset (by assumption) (R.deep.le (by omega)) B₂.ok ?_
  intro _
  intro _
  intro _
  refine Back.mk (by assumption) (fun S' => ?_)
  exact h _ _ _ _ _ _ S' B₂
theorem ct_EndVector {n : Nat} {tn : Tok} (S : St y.cx L m ((b, r.obj) :: (r.ba, baObj buf) :: l) k s) (R : Rm A 3) (B : Bd r buf out room ma) (hs : out.length + 4 ≤ room) (hn : n ≤ 4000000) (hv : r.vne = some (some ((n : Int), tn))) (hnn : r.nested = true)
    (h : ∀ hd buf' t s', St y.cx L m ((b, { r with nested := false, vne := some none, head := hd }.obj) :: (r.ba, baObj buf') :: l) k s' →
      Bd { r with nested := false, vne := some none, head := hd } buf' (le 4 n ++ out) room ma → Q (.int ((le 4 n ++ out).length : Nat) t) s') :
    N y.cx A (call (.ref 369) [.ref b]) Q s := by
  refine p_call (binds := [("self", .ref b), ("numElems", .none)]) S (by rfl) (by rfl) (Rm.depth R) (binds_K (K := (hd.heap_39 y.w.params)) S.X rfl rfl rfl rfl rfl) (locs rfl) (fun Lx oLx s₁ S₁ => ?_) (by decide) rfl rfl rfl
  refine n_cons ?_
  refine n_expr ?_
  refine e_meth ?_
  refine r_loc (by assumption) (by exact rfl) ?_
  refine m_assertNested (by assumption) ?_
  refine cw0 ?_ ?_
  exact Kp.of_K (by assumption) (kp_397 _)
  show N _ _ (call _ [_] _) _ _
  refine ct_assertNested (by assumption) (R.deep.le (by omega)) hnn ?_
  intro _
  intro _
  refine ⟨(by intro _ h; cases h), ?_⟩
  show N _ _ _ _ _
  refine n_cons ?_
  refine n_setattr ?_
  refine r_cbool ?_
  refine r_loc (by assumption) (by exact rfl) ?_
  (refine s_nested (by assumption) ?_; intro _ _)
  show N _ _ _ _ _
  refine n_cons ?_
  refine n_if ?_
  refine t_plain ?_
  refine r_loc (by assumption) (by exact rfl) ?_
  refine tr_none ?_
  refine   g_no     (by       first       | rfl       | assumption)     ?_
  refine n_nil ?_
  show N _ _ _ _ _
  refine n_cons ?_
  refine n_expr ?_
  refine e_meth ?_
  refine r_loc (by assumption) (by exact rfl) ?_
  refine m_PlaceUOffsetT (by assumption) ?_
  refine cw1 ?_
  refine sp_cons ?_
  refine e_attr ?_
  refine r_loc (by assumption) (by exact rfl) ?_
  walk_at "n_leaf"
  refine sp_nil ?_
  refine ⟨Kp.of_K (by assumption) (kp_652 _), ?_⟩
  show N _ _ (call _ [_, _] _) _ _
  obtain ⟨b1, b2, b3, b4, b5⟩ := id B.ok
  refine' ct_PlaceU (r := { r with nested := false }) (out := out) (buf := buf) (room := room) (n := n) (t := tn) ?S ?R ?B ?x ?y ?z ?h
  case S => assumption
  case R => exact (R.deep.le (by omega))
  case B => exact B.ok
  case x => omega
  case y => omega
  case z => omega
  intro hd buf' s₃ S₃ B₃
  refine ⟨(by intro _ h; cases h), ?_⟩
  show N _ _ _ _ _
  refine n_cons ?_
  refine n_setattr ?_
  refine r_cnone ?_
  refine r_loc (by assumption) (by exact rfl) ?_
  (refine s_vectorNumElems0 (by assumption) ?_; intro _ _)
  show N _ _ _ _ _
  refine n_cons ?_
  refine n_ret ?_
  refine e_meth ?_
  refine r_loc (by assumption) (by exact rfl) ?_
  refine m_Offset (by assumption) ?_
  refine cw0 ?_ ?_
  exact Kp.of_K (by assumption) (kp_326 _)
  show N _ _ (call _ [_] _) _ _
  refine cp_Offset (r := { r with nested := false, head := hd, vne := some none }) (by assumption) (R.deep.le (by omega)) B₃ ?_
  intro _
  intro _
  intro _
  refine Back.mk (by assumption) (fun S' => ?_)
  exact h _ _ _ _ S' ⟨B₃, B.ma, B.rm⟩
theorem ct_Slot {i : Nat} {ti : Tok} {ca : Addr} {vs : List Value} {o : Obj} (S : St y.cx L m ((b, r.obj) :: (r.ba, baObj buf) :: (ca, o) :: l) k s) (R : Rm A 2) (B : BufOk r.head.1 buf out room) (X : LsO o vs) (hc : r.cv = some ca) (hn : r.nested = true) (hi : i < vs.length) (hz : vs.length ≤ 1000)
    (h : ∀ t o' s', St y.cx L m ((b, r.obj) :: (r.ba, baObj buf) :: (ca, o') :: l) k s' → LsO o' (vs.set i (.int ((out.length : Nat) : Int) t)) → Q .none s') :
    N y.cx A (call (.ref 418) [.ref b, .int i ti]) Q s := by
  refine p_call (binds := [("self", .ref b), ("slotnum", .int i ti)]) S (by rfl) (by rfl) (Rm.depth R) (BindsTo.of_eq rfl) (locs rfl) (fun Lx oLx s₁ S₁ => ?_) (by decide) rfl rfl rfl
  refine n_cons ?_
  refine n_expr ?_
  refine e_meth ?_
  refine r_loc (by assumption) (by exact rfl) ?_
  refine m_assertNested (by assumption) ?_
  refine cw0 ?_ ?_
  exact Kp.of_K (by assumption) (kp_397 _)
  show N _ _ (call _ [_] _) _ _
  refine ct_assertNested (by assumption) (R.deep.le (by omega)) hn ?_
  intro _
  intro _
  refine ⟨(by intro _ h; cases h), ?_⟩
  show N _ _ _ _ _
  refine n_cons ?_
  refine n_setitem ?_
  refine e_meth ?_
  refine r_loc (by assumption) (by exact rfl) ?_
  refine m_Offset (by assumption) ?_
  refine cw0 ?_ ?_
  exact Kp.of_K (by assumption) (kp_326 _)
  show N _ _ (call _ [_] _) _ _
  refine cp_Offset (by assumption) (R.deep.le (by omega)) B ?_
  intro _
  intro _
  intro _
  refine e_attr ?_
  refine r_loc (by assumption) (by exact rfl) ?_
  (refine g_current_vtable (by assumption) ?_; intro _ _)
  refine r_loc (by assumption) (by exact rfl) ?_
  rename_i S₂
  rw [hc]
  refine n_list_set X (S₂.perm ((List.Perm.cons _ (.swap _ _ _)).trans (.swap _ _ _))) hi (by omega) fun o' s₃ X' S₃ => ?_
  have S₃ := S₃.perm ((List.Perm.swap _ _ _).trans (.cons _ (.swap _ _ _)))
  show N _ _ _ _ _
  refine n_nil ?_
  refine Back.mk (by assumption) (fun S' => ?_)
  exact h _ _ _ S' X'
theorem ct_Output (S : St y.cx L m ((b, r.obj) :: (r.ba, baObj buf) :: l) k s) (R : Rm A 1) (B : BufOk r.head.1 buf out room) (hf : r.fin = true)
    (h : ∀ e s', St y.cx L m ((e, baObj out) :: (b, r.obj) :: (r.ba, baObj buf) :: l) k s' → Q (.ref e) s') : N y.cx A (call (.ref 284) [.ref b]) Q s := by
  obtain ⟨b1, b2, b3, b4, b5⟩ := id B
  refine p_call (binds := [("self", .ref b)]) S (by rfl) (by rfl) (Rm.depth R) (BindsTo.of_eq rfl) (locs rfl) (fun Lx oLx s₁ S₁ => ?_) (by decide) rfl rfl rfl
  refine n_cons ?_
  refine n_if ?_
  refine t_not ?_
  refine t_plain ?_
  refine e_attr ?_
  refine r_loc (by assumption) (by exact rfl) ?_
  (refine g_finished (by assumption) ?_; intro _ _)
  refine tr_bool ?_
  refine g_no (by rw [hf]; rfl) ?_
  refine n_nil ?_
  show N _ _ _ _ _
  refine n_cons ?_
  refine n_ret ?_
  refine e_sub ?_
  refine e_attr ?_
  refine r_loc (by assumption) (by exact rfl) ?_
  (refine g_Bytes (by assumption) ?_; intro _ _)
  refine e_slice_lo ?_
  refine e_attr ?_
  refine r_loc (by assumption) (by exact rfl) ?_
  (refine g_head (by assumption) ?_; intro _ _)
  (refine r_slice (by assumption) ?_; intro _ _ _)
  walk_at "n_leafitem"
  rename_i S₂
  refine n_ba_cut S₂ (by walk_at "in_l") (.int _ _) .none (by omega) fun e s₃ S₃ => ?_
  have ec : cutOf buf (some r.head.1) none = out := by
    have := clipAt_nat buf.length (room - out.length)
    unfold cutOf
    simp only [Option.elim, b4, this, Nat.min_eq_left (show room - out.length ≤ buf.length by omega), b5]
    exact List.take_of_length_le (by omega)
  rw [ec] at S₃
  skip
  refine Back.mk (by assumption) (fun S' => ?_)
  exact h _ _ S'
end

end Mine

end
-- PC51
section
open PySem PySem.W PySem.Calls PyProof.Rows
set_option maxRecDepth 100000
set_option linter.unusedVariables false
set_option linter.deprecated false
namespace Mine
end Mine
end
local macro_rules | `(tactic| walk_at "n_leafcall") => `(tactic| ((with_reducible show N _ _ (call (.builtin "isinstance") [.bytes _ _, .ref _]) _ _); refine k_isi (by assumption) (by rfl) (by rfl) ?_; intro _ _))
section
open PySem PySem.W PySem.Calls PyProof.Rows
set_option maxRecDepth 100000
set_option linter.unusedVariables false
set_option linter.deprecated false
namespace Mine
section
variable {y : Cy} {A : Around} {s : Shared} {L b st F d : Addr} {m : Str → Option Value} {l k : List (Addr × Obj)} {r : Raw} {Q : Value → Shared → Prop} {w : Nat} {lo hi : Int} {buf out : List UInt8} {room ma : Nat}
/-- what CreateString lays: how long, the octets, a zero, the filling -/
def strO (x out : List UInt8) : List UInt8 := le 4 x.length ++ (x ++ (le 1 0 ++ prepO 4 (x.length + 1) out))
theorem ct_CreateString {x : List UInt8} {t : Tok} (S : St y.cx L m ((b, r.obj) :: (r.ba, baObj buf) :: l) k s) (R : Rm A 4) (B : Bd r buf out room ma) (hs : out.length ≤ 3000000) (hx : x.length ≤ 500000) (hnn : r.nested = false)
    (h : ∀ ba hd ma' buf' t s', St y.cx L m ((b, ({ r with vne := some none }.at ba hd ma').obj) :: (ba, baObj buf') :: l) k s' →
      Bd ({ r with vne := some none }.at ba hd ma') buf' (strO x out) (prepR 4 (x.length + 1) out room) (max ma 4) → Q (.int ((strO x out).length : Nat) t) s') :
    N y.cx A (call (.ref 383) [.ref b, .bytes x.toArray t]) Q s := by
  have hW : Width 4 := .inr (.inr (.inl rfl))
  refine p_call (binds := [("self", .ref b), ("s", .bytes x.toArray t)]) S (by rfl) (by rfl) (Rm.depth R) (BindsTo.of_eq rfl) (locs rfl) (fun Lx oLx s₁ S₁ => ?_) (by decide) rfl rfl rfl
  refine n_cons ?_
  refine n_expr ?_
  refine e_meth ?_
  refine r_loc (by assumption) (by exact rfl) ?_
  refine m_assertNotNested (by assumption) ?_
  refine cw0 ?_ ?_
  exact Kp.of_K (by assumption) (kp_404 _)
  show N _ _ (call _ [_] _) _ _
  refine ct_assertNotNested (by assumption) (R.deep.le (by omega)) hnn ?_
  intro _
  intro _
  refine ⟨(by intro _ h; cases h), ?_⟩
  show N _ _ _ _ _
  refine n_cons ?_
  refine n_setattr ?_
  refine r_cbool ?_
  refine r_loc (by assumption) (by exact rfl) ?_
  (refine s_nested (by assumption) ?_; intro _ _)
  show N _ _ _ _ _
  refine n_cons ?_
  refine n_if ?_
  refine t_plain ?_
  refine e_call ?_
  refine p_blt (by assumption) (gb_isinstance _) (by boot_by_name) (by decide) ?_ rfl rfl
  refine cw1 ?_
  refine sp_cons ?_
  refine r_loc (by assumption) (by exact rfl) ?_
  refine sp_cons ?_
  refine p_glob (by assumption) (gl_string_types _) ?_ rfl rfl
  refine sp_nil ?_
  refine ⟨Kp.builtin, ?_⟩
  show N _ _ (call _ [_, _] _) _ _
  walk_at "n_leafcall"
  refine tr_bool ?_
  refine   g_no     (by       first       | rfl       | assumption)     ?_
  refine n_cons ?_
  refine n_if ?_
  refine t_plain ?_
  refine e_call ?_
  refine p_blt (by assumption) (gb_isinstance _) (by boot_by_name) (by decide) ?_ rfl rfl
  refine cw1 ?_
  refine sp_cons ?_
  refine r_loc (by assumption) (by exact rfl) ?_
  refine sp_cons ?_
  refine p_glob (by assumption) (gl_binary_types _) ?_ rfl rfl
  refine sp_nil ?_
  refine ⟨Kp.builtin, ?_⟩
  show N _ _ (call _ [_, _] _) _ _
  walk_at "n_leafcall"
  refine tr_bool ?_
  refine   g_yes     (by       first       | rfl       | assumption)     ?_
  refine n_cons ?_
  refine n_assign ?_
  refine r_loc (by assumption) (by exact rfl) ?_
  (refine r_st (by assumption) ?_; intro _ _)
  show N _ _ _ _ _
  refine n_nil ?_
  show N _ _ _ _ _
  refine n_nil ?_
  show N _ _ _ _ _
  refine n_cons ?_
  refine n_assign ?_
  refine e_call ?_
  refine p_blt (by assumption) (gb_len _) (by boot_by_name) (by decide) ?_ rfl rfl
  refine cw1 ?_
  refine sp_cons ?_
  refine r_loc (by assumption) (by exact rfl) ?_
  refine sp_nil ?_
  refine ⟨Kp.builtin, ?_⟩
  show N _ _ (call _ [_] _) _ _
  refine k_leny (by assumption) (by omega) ?_
  intro _ _ _
  (refine r_st (by assumption) ?_; intro _ _)
  show N _ _ _ _ _
  refine n_cons ?_
  refine n_expr ?_
  refine e_meth ?_
  refine r_loc (by assumption) (by exact rfl) ?_
  refine m_Prep (by assumption) ?_
  refine cw1 ?_
  refine sp_cons ?_
  refine e_attr ?_
  refine p_glob (by assumption) (gl_UOffsetTFlags _) ?_ rfl rfl
  (refine a_148_bytewidth (by assumption) ?_; intro _ _)
  refine sp_cons ?_
  refine e_bin ?_
  refine e_bin ?_
  refine r_loc (by assumption) (by exact rfl) ?_
  (refine r_cint (by assumption) ?_; intro _ _ _)
  (refine i_add (by assumption) ?_; intro _ _ _)
  refine e_attr ?_
  refine p_glob (by assumption) (gl_Uint8Flags _) ?_ rfl rfl
  (refine a_66_bytewidth (by assumption) ?_; intro _ _)
  refine i_mul (by assumption) (mulOk (by decide)) ?_
  intro _
  intro _
  intro _
  refine sp_nil ?_
  refine ⟨Kp.of_K (by assumption) (kp_340 _), ?_⟩
  show N _ _ (call _ [_, _, _] _) _ _
  rw [show ((x.length : Nat) : Int) + 1 = ((x.length + 1 : Nat) : Int) by omega, Int.mul_one]
  refine cp_Prep (w := 4) (r := { r with nested := true }) (by assumption) (R.deep.le (by omega)) ⟨B.ok, B.ma, B.rm⟩ hW (by omega) fun ba hd ma' buf' s₂ S₂ B₂ => ?_
  have hg := prepR_ge (w := 4) (a := x.length + 1) (out := out) (room := room)
  refine ⟨(by intro _ h; cases h), ?_⟩
  show N _ _ _ _ _
  refine n_cons ?_
  refine n_expr ?_
  refine e_meth ?_
  refine r_loc (by assumption) (by exact rfl) ?_
  refine m_Place (by assumption) ?_
  refine cw1 ?_
  refine sp_cons ?_
  (refine r_cint (by assumption) ?_; intro _ _ _)
  refine sp_cons ?_
  refine p_glob (by assumption) (gl_Uint8Flags _) ?_ rfl rfl
  refine sp_nil ?_
  refine ⟨Kp.of_K (by assumption) (kp_631 _), ?_⟩
  show N _ _ (call _ [_, _, _] _) _ _
  refine ct_Place fl_Uint8Flags (r := { r with nested := true }.at ba hd ma') (out := prepO 4 (x.length + 1) out) (by assumption) (R.deep.le (by omega)) B₂.ok (by omega) (by decide) (by decide) fun hd2 buf2 s₃ S₃ B₃ => ?_
  have hl1 := le_length 1 0
  obtain ⟨b1, b2, b3, b4, b5⟩ := id B₃
  have hlo : (le 1 0 ++ prepO 4 (x.length + 1) out).length = 1 + (prepO 4 (x.length + 1) out).length := by rw [List.length_append, hl1]
  refine ⟨(by intro _ h; cases h), ?_⟩
  show N _ _ _ _ _
  refine n_cons ?_
  refine n_assign ?_
  refine e_bin ?_
  refine e_attr ?_
  refine r_loc (by assumption) (by exact rfl) ?_
  (refine g_head (by assumption) ?_; intro _ _)
  refine r_loc (by assumption) (by exact rfl) ?_
  (refine i_sub (by assumption) ?_; intro _ _ _)
  (refine r_st (by assumption) ?_; intro _ _)
  show N _ _ _ _ _
  refine n_cons ?_
  refine n_setattr ?_
  refine r_loc (by assumption) (by exact rfl) ?_
  refine r_loc (by assumption) (by exact rfl) ?_
  (refine s_head (by assumption) ?_; intro _ _)
  show N _ _ _ _ _
  refine n_cons ?_
  refine n_setitem ?_
  refine r_loc (by assumption) (by exact rfl) ?_
  refine e_attr ?_
  refine r_loc (by assumption) (by exact rfl) ?_
  (refine g_Bytes (by assumption) ?_; intro _ _)
  refine e_slice_lu ?_
  refine r_loc (by assumption) (by exact rfl) ?_
  refine e_bin ?_
  refine r_loc (by assumption) (by exact rfl) ?_
  refine r_loc (by assumption) (by exact rfl) ?_
  (refine i_add (by assumption) ?_; intro _ _ _)
  (refine r_slice (by assumption) ?_; intro _ _ _)
  refine put_b R.g (by assumption) (by dsimp only; omega) (by dsimp only) (by dsimp only; omega) (by omega) fun s₄ S₄ => ?_
  have B₄ := B₃.push (x := x) (hd' := hd2.1 - x.length) (by omega) rfl
  have hlx : (x ++ (le 1 0 ++ prepO 4 (x.length + 1) out)).length = x.length + (1 + (prepO 4 (x.length + 1) out).length) := by rw [List.length_append, hlo]
  show N _ _ _ _ _
  refine n_cons ?_
  refine n_setattr ?_
  refine r_loc (by assumption) (by exact rfl) ?_
  refine r_loc (by assumption) (by exact rfl) ?_
  (refine s_vectorNumElems (by assumption) ?_; intro _ _)
  show N _ _ _ _ _
  refine n_cons ?_
  refine n_ret ?_
  refine e_meth ?_
  refine r_loc (by assumption) (by exact rfl) ?_
  refine m_EndVector (by assumption) ?_
  refine cw0 ?_ ?_
  exact Kp.of_K (by assumption) (kp_369 _)
  show N _ _ (call _ [_] _) _ _
  rename_i S₅
  refine ct_EndVector (n := x.length) (tn := _) (r := _) S₅ (R.deep.le (by omega)) ⟨B₄, B₂.ma, B₂.rm⟩ (by omega) (by omega) rfl rfl fun hd3 buf3 t3 s₅ S₆ B₅ => ?_
  skip
  refine Back.mk (by assumption) (fun S' => ?_)
  exact h _ _ _ _ _ _ (hnn ▸ S') (hnn ▸ B₅)
end

end Mine

end
-- PC61
section
open PySem PySem.W PySem.Calls PyProof.Rows
set_option maxRecDepth 100000
set_option linter.unusedVariables false
set_option linter.deprecated false
namespace Mine
section
variable {y : Cy} {A : Around} {s : Shared} {L b st F d : Addr} {m : Str → Option Value} {l k : List (Addr × Obj)} {r : Raw} {Q : Value → Shared → Prop} {w : Nat} {lo hi : Int} {buf out : List UInt8} {room ma : Nat}
theorem ct_StartObject {n : Nat} {tn : Tok} (S : St y.cx L m ((b, r.obj) :: (r.ba, baObj buf) :: l) k s) (R : Rm A 2) (B : BufOk r.head.1 buf out room) (hn : n ≤ 200) (hnn : r.nested = false)
    (h : ∀ ca o vs t s', LsO o vs → IntsAre vs (List.replicate n 0) → St y.cx L m ((b, { r with cv := some ca, oe := some ((out.length : Nat), t), nested := true }.obj) :: (r.ba, baObj buf) :: (ca, o) :: l) k s' → Q .none s') :
    N y.cx A (call (.ref 291) [.ref b, .int n tn]) Q s := by
  refine p_call (binds := [("self", .ref b), ("numfields", .int n tn)]) S (by rfl) (by rfl) (Rm.depth R) (BindsTo.of_eq rfl) (locs rfl) (fun Lx oLx s₁ S₁ => ?_) (by decide) rfl rfl rfl
  refine n_cons ?_
  refine n_expr ?_
  refine e_meth ?_
  refine r_loc (by assumption) (by exact rfl) ?_
  refine m_assertNotNested (by assumption) ?_
  refine cw0 ?_ ?_
  exact Kp.of_K (by assumption) (kp_404 _)
  show N _ _ (call _ [_] _) _ _
  refine ct_assertNotNested (by assumption) (R.deep.le (by omega)) hnn ?_
  intro _
  intro _
  refine ⟨(by intro _ h; cases h), ?_⟩
  show N _ _ _ _ _
  refine n_cons ?_
  refine n_setattr ?_
  refine e_bin ?_
  refine e_list ?_
  refine sp_cons ?_
  (refine r_cint (by assumption) ?_; intro _ _ _)
  refine sp_nil ?_
  rename_i t0 _ _
  refine k_newlist (by assumption) (by simp) fun d s₂ S₂ => ?_
  have S₂ := S₂.under
  show N _ _ _ _ _
  refine r_loc (by assumption) (by exact rfl) ?_
  refine k_listmul LsO.of (by assumption) (by walk_at "in_l") (by simp; omega) (by omega) fun e s₃ S₃ => ?_
  have S₃ := S₃.under
  show N _ _ _ _ _
  refine r_loc (by assumption) (by exact rfl) ?_
  (refine s_current_vtable (by assumption) ?_; intro _ _)
  show N _ _ _ _ _
  refine n_cons ?_
  refine n_setattr ?_
  refine e_meth ?_
  refine r_loc (by assumption) (by exact rfl) ?_
  refine m_Offset (by assumption) ?_
  refine cw0 ?_ ?_
  exact Kp.of_K (by assumption) (kp_326 _)
  show N _ _ (call _ [_] _) _ _
  refine cp_Offset (r := { r with cv := some e }) (by assumption) (R.deep.le (by omega)) B ?_
  intro _
  intro _
  intro _
  refine r_loc (by assumption) (by exact rfl) ?_
  (refine s_objectEnd (by assumption) ?_; intro _ _)
  show N _ _ _ _ _
  refine n_cons ?_
  refine n_setattr ?_
  refine r_cbool ?_
  refine r_loc (by assumption) (by exact rfl) ?_
  (refine s_nested (by assumption) ?_; intro _ _)
  show N _ _ _ _ _
  refine n_nil ?_
  refine Back.mk (by assumption) (fun S' => ?_)
  have S' := S'.sub (.cons_cons _ (.cons_cons _ (.cons_cons _ (.cons _ (.refl _)))))
  refine h _ _ (List.replicate n (.int 0 t0)) _ _ ?_ (ints_rep n) S'
  rw [List.flatten_replicate_singleton]
  exact LsO.of

end
end Mine
end
local macro_rules | `(tactic| walk_at "n_leafcall") => `(tactic| ((with_reducible show N _ _ (call (.type "int") [.int _ _]) _ _); refine k_int ?_))
section
open PySem PySem.W PySem.Calls PyProof.Rows
set_option maxRecDepth 100000
set_option linter.unusedVariables false
set_option linter.deprecated false
namespace Mine
end Mine
end
local macro_rules | `(tactic| walk_at "n_leaf") => `(tactic| ((with_reducible show N _ _ (getMethod _ (PySem.Str.ofString "append") _) _ _); refine k_append_meth (by assumption) (by walk_at "in_l6") ?_))
section
open PySem PySem.W PySem.Calls PyProof.Rows
set_option maxRecDepth 100000
set_option linter.unusedVariables false
set_option linter.deprecated false
namespace Mine

end Mine

end
-- PC71
section
open PySem PySem.W PySem.Calls PyProof.Rows
set_option maxRecDepth 100000
set_option linter.unusedVariables false
set_option linter.deprecated false
namespace Mine
/-- the bytes behind RelS0: the offset's room, ahead of it the filling and what stood -/
def soO (out : List UInt8) : List UInt8 := le 4 ((prepO 4 0 out).length + 4 : Nat) ++ prepO 4 0 out
/-- a new vtable ahead, and the way to it -/
def vtNew (oo oe : Nat) (ns : List Int) (p : List UInt8 × Nat) : List UInt8 × Nat :=
  let q := stepV (stepV (ns.foldl stepV p) ((oo : Int) - oe)) ((2 * (ns.length + 2) : Nat) : Int)
  (over q.1 (q.1.length - oo) (le 4 ((q.1.length : Int) - oo)), q.2)
section
variable {c : Cx} {A : Around} {s : Shared} {L d a e : Addr} {m : Str → Option Value} {l k : List (Addr × Obj)} {o : Obj}
/-- a new key, the keys standing in a part of the ledger -/
theorem k_vsetP {to : Obj} {ns : List Int} {v : Value} {l0 : List (Addr × Obj)} {xs : List (List Int × Addr × Value)} {Q : Unit → Shared → Prop} (V : VtO c l0 o d xs) (hsub : ∀ p ∈ l0, p ∈ l) (T : TupO to ns) (S : St c L m ((d, o) :: l) k s) (ht : (e, to) ∈ l0) (hu : A.units + 8 < cLine) (hz : xs.length ≤ 1000000) (hn : atKey xs ns = none)
    (h : ∀ o' s', VtO c l0 o' d (xs ++ [(ns, e, v)]) → St c L m ((d, o') :: l) k s' → Q () s') : N c A (setItem (.ref d) (.ref e) v) Q s := by
  have hD := (V.sub (l' := (d, o) :: l) fun p hp => .tail _ (hsub p hp)).dict S (.head _)
  obtain ⟨tc, items, n, td, ti⟩ := T
  refine N.of (wpAny_setItem_heap (knd := tupleKind (intKind c.prog c.w)) (by show A.units + 1 < _; omega) ⟨to, items, n, S.get (.tail _ (hsub _ ht)), tc, td, ti c⟩ hD (fun h' hd hs => ?_) (by rw [sizeLine_eq]; omega))
  obtain ⟨o', es, ep, ho', hex, hda, hes, hk, hnd⟩ := hd
  rw [storedH_new hn] at hes hk hnd
  refine h o' _ ⟨V.lo, hex, ⟨es, ep, hda, hes⟩, fun x hx => ?_, hnd⟩ (S.same (tk := _) hs ho' (noInst hex.1))
  rcases List.mem_append.mp hx with q | q
  · exact V.ks x q
  · rw [List.mem_singleton.mp q]
    exact ⟨to, items, n, ht, tc, td, ti c⟩
theorem St.up4 {p q z v w : Addr × Obj} (S : St c L m (p :: q :: z :: v :: w :: l) k s) : St c L m (w :: p :: q :: z :: v :: l) k s := S.perm ((List.perm_middle (l₁ := [p, q, z, v])))
theorem St.down4 {p q z v w : Addr × Obj} (S : St c L m (w :: p :: q :: z :: v :: l) k s) : St c L m (p :: q :: z :: v :: w :: l) k s := S.perm ((List.perm_middle (l₁ := [p, q, z, v])).symm)
end
section
variable {y : Cy} {A : Around} {s : Shared} {L b st F d : Addr} {m : Str → Option Value} {l k : List (Addr × Obj)} {r : Raw} {Q : Value → Shared → Prop} {w : Nat} {lo hi : Int} {buf out : List UInt8} {room ma : Nat}
set_option maxHeartbeats 4000000 in
theorem ct_WriteVtable {ca : Addr} {o : Obj} {vs : List Value} {cvs : List Int} {oe : Nat} {te : Tok} {od : Obj} {xs : List (List Int × Addr × Value)} {oo : Nat}
    (S : St y.cx L m ((b, r.obj) :: (r.ba, baObj buf) :: (ca, o) :: (r.vt, od) :: l) k s) (R : Rm A 6) {l0 : List (Addr × Obj)} (V : VtO y.cx l0 od r.vt xs) (hl0 : ∀ p ∈ l0, p ∈ l) (B : Bd r buf out room ma) (hs : out.length ≤ 1000000) (hc : r.cv = some ca) (ho : r.oe = some ((oe : Int), te)) (X : LsO o vs) (hi : IntsAre vs cvs) (hvl : cvs.length ≤ 200)
    (hoo : oo = (prepO 4 0 out).length + 4) (hoe : oe ≤ oo) (hos : oo - oe ≤ 60000) (hcv : ∀ e ∈ cvs, 0 ≤ e ∧ e ≤ oo ∧ (e ≠ 0 → (oo : Int) - e ≤ 60000))
    (hxs : xs.length ≤ 1000) (hxv : ∀ x ∈ xs, ∃ (d : Nat) (t : Tok), x.2.2 = .int d t ∧ d ≤ out.length)
    (hN : atKey xs (keyL cvs oo ++ [(oo : Int) - oe]) = none → ∀ ba hd ma' buf' tt to od' t t' s', St y.cx L m ((b, { r.at ba hd ma' with cv := none }.obj) :: (ba, baObj buf') :: (r.vt, od') :: (tt, to) :: l) k s' →
      VtO y.cx ((tt, to) :: l0) od' r.vt (xs ++ [(keyL cvs oo ++ [(oo : Int) - oe], tt, .int (vtNew oo oe (keyL cvs oo) (soO out, prepR 4 0 out room)).1.length t')]) →
      Bd { r.at ba hd ma' with cv := none } buf' (vtNew oo oe (keyL cvs oo) (soO out, prepR 4 0 out room)).1 (vtNew oo oe (keyL cvs oo) (soO out, prepR 4 0 out room)).2 (max ma 4) → Q (.int oo t) s')
    (hF : ∀ (a : Addr) (d : Nat) (td : Tok), atKey xs (keyL cvs oo ++ [(oo : Int) - oe]) = some (a, .int d td) → ∀ ba hd ma' buf' t s', St y.cx L m ((b, { r.at ba hd ma' with cv := none }.obj) :: (ba, baObj buf') :: (r.vt, od) :: l) k s' →
      Bd { r.at ba hd ma' with cv := none } buf' (over (soO out) 0 (le 4 ((d : Int) - oo))) (prepR 4 0 out room) (max ma 4) → Q (.int oo t) s') :
    N y.cx A (call (.ref 298) [.ref b]) Q s := by
  refine p_call (binds := [("self", .ref b)]) S (by rfl) (by rfl) (Rm.depth R) (BindsTo.of_eq rfl) (locs rfl) (fun Lx oLx s₁ S₁ => ?_) (by decide) rfl rfl rfl
  refine n_cons ?_
  refine n_expr ?_
  refine e_meth ?_
  refine r_loc (by assumption) (by exact rfl) ?_
  refine m_PrependSOffsetTRelative (by assumption) ?_
  refine cw1 ?_
  refine sp_cons ?_
  (refine r_cint (by assumption) ?_; intro _ _ _)
  refine sp_nil ?_
  refine ⟨Kp.of_K (by assumption) (kp_347 _), ?_⟩
  show N _ _ (call _ [_, _] _) _ _
  refine ct_RelS0 (by assumption) (R.deep.le (by omega)) B (by omega) fun ba hd ma' buf' s₂ S₂ B₂ => ?_
  have hlo : (le 4 ((prepO 4 0 out).length + 4 : Nat) ++ prepO 4 0 out).length = oo := by rw [List.length_append, le_length]; omega
  have hl40 := (prepO_len (w := 4) (a := 0) (out := out) (.inr (.inr (.inl rfl)))).2
  refine ⟨(by intro _ h; cases h), ?_⟩
  show N _ _ _ _ _
  refine n_cons ?_
  refine n_assign ?_
  refine e_meth ?_
  refine r_loc (by assumption) (by exact rfl) ?_
  refine m_Offset (by assumption) ?_
  refine cw0 ?_ ?_
  exact Kp.of_K (by assumption) (kp_326 _)
  show N _ _ (call _ [_] _) _ _
  refine cp_Offset (r := r.at ba hd ma') (by assumption) (R.deep.le (by omega)) B₂.ok ?_
  rw [hlo]
  intro _
  intro _
  intro _
  (refine r_st (by assumption) ?_; intro _ _)
  show N _ _ _ _ _
  refine n_cons ?_
  refine n_assign ?_
  refine e_list ?_
  refine sp_nil ?_
  rename_i too _ _ _ _
  refine k_newlist (by assumption) (by decide) fun kd s₃ S₃ => ?_
  have S₃ := S₃.under
  show N _ _ _ _ _
  (refine r_st (by assumption) ?_; intro _ _)
  show N _ _ _ _ _
  refine n_cons ?_
  refine n_assign ?_
  refine r_cbool ?_
  (refine r_st (by assumption) ?_; intro _ _)
  show N _ _ _ _ _
  refine n_cons ?_
  refine n_for ?_
  refine e_call ?_
  refine p_blt (by assumption) (gb_reversed _) (by boot_by_name) (by decide) ?_ rfl rfl
  refine cw1 ?_
  refine sp_cons ?_
  refine e_attr ?_
  refine r_loc (by assumption) (by exact rfl) ?_
  (refine g_current_vtable (by assumption) ?_; intro _ _)
  refine sp_nil ?_
  refine ⟨Kp.type, ?_⟩
  show N _ _ (call _ [_] _) _ _
  rw [hc]
  refine k_reversed X (by assumption) (by walk_at "in_l") fun it s₄ S₄ => ?_
  have S₄ := S₄.under
  show N _ _ _ _ _
  refine k_iter_rev (d := ca) ⟨rfl, rfl⟩ (by assumption) (by walk_at "in_l") ?_
  have hvc : vs.length = cvs.length := hi.length
  refine NC.for_ind (fun n s' => ∃ (io : Obj) (m' : Str → Option Value) (ks : List Value) (ns : List Int) (nk : Nat) (tr : Bool) (tq : Tok), RevO io ca ((n : Int) - 1) ∧ n ≤ cvs.length ∧
    St y.cx Lx m' ((b, (r.at ba hd ma').obj) :: (ba, baObj buf') :: (it, io) :: (kd, W.listOf ks.toArray nk) :: (ca, o) :: (r.vt, od) :: l) ((L, oLx) :: k) s' ∧
    m' "self" = some (.ref b) ∧ m' "objectOffset" = some (.int ((oo : Nat) : Int) tq) ∧ m' "vtKey" = some (.ref kd) ∧ m' "trim" = some (.bool tr) ∧ IntsAre ks ns ∧ (tr, ns) = (cvs.reverse.take (cvs.length - n)).foldl (stepK oo) (true, []) ∧ ks.length ≤ cvs.length - n) ?_ cvs.length _
    ⟨revObj ca ((vs.length : Int) - 1), _, [], [], _, _, _, ⟨rfl, by rw [← hvc]; rfl⟩, Nat.le_refl _, by assumption, by exact rfl, by exact rfl, by exact rfl, by exact rfl, .nil, by rw [Nat.sub_self]; rfl, by simp⟩
  rintro n s₅ ⟨io, m', ks, ns, nk, tr, tq, Y, hn, S₅, e1, e2, e3, e4, hks, hst, hkl⟩
  cases n with
  | zero =>
    have S₅' := S₅.over
    refine k_next_rev_end Y S₅' R.h fun s₆ S₆ => ?_
    have hkey : keyL cvs oo = ns := by
      unfold keyL
      rw [Nat.sub_zero, List.take_of_length_le (by simp)] at hst
      rw [← hst]
    show N _ _ _ _ _
    refine n_cons ?_
    refine n_assign ?_
    refine e_meth ?_
    refine p_glob (by assumption) (gl_UOffsetTFlags _) ?_ rfl rfl
    (refine y_148 (by assumption) ?_; intro _ _)
    refine cw1 ?_
    refine sp_cons ?_
    refine e_bin ?_
    refine r_loc (by assumption) (by exact e2) ?_
    refine e_attr ?_
    refine r_loc (by assumption) (by exact e1) ?_
    (refine g_objectEnd (by assumption) ?_; intro _ _)
    dsimp only
    rw [ho]
    dsimp only [intO]
    (refine i_sub (by assumption) ?_; intro _ _ _)
    refine sp_nil ?_
    refine ⟨Kp.type, ?_⟩
    show N _ _ (call _ [_] _) _ _
    walk_at "n_leafcall"
    (refine r_st (by assumption) ?_; intro _ _)
    refine n_cons ?_
    refine n_expr ?_
    refine e_meth ?_
    refine r_loc (by assumption) (by exact e3) ?_
    walk_at "n_leaf"
    refine cw1 ?_
    refine sp_cons ?_
    refine r_loc (by assumption) (by exact rfl) ?_
    refine sp_nil ?_
    refine ⟨Kp.builtin, ?_⟩
    show N _ _ (call _ [_, _] _) _ _
    rename_i S₇
    refine k_append (S₇.over) (by omega) fun s₈ S₈ => ?_
    have S₈ := S₈.under
    refine ⟨(by intro _ h; cases h), ?_⟩
    show N _ _ _ _ _
    refine n_cons ?_
    refine n_assign ?_
    refine e_call ?_
    refine p_blt (by assumption) (gb_tuple _) (by boot_by_name) (by decide) ?_ rfl rfl
    refine cw1 ?_
    refine sp_cons ?_
    refine r_loc (by assumption) (by exact e3) ?_
    refine sp_nil ?_
    refine ⟨Kp.type, ?_⟩
    show N _ _ (call _ [_] _) _ _
    refine k_tuple LsO.of (by assumption) (by walk_at "in_l") (by simp; omega) fun tt s₉ S₉ => ?_
    have S₉ := S₉.under
    show N _ _ _ _ _
    (refine r_st (by assumption) ?_; intro _ _)
    show N _ _ _ _ _
    refine n_cons ?_
    refine n_assign ?_
    refine e_meth ?_
    refine e_attr ?_
    refine r_loc (by assumption) (by exact e1) ?_
    (refine g_vtables (by assumption) ?_; intro _ _)
    refine k_dict_meth (by assumption) (by walk_at "in_l6") V.ex ?_
    refine cw1 ?_
    refine sp_cons ?_
    refine r_loc (by assumption) (by exact rfl) ?_
    refine sp_nil ?_
    refine ⟨Kp.builtin, ?_⟩
    show N _ _ (call _ [_, _] _) _ _
    rename_i tz _ _ _ _ _ _ _ _ _
    have hT := tupO_of (hks.append (IntsAre.cons ((oo : Int) - oe) tz .nil))
    rename_i S₁₀
    have S₁₀ := S₁₀.sub (.cons_cons _ (.cons_cons _ (.cons_cons _ (.cons _ (.refl _)))))
    refine k_vget (d := r.vt) (o := od) (V.sub (l' := _) (fun p hp => .tail _ (.tail _ (.tail _ (.tail _ (.tail _ (hl0 p hp))))))) hT S₁₀ (by walk_at "in_l6") (by walk_at "in_l6") (by have := R.u; show A.units + 3 + 8 < _; omega) fun s₁₁ S₁₁ => ?_
    rcases hat : atKey xs (ns ++ [(oo : Int) - oe]) with _ | pp
    · dsimp only [Option.map_none, Option.getD_none]
      (refine r_st (by assumption) ?_; intro _ _)
      refine n_cons ?_
      refine n_if ?_
      refine t_cmp ?_
      refine r_loc (by assumption) (by exact rfl) ?_
      refine r_cnone ?_
      refine c_is (by rfl) ?_
      refine tr_bool ?_
      refine   g_yes     (by       first       | rfl       | assumption)     ?_
      refine n_cons ?_
      refine n_assign ?_
      refine e_bin ?_
      refine e_call ?_
      refine p_blt (by assumption) (gb_len _) (by boot_by_name) (by decide) ?_ rfl rfl
      refine cw1 ?_
      refine sp_cons ?_
      refine e_attr ?_
      refine r_loc (by assumption) (by exact e1) ?_
      (refine g_current_vtable (by assumption) ?_; intro _ _)
      refine sp_nil ?_
      refine ⟨Kp.builtin, ?_⟩
      show N _ _ (call _ [_] _) _ _
      rw [hc]
      refine k_lenlist X (by assumption) (by walk_at "in_l6") (by omega) ?_
      intro _
      intro _
      intro _
      (refine r_cint (by assumption) ?_; intro _ _ _)
      (refine i_sub (by assumption) ?_; intro _ _ _)
      (refine r_st (by assumption) ?_; intro _ _)
      show N _ _ _ _ _
      refine n_cons ?_
      refine n_assign ?_
      (refine r_cint (by assumption) ?_; intro _ _ _)
      (refine r_st (by assumption) ?_; intro _ _)
      show N _ _ _ _ _
      refine n_cons ?_
      refine n_assign ?_
      refine r_cbool ?_
      (refine r_st (by assumption) ?_; intro _ _)
      show N _ _ _ _ _
      refine n_cons ?_
      refine n_while ?_
      refine NC.whl_ind (fun n s' => ∃ (m' : Str → Option Value) (ns' : List Int) (tr : Bool) (ba₁ : Addr) (hd₁ ma₁ : Int × Tok) (buf₁ : List UInt8) (iv tv : Int) (t1 t2 t3 t4 : Tok), n ≤ cvs.length ∧
        St y.cx Lx m' ((b, (r.at ba₁ hd₁ ma₁).obj) :: (ba₁, baObj buf₁) :: (tt, { cls := .type "tuple", data := .seq (ks ++ [Value.int ((oo : Int) - oe) tz]).toArray }) :: (ca, o) :: (r.vt, od) :: l) ((L, oLx) :: k) s' ∧
        Bd (r.at ba₁ hd₁ ma₁) buf₁ (ns'.foldl stepV (le 4 ((prepO 4 0 out).length + 4 : Nat) ++ prepO 4 0 out, prepR 4 0 out room)).1 (ns'.foldl stepV (le 4 ((prepO 4 0 out).length + 4 : Nat) ++ prepO 4 0 out, prepR 4 0 out room)).2 (max ma 4) ∧
        m' "self" = some (.ref b) ∧ m' "objectOffset" = some (.int ((oo : Nat) : Int) t1) ∧ m' "objectSize" = some (.int ((oo : Int) - oe) t2) ∧ m' "vtKey" = some (.ref tt) ∧ m' "i" = some (.int iv t3) ∧ m' "trailing" = some (.int tv t4) ∧ m' "trim" = some (.bool tr) ∧
        iv = (n : Int) - 1 ∧ tv = (cvs.length : Int) - n - ns'.length ∧ (tr, ns') = (cvs.reverse.take (cvs.length - n)).foldl (stepK oo) (true, []) ∧ ns'.length ≤ cvs.length - n ∧
        (ns'.foldl stepV (le 4 ((prepO 4 0 out).length + 4 : Nat) ++ prepO 4 0 out, prepR 4 0 out room)).1.length ≤ oo + 3 * ns'.length ∧ oo ≤ (ns'.foldl stepV (le 4 ((prepO 4 0 out).length + 4 : Nat) ++ prepO 4 0 out, prepR 4 0 out room)).1.length) ?_ cvs.length _
        ⟨_, [], true, ba, hd, ma', buf', _, _, _, _, _, _, Nat.le_refl _, by assumption, B₂, by exact e1, by exact e2, by exact rfl, by exact rfl, by exact rfl, by exact rfl, by exact rfl, by omega, by simp, by rw [Nat.sub_self]; rfl, by simp, by simp only [List.foldl_nil]; omega, by simp only [List.foldl_nil]; omega⟩
      rintro n s₁₂ ⟨m₂, ns', tr', ba₁, hd₁, ma₁, buf₁, iv, tv, t1, t2, t3, t4, hn', S₁₂, B₃, e1, e2, e3, e4, e5, e6, e7, hiv, htv, hst', hnl', hlu, hll⟩
      subst hiv htv
      refine t_cmp ?_
      refine r_loc (by assumption) (by exact e5) ?_
      (refine r_cint (by assumption) ?_; intro _ _ _)
      refine c_ge ?_
      refine tr_bool ?_
      cases n with
      | zero =>
        refine g_no (by decide) ?_
        refine n_nil ?_
        show N _ _ _ _ _
        refine n_cons ?_
        refine n_expr ?_
        refine e_meth ?_
        refine r_loc (by assumption) (by exact e1) ?_
        refine m_PrependVOffsetT (by assumption) ?_
        refine cw1 ?_
        refine sp_cons ?_
        refine e_meth ?_
        refine p_glob (by assumption) (gl_VOffsetTFlags _) ?_ rfl rfl
        (refine y_160 (by assumption) ?_; intro _ _)
        refine cw1 ?_
        refine sp_cons ?_
        refine r_loc (by assumption) (by exact e3) ?_
        refine sp_nil ?_
        refine ⟨Kp.type, ?_⟩
        show N _ _ (call _ [_] _) _ _
        walk_at "n_leafcall"
        refine sp_nil ?_
        refine ⟨Kp.of_K (by assumption) (kp_624 _), ?_⟩
        show N _ _ (call _ [_, _] _) _ _
        have hmm : max (max ma 4) 2 = max ma 4 := by omega
        obtain ⟨F, hF0⟩ : ∃ F, F = ns'.foldl stepV (le 4 ((prepO 4 0 out).length + 4 : Nat) ++ prepO 4 0 out, prepR 4 0 out room) := ⟨_, rfl⟩
        rw [← hF0] at B₃ hlu hll
        refine ct_PrependV (r := r.at ba₁ hd₁ ma₁) (by assumption) (R.deep.le (by omega)) B₃ (by omega) (by omega) (by omega) fun ba₂ hd₂ ma₂ buf₂ s₁₃ S₁₃ B₄ => ?_
        rw [hmm] at B₄
        obtain ⟨F1, hF1⟩ : ∃ F1, F1 = stepV F ((oo : Int) - oe) := ⟨_, rfl⟩
        have B₄ : Bd ((r.at ba₁ hd₁ ma₁).at ba₂ hd₂ ma₂) buf₂ F1.1 F1.2 (max ma 4) := by rw [hF1]; exact B₄
        have hl4 := stepV_len (p := F) (off := (oo : Int) - oe)
        rw [← hF1] at hl4
        refine ⟨(by intro _ h; cases h), ?_⟩
        show N _ _ _ _ _
        refine n_cons ?_
        refine n_assign ?_
        refine e_bin ?_
        refine e_bin ?_
        refine e_call ?_
        refine p_blt (by assumption) (gb_len _) (by boot_by_name) (by decide) ?_ rfl rfl
        refine cw1 ?_
        refine sp_cons ?_
        refine e_attr ?_
        refine r_loc (by assumption) (by exact e1) ?_
        (refine g_current_vtable (by assumption) ?_; intro _ _)
        refine sp_nil ?_
        refine ⟨Kp.builtin, ?_⟩
        show N _ _ (call _ [_] _) _ _
        rw [hc]
        refine k_lenlist X (by assumption) (by walk_at "in_l6") (by omega) ?_
        intro _
        intro _
        intro _
        refine r_loc (by assumption) (by exact e6) ?_
        (refine i_sub (by assumption) ?_; intro _ _ _)
        refine p_glob (by assumption) (gl_VtableMetadataFields _) ?_ rfl rfl
        (refine i_add (by assumption) ?_; intro _ _ _)
        (refine r_st (by assumption) ?_; intro _ _)
        show N _ _ _ _ _
        refine n_cons ?_
        refine n_aug ?_
        refine r_ldn (by assumption) (by exact rfl) ?_
        refine e_attr ?_
        refine p_glob (by assumption) (gl_VOffsetTFlags _) ?_ rfl rfl
        (refine a_160_bytewidth (by assumption) ?_; intro _ _)
        refine ii_mul (by assumption) (mulOk (by decide)) ?_
        intro _
        intro _
        intro _
        (refine r_st (by assumption) ?_; intro _ _)
        show N _ _ _ _ _
        refine n_cons ?_
        refine n_expr ?_
        refine e_meth ?_
        refine r_loc (by assumption) (by exact e1) ?_
        refine m_PrependVOffsetT (by assumption) ?_
        refine cw1 ?_
        refine sp_cons ?_
        refine e_meth ?_
        refine p_glob (by assumption) (gl_VOffsetTFlags _) ?_ rfl rfl
        (refine y_160 (by assumption) ?_; intro _ _)
        refine cw1 ?_
        refine sp_cons ?_
        refine r_loc (by assumption) (by exact rfl) ?_
        refine sp_nil ?_
        refine ⟨Kp.type, ?_⟩
        show N _ _ (call _ [_] _) _ _
        walk_at "n_leafcall"
        refine sp_nil ?_
        refine ⟨Kp.of_K (by assumption) (kp_624 _), ?_⟩
        show N _ _ (call _ [_, _] _) _ _
        rw [show ((vs.length : Int) - ((cvs.length : Int) - ((0 : Nat) : Int) - (ns'.length : Int)) + 2) * 2 = ((2 * (ns'.length + 2) : Nat) : Int) by omega]
        refine ct_PrependV (r := r.at ba₂ hd₂ ma₂) (by assumption) (R.deep.le (by omega)) B₄ (by omega) (by omega) (by omega) fun ba₃ hd₃ ma₃ buf₃ s₁₄ S₁₄ B₅ => ?_
        rw [hmm] at B₅
        obtain ⟨F2, hF2⟩ : ∃ F2, F2 = stepV F1 ((2 * (ns'.length + 2) : Nat) : Int) := ⟨_, rfl⟩
        have B₅ : Bd ((r.at ba₂ hd₂ ma₂).at ba₃ hd₃ ma₃) buf₃ F2.1 F2.2 (max ma 4) := by rw [hF2]; exact B₅
        have hl6 := stepV_len (p := F1) (off := ((2 * (ns'.length + 2) : Nat) : Int))
        rw [← hF2] at hl6
        obtain ⟨b1, b2, b3, b4, b5⟩ := id B₅.ok
        have b6 := B₅.rm
        refine ⟨(by intro _ h; cases h), ?_⟩
        show N _ _ _ _ _
        refine n_cons ?_
        refine n_assign ?_
        refine e_meth ?_
        refine p_glob (by assumption) (gl_SOffsetTFlags _) ?_ rfl rfl
        (refine y_136 (by assumption) ?_; intro _ _)
        refine cw1 ?_
        refine sp_cons ?_
        refine e_bin ?_
        refine e_call ?_
        refine p_blt (by assumption) (gb_len _) (by boot_by_name) (by decide) ?_ rfl rfl
        refine cw1 ?_
        refine sp_cons ?_
        refine e_attr ?_
        refine r_loc (by assumption) (by exact e1) ?_
        (refine g_Bytes (by assumption) ?_; intro _ _)
        refine sp_nil ?_
        refine ⟨Kp.builtin, ?_⟩
        show N _ _ (call _ [_] _) _ _
        walk_at "n_leafcall"
        refine r_loc (by assumption) (by exact e2) ?_
        (refine i_sub (by assumption) ?_; intro _ _ _)
        refine sp_nil ?_
        refine ⟨Kp.type, ?_⟩
        show N _ _ (call _ [_] _) _ _
        walk_at "n_leafcall"
        (refine r_st (by assumption) ?_; intro _ _)
        show N _ _ _ _ _
        refine n_cons ?_
        refine n_expr ?_
        refine e_call ?_
        refine p_glob (by assumption) (gl_Write _) ?_ rfl rfl
        refine cw1 ?_
        refine sp_cons ?_
        refine p_glob (by assumption) (gl_soffset _) ?_ rfl rfl
        refine sp_cons ?_
        refine e_attr ?_
        refine r_loc (by assumption) (by exact e1) ?_
        (refine g_Bytes (by assumption) ?_; intro _ _)
        refine sp_cons ?_
        refine r_loc (by assumption) (by exact rfl) ?_
        refine sp_cons ?_
        refine e_meth ?_
        refine p_glob (by assumption) (gl_SOffsetTFlags _) ?_ rfl rfl
        (refine y_136 (by assumption) ?_; intro _ _)
        refine cw1 ?_
        refine sp_cons ?_
        refine e_bin ?_
        refine e_meth ?_
        refine r_loc (by assumption) (by exact e1) ?_
        refine m_Offset (by assumption) ?_
        refine cw0 ?_ ?_
        exact Kp.of_K (by assumption) (kp_326 _)
        show N _ _ (call _ [_] _) _ _
        refine cp_Offset (r := (r.at ba₂ hd₂ ma₂).at ba₃ hd₃ ma₃) (by assumption) (R.deep.le (by omega)) B₅.ok ?_
        intro _
        intro _
        intro _
        refine r_loc (by assumption) (by exact e2) ?_
        (refine i_sub (by assumption) ?_; intro _ _ _)
        refine sp_nil ?_
        refine ⟨Kp.type, ?_⟩
        show N _ _ (call _ [_] _) _ _
        walk_at "n_leafcall"
        refine sp_nil ?_
        refine ⟨Kp.of_K (by assumption) (kp_176 _), ?_⟩
        show N _ _ (call _ [_, _, _, _] _) _ _
        rename_i S₁₅
        refine ct_Write (show Sx y 56 4 (-2147483648) 2147483647 from ⟨_, _, _, _, rfl, rfl, Pk.i⟩) S₁₅.swap (R.deep.le (by omega)) (by omega) (by omega) (by omega) (by omega) (by omega) fun s₁₆ S₁₆ => ?_
        have S₁₆ := S₁₆.swap
        have eps : ((buf₃.length : Int) - (oo : Nat)).toNat = F2.2 - F2.1.length + (F2.1.length - oo) := by omega
        rw [eps] at S₁₆
        have B₆ := B₅.ok.over (p := F2.1.length - oo) (x := le 4 ((F2.1.length : Int) - oo)) (by rw [le_length]; omega)
        have hlo2 : (over F2.1 (F2.1.length - oo) (le 4 ((F2.1.length : Int) - oo))).length = F2.1.length := over_length (by rw [le_length]; omega)
        refine ⟨(by intro _ h; cases h), ?_⟩
        show N _ _ _ _ _
        refine n_cons ?_
        refine n_setitem ?_
        refine e_meth ?_
        refine r_loc (by assumption) (by exact e1) ?_
        refine m_Offset (by assumption) ?_
        refine cw0 ?_ ?_
        exact Kp.of_K (by assumption) (kp_326 _)
        show N _ _ (call _ [_] _) _ _
        refine cp_Offset (r := (r.at ba₂ hd₂ ma₂).at ba₃ hd₃ ma₃) (by assumption) (R.deep.le (by omega)) B₆ ?_
        intro _
        intro _
        intro _
        refine e_attr ?_
        refine r_loc (by assumption) (by exact e1) ?_
        (refine g_vtables (by assumption) ?_; intro _ _)
        refine r_loc (by assumption) (by exact e4) ?_
        rename_i S₁₇
        have hkey' : keyL cvs oo = ns' := by
          unfold keyL
          rw [Nat.sub_zero, List.take_of_length_le (by simp)] at hst'
          rw [← hst']
        have hvt : vtNew oo oe (keyL cvs oo) (soO out, prepR 4 0 out room) = (over F2.1 (F2.1.length - oo) (le 4 ((F2.1.length : Int) - oo)), F2.2) := by
          rw [hkey', hF2, hF1, hF0]; rfl
        refine k_vsetP (d := r.vt) (e := tt) (V.sub (l' := (tt, ({ cls := .type "tuple", data := .seq (ks ++ [Value.int ((oo : Int) - oe) tz]).toArray } : Obj)) :: l0) fun p hp => .tail _ hp) (fun p hp => ?_) hT S₁₇.up4 (.head _) (by have := R.u; show A.units + 3 + 8 < _; omega) (by omega) hat fun od' s₁₈ V' S₁₈ => ?_
        · rcases List.mem_cons.mp hp with rfl | hp
          · exact .tail _ (.tail _ (.head _))
          · exact .tail _ (.tail _ (.tail _ (.tail _ (hl0 p hp))))
        have S₁₈ := S₁₈.down4
        show N _ _ _ _ _
        refine n_nil ?_
        show N _ _ _ _ _
        refine n_cons ?_
        refine n_setattr ?_
        refine r_cnone ?_
        refine r_loc (by assumption) (by exact e1) ?_
        (refine s_current_vtable0 (by assumption) ?_; intro _ _)
        show N _ _ _ _ _
        refine n_cons ?_
        refine n_ret ?_
        refine r_loc (by assumption) (by exact e2) ?_
        refine Back.mk (by assumption) (fun S' => ?_)
        have S' := S'.sub (.cons_cons _ (.cons_cons _ (.cons_cons _ (.cons _ (.refl _)))))
        have S' := S'.perm (.cons _ (.cons _ (.swap _ _ _)))
        rw [hvt, hkey] at hN
        exact hN hat _ _ _ _ _ _ _ _ _ _ S' V' ⟨B₆, B₅.ma, B₅.rm⟩
      | succ n =>
        refine g_yes (decide_eq_true (by omega)) ?_
        have hnl : n < vs.length := by omega
        obtain ⟨e, te', hve, hce⟩ := hi.at n vs[n] (List.getElem?_eq_getElem hnl)
        have hem := hcv e (List.mem_of_getElem? hce)
        have hfold : ∀ tr'' ns'', stepK oo (tr', ns') e = (tr'', ns'') → (tr'', ns'') = (cvs.reverse.take (cvs.length - n)).foldl (stepK oo) (true, []) := fun tr'' ns'' q => by
          rw [rev_take hce, List.foldl_append, ← hst']; exact q.symm
        have hmm : max (max ma 4) 2 = max ma 4 := by omega
        have hfa : ∀ off : Int, (ns' ++ [off]).foldl stepV (le 4 ((prepO 4 0 out).length + 4 : Nat) ++ prepO 4 0 out, prepR 4 0 out room) = stepV (ns'.foldl stepV (le 4 ((prepO 4 0 out).length + 4 : Nat) ++ prepO 4 0 out, prepR 4 0 out room)) off := fun off => by rw [List.foldl_append]; rfl
        have hl4 := fun off => stepV_len (p := (ns'.foldl stepV (le 4 ((prepO 4 0 out).length + 4 : Nat) ++ prepO 4 0 out, prepR 4 0 out room))) (off := off)
        show N _ _ _ _ _
        refine n_cons ?_
        refine n_assign ?_
        (refine r_cint (by assumption) ?_; intro _ _ _)
        (refine r_st (by assumption) ?_; intro _ _)
        show N _ _ _ _ _
        refine n_cons ?_
        refine n_assign ?_
        refine e_sub ?_
        refine e_attr ?_
        refine r_loc (by assumption) (by exact e1) ?_
        (refine g_current_vtable (by assumption) ?_; intro _ _)
        refine r_loc (by assumption) (by exact e5) ?_
        rw [hc]
        refine r_item_ls X (by assumption) (by walk_at "in_l6") ?_ (fun _ _ => by first | exact .inl rfl | exact .inr rfl)
        rw [show ((n + 1 : Nat) : Int) - 1 = (n : Int) by omega]
        refine n_list_get (i := n) X (by assumption) (by walk_at "in_l6") (v := .int e te') (by have := List.getElem?_eq_getElem hnl; rw [hve] at this; exact this) (by omega) ?_
        (refine r_st (by assumption) ?_; intro _ _)
        show N _ _ _ _ _
        refine n_cons ?_
        refine n_aug ?_
        refine r_ldn (by assumption) (by exact e5) ?_
        (refine r_cint (by assumption) ?_; intro _ _ _)
        (refine ii_sub (by assumption) ?_; intro _ _ _)
        (refine r_st (by assumption) ?_; intro _ _)
        show N _ _ _ _ _
        refine n_cons ?_
        refine n_if ?_
        refine t_cmp ?_
        refine r_loc (by assumption) (by exact rfl) ?_
        (refine r_cint (by assumption) ?_; intro _ _ _)
        refine c_eq ?_
        refine tr_bool ?_
        by_cases h0 : e = 0
        · refine g_yes (by simp [h0]) ?_
          refine n_cons ?_
          refine n_if ?_
          refine t_plain ?_
          refine r_loc (by assumption) (by exact e7) ?_
          refine tr_bool ?_
          cases tr' with
          | true =>
            refine   g_yes     (by       first       | rfl       | assumption)     ?_
            refine n_cons ?_
            refine n_aug ?_
            refine r_ldn (by assumption) (by exact e6) ?_
            (refine r_cint (by assumption) ?_; intro _ _ _)
            (refine ii_add (by assumption) ?_; intro _ _ _)
            (refine r_st (by assumption) ?_; intro _ _)
            show N _ _ _ _ _
            refine n_cons ?_
            refine n_cont ?_
            exact ⟨n, by omega, _, ns', true, ba₁, hd₁, ma₁, buf₁, _, _, _, _, _, _, by omega, by assumption, B₃, by exact e1, by exact e2, by exact e3, by exact e4, by exact rfl, by exact rfl, by exact e7, by omega, by omega, hfold _ _ (by simp [stepK, h0]), by omega, by omega, hll⟩
          | false =>
            refine   g_no     (by       first       | rfl       | assumption)     ?_
            refine n_nil ?_
            show N _ _ _ _ _
            refine n_nil ?_
            show N _ _ _ _ _
            refine n_cons ?_
            refine n_expr ?_
            refine e_meth ?_
            refine r_loc (by assumption) (by exact e1) ?_
            refine m_PrependVOffsetT (by assumption) ?_
            refine cw1 ?_
            refine sp_cons ?_
            refine r_loc (by assumption) (by exact rfl) ?_
            refine sp_nil ?_
            refine ⟨Kp.of_K (by assumption) (kp_624 _), ?_⟩
            show N _ _ (call _ [_, _] _) _ _
            refine ct_PrependV (r := r.at ba₁ hd₁ ma₁) (by assumption) (R.deep.le (by omega)) B₃ (by omega) (by omega) (by omega) fun ba₂ hd₂ ma₂ buf₂ s₁₃ S₁₃ B₄ => ?_
            rw [hmm] at B₄
            refine ⟨(by intro _ h; cases h), ?_⟩
            show N _ _ _ _ _
            refine n_nil ?_
            have hl5 := hl4 0
            refine ⟨n, by omega, _, ns' ++ [e], false, ba₂, hd₂, ma₂, buf₂, _, _, _, _, _, _, by omega, by assumption, ?_, by exact e1, by exact e2, by exact e3, by exact e4, by exact rfl, by exact e6, by exact e7, by omega, by rw [List.length_append, List.length_singleton]; omega, hfold _ _ (by simp [stepK, h0]), by rw [List.length_append, List.length_singleton]; omega, ?_, ?_⟩
            · rw [hfa, h0]; exact B₄
            · rw [hfa, h0, List.length_append, List.length_singleton]; omega
            · rw [hfa, h0]; omega
        · refine g_no (by simp [h0]) ?_
          refine n_cons ?_
          refine n_assign ?_
          refine e_bin ?_
          refine r_loc (by assumption) (by exact e2) ?_
          refine r_loc (by assumption) (by exact rfl) ?_
          (refine i_sub (by assumption) ?_; intro _ _ _)
          (refine r_st (by assumption) ?_; intro _ _)
          show N _ _ _ _ _
          refine n_cons ?_
          refine n_assign ?_
          refine r_cbool ?_
          (refine r_st (by assumption) ?_; intro _ _)
          show N _ _ _ _ _
          refine n_nil ?_
          show N _ _ _ _ _
          refine n_cons ?_
          refine n_expr ?_
          refine e_meth ?_
          refine r_loc (by assumption) (by exact e1) ?_
          refine m_PrependVOffsetT (by assumption) ?_
          refine cw1 ?_
          refine sp_cons ?_
          refine r_loc (by assumption) (by exact rfl) ?_
          refine sp_nil ?_
          refine ⟨Kp.of_K (by assumption) (kp_624 _), ?_⟩
          show N _ _ (call _ [_, _] _) _ _
          have hem2 := hem.2.2 h0
          refine ct_PrependV (r := r.at ba₁ hd₁ ma₁) (by assumption) (R.deep.le (by omega)) B₃ (by omega) (by omega) (by omega) fun ba₂ hd₂ ma₂ buf₂ s₁₃ S₁₃ B₄ => ?_
          rw [hmm] at B₄
          refine ⟨(by intro _ h; cases h), ?_⟩
          show N _ _ _ _ _
          refine n_nil ?_
          have hl5 := hl4 (oo - e)
          refine ⟨n, by omega, _, ns' ++ [(oo : Int) - e], false, ba₂, hd₂, ma₂, buf₂, _, _, _, _, _, _, by omega, by assumption, ?_, by exact e1, by exact e2, by exact e3, by exact e4, by exact rfl, by exact e6, by exact rfl, by omega, by rw [List.length_append, List.length_singleton]; omega, hfold _ _ (by simp [stepK, h0]), by rw [List.length_append, List.length_singleton]; omega, ?_, ?_⟩
          · rw [hfa]; exact B₄
          · rw [hfa, List.length_append, List.length_singleton]; omega
          · rw [hfa]; omega
    · obtain ⟨pa, pv⟩ := pp
      obtain ⟨dd, td, hdd, hdl⟩ : ∃ (dd : Nat) (td : Tok), pv = .int dd td ∧ dd ≤ out.length := by
        unfold atKey at hat
        rw [Option.map_eq_some_iff] at hat
        obtain ⟨x, hx, hx2⟩ := hat
        obtain ⟨dd, td, q1, q2⟩ := hxv x (List.mem_of_find?_eq_some hx)
        exact ⟨dd, td, by rw [← q1, hx2], q2⟩
      subst hdd
      dsimp only [Option.map_some, Option.getD_some]
      obtain ⟨b1, b2, b3, b4, b5⟩ := id B₂.ok
      have b6 := B₂.rm
      have hle := prepO_len (w := 4) (a := 0) (out := out) (.inr (.inr (.inl rfl)))
      show N _ _ _ _ _
      (refine r_st (by assumption) ?_; intro _ _)
      refine n_cons ?_
      refine n_if ?_
      refine t_cmp ?_
      refine r_loc (by assumption) (by exact rfl) ?_
      refine r_cnone ?_
      refine c_is (by rfl) ?_
      refine tr_bool ?_
      refine   g_no     (by       first       | rfl       | assumption)     ?_
      refine n_cons ?_
      refine n_assign ?_
      refine e_meth ?_
      refine p_glob (by assumption) (gl_SOffsetTFlags _) ?_ rfl rfl
      (refine y_136 (by assumption) ?_; intro _ _)
      refine cw1 ?_
      refine sp_cons ?_
      refine e_bin ?_
      refine e_call ?_
      refine p_blt (by assumption) (gb_len _) (by boot_by_name) (by decide) ?_ rfl rfl
      refine cw1 ?_
      refine sp_cons ?_
      refine e_attr ?_
      refine r_loc (by assumption) (by exact e1) ?_
      (refine g_Bytes (by assumption) ?_; intro _ _)
      refine sp_nil ?_
      refine ⟨Kp.builtin, ?_⟩
      show N _ _ (call _ [_] _) _ _
      walk_at "n_leafcall"
      refine r_loc (by assumption) (by exact e2) ?_
      (refine i_sub (by assumption) ?_; intro _ _ _)
      refine sp_nil ?_
      refine ⟨Kp.type, ?_⟩
      show N _ _ (call _ [_] _) _ _
      walk_at "n_leafcall"
      (refine r_st (by assumption) ?_; intro _ _)
      show N _ _ _ _ _
      refine n_cons ?_
      refine n_setattr ?_
      refine e_meth ?_
      refine p_glob (by assumption) (gl_UOffsetTFlags _) ?_ rfl rfl
      (refine y_148 (by assumption) ?_; intro _ _)
      refine cw1 ?_
      refine sp_cons ?_
      refine r_loc (by assumption) (by exact rfl) ?_
      refine sp_nil ?_
      refine ⟨Kp.type, ?_⟩
      show N _ _ (call _ [_] _) _ _
      walk_at "n_leafcall"
      refine r_loc (by assumption) (by exact e1) ?_
      (refine s_head (by assumption) ?_; intro _ _)
      show N _ _ _ _ _
      refine n_cons ?_
      refine n_expr ?_
      refine e_call ?_
      refine p_glob (by assumption) (gl_Write _) ?_ rfl rfl
      refine cw1 ?_
      refine sp_cons ?_
      refine p_glob (by assumption) (gl_soffset _) ?_ rfl rfl
      refine sp_cons ?_
      refine e_attr ?_
      refine r_loc (by assumption) (by exact e1) ?_
      (refine g_Bytes (by assumption) ?_; intro _ _)
      refine sp_cons ?_
      refine e_meth ?_
      refine r_loc (by assumption) (by exact e1) ?_
      refine m_Head (by assumption) ?_
      refine cw0 ?_ ?_
      exact Kp.of_K (by assumption) (kp_319 _)
      show N _ _ (call _ [_] _) _ _
      refine ct_Head (r := { r.at ba hd ma' with head := _ }) (by assumption) (R.deep.le (by omega)) fun s₁₃ S₁₃ => ?_
      refine sp_cons ?_
      refine e_meth ?_
      refine p_glob (by assumption) (gl_SOffsetTFlags _) ?_ rfl rfl
      (refine y_136 (by assumption) ?_; intro _ _)
      refine cw1 ?_
      refine sp_cons ?_
      refine e_bin ?_
      refine r_loc (by assumption) (by exact rfl) ?_
      refine r_loc (by assumption) (by exact e2) ?_
      (refine i_sub (by assumption) ?_; intro _ _ _)
      refine sp_nil ?_
      refine ⟨Kp.type, ?_⟩
      show N _ _ (call _ [_] _) _ _
      walk_at "n_leafcall"
      refine sp_nil ?_
      refine ⟨Kp.of_K (by assumption) (kp_176 _), ?_⟩
      show N _ _ (call _ [_, _, _, _] _) _ _
      rename_i S₁₅
      refine ct_Write (show Sx y 56 4 (-2147483648) 2147483647 from ⟨_, _, _, _, rfl, rfl, Pk.i⟩) S₁₅.swap (R.deep.le (by omega)) (by dsimp only; omega) (by dsimp only; omega) (by omega) (by omega) (by omega) fun s₁₆ S₁₆ => ?_
      have S₁₆ := S₁₆.swap
      dsimp only at S₁₆
      have eps : ((buf'.length : Int) - (oo : Nat)).toNat = prepR 4 0 out room - (soO out).length + 0 := by unfold soO; omega
      have ehd : (r.at ba hd ma').head.1 = (buf'.length : Int) - (oo : Nat) := by omega
      rw [eps] at S₁₆
      have B₆ := BufOk.over (p := 0) (x := le 4 ((dd : Int) - oo)) (show BufOk hd.1 buf' (soO out) _ from B₂.ok) (by unfold soO; rw [le_length]; omega)
      refine ⟨(by intro _ h; cases h), ?_⟩
      show N _ _ _ _ _
      refine n_nil ?_
      show N _ _ _ _ _
      refine n_cons ?_
      refine n_setattr ?_
      refine r_cnone ?_
      refine r_loc (by assumption) (by exact e1) ?_
      (refine s_current_vtable0 (by assumption) ?_; intro _ _)
      show N _ _ _ _ _
      refine n_cons ?_
      refine n_ret ?_
      refine r_loc (by assumption) (by exact e2) ?_
      refine Back.mk (by assumption) (fun S' => ?_)
      have S' := S'.sub (.cons_cons _ (.cons_cons _ (.cons _ (.cons _ (.cons_cons _ (.refl _))))))
      rw [hkey] at hF
      refine hF pa dd td hat _ (_, _) _ _ _ _ S' ⟨?_, B₂.ma, B₂.rm⟩
      rw [← ehd]
      exact B₆
  | succ n =>
    have hnl : n < vs.length := by omega
    obtain ⟨e, te', hve, hce⟩ := hi.at n vs[n] (List.getElem?_eq_getElem hnl)
    rw [show ((n + 1 : Nat) : Int) - 1 = (n : Int) by omega] at Y
    have S₅' := S₅.over
    refine k_next_rev (i := n) Y X S₅' (by walk_at "in_l6") (List.getElem?_eq_getElem hnl) fun io' s₆ Y' S₆ => ?_
    have S₆ := S₆.under
    rw [hve]
    have hfold : ∀ tr' ns', stepK oo (tr, ns) e = (tr', ns') → (tr', ns') = (cvs.reverse.take (cvs.length - n)).foldl (stepK oo) (true, []) := fun tr' ns' q => by
      rw [rev_take hce, List.foldl_append, ← hst]; exact q.symm
    show N _ _ _ _ _
    (refine r_st (by assumption) ?_; intro _ _)
    refine n_cons ?_
    refine n_if ?_
    refine t_cmp ?_
    refine r_loc (by assumption) (by exact rfl) ?_
    (refine r_cint (by assumption) ?_; intro _ _ _)
    refine c_eq ?_
    refine tr_bool ?_
    by_cases h0 : e = 0
    · refine g_yes (by simp [h0]) ?_
      refine n_cons ?_
      refine n_if ?_
      refine t_plain ?_
      refine r_loc (by assumption) (by exact e4) ?_
      refine tr_bool ?_
      cases tr with
      | true =>
        refine   g_yes     (by       first       | rfl       | assumption)     ?_
        refine n_cons ?_
        refine n_cont ?_
        exact ⟨n, by omega, io', _, ks, ns, nk, true, _, Y', by omega, by assumption, by exact e1, by exact e2, by exact e3, by exact e4, hks, hfold _ _ (by simp [stepK, h0]), by omega⟩
      | false =>
        refine   g_no     (by       first       | rfl       | assumption)     ?_
        refine n_nil ?_
        show N _ _ _ _ _
        refine n_nil ?_
        show N _ _ _ _ _
        refine n_cons ?_
        refine n_expr ?_
        refine e_meth ?_
        refine r_loc (by assumption) (by exact e3) ?_
        walk_at "n_leaf"
        refine cw1 ?_
        refine sp_cons ?_
        refine r_loc (by assumption) (by exact rfl) ?_
        refine sp_nil ?_
        refine ⟨Kp.builtin, ?_⟩
        show N _ _ (call _ [_, _] _) _ _
        rename_i S₇
        refine k_append (S₇.up3) (by omega) fun s₈ S₈ => ?_
        have S₈ := S₈.down3
        refine ⟨(by intro _ h; cases h), ?_⟩
        show N _ _ _ _ _
        refine n_nil ?_
        exact ⟨n, by omega, io', _, ks ++ [.int e te'], ns ++ [e], nk + 1, false, _, Y', by omega, by assumption, by exact e1, by exact e2, by exact e3, by exact e4, hks.append (.cons _ _ .nil), hfold _ _ (by simp [stepK, h0]), by simp; omega⟩
    · refine g_no (by simp [h0]) ?_
      refine n_cons ?_
      refine n_assign ?_
      refine e_bin ?_
      refine r_loc (by assumption) (by exact e2) ?_
      refine r_loc (by assumption) (by exact rfl) ?_
      (refine i_sub (by assumption) ?_; intro _ _ _)
      (refine r_st (by assumption) ?_; intro _ _)
      show N _ _ _ _ _
      refine n_cons ?_
      refine n_assign ?_
      refine r_cbool ?_
      (refine r_st (by assumption) ?_; intro _ _)
      show N _ _ _ _ _
      refine n_nil ?_
      show N _ _ _ _ _
      refine n_cons ?_
      refine n_expr ?_
      refine e_meth ?_
      refine r_loc (by assumption) (by exact e3) ?_
      walk_at "n_leaf"
      refine cw1 ?_
      refine sp_cons ?_
      refine r_loc (by assumption) (by exact rfl) ?_
      refine sp_nil ?_
      refine ⟨Kp.builtin, ?_⟩
      show N _ _ (call _ [_, _] _) _ _
      rename_i S₇
      refine k_append (S₇.up3) (by omega) fun s₈ S₈ => ?_
      have S₈ := S₈.down3
      refine ⟨(by intro _ h; cases h), ?_⟩
      show N _ _ _ _ _
      refine n_nil ?_
      exact ⟨n, by omega, io', _, ks ++ [.int (oo - e) _], ns ++ [oo - e], nk + 1, false, _, Y', by omega, by assumption, by exact e1, by exact e2, by exact e3, by exact rfl, hks.append (.cons _ _ .nil), hfold _ _ (by simp [stepK, h0]), by simp; omega⟩
end

end Mine

end
-- PC81
section
open PySem PySem.W PySem.Calls PyProof.Rows
set_option maxRecDepth 100000
set_option linter.unusedVariables false
set_option linter.deprecated false
namespace Mine
example : (fun (_ : OpenLaw) (_ : Params → Frag) => True) PySem.Challenge.rw_fb0004_01 hd.heap_39 := by k_fill; trivial
structure Fb (P : Params) : Prop where
  nd : hasDictIn (hd.heap_39 P) 656 = false
  gt : specialIn (hd.heap_39 P) (.ref 456) "__get__" = some (some (.builtin "function.__get__"))
  tk : takesIn (hd.heap_39 P) (.ref 456) = some false
theorem fb (P : Params) : Fb P := by constructor <;> k_is
end Mine
end
local macro_rules | `(tactic| walk_at "n_leaf") => `(tactic| ((with_reducible show N _ _ (getMethod _ (PySem.Str.ofString "_Builder__Finish") _) _ _); refine m___Finish (by assumption) ?_))
section
open PySem PySem.W PySem.Calls PyProof.Rows
set_option maxRecDepth 100000
set_option linter.unusedVariables false
set_option linter.deprecated false
namespace Mine
section
variable {y : Cy} {A : Around} {s : Shared} {L b st F d : Addr} {m : Str → Option Value} {l k : List (Addr × Obj)} {r : Raw} {Q : Value → Shared → Prop} {w : Nat} {lo hi : Int} {buf out : List UInt8} {room ma : Nat}
/-- a def that takes the rest as a tuple -/
theorem p_callV {f : Addr} {nm qual : Str} {params : Arguments} {body : List Stmt} {scope : Scope} {dV kV doc pm cdv ct oc : Value} {an od : Option Addr} {osl : Array (Option Value)} {pos vs : List Value} {kw : List (Str × Value)} {binds : Addr → List (Str × Value)} {g₁ : Addr → Option (List (Str × Value))}
    (S : St y.cx L m l k s) (ho : (hd.heap_39 y.w.params).lookup f = some ⟨oc, od, .func (fnOf nm qual params body scope dV kV doc pm an cdv ct), osl⟩) (hcd : codeIn (hd.heap_39 y.w.params) cdv qual = true) (hroom : A.depth < recursionLimit)
    (hp : peek1 (hd.heap_39 y.w.params) ⟨y.prog, y.w.params⟩ (bindArgs (fnOf nm qual params body scope dV kV doc pm an cdv ct) ⟨pos, kw⟩) = some (({ cls := .type "tuple", data := .seq vs.toArray } : Obj), g₁)) (hg : ∀ D, g₁ D = some (binds D))
    (hloc : ∀ D, ∀ y ∈ binds D, scope.names.lookup y.1 = some .local)
    (h : ∀ D L' oL s₁, St y.cx L' (fun y => (binds D).reverse.lookup y) ((D, ({ cls := .type "tuple", data := .seq vs.toArray } : Obj)) :: l) ((L, oL) :: k) s₁ → N y.cx (A.deeper (envOf qual scope L' f cdv)) (execs body (envOf qual scope L' f cdv)) (Back y.cx L m oL k Q) s₁)
    (hcell : ∀ x ∈ scope.names, x.2 ≠ .cell) (hco : scope.isCoroutine = false) (hgen : scope.isGenerator = false) (hk : scope.kind = .function) :
    N y.cx A (call (.ref f) pos kw) Q s := n_callV S ho hcd hroom hp hg hloc h hcell hco hgen hk
theorem ct_EndObject {ca : Addr} {o : Obj} {vs : List Value} {cvs : List Int} {oe : Nat} {te : Tok} {od : Obj} {xs : List (List Int × Addr × Value)} {oo : Nat}
    (S : St y.cx L m ((b, r.obj) :: (r.ba, baObj buf) :: (ca, o) :: (r.vt, od) :: l) k s) (R : Rm A 7) {l0 : List (Addr × Obj)} (V : VtO y.cx l0 od r.vt xs) (hl0 : ∀ p ∈ l0, p ∈ l) (B : Bd r buf out room ma) (hs : out.length ≤ 1000000) (hc : r.cv = some ca) (ho : r.oe = some ((oe : Int), te)) (X : LsO o vs) (hi : IntsAre vs cvs) (hvl : cvs.length ≤ 200) (hnn : r.nested = true)
    (hoo : oo = (prepO 4 0 out).length + 4) (hoe : oe ≤ oo) (hos : oo - oe ≤ 60000) (hcv : ∀ e ∈ cvs, 0 ≤ e ∧ e ≤ oo ∧ (e ≠ 0 → (oo : Int) - e ≤ 60000))
    (hxs : xs.length ≤ 1000) (hxv : ∀ x ∈ xs, ∃ (d : Nat) (t : Tok), x.2.2 = .int d t ∧ d ≤ out.length)
    (hN : atKey xs (keyL cvs oo ++ [(oo : Int) - oe]) = none → ∀ ba hd ma' buf' tt to od' t t' s', St y.cx L m ((b, { { r with nested := false }.at ba hd ma' with cv := none }.obj) :: (ba, baObj buf') :: (r.vt, od') :: (tt, to) :: l) k s' →
      VtO y.cx ((tt, to) :: l0) od' r.vt (xs ++ [(keyL cvs oo ++ [(oo : Int) - oe], tt, .int (vtNew oo oe (keyL cvs oo) (soO out, prepR 4 0 out room)).1.length t')]) →
      Bd { { r with nested := false }.at ba hd ma' with cv := none } buf' (vtNew oo oe (keyL cvs oo) (soO out, prepR 4 0 out room)).1 (vtNew oo oe (keyL cvs oo) (soO out, prepR 4 0 out room)).2 (max ma 4) → Q (.int oo t) s')
    (hF : ∀ (a : Addr) (d : Nat) (td : Tok), atKey xs (keyL cvs oo ++ [(oo : Int) - oe]) = some (a, .int d td) → ∀ ba hd ma' buf' t s', St y.cx L m ((b, { { r with nested := false }.at ba hd ma' with cv := none }.obj) :: (ba, baObj buf') :: (r.vt, od) :: l) k s' →
      Bd { { r with nested := false }.at ba hd ma' with cv := none } buf' (over (soO out) 0 (le 4 ((d : Int) - oo))) (prepR 4 0 out room) (max ma 4) → Q (.int oo t) s') :
    N y.cx A (call (.ref 305) [.ref b]) Q s := by
  refine p_call (binds := [("self", .ref b)]) S (by rfl) (by rfl) (Rm.depth R) (BindsTo.of_eq rfl) (locs rfl) (fun Lx oLx s₁ S₁ => ?_) (by decide) rfl rfl rfl
  refine n_cons ?_
  refine n_expr ?_
  refine e_meth ?_
  refine r_loc (by assumption) (by exact rfl) ?_
  refine m_assertNested (by assumption) ?_
  refine cw0 ?_ ?_
  exact Kp.of_K (by assumption) (kp_397 _)
  show N _ _ (call _ [_] _) _ _
  refine ct_assertNested (by assumption) (R.deep.le (by omega)) hnn ?_
  intro _
  intro _
  refine ⟨(by intro _ h; cases h), ?_⟩
  show N _ _ _ _ _
  refine n_cons ?_
  refine n_setattr ?_
  refine r_cbool ?_
  refine r_loc (by assumption) (by exact rfl) ?_
  (refine s_nested (by assumption) ?_; intro _ _)
  show N _ _ _ _ _
  refine n_cons ?_
  refine n_ret ?_
  refine e_meth ?_
  refine r_loc (by assumption) (by exact rfl) ?_
  refine m_WriteVtable (by assumption) ?_
  refine cw0 ?_ ?_
  exact Kp.of_K (by assumption) (kp_298 _)
  show N _ _ (call _ [_] _) _ _
  refine ct_WriteVtable (r := { r with nested := false }) (by assumption) (R.deep.le (by omega)) V hl0 ⟨B.ok, B.ma, B.rm⟩ hs hc ho X hi hvl hoo hoe hos hcv hxs hxv ?_ ?_
  · intro hat ba hd ma' buf' tt to od' t t' s' S' V' B'
    skip
    refine Back.mk (by assumption) (fun S' => ?_)
    exact hN hat _ _ _ _ _ _ _ _ _ _ S' V' B'
  · intro a d td hat ba hd ma' buf' t s' S' B'
    skip
    refine Back.mk (by assumption) (fun S' => ?_)
    exact hF a d td hat _ _ _ _ _ _ S' B'
theorem p_callC {f : Addr} {nm qual : Str} {params : Arguments} {body : List Stmt} {scope : Scope} {dV kV doc pm cdv ct oc : Value} {an od : Option Addr} {osl : Array (Option Value)} {pos : List Value} {kw : List (Str × Value)} {binds : List (Str × Value)}
    (S : St y.cx L m l k s) (ho : (hd.heap_39 y.w.params).lookup f = some ⟨oc, od, .func (fnOf nm qual params body scope dV kV doc pm an cdv ct), osl⟩) (hcd : codeIn (hd.heap_39 y.w.params) cdv qual = true) (hroom : A.depth < recursionLimit)
    (hbind : BindsTo s (fnOf nm qual params body scope dV kV doc pm an cdv ct) ⟨pos, kw⟩ binds)
    (hloc : ∀ y ∈ binds, scope.names.lookup y.1 = some .local)
    (h : ∀ L' oL s₁, St y.cx L' (fun y => binds.reverse.lookup y) l ((L, oL) :: k) s₁ → N y.cx (A.deeper (envOf qual scope L' f cdv)) (execs body (envOf qual scope L' f cdv)) (Back y.cx L m oL k Q) s₁)
    (hcell : ∀ x ∈ scope.names, x.2 ≠ .cell) (hco : scope.isCoroutine = false) (hgen : scope.isGenerator = false) (hk : scope.kind = .function) :
    NC y.cx A (.call (.ref f) ⟨pos, kw⟩) (fun f s' => match f with | .ret v => Q v s' | _ => False) s := n_callC S ho hcd hroom hbind hloc h hcell hco hgen hk
/-- o.PrependSlot, bound -/
theorem bm_PrependSlot {ex : Bool} {Q : Value → Shared → Prop} (S : St y.cx L m ((b, r.obj) :: l) k s) (h : ∀ q s', St y.cx L m ((q, methodObj (.ref 456) (.ref b)) :: (b, r.obj) :: l) k s' → Q (.ref q) s') : N y.cx A (getAttr (.ref b) "PrependSlot" ex) Q s :=
  b_bound S (.head _) (fa _).pg (fa _).cls (fb _).nd (fa _).at_PrependSlot (fa _).fn_PrependSlot (fb _).gt (fb _).tk (by decide +kernel) h
theorem cn_PrependSlot {i : Nat} {x dd : Int} {ti tx td : Tok} {ca : Addr} {vs : List Value} {o : Obj} (FL : Fl y F w lo hi) (hw : Width w) (S : St y.cx L m ((b, r.obj) :: (r.ba, baObj buf) :: (ca, o) :: l) k s) (R : Rm A 4) (B : Bd r buf out room ma) (hs : out.length ≤ 3000000)
    (X : LsO o vs) (hc : r.cv = some ca) (hn : r.nested = true) (hi' : i < vs.length) (hz : vs.length ≤ 1000) (h0 : lo ≤ x) (h1 : x ≤ hi) (d0 : lo ≤ dd) (d1 : dd ≤ hi)
    (hE : x = dd → ∀ s', St y.cx L m ((b, r.obj) :: (r.ba, baObj buf) :: (ca, o) :: l) k s' → Q .none s')
    (hN : x ≠ dd → ∀ ba hd ma' buf' t o' s', St y.cx L m ((b, (r.at ba hd ma').obj) :: (ba, baObj buf') :: (ca, o') :: l) k s' → Bd (r.at ba hd ma') buf' (le w x ++ prepO w 0 out) (prepR w 0 out room) (max ma w) →
      LsO o' (vs.set i (.int (((le w x ++ prepO w 0 out).length : Nat) : Int) t)) → Q .none s') :
    NC y.cx A (.call (.ref 456) ⟨[.ref b, .ref F, .int i ti, .int x tx, .int dd td], []⟩) (fun f s' => match f with | .ret v => Q v s' | _ => False) s := by
  refine p_callC (binds := [("self", .ref b), ("flags", .ref F), ("o", .int i ti), ("x", .int x tx), ("d", .int dd td)]) S (by rfl) (by rfl) (Rm.depth R) (BindsTo.of_eq rfl) (locs rfl) (fun Lx oLx s₁ S₁ => ?_) (by decide) rfl rfl rfl
  refine n_cons ?_
  refine n_if ?_
  refine t_cmp ?_
  refine r_loc (by assumption) (by exact rfl) ?_
  refine r_cnone ?_
  refine c_isnot (by rfl) ?_
  refine tr_bool ?_
  refine   g_yes     (by       first       | rfl       | assumption)     ?_
  refine n_cons ?_
  refine n_expr ?_
  refine e_call ?_
  refine p_glob (by assumption) (gl_enforce_number _) ?_ rfl rfl
  refine cw1 ?_
  refine sp_cons ?_
  refine r_loc (by assumption) (by exact rfl) ?_
  refine sp_cons ?_
  refine r_loc (by assumption) (by exact rfl) ?_
  refine sp_nil ?_
  refine ⟨Kp.of_K (by assumption) (kp_169 _), ?_⟩
  show N _ _ (call _ [_, _] _) _ _
  refine ct_enf FL (by assumption) (R.deep.le (by omega)) h0 h1 ?_
  intro _
  intro _
  refine ⟨(by intro _ h; cases h), ?_⟩
  show N _ _ _ _ _
  refine n_nil ?_
  show N _ _ _ _ _
  refine n_cons ?_
  refine n_if ?_
  refine t_cmp ?_
  refine r_loc (by assumption) (by exact rfl) ?_
  refine r_cnone ?_
  refine c_isnot (by rfl) ?_
  refine tr_bool ?_
  refine   g_yes     (by       first       | rfl       | assumption)     ?_
  refine n_cons ?_
  refine n_expr ?_
  refine e_call ?_
  refine p_glob (by assumption) (gl_enforce_number _) ?_ rfl rfl
  refine cw1 ?_
  refine sp_cons ?_
  refine r_loc (by assumption) (by exact rfl) ?_
  refine sp_cons ?_
  refine r_loc (by assumption) (by exact rfl) ?_
  refine sp_nil ?_
  refine ⟨Kp.of_K (by assumption) (kp_169 _), ?_⟩
  show N _ _ (call _ [_, _] _) _ _
  refine ct_enf FL (by assumption) (R.deep.le (by omega)) d0 d1 ?_
  intro _
  intro _
  refine ⟨(by intro _ h; cases h), ?_⟩
  show N _ _ _ _ _
  refine n_nil ?_
  show N _ _ _ _ _
  refine n_cons ?_
  refine n_if ?_
  refine t_or ?_
  refine t_cmp ?_
  refine r_loc (by assumption) (by exact rfl) ?_
  refine r_loc (by assumption) (by exact rfl) ?_
  refine c_ne ?_
  refine tr_bool ?_
  by_cases hxd : x = dd
  · refine g_no (by simp [hxd]) ?_
    refine t_or ?_
    refine t_and ?_
    refine t_plain ?_
    refine e_attr ?_
    refine r_loc (by assumption) (by exact rfl) ?_
    (refine g_forceDefaults (by assumption) ?_; intro _ _)
    refine tr_bool ?_
    refine   g_no     (by       first       | rfl       | assumption)     ?_
    refine   g_no     (by       first       | rfl       | assumption)     ?_
    refine t_or0 ?_
    refine   g_no     (by       first       | rfl       | assumption)     ?_
    refine n_nil ?_
    show N _ _ _ _ _
    refine n_nil ?_
    refine Back.mk (by assumption) (fun S' => ?_)
    exact hE hxd _ S'
  · refine g_yes (by simp [hxd]) ?_
    refine   g_yes     (by       first       | rfl       | assumption)     ?_
    refine n_cons ?_
    refine n_expr ?_
    refine e_meth ?_
    refine r_loc (by assumption) (by exact rfl) ?_
    refine m_Prepend (by assumption) ?_
    refine cw1 ?_
    refine sp_cons ?_
    refine r_loc (by assumption) (by exact rfl) ?_
    refine sp_cons ?_
    refine r_loc (by assumption) (by exact rfl) ?_
    refine sp_nil ?_
    refine ⟨Kp.of_K (by assumption) (kp_449 _), ?_⟩
    show N _ _ (call _ [_, _, _] _) _ _
    refine ct_Prepend FL hw (by assumption) (R.deep.le (by omega)) B hs h0 h1 fun ba hd ma' buf' s₂ S₂ B₂ => ?_
    refine ⟨(by intro _ h; cases h), ?_⟩
    show N _ _ _ _ _
    refine n_cons ?_
    refine n_expr ?_
    refine e_meth ?_
    refine r_loc (by assumption) (by exact rfl) ?_
    refine m_Slot (by assumption) ?_
    refine cw1 ?_
    refine sp_cons ?_
    refine r_loc (by assumption) (by exact rfl) ?_
    refine sp_nil ?_
    refine ⟨Kp.of_K (by assumption) (kp_418 _), ?_⟩
    show N _ _ (call _ [_, _] _) _ _
    refine ct_Slot (r := r.at ba hd ma') (by assumption) (R.deep.le (by omega)) B₂.ok X hc hn hi' hz fun t o' s₃ S₃ X₃ => ?_
    refine ⟨(by intro _ h; cases h), ?_⟩
    show N _ _ _ _ _
    refine n_nil ?_
    show N _ _ _ _ _
    refine n_nil ?_
    refine Back.mk (by assumption) (fun S' => ?_)
    exact hN hxd _ _ _ _ _ _ _ S' B₂ X₃
end

end Mine

end
-- PC91
section
open PySem PySem.W PySem.Calls PyProof.Rows
set_option maxRecDepth 100000
set_option linter.unusedVariables false
set_option linter.deprecated false
namespace Mine
section
variable {y : Cy} {A : Around} {s : Shared} {L b st F d : Addr} {m : Str → Option Value} {l k : List (Addr × Obj)} {r : Raw} {Q : Value → Shared → Prop} {w : Nat} {lo hi : Int} {buf out : List UInt8} {room ma : Nat}
/-- what Finish without a name lays: the filling, the way to the root -/
def finO (ma root : Nat) (out : List UInt8) : List UInt8 := let o := prepO 4 0 (prepO ma 4 out); le 4 (o.length - root + 4 : Nat) ++ o
def finR (ma : Nat) (out : List UInt8) (room : Nat) : Nat := prepR 4 0 (prepO ma 4 out) (prepR ma 4 out room)
theorem ct_FinishP {root : Nat} {tr : Tok} (S : St y.cx L m ((b, r.obj) :: (r.ba, baObj buf) :: l) k s) (R : Rm A 5) (B : Bd r buf out room ma) (hs : out.length ≤ 2000000) (hw : Width ma) (hr : root ≤ out.length)
    (h : ∀ ba hd ma' buf' v t s', St y.cx L m ((b, { r.at ba hd ma' with fin := true }.obj) :: (ba, baObj buf') :: l) k s' → Bd { r.at ba hd ma' with fin := true } buf' (finO ma root out) (finR ma out room) (max ma 4) → Q (.int v t) s') :
    N y.cx A (call (.ref 426) [.ref b, .int root tr, .bool false] [("file_identifier", .none)]) Q s := by
  have hl := prepO_len (a := 4) (out := out) hw
  have hl2 : out.length ≤ (prepO ma 4 out).length := by simp [prepO]
  refine p_call (binds := [("self", .ref b), ("rootTable", .int root tr), ("sizePrefix", .bool false), ("file_identifier", .none)]) S (by rfl) (by rfl) (Rm.depth R) (binds_K (K := (hd.heap_39 _)) (St.X S) rfl rfl rfl rfl rfl) (locs rfl) (fun Lx oLx s₁ S₁ => ?_) (by decide) rfl rfl rfl
  refine n_cons ?_
  refine n_expr ?_
  refine e_call ?_
  refine p_glob (by assumption) (gl_enforce_number _) ?_ rfl rfl
  refine cw1 ?_
  refine sp_cons ?_
  refine r_loc (by assumption) (by exact rfl) ?_
  refine sp_cons ?_
  refine p_glob (by assumption) (gl_UOffsetTFlags _) ?_ rfl rfl
  refine sp_nil ?_
  refine ⟨Kp.of_K (by assumption) (kp_169 _), ?_⟩
  show N _ _ (call _ [_, _] _) _ _
  refine ct_enf fl_UOffsetTFlags (by assumption) (R.deep.le (by omega)) (by omega) (by omega) ?_
  intro _
  intro _
  refine ⟨(by intro _ h; cases h), ?_⟩
  show N _ _ _ _ _
  refine n_cons ?_
  refine n_assign ?_
  refine e_attr ?_
  refine p_glob (by assumption) (gl_UOffsetTFlags _) ?_ rfl rfl
  (refine a_148_bytewidth (by assumption) ?_; intro _ _)
  (refine r_st (by assumption) ?_; intro _ _)
  show N _ _ _ _ _
  refine n_cons ?_
  refine n_if ?_
  refine t_cmp ?_
  refine r_loc (by assumption) (by exact rfl) ?_
  refine r_cnone ?_
  refine c_isnot (by rfl) ?_
  refine tr_bool ?_
  refine   g_no     (by       first       | rfl       | assumption)     ?_
  refine n_nil ?_
  show N _ _ _ _ _
  refine n_cons ?_
  refine n_if ?_
  refine t_plain ?_
  refine r_loc (by assumption) (by exact rfl) ?_
  refine tr_bool ?_
  refine   g_no     (by       first       | rfl       | assumption)     ?_
  refine n_nil ?_
  show N _ _ _ _ _
  refine n_cons ?_
  refine n_expr ?_
  refine e_meth ?_
  refine r_loc (by assumption) (by exact rfl) ?_
  refine m_Prep (by assumption) ?_
  refine cw1 ?_
  refine sp_cons ?_
  refine e_attr ?_
  refine r_loc (by assumption) (by exact rfl) ?_
  (refine g_minalign (by assumption) ?_; intro _ _)
  refine sp_cons ?_
  refine r_loc (by assumption) (by exact rfl) ?_
  refine sp_nil ?_
  refine ⟨Kp.of_K (by assumption) (kp_340 _), ?_⟩
  show N _ _ (call _ [_, _, _] _) _ _
  have hma := B.ma
  rw [hma]
  refine cp_Prep (w := ma) (a := 4) (by assumption) (R.deep.le (by omega)) B hw (by omega) fun ba hd ma' buf' s₂ S₂ B₂ => ?_
  refine ⟨(by intro _ h; cases h), ?_⟩
  show N _ _ _ _ _
  refine n_cons ?_
  refine n_if ?_
  refine t_cmp ?_
  refine r_loc (by assumption) (by exact rfl) ?_
  refine r_cnone ?_
  refine c_isnot (by rfl) ?_
  refine tr_bool ?_
  refine   g_no     (by       first       | rfl       | assumption)     ?_
  refine n_nil ?_
  show N _ _ _ _ _
  refine n_cons ?_
  refine n_expr ?_
  refine e_meth ?_
  refine r_loc (by assumption) (by exact rfl) ?_
  refine m_PrependUOffsetTRelative (by assumption) ?_
  refine cw1 ?_
  refine sp_cons ?_
  refine r_loc (by assumption) (by exact rfl) ?_
  refine sp_nil ?_
  refine ⟨Kp.of_K (by assumption) (kp_354 _), ?_⟩
  show N _ _ (call _ [_, _] _) _ _
  refine ct_RelU (n := root) (by assumption) (R.deep.le (by omega)) B₂ (by omega) (by omega) fun ba hd ma' buf' s₃ S₃ B₃ => ?_
  refine ⟨(by intro _ h; cases h), ?_⟩
  show N _ _ _ _ _
  refine n_cons ?_
  refine n_if ?_
  refine t_plain ?_
  refine r_loc (by assumption) (by exact rfl) ?_
  refine tr_bool ?_
  refine   g_no     (by       first       | rfl       | assumption)     ?_
  refine n_nil ?_
  show N _ _ _ _ _
  refine n_cons ?_
  refine n_setattr ?_
  refine r_cbool ?_
  refine r_loc (by assumption) (by exact rfl) ?_
  (refine s_finished (by assumption) ?_; intro _ _)
  show N _ _ _ _ _
  refine n_cons ?_
  refine n_ret ?_
  refine e_attr ?_
  refine r_loc (by assumption) (by exact rfl) ?_
  (refine g_head (by assumption) ?_; intro _ _)
  refine Back.mk (by assumption) (fun S' => ?_)
  rw [Nat.max_self] at B₃
  exact h _ _ _ _ _ _ _ S' ⟨B₃.ok, B₃.ma, B₃.rm⟩
theorem ct_Finish {root : Nat} {tr : Tok} (S : St y.cx L m ((b, r.obj) :: (r.ba, baObj buf) :: l) k s) (R : Rm A 6) (B : Bd r buf out room ma) (hs : out.length ≤ 2000000) (hw : Width ma) (hr : root ≤ out.length)
    (h : ∀ ba hd ma' buf' v t s', St y.cx L m ((b, { r.at ba hd ma' with fin := true }.obj) :: (ba, baObj buf') :: l) k s' → Bd { r.at ba hd ma' with fin := true } buf' (finO ma root out) (finR ma out room) (max ma 4) → Q (.int v t) s') :
    N y.cx A (call (.ref 434) [.ref b, .int root tr]) Q s := by
  refine p_call (binds := [("self", .ref b), ("rootTable", .int root tr), ("file_identifier", .none)]) S (by rfl) (by rfl) (Rm.depth R) (binds_K (K := (hd.heap_39 _)) (St.X S) rfl rfl rfl rfl rfl) (locs rfl) (fun Lx oLx s₁ S₁ => ?_) (by decide) rfl rfl rfl
  refine n_cons ?_
  refine n_ret ?_
  refine e_meth ?_
  refine r_loc (by assumption) (by exact rfl) ?_
  refine m__Builder__Finish (by assumption) ?_
  walk_at "n_leaf"
  refine sp_cons ?_
  refine r_loc (by assumption) (by exact rfl) ?_
  refine sp_cons ?_
  refine r_cbool ?_
  refine sp_nil ?_
  walk_at "n_leaf"
  refine r_loc (by assumption) (by exact rfl) ?_
  walk_at "n_leaf"
  refine ⟨Kp.of_K (by assumption) (kp_426 _), ?_⟩
  show N _ _ (call _ [_, _, _] _) _ _
  refine ct_FinishP (root := root) (by assumption) (R.deep.le (by omega)) B hs hw hr fun ba hd ma' buf' v t s₂ S₂ B₂ => ?_
  skip
  refine Back.mk (by assumption) (fun S' => ?_)
  exact h _ _ _ _ _ _ _ S' B₂
/-- a slot set in an instance half made -/
theorem p_set0 {x dx p i : Nat} {name : Str} {v : Value} {sl sl' : Array (Option Value)} {Q : Unit → Shared → Prop} (S : St y.cx L m ((x, (⟨.ref 656, some dx, .plain, sl⟩ : Obj)) :: l) k s) (ha : findIn (hd.heap_39 y.w.params) (.ref 656) name = some (some (.ref p))) (ht : typeIn (hd.heap_39 y.w.params) (.ref p) = some (.type "member_descriptor")) (hp : slotIn (hd.heap_39 y.w.params) p 656 = some i) (hz : i < 1000)
    (e : (sl ++ Array.replicate (i + 1 - sl.size) none).setIfInBounds i (some v) = sl')
    (h : ∀ s', St y.cx L m ((x, (⟨.ref 656, some dx, .plain, sl'⟩ : Obj)) :: l) k s' → Q () s') : N y.cx A (setAttr (.ref x) name v) Q s :=
  b_set S (fa _).sa (fa _).po (md_tr ha ht (fa _).mds) ht hp hz e h
theorem ct_Init {n : Nat} {t : Tok} {x dx : Addr} {Q : Value → Shared → Prop} (S : St y.cx L m ((x, instObj 656 dx) :: l) k s) (R : Rm A 2) (hn : n ≤ 1000000)
    (h : ∀ ba vt t1 t2 s', (vt == sysModules) = false → St y.cx L m ((x, (Raw.mk dx ba none false ((n : Int), t1) (1, t2) false none none none vt).obj) :: (ba, baObj (List.replicate n 0)) :: (vt, dict0) :: l) k s' → Q .none s') :
    N y.cx A (call (.ref 270) [.ref x, .int n t]) Q s := by
  refine p_call (binds := [("self", .ref x), ("initialSize", .int n t)]) S (by rfl) (by rfl) (Rm.depth R) (binds_K (K := (hd.heap_39 _)) (St.X S) rfl rfl rfl rfl rfl) (locs rfl) (fun Lx oLx s₁ S₁ => ?_) (by decide) rfl rfl rfl
  refine n_cons ?_
  refine n_if ?_
  refine t_not ?_
  refine t_chain2 ?_
  (refine r_cint (by assumption) ?_; intro _ _ _)
  refine r_loc (by assumption) (by exact rfl) ?_
  refine c_le ?_
  refine tr_bool ?_
  refine   g_yes     (by       first       | rfl       | assumption)     ?_
  refine e_attr ?_
  refine p_glob (by assumption) (gl_Builder _) ?_ rfl rfl
  (refine a_656_MAX_BUFFER_SIZE (by assumption) ?_; intro _ _)
  refine c_le ?_
  refine tr_bool ?_
  refine g_no (by simp; omega) ?_
  refine n_nil ?_
  show N _ _ _ _ _
  refine n_cons ?_
  refine n_setattr ?_
  refine e_call ?_
  refine p_blt (by assumption) (gb_bytearray _) (by boot_by_name) (by decide) ?_ rfl rfl
  refine cw1 ?_
  refine sp_cons ?_
  refine r_loc (by assumption) (by exact rfl) ?_
  refine sp_nil ?_
  refine ⟨Kp.type, ?_⟩
  show N _ _ (call _ [_] _) _ _
  refine n_ba_int (by assumption) R.g (by omega) (by omega) fun ba s₂ S₂ => ?_
  rw [Int.toNat_natCast] at S₂
  have S₂ := S₂.swap
  show N _ _ _ _ _
  refine r_loc (by assumption) (by exact rfl) ?_
  refine p_set0 (sl' := #[some (.ref ba)]) (by assumption) (fa _).at_Bytes (fa _).ty_Bytes (fa _).sl_Bytes (by decide) rfl ?_
  intro _ _
  show N _ _ _ _ _
  refine n_cons ?_
  refine n_setattr ?_
  refine r_cnone ?_
  refine r_loc (by assumption) (by exact rfl) ?_
  refine p_set0 (sl' := #[some (.ref ba), some .none]) (by assumption) (fa _).at_current_vtable (fa _).ty_current_vtable (fa _).sl_current_vtable (by decide) rfl ?_
  intro _ _
  show N _ _ _ _ _
  refine n_cons ?_
  refine n_setattr ?_
  refine e_meth ?_
  refine p_glob (by assumption) (gl_UOffsetTFlags _) ?_ rfl rfl
  (refine y_148 (by assumption) ?_; intro _ _)
  refine cw1 ?_
  refine sp_cons ?_
  refine r_loc (by assumption) (by exact rfl) ?_
  refine sp_nil ?_
  refine ⟨Kp.type, ?_⟩
  show N _ _ (call _ [_] _) _ _
  walk_at "n_leafcall"
  refine r_loc (by assumption) (by exact rfl) ?_
  refine p_set0 (sl' := #[some (.ref ba), some .none, none, none, _]) (by assumption) (fa _).at_head (fa _).ty_head (fa _).sl_head (by decide) rfl ?_
  intro _ _
  show N _ _ _ _ _
  refine n_cons ?_
  refine n_setattr ?_
  (refine r_cint (by assumption) ?_; intro _ _ _)
  refine r_loc (by assumption) (by exact rfl) ?_
  refine p_set0 (sl' := #[some (.ref ba), some .none, none, none, _, _]) (by assumption) (fa _).at_minalign (fa _).ty_minalign (fa _).sl_minalign (by decide) rfl ?_
  intro _ _
  show N _ _ _ _ _
  refine n_cons ?_
  refine n_setattr ?_
  refine r_cnone ?_
  refine r_loc (by assumption) (by exact rfl) ?_
  refine p_set0 (sl' := #[some (.ref ba), some .none, none, none, _, _, none, some .none]) (by assumption) (fa _).at_objectEnd (fa _).ty_objectEnd (fa _).sl_objectEnd (by decide) rfl ?_
  intro _ _
  show N _ _ _ _ _
  refine n_cons ?_
  refine n_setattr ?_
  refine k_newdict (by assumption) fun vt s₃ hvt S₃ => ?_
  have S₃ := S₃.under
  show N _ _ _ _ _
  refine r_loc (by assumption) (by exact rfl) ?_
  refine p_set0 (sl' := #[some (.ref ba), some .none, none, none, _, _, none, some .none, none, none, some (.ref vt)]) (by assumption) (fa _).at_vtables (fa _).ty_vtables (fa _).sl_vtables (by decide) rfl ?_
  intro _ _
  show N _ _ _ _ _
  refine n_cons ?_
  refine n_setattr ?_
  refine r_cbool ?_
  refine r_loc (by assumption) (by exact rfl) ?_
  refine p_set0 (sl' := #[some (.ref ba), some .none, none, none, _, _, some (.bool false), some .none, none, none, some (.ref vt)]) (by assumption) (fa _).at_nested (fa _).ty_nested (fa _).sl_nested (by decide) rfl ?_
  intro _ _
  show N _ _ _ _ _
  refine n_cons ?_
  refine n_setattr ?_
  refine r_cbool ?_
  refine r_loc (by assumption) (by exact rfl) ?_
  refine p_set0 (sl' := #[some (.ref ba), some .none, none, some (.bool false), _, _, some (.bool false), some .none, none, none, some (.ref vt)]) (by assumption) (fa _).at_forceDefaults (fa _).ty_forceDefaults (fa _).sl_forceDefaults (by decide) rfl ?_
  intro _ _
  show N _ _ _ _ _
  refine n_cons ?_
  refine n_setattr ?_
  refine r_cnone ?_
  refine r_loc (by assumption) (by exact rfl) ?_
  refine p_set0 (sl' := #[some (.ref ba), some .none, none, some (.bool false), _, _, some (.bool false), some .none, some .none, none, some (.ref vt)]) (by assumption) (fa _).at_sharedStrings (fa _).ty_sharedStrings (fa _).sl_sharedStrings (by decide) rfl ?_
  intro _ _
  show N _ _ _ _ _
  refine n_cons ?_
  refine n_setattr ?_
  refine r_cbool ?_
  refine r_loc (by assumption) (by exact rfl) ?_
  refine p_set0 (sl' := #[some (.ref ba), some .none, some (.bool false), some (.bool false), _, _, some (.bool false), some .none, some .none, none, some (.ref vt)]) (by assumption) (fa _).at_finished (fa _).ty_finished (fa _).sl_finished (by decide) rfl ?_
  intro _ _
  show N _ _ _ _ _
  refine n_nil ?_
  refine Back.mk (by assumption) (fun S' => ?_)
  exact h _ _ _ _ _ hvt S'
end
section
variable {y : Cy} {A : Around} {s : Shared} {L b st F d : Addr} {m : Str → Option Value} {l k : List (Addr × Obj)} {Q : Value → Shared → Prop}
/-- a builder made -/
theorem ct_Builder {n : Nat} {t : Tok} (S : St y.cx L m l k s) (R : Rm A 4) (hn : n ≤ 1000000)
    (h : ∀ b r s', St y.cx L m ((b, r.obj) :: (r.ba, baObj (List.replicate n 0)) :: (r.vt, dict0) :: l) k s' → Bd r (List.replicate n 0) [] n 1 → (r.vt == sysModules) = false → r.nested = false → r.ss = none → Q (.ref b) s') :
    N y.cx A (call (.ref 656) [.int n t]) Q s := by
  refine n_make S (fa _).mkb (fa _).ini rfl fun x dx s₁ S₁ => ?_
  refine ct_Init S₁ ((R.typ mk_w mk_u mk_g).le (by omega)) hn fun ba vt t1 t2 s₂ hvt S₂ => ?_
  refine ⟨rfl, h _ _ _ S₂ ⟨⟨by simp, by omega, by simp, by simp, by simp⟩, rfl, by omega⟩ hvt rfl rfl⟩
end

end Mine

end
-- PD1
section
open PySem PySem.W PySem.Calls PyProof.Rows
set_option maxRecDepth 100000
set_option linter.unusedVariables false
set_option linter.deprecated false
namespace Mine
section
variable {y : Cy} {A : Around} {s : Shared} {L b st F d : Addr} {m : Str → Option Value} {l k : List (Addr × Obj)} {r : Raw} {Q : Value → Shared → Prop} {w : Nat} {lo hi : Int} {buf out : List UInt8} {room ma : Nat}

theorem ct_PrependUint8Slot {i : Nat} {x dd : Int} {ti tx td : Tok} {ca : Addr} {vs : List Value} {o : Obj} (S : St y.cx L m ((b, r.obj) :: (r.ba, baObj buf) :: (ca, o) :: l) k s) (R : Rm A 5) (B : Bd r buf out room ma) (hs : out.length ≤ 3000000)
    (X : LsO o vs) (hc : r.cv = some ca) (hn : r.nested = true) (hi' : i < vs.length) (hz : vs.length ≤ 1000) (h0 : 0 ≤ x) (h1 : x ≤ 255) (d0 : 0 ≤ dd) (d1 : dd ≤ 255)
    (hE : x = dd → ∀ s', St y.cx L m ((b, r.obj) :: (r.ba, baObj buf) :: (ca, o) :: l) k s' → Q .none s')
    (hN : x ≠ dd → ∀ ba hd ma' buf' t o' s', St y.cx L m ((b, (r.at ba hd ma').obj) :: (ba, baObj buf') :: (ca, o') :: l) k s' → Bd (r.at ba hd ma') buf' (le 1 x ++ prepO 1 0 out) (prepR 1 0 out room) (max ma 1) →
      LsO o' (vs.set i (.int (((le 1 x ++ prepO 1 0 out).length : Nat) : Int) t)) → Q .none s') :
    N y.cx A (call (.ref 477) [.ref b, .int i ti, .int x tx, .int dd td]) Q s := by
  refine p_callV (binds := fun D => [("self", .ref b), ("args", .ref D)]) (vs := [.int i ti, .int x tx, .int dd td]) S (by rfl) (by rfl) (Rm.depth R) (by rfl) (fun _ => rfl) (fun _ => locs rfl) (fun D Lx oLx s₁ S₁ => ?_) (by decide) rfl rfl rfl
  have S₁ := S₁.down3
  show N _ _ _ _ _
  refine n_cons ?_
  refine n_expr ?_
  refine e_methS ?_
  refine r_loc (by assumption) (by exact rfl) ?_
  refine bm_PrependSlot (by assumption) fun q s₂ S₂ => ?_
  have S₂ := S₂.down3
  refine cwM (q := q) (f := 456) (self := .ref b) rfl ?_
  refine sp_cons ?_
  refine p_glob (by assumption) (gl_Uint8Flags _) ?_ rfl rfl
  walk_at "n_leaf"
  refine r_loc (by assumption) (by exact rfl) ?_
  refine st_tup (by assumption) (by walk_at "in_l6") (by simp) fun s₂ S₂ => ?_
  refine sp_nil ?_
  refine ⟨⟨S₂.get (by walk_at "in_l6"), S₂.X⟩, ?_⟩
  refine n_callM (by assumption) (by walk_at "in_l6") ?_
  refine cn_PrependSlot fl_Uint8Flags (.inl rfl) (by assumption) (R.deep.le (by omega)) B hs X hc hn hi' hz h0 h1 d0 d1 ?_ ?_
  · intro hx s₃ S₃
    refine ⟨(by intro _ h; cases h), ?_⟩
    show N _ _ _ _ _
    refine n_nil ?_
    refine Back.mk (by assumption) (fun S' => ?_)
    exact hE hx _ (S'.sub (.cons_cons _ (.cons_cons _ (.cons_cons _ (.cons _ (.cons _ (.refl _)))))))
  · intro hx ba hd ma' buf' t o' s₃ S₃ B₃ X₃
    refine ⟨(by intro _ h; cases h), ?_⟩
    show N _ _ _ _ _
    refine n_nil ?_
    refine Back.mk (by assumption) (fun S' => ?_)
    exact hN hx _ _ _ _ _ _ _ (S'.sub (.cons_cons _ (.cons_cons _ (.cons_cons _ (.cons _ (.cons _ (.refl _))))))) B₃ X₃
theorem ct_PrependUint64Slot {i : Nat} {x dd : Int} {ti tx td : Tok} {ca : Addr} {vs : List Value} {o : Obj} (S : St y.cx L m ((b, r.obj) :: (r.ba, baObj buf) :: (ca, o) :: l) k s) (R : Rm A 5) (B : Bd r buf out room ma) (hs : out.length ≤ 3000000)
    (X : LsO o vs) (hc : r.cv = some ca) (hn : r.nested = true) (hi' : i < vs.length) (hz : vs.length ≤ 1000) (h0 : 0 ≤ x) (h1 : x ≤ 18446744073709551615) (d0 : 0 ≤ dd) (d1 : dd ≤ 18446744073709551615)
    (hE : x = dd → ∀ s', St y.cx L m ((b, r.obj) :: (r.ba, baObj buf) :: (ca, o) :: l) k s' → Q .none s')
    (hN : x ≠ dd → ∀ ba hd ma' buf' t o' s', St y.cx L m ((b, (r.at ba hd ma').obj) :: (ba, baObj buf') :: (ca, o') :: l) k s' → Bd (r.at ba hd ma') buf' (le 8 x ++ prepO 8 0 out) (prepR 8 0 out room) (max ma 8) →
      LsO o' (vs.set i (.int (((le 8 x ++ prepO 8 0 out).length : Nat) : Int) t)) → Q .none s') :
    N y.cx A (call (.ref 498) [.ref b, .int i ti, .int x tx, .int dd td]) Q s := by
  refine p_callV (binds := fun D => [("self", .ref b), ("args", .ref D)]) (vs := [.int i ti, .int x tx, .int dd td]) S (by rfl) (by rfl) (Rm.depth R) (by rfl) (fun _ => rfl) (fun _ => locs rfl) (fun D Lx oLx s₁ S₁ => ?_) (by decide) rfl rfl rfl
  have S₁ := S₁.down3
  show N _ _ _ _ _
  refine n_cons ?_
  refine n_expr ?_
  refine e_methS ?_
  refine r_loc (by assumption) (by exact rfl) ?_
  refine bm_PrependSlot (by assumption) fun q s₂ S₂ => ?_
  have S₂ := S₂.down3
  refine cwM (q := q) (f := 456) (self := .ref b) rfl ?_
  refine sp_cons ?_
  refine p_glob (by assumption) (gl_Uint64Flags _) ?_ rfl rfl
  walk_at "n_leaf"
  refine r_loc (by assumption) (by exact rfl) ?_
  refine st_tup (by assumption) (by walk_at "in_l6") (by simp) fun s₂ S₂ => ?_
  refine sp_nil ?_
  refine ⟨⟨S₂.get (by walk_at "in_l6"), S₂.X⟩, ?_⟩
  refine n_callM (by assumption) (by walk_at "in_l6") ?_
  refine cn_PrependSlot fl_Uint64Flags (.inr (.inr (.inr rfl))) (by assumption) (R.deep.le (by omega)) B hs X hc hn hi' hz h0 h1 d0 d1 ?_ ?_
  · intro hx s₃ S₃
    refine ⟨(by intro _ h; cases h), ?_⟩
    show N _ _ _ _ _
    refine n_nil ?_
    refine Back.mk (by assumption) (fun S' => ?_)
    exact hE hx _ (S'.sub (.cons_cons _ (.cons_cons _ (.cons_cons _ (.cons _ (.cons _ (.refl _)))))))
  · intro hx ba hd ma' buf' t o' s₃ S₃ B₃ X₃
    refine ⟨(by intro _ h; cases h), ?_⟩
    show N _ _ _ _ _
    refine n_nil ?_
    refine Back.mk (by assumption) (fun S' => ?_)
    exact hN hx _ _ _ _ _ _ _ (S'.sub (.cons_cons _ (.cons_cons _ (.cons_cons _ (.cons _ (.cons _ (.refl _))))))) B₃ X₃
end

end Mine

end
-- PE1
section
open PySem PySem.W PySem.Calls PyProof.Rows
set_option maxRecDepth 100000
set_option linter.unusedVariables false
set_option linter.deprecated false
namespace Mine
section
variable {y : Cy} {A : Around} {s : Shared} {L b st F d : Addr} {m : Str → Option Value} {l k : List (Addr × Obj)} {r : Raw} {Q : Value → Shared → Prop} {w : Nat} {lo hi : Int} {buf out : List UInt8} {room ma : Nat} {name : Str} {v : Value}
theorem p_globC {a : Addr} {cn : Str} {cs : Scope} {ccd : Value} {pos : Pos} {Q : Value → Shared → Prop} (S : St y.cx L m l k s) (e : nsIn (hd.heap_39 y.w.params) mainGlobals name = some (some v)) (h : Q v s)
    (hk : cs.kind = .function := by rfl) (hx : (envOfC cn cs L a ccd).kindOf name = some .globalImplicit := by rfl) (hd : (name == ("__debug__" : Str)) = false := by decide) :
    N y.cx A (eval (.Name name pos) (envOfC cn cs L a ccd)) Q s := r_globC S e h hk hx hd
theorem p_bltC {a : Addr} {cn : Str} {cs : Scope} {ccd : Value} {pos : Pos} {Q : Value → Shared → Prop} (S : St y.cx L m l k s) (e : nsIn (hd.heap_39 y.w.params) mainGlobals name = some none) (hv : bootBuiltins name = some v) (hn : name ≠ "__name__") (h : Q v s)
    (hk : cs.kind = .function := by rfl) (hx : (envOfC cn cs L a ccd).kindOf name = some .globalImplicit := by rfl) (hd : (name == ("__debug__" : Str)) = false := by decide) :
    N y.cx A (eval (.Name name pos) (envOfC cn cs L a ccd)) Q s := r_bltC S e hv hn h hk hx hd
theorem ct_RelSlot {i n : Nat} {ti tn td : Tok} {ca : Addr} {vs : List Value} {o : Obj} (S : St y.cx L m ((b, r.obj) :: (r.ba, baObj buf) :: (ca, o) :: l) k s) (R : Rm A 5) (B : Bd r buf out room ma) (hs : out.length ≤ 3000000)
    (X : LsO o vs) (hc : r.cv = some ca) (hn : r.nested = true) (hi' : i < vs.length) (hz : vs.length ≤ 1000) (hl : n ≤ out.length)
    (hE : n = 0 → ∀ s', St y.cx L m ((b, r.obj) :: (r.ba, baObj buf) :: (ca, o) :: l) k s' → Q .none s')
    (hN : n ≠ 0 → ∀ ba hd ma' buf' t o' s', St y.cx L m ((b, (r.at ba hd ma').obj) :: (ba, baObj buf') :: (ca, o') :: l) k s' →
      Bd (r.at ba hd ma') buf' (le 4 ((prepO 4 0 out).length - n + 4 : Nat) ++ prepO 4 0 out) (prepR 4 0 out room) (max ma 4) →
      LsO o' (vs.set i (.int (((le 4 ((prepO 4 0 out).length - n + 4 : Nat) ++ prepO 4 0 out).length : Nat) : Int) t)) → Q .none s') :
    N y.cx A (call (.ref 533) [.ref b, .int i ti, .int n tn, .int 0 td]) Q s := by
  refine p_call (binds := [("self", .ref b), ("o", .int i ti), ("x", .int n tn), ("d", .int 0 td)]) S (by rfl) (by rfl) (Rm.depth R) (BindsTo.of_eq rfl) (locs rfl) (fun Lx oLx s₁ S₁ => ?_) (by decide) rfl rfl rfl
  refine n_cons ?_
  refine n_if ?_
  refine t_or ?_
  refine t_cmp ?_
  refine r_loc (by assumption) (by exact rfl) ?_
  refine r_loc (by assumption) (by exact rfl) ?_
  refine c_ne ?_
  refine tr_bool ?_
  by_cases h0 : n = 0
  · refine g_no (by simp [h0]) ?_
    refine t_or ?_
    refine t_plain ?_
    refine e_attr ?_
    refine r_loc (by assumption) (by exact rfl) ?_
    (refine g_forceDefaults (by assumption) ?_; intro _ _)
    refine tr_bool ?_
    refine   g_no     (by       first       | rfl       | assumption)     ?_
    refine t_or0 ?_
    refine   g_no     (by       first       | rfl       | assumption)     ?_
    refine n_nil ?_
    show N _ _ _ _ _
    refine n_nil ?_
    refine Back.mk (by assumption) (fun S' => ?_)
    exact hE h0 _ S'
  · refine g_yes (by simp [h0]) ?_
    refine   g_yes     (by       first       | rfl       | assumption)     ?_
    refine n_cons ?_
    refine n_expr ?_
    refine e_meth ?_
    refine r_loc (by assumption) (by exact rfl) ?_
    refine m_PrependUOffsetTRelative (by assumption) ?_
    refine cw1 ?_
    refine sp_cons ?_
    refine r_loc (by assumption) (by exact rfl) ?_
    refine sp_nil ?_
    refine ⟨Kp.of_K (by assumption) (kp_354 _), ?_⟩
    show N _ _ (call _ [_, _] _) _ _
    refine ct_RelU (n := n) (by assumption) (R.deep.le (by omega)) B hs hl fun ba hd ma' buf' s₂ S₂ B₂ => ?_
    refine ⟨(by intro _ h; cases h), ?_⟩
    show N _ _ _ _ _
    refine n_cons ?_
    refine n_expr ?_
    refine e_meth ?_
    refine r_loc (by assumption) (by exact rfl) ?_
    refine m_Slot (by assumption) ?_
    refine cw1 ?_
    refine sp_cons ?_
    refine r_loc (by assumption) (by exact rfl) ?_
    refine sp_nil ?_
    refine ⟨Kp.of_K (by assumption) (kp_418 _), ?_⟩
    show N _ _ (call _ [_, _] _) _ _
    refine ct_Slot (r := r.at ba hd ma') (by assumption) (R.deep.le (by omega)) B₂.ok X hc hn hi' hz fun t o' s₃ S₃ X₃ => ?_
    refine ⟨(by intro _ h; cases h), ?_⟩
    show N _ _ _ _ _
    refine n_nil ?_
    show N _ _ _ _ _
    refine n_nil ?_
    refine Back.mk (by assumption) (fun S' => ?_)
    exact hN h0 _ _ _ _ _ _ _ S' B₂ X₃
theorem r_item_dict {c : Cx} {o : Obj} {i : Value} {slice : Expr} {xs : List (List UInt8 × Value)} {Q : Value → Shared → Prop} (V : SsO c o d xs) (S : St c L m l k s) (hm : (d, o) ∈ l) (h : N c A (getItem (.ref d) i) Q s)
    (hs : ∀ o i, subscripted slice false o i = operate [i, o] (getItem o i) ∨ subscripted slice false o i = operate [o, i] (getItem o i)) : N c A (getitemInPython (.ref d) >>= fun b => subscripted slice b (.ref d) i) Q s :=
  r_item (V.dict S hm).typeIs slot_dict_getitem.lookup h hs
/-- the first shared string -/
theorem ct_Shared0 {x : List UInt8} {t : Tok} (S : St y.cx L m ((b, r.obj) :: (r.ba, baObj buf) :: l) k s) (R : Rm A 5) (B : Bd r buf out room ma) (hs : out.length ≤ 3000000) (hx : x.length ≤ 500000) (hnn : r.nested = false) (hss : r.ss = none)
    (h : ∀ d o ba hd ma' buf' t s', SsO y.cx o d [(x, .int ((strO x out).length : Nat) t)] → St y.cx L m ((b, ({ r with ss := some d, vne := some none }.at ba hd ma').obj) :: (ba, baObj buf') :: (d, o) :: l) k s' →
      Bd ({ r with ss := some d, vne := some none }.at ba hd ma') buf' (strO x out) (prepR 4 (x.length + 1) out room) (max ma 4) → Q (.int ((strO x out).length : Nat) t) s') :
    N y.cx A (call (.ref 376) [.ref b, .bytes x.toArray t]) Q s := by
  refine p_call (binds := [("self", .ref b), ("s", .bytes x.toArray t)]) S (by rfl) (by rfl) (Rm.depth R) (BindsTo.of_eq rfl) (locs rfl) (fun Lx oLx s₁ S₁ => ?_) (by decide) rfl rfl rfl
  refine n_cons ?_
  refine n_if ?_
  refine t_not ?_
  refine t_plain ?_
  refine e_attr ?_
  refine r_loc (by assumption) (by exact rfl) ?_
  (refine g_sharedStrings (by assumption) ?_; intro _ _)
  rw [hss]
  refine tr_none ?_
  refine   g_yes     (by       first       | rfl       | assumption)     ?_
  refine n_cons ?_
  refine n_setattr ?_
  refine k_newdict (by assumption) fun d s₂ hd S₂ => ?_
  have S₂ := S₂.under
  show N _ _ _ _ _
  refine r_loc (by assumption) (by exact rfl) ?_
  (refine s_sharedStrings (by assumption) ?_; intro _ _)
  show N _ _ _ _ _
  refine n_nil ?_
  show N _ _ _ _ _
  refine n_cons ?_
  refine n_assign ?_
  refine e_meth ?_
  refine r_loc (by assumption) (by exact rfl) ?_
  refine m_CreateString (by assumption) ?_
  refine cw1 ?_
  refine sp_cons ?_
  refine r_loc (by assumption) (by exact rfl) ?_
  refine sp_nil ?_
  refine ⟨Kp.of_K (by assumption) (kp_383 _), ?_⟩
  show N _ _ (call _ [_, _] _) _ _
  rename_i S₃
  refine ct_CreateString (r := { r with ss := some d }) S₃ (R.deep.le (by omega)) ⟨B.ok, B.ma, B.rm⟩ hs hx hnn fun ba hd2 ma' buf' t2 s₃ S₄ B₄ => ?_
  (refine r_st (by assumption) ?_; intro _ _)
  show N _ _ _ _ _
  refine n_cons ?_
  refine n_setitem ?_
  refine r_loc (by assumption) (by exact rfl) ?_
  refine e_attr ?_
  refine r_loc (by assumption) (by exact rfl) ?_
  (refine g_sharedStrings (by assumption) ?_; intro _ _)
  refine r_loc (by assumption) (by exact rfl) ?_
  rename_i S₅
  refine k_set_dict (SsO.new hd) S₅.over (by simp) fun o' s₄ V' S₆ => ?_
  have S₆ := S₆.under
  show N _ _ _ _ _
  refine n_cons ?_
  refine n_ret ?_
  refine r_loc (by assumption) (by exact rfl) ?_
  refine Back.mk (by assumption) (fun S' => ?_)
  exact h d o' _ _ _ _ _ _ V' S' B₄
/-- a shared string known -/
theorem ct_Shared1 {x : List UInt8} {t : Tok} {o : Obj} {v : Value} {xs : List (List UInt8 × Value)} (S : St y.cx L m ((b, r.obj) :: (d, o) :: l) k s) (R : Rm A 5) (V : SsO y.cx o d xs) (hss : r.ss = some d) (hz : xs.length ≤ 1000000) (hv : valueAt xs x = some v)
    (h : ∀ s', St y.cx L m ((b, r.obj) :: (d, o) :: l) k s' → Q v s') :
    N y.cx A (call (.ref 376) [.ref b, .bytes x.toArray t]) Q s := by
  have hne : xs.isEmpty = false := by cases xs with
    | nil => simp [valueAt] at hv
    | cons _ _ => rfl
  refine p_call (binds := [("self", .ref b), ("s", .bytes x.toArray t)]) S (by rfl) (by rfl) (Rm.depth R) (BindsTo.of_eq rfl) (locs rfl) (fun Lx oLx s₁ S₁ => ?_) (by decide) rfl rfl rfl
  refine n_cons ?_
  refine n_if ?_
  refine t_not ?_
  refine t_plain ?_
  refine e_attr ?_
  refine r_loc (by assumption) (by exact rfl) ?_
  (refine g_sharedStrings (by assumption) ?_; intro _ _)
  rw [hss]
  refine k_truthy_dict V (by assumption) (by walk_at "in_l6") hz ?_
  intro _ _
  rw [hne]
  refine   g_no     (by       first       | rfl       | assumption)     ?_
  refine n_cons ?_
  refine n_if ?_
  refine t_cmp ?_
  refine r_loc (by assumption) (by exact rfl) ?_
  refine e_attr ?_
  refine r_loc (by assumption) (by exact rfl) ?_
  (refine g_sharedStrings (by assumption) ?_; intro _ _)
  rw [hss]
  refine k_in_dict V (by assumption) (by walk_at "in_l6") ?_
  intro _ _
  rw [hv]
  refine tr_bool ?_
  refine   g_yes     (by       first       | rfl       | assumption)     ?_
  refine n_cons ?_
  refine n_ret ?_
  refine e_sub ?_
  refine e_attr ?_
  refine r_loc (by assumption) (by exact rfl) ?_
  (refine g_sharedStrings (by assumption) ?_; intro _ _)
  refine r_loc (by assumption) (by exact rfl) ?_
  rw [hss]
  refine r_item_dict V (by assumption) (by walk_at "in_l6") ?_ (fun _ _ => by first | exact .inl rfl | exact .inr rfl)
  refine k_get_dict V (by assumption) (by walk_at "in_l6") hv ?_
  intro _ _
  skip
  refine Back.mk (by assumption) (fun S' => ?_)
  exact h _ S'
/-- a shared string not seen yet -/
theorem ct_Shared2 {x : List UInt8} {t : Tok} {o : Obj} {xs : List (List UInt8 × Value)} (S : St y.cx L m ((b, r.obj) :: (r.ba, baObj buf) :: (d, o) :: l) k s) (R : Rm A 5) (B : Bd r buf out room ma) (hs : out.length ≤ 3000000) (hx : x.length ≤ 500000) (hnn : r.nested = false)
    (V : SsO y.cx o d xs) (hss : r.ss = some d) (hz : xs.length ≤ 1000000) (hne : xs.isEmpty = false) (hv : valueAt xs x = none)
    (h : ∀ o ba hd ma' buf' t s', SsO y.cx o d (stored xs x (.int ((strO x out).length : Nat) t)) → St y.cx L m ((b, ({ r with vne := some none }.at ba hd ma').obj) :: (ba, baObj buf') :: (d, o) :: l) k s' →
      Bd ({ r with vne := some none }.at ba hd ma') buf' (strO x out) (prepR 4 (x.length + 1) out room) (max ma 4) → Q (.int ((strO x out).length : Nat) t) s') :
    N y.cx A (call (.ref 376) [.ref b, .bytes x.toArray t]) Q s := by
  refine p_call (binds := [("self", .ref b), ("s", .bytes x.toArray t)]) S (by rfl) (by rfl) (Rm.depth R) (BindsTo.of_eq rfl) (locs rfl) (fun Lx oLx s₁ S₁ => ?_) (by decide) rfl rfl rfl
  refine n_cons ?_
  refine n_if ?_
  refine t_not ?_
  refine t_plain ?_
  refine e_attr ?_
  refine r_loc (by assumption) (by exact rfl) ?_
  (refine g_sharedStrings (by assumption) ?_; intro _ _)
  rw [hss]
  refine k_truthy_dict V (by assumption) (by walk_at "in_l6") hz ?_
  intro _ _
  rw [hne]
  refine   g_no     (by       first       | rfl       | assumption)     ?_
  refine n_cons ?_
  refine n_if ?_
  refine t_cmp ?_
  refine r_loc (by assumption) (by exact rfl) ?_
  refine e_attr ?_
  refine r_loc (by assumption) (by exact rfl) ?_
  (refine g_sharedStrings (by assumption) ?_; intro _ _)
  rw [hss]
  refine k_in_dict V (by assumption) (by walk_at "in_l6") ?_
  intro _ _
  rw [hv]
  refine tr_bool ?_
  refine   g_no     (by       first       | rfl       | assumption)     ?_
  refine n_nil ?_
  show N _ _ _ _ _
  refine n_nil ?_
  show N _ _ _ _ _
  refine n_cons ?_
  refine n_assign ?_
  refine e_meth ?_
  refine r_loc (by assumption) (by exact rfl) ?_
  refine m_CreateString (by assumption) ?_
  refine cw1 ?_
  refine sp_cons ?_
  refine r_loc (by assumption) (by exact rfl) ?_
  refine sp_nil ?_
  refine ⟨Kp.of_K (by assumption) (kp_383 _), ?_⟩
  show N _ _ (call _ [_, _] _) _ _
  rename_i S₃
  refine ct_CreateString S₃ (R.deep.le (by omega)) B hs hx hnn fun ba hd2 ma' buf' t2 s₃ S₄ B₄ => ?_
  (refine r_st (by assumption) ?_; intro _ _)
  show N _ _ _ _ _
  refine n_cons ?_
  refine n_setitem ?_
  refine r_loc (by assumption) (by exact rfl) ?_
  refine e_attr ?_
  refine r_loc (by assumption) (by exact rfl) ?_
  (refine g_sharedStrings (by assumption) ?_; intro _ _)
  refine r_loc (by assumption) (by exact rfl) ?_
  rename_i S₅
  show N _ _ (setItem (refO r.ss) _ _) _ _
  rw [hss]
  refine k_set_dict V S₅.over hz fun o' s₄ V' S₆ => ?_
  have S₆ := S₆.under
  show N _ _ _ _ _
  refine n_cons ?_
  refine n_ret ?_
  refine r_loc (by assumption) (by exact rfl) ?_
  refine Back.mk (by assumption) (fun S' => ?_)
  exact h o' _ _ _ _ _ _ V' S' B₄
end

end Mine

end
-- PF1
section
open PySem PySem.W PySem.Calls PyProof.Rows
set_option maxRecDepth 100000
set_option linter.unusedVariables false
set_option linter.deprecated false
namespace Mine
end Mine
end
local macro_rules | `(tactic| walk_at "n_leafitem") => `(tactic| refine r_item_tup (by assumption) (by walk_at "in_l6") ?_ (fun _ _ => by first | exact .inl rfl | exact .inr rfl))
section
open PySem PySem.W PySem.Calls PyProof.Rows
set_option maxRecDepth 100000
set_option linter.unusedVariables false
set_option linter.deprecated false
namespace Mine
/-- what Finish with a name lays: the filling, the name, the way to the root -/
def nameO (ma : Nat) (b0 b1 b2 b3 : UInt8) (out : List UInt8) : List UInt8 := le 1 (b0.toNat : Int) ++ (le 1 (b1.toNat : Int) ++ (le 1 (b2.toNat : Int) ++ (le 1 (b3.toNat : Int) ++ prepO 4 4 (prepO ma 8 out))))
def finNO (ma root : Nat) (b0 b1 b2 b3 : UInt8) (out : List UInt8) : List UInt8 := let o := prepO 4 0 (nameO ma b0 b1 b2 b3 out); le 4 (o.length - root + 4 : Nat) ++ o
def finNR (ma : Nat) (b0 b1 b2 b3 : UInt8) (out : List UInt8) (room : Nat) : Nat := prepR 4 0 (nameO ma b0 b1 b2 b3 out) (prepR 4 4 (prepO ma 8 out) (prepR ma 8 out room))
section
variable {y : Cy} {A : Around} {s : Shared} {L b st F d : Addr} {m : Str → Option Value} {l k : List (Addr × Obj)} {r : Raw} {Q : Value → Shared → Prop} {w : Nat} {lo hi : Int} {buf out : List UInt8} {room ma : Nat}
set_option maxHeartbeats 1000000 in
theorem ct_FinishPN {root : Nat} {b0 b1 b2 b3 : UInt8} {tr ti : Tok} (S : St y.cx L m ((b, r.obj) :: (r.ba, baObj buf) :: l) k s) (R : Rm A 5) (B : Bd r buf out room ma) (hs : out.length ≤ 2000000) (hw : Width ma) (hr : root ≤ out.length)
    (h : ∀ ba hd ma' buf' v t s', St y.cx L m ((b, { r.at ba hd ma' with fin := true }.obj) :: (ba, baObj buf') :: l) k s' → Bd { r.at ba hd ma' with fin := true } buf' (finNO ma root b0 b1 b2 b3 out) (finNR ma b0 b1 b2 b3 out room) (max ma 4) → Q (.int v t) s') :
    N y.cx A (call (.ref 426) [.ref b, .int root tr, .bool false] [("file_identifier", .bytes #[b0, b1, b2, b3] ti)]) Q s := by
  have hW : Width 4 := .inr (.inr (.inl rfl))
  have hl := prepO_len (a := 8) (out := out) hw
  have hl2 : out.length ≤ (prepO ma 8 out).length := by simp [prepO]
  have hl3 := prepO_len (a := 4) (out := prepO ma 8 out) hW
  have hl4 : (prepO ma 8 out).length ≤ (prepO 4 4 (prepO ma 8 out)).length := by simp [prepO]
  refine p_call (binds := [("self", .ref b), ("rootTable", .int root tr), ("sizePrefix", .bool false), ("file_identifier", .bytes #[b0, b1, b2, b3] ti)]) S (by rfl) (by rfl) (Rm.depth R) (binds_K (K := (hd.heap_39 _)) (St.X S) rfl rfl rfl rfl rfl) (locs rfl) (fun Lx oLx s₁ S₁ => ?_) (by decide) rfl rfl rfl
  refine n_cons ?_
  refine n_expr ?_
  refine e_call ?_
  refine p_glob (by assumption) (gl_enforce_number _) ?_ rfl rfl
  refine cw1 ?_
  refine sp_cons ?_
  refine r_loc (by assumption) (by exact rfl) ?_
  refine sp_cons ?_
  refine p_glob (by assumption) (gl_UOffsetTFlags _) ?_ rfl rfl
  refine sp_nil ?_
  refine ⟨Kp.of_K (by assumption) (kp_169 _), ?_⟩
  show N _ _ (call _ [_, _] _) _ _
  refine ct_enf fl_UOffsetTFlags (by assumption) (R.deep.le (by omega)) (by omega) (by omega) ?_
  intro _
  intro _
  refine ⟨(by intro _ h; cases h), ?_⟩
  show N _ _ _ _ _
  refine n_cons ?_
  refine n_assign ?_
  refine e_attr ?_
  refine p_glob (by assumption) (gl_UOffsetTFlags _) ?_ rfl rfl
  (refine a_148_bytewidth (by assumption) ?_; intro _ _)
  (refine r_st (by assumption) ?_; intro _ _)
  show N _ _ _ _ _
  refine n_cons ?_
  refine n_if ?_
  refine t_cmp ?_
  refine r_loc (by assumption) (by exact rfl) ?_
  refine r_cnone ?_
  refine c_isnot (by rfl) ?_
  refine tr_bool ?_
  refine   g_yes     (by       first       | rfl       | assumption)     ?_
  refine n_cons ?_
  refine n_aug ?_
  refine r_ldn (by assumption) (by exact rfl) ?_
  refine e_attr ?_
  refine p_glob (by assumption) (gl_Int32Flags _) ?_ rfl rfl
  (refine a_122_bytewidth (by assumption) ?_; intro _ _)
  (refine ii_add (by assumption) ?_; intro _ _ _)
  (refine r_st (by assumption) ?_; intro _ _)
  show N _ _ _ _ _
  refine n_nil ?_
  show N _ _ _ _ _
  refine n_cons ?_
  refine n_if ?_
  refine t_plain ?_
  refine r_loc (by assumption) (by exact rfl) ?_
  refine tr_bool ?_
  refine   g_no     (by       first       | rfl       | assumption)     ?_
  refine n_nil ?_
  show N _ _ _ _ _
  refine n_cons ?_
  refine n_expr ?_
  refine e_meth ?_
  refine r_loc (by assumption) (by exact rfl) ?_
  refine m_Prep (by assumption) ?_
  refine cw1 ?_
  refine sp_cons ?_
  refine e_attr ?_
  refine r_loc (by assumption) (by exact rfl) ?_
  (refine g_minalign (by assumption) ?_; intro _ _)
  refine sp_cons ?_
  refine r_loc (by assumption) (by exact rfl) ?_
  refine sp_nil ?_
  refine ⟨Kp.of_K (by assumption) (kp_340 _), ?_⟩
  show N _ _ (call _ [_, _, _] _) _ _
  have hma := B.ma
  rw [hma]
  refine cp_Prep (w := ma) (a := 8) (by assumption) (R.deep.le (by omega)) B hw (by omega) fun ba hd ma' buf' s₂ S₂ B₂ => ?_
  refine ⟨(by intro _ h; cases h), ?_⟩
  show N _ _ _ _ _
  refine n_cons ?_
  refine n_if ?_
  refine t_cmp ?_
  refine r_loc (by assumption) (by exact rfl) ?_
  refine r_cnone ?_
  refine c_isnot (by rfl) ?_
  refine tr_bool ?_
  refine   g_yes     (by       first       | rfl       | assumption)     ?_
  refine n_cons ?_
  refine n_expr ?_
  refine e_meth ?_
  refine r_loc (by assumption) (by exact rfl) ?_
  refine m_Prep (by assumption) ?_
  refine cw1 ?_
  refine sp_cons ?_
  refine e_attr ?_
  refine p_glob (by assumption) (gl_UOffsetTFlags _) ?_ rfl rfl
  (refine a_148_bytewidth (by assumption) ?_; intro _ _)
  refine sp_cons ?_
  refine p_glob (by assumption) (gl_FILE_IDENTIFIER_LENGTH _) ?_ rfl rfl
  refine sp_nil ?_
  refine ⟨Kp.of_K (by assumption) (kp_340 _), ?_⟩
  show N _ _ (call _ [_, _, _] _) _ _
  refine cp_Prep (w := 4) (a := 4) (by assumption) (R.deep.le (by omega)) B₂ hW (by omega) fun ba hd ma' buf' s₂ S₂ B₂ => ?_
  have hg := prepR_ge (w := 4) (a := 4) (out := prepO ma 8 out) (room := prepR ma 8 out room)
  refine ⟨(by intro _ h; cases h), ?_⟩
  show N _ _ _ _ _
  refine n_cons ?_
  refine n_assign ?_
  refine e_call ?_
  refine p_glob (by assumption) (gl_unpack _) ?_ rfl rfl
  refine cw1 ?_
  refine sp_cons ?_
  walk_at "n_leaf"
  refine sp_cons ?_
  refine r_loc (by assumption) (by exact rfl) ?_
  refine sp_nil ?_
  refine ⟨Kp.builtin, ?_⟩
  show N _ _ (call _ [_, _] _) _ _
  rename_i S₃
  refine k_unpack S₃ fun d t0 t1 t2 t3 s₄ S₄ => ?_
  have S₄ := S₄.under
  show N _ _ _ _ _
  (refine r_st (by assumption) ?_; intro _ _)
  show N _ _ _ _ _
  refine n_cons ?_
  refine n_for ?_
  refine e_call ?_
  refine p_blt (by assumption) (gb_range _) (by boot_by_name) (by decide) ?_ rfl rfl
  refine cw1 ?_
  refine sp_cons ?_
  refine e_bin ?_
  refine p_glob (by assumption) (gl_FILE_IDENTIFIER_LENGTH _) ?_ rfl rfl
  (refine r_cint (by assumption) ?_; intro _ _ _)
  (refine i_sub (by assumption) ?_; intro _ _ _)
  refine sp_cons ?_
  refine e_un ?_
  (refine r_cint (by assumption) ?_; intro _ _ _)
  (refine i_neg (by assumption) ?_; intro _ _ _)
  refine sp_cons ?_
  refine e_un ?_
  (refine r_cint (by assumption) ?_; intro _ _ _)
  (refine i_neg (by assumption) ?_; intro _ _ _)
  refine sp_nil ?_
  refine ⟨Kp.type, ?_⟩
  show N _ _ (call _ [_, _, _] _) _ _
  rename_i S₅
  refine k_range_dn (n := 3) S₅ (by omega) fun rg s₆ S₆ => ?_
  skip
  refine k_iter_dn (n := 3) S₆ (by omega) fun it s₇ S₇ => ?_
  refine NC.for_ (k_next_dn S₇ (by omega) fun tx s₈ S₈ => ?_)
  have S₈ := S₈.under
  show N _ _ _ _ _
  (refine r_st (by assumption) ?_; intro _ _)
  refine n_cons ?_
  refine n_expr ?_
  refine e_meth ?_
  refine r_loc (by assumption) (by exact rfl) ?_
  refine m_Place (by assumption) ?_
  refine cw1 ?_
  refine sp_cons ?_
  refine e_sub ?_
  refine r_loc (by assumption) (by exact rfl) ?_
  refine r_loc (by assumption) (by exact rfl) ?_
  walk_at "n_leafitem"
  refine t_get (i := 3) (by assumption) (by walk_at "in_l6") (by simp) (by rfl) ?_
  refine sp_cons ?_
  refine p_glob (by assumption) (gl_Uint8Flags _) ?_ rfl rfl
  refine sp_nil ?_
  refine ⟨Kp.of_K (by assumption) (kp_631 _), ?_⟩
  show N _ _ (call _ [_, _, _] _) _ _
  refine ct_Place fl_Uint8Flags (by assumption) (R.deep.le (by omega)) B₂.ok (by first | omega | (simp only [List.length_append, le_length]; omega)) (by omega) (by have := b3.toNat_lt; omega) fun hd3 buf3 s₉ S₉ Bp3 => ?_
  refine ⟨(by intro _ h; cases h), ?_⟩
  show N _ _ _ _ _
  refine n_nil ?_
  have S₇ := S₉.over
  refine NC.for_ (k_next_dn S₇ (by omega) fun tx s₈ S₈ => ?_)
  have S₈ := S₈.under
  show N _ _ _ _ _
  (refine r_st (by assumption) ?_; intro _ _)
  refine n_cons ?_
  refine n_expr ?_
  refine e_meth ?_
  refine r_loc (by assumption) (by exact rfl) ?_
  refine m_Place (by assumption) ?_
  refine cw1 ?_
  refine sp_cons ?_
  refine e_sub ?_
  refine r_loc (by assumption) (by exact rfl) ?_
  refine r_loc (by assumption) (by exact rfl) ?_
  walk_at "n_leafitem"
  refine t_get (i := 2) (by assumption) (by walk_at "in_l6") (by simp) (by rfl) ?_
  refine sp_cons ?_
  refine p_glob (by assumption) (gl_Uint8Flags _) ?_ rfl rfl
  refine sp_nil ?_
  refine ⟨Kp.of_K (by assumption) (kp_631 _), ?_⟩
  show N _ _ (call _ [_, _, _] _) _ _
  refine ct_Place fl_Uint8Flags (by assumption) (R.deep.le (by omega)) Bp3 (by first | omega | (simp only [List.length_append, le_length]; omega)) (by omega) (by have := b2.toNat_lt; omega) fun hd2 buf2 s₉ S₉ Bp2 => ?_
  refine ⟨(by intro _ h; cases h), ?_⟩
  show N _ _ _ _ _
  refine n_nil ?_
  have S₇ := S₉.over
  refine NC.for_ (k_next_dn S₇ (by omega) fun tx s₈ S₈ => ?_)
  have S₈ := S₈.under
  show N _ _ _ _ _
  (refine r_st (by assumption) ?_; intro _ _)
  refine n_cons ?_
  refine n_expr ?_
  refine e_meth ?_
  refine r_loc (by assumption) (by exact rfl) ?_
  refine m_Place (by assumption) ?_
  refine cw1 ?_
  refine sp_cons ?_
  refine e_sub ?_
  refine r_loc (by assumption) (by exact rfl) ?_
  refine r_loc (by assumption) (by exact rfl) ?_
  walk_at "n_leafitem"
  refine t_get (i := 1) (by assumption) (by walk_at "in_l6") (by simp) (by rfl) ?_
  refine sp_cons ?_
  refine p_glob (by assumption) (gl_Uint8Flags _) ?_ rfl rfl
  refine sp_nil ?_
  refine ⟨Kp.of_K (by assumption) (kp_631 _), ?_⟩
  show N _ _ (call _ [_, _, _] _) _ _
  refine ct_Place fl_Uint8Flags (by assumption) (R.deep.le (by omega)) Bp2 (by first | omega | (simp only [List.length_append, le_length]; omega)) (by omega) (by have := b1.toNat_lt; omega) fun hd1 buf1 s₉ S₉ Bp1 => ?_
  refine ⟨(by intro _ h; cases h), ?_⟩
  show N _ _ _ _ _
  refine n_nil ?_
  have S₇ := S₉.over
  refine NC.for_ (k_next_dn S₇ (by omega) fun tx s₈ S₈ => ?_)
  have S₈ := S₈.under
  show N _ _ _ _ _
  (refine r_st (by assumption) ?_; intro _ _)
  refine n_cons ?_
  refine n_expr ?_
  refine e_meth ?_
  refine r_loc (by assumption) (by exact rfl) ?_
  refine m_Place (by assumption) ?_
  refine cw1 ?_
  refine sp_cons ?_
  refine e_sub ?_
  refine r_loc (by assumption) (by exact rfl) ?_
  refine r_loc (by assumption) (by exact rfl) ?_
  walk_at "n_leafitem"
  refine t_get (i := 0) (by assumption) (by walk_at "in_l6") (by simp) (by rfl) ?_
  refine sp_cons ?_
  refine p_glob (by assumption) (gl_Uint8Flags _) ?_ rfl rfl
  refine sp_nil ?_
  refine ⟨Kp.of_K (by assumption) (kp_631 _), ?_⟩
  show N _ _ (call _ [_, _, _] _) _ _
  refine ct_Place fl_Uint8Flags (by assumption) (R.deep.le (by omega)) Bp1 (by first | omega | (simp only [List.length_append, le_length]; omega)) (by omega) (by have := b0.toNat_lt; omega) fun hd0 buf0 s₉ S₉ Bp0 => ?_
  refine ⟨(by intro _ h; cases h), ?_⟩
  show N _ _ _ _ _
  refine n_nil ?_
  have S₇ := S₉.over
  refine NC.for_ (k_next_dn_end S₇ (by exact R.h) fun s₈ S₈ => ?_)
  have hlen : (nameO ma b0 b1 b2 b3 out).length = (prepO 4 4 (prepO ma 8 out)).length + 4 := by simp only [nameO, List.length_append, le_length]; omega
  show N _ _ _ _ _
  refine n_nil ?_
  show N _ _ _ _ _
  refine n_cons ?_
  refine n_expr ?_
  refine e_meth ?_
  refine r_loc (by assumption) (by exact rfl) ?_
  refine m_PrependUOffsetTRelative (by assumption) ?_
  refine cw1 ?_
  refine sp_cons ?_
  refine r_loc (by assumption) (by exact rfl) ?_
  refine sp_nil ?_
  refine ⟨Kp.of_K (by assumption) (kp_354 _), ?_⟩
  show N _ _ (call _ [_, _] _) _ _
  refine ct_RelU (n := root) (out := nameO ma b0 b1 b2 b3 out) (r := { r.at ba hd ma' with head := hd0 }) (by assumption) (R.deep.le (by omega)) ⟨Bp0, B₂.ma, B₂.rm⟩ (by omega) (by omega) fun ba hd ma' buf' s₃ S₃ B₃ => ?_
  refine ⟨(by intro _ h; cases h), ?_⟩
  show N _ _ _ _ _
  refine n_cons ?_
  refine n_if ?_
  refine t_plain ?_
  refine r_loc (by assumption) (by exact rfl) ?_
  refine tr_bool ?_
  refine   g_no     (by       first       | rfl       | assumption)     ?_
  refine n_nil ?_
  show N _ _ _ _ _
  refine n_cons ?_
  refine n_setattr ?_
  refine r_cbool ?_
  refine r_loc (by assumption) (by exact rfl) ?_
  (refine s_finished (by assumption) ?_; intro _ _)
  show N _ _ _ _ _
  refine n_cons ?_
  refine n_ret ?_
  refine e_attr ?_
  refine r_loc (by assumption) (by exact rfl) ?_
  (refine g_head (by assumption) ?_; intro _ _)
  refine Back.mk (by assumption) (fun S' => ?_)
  rw [Nat.max_self, show max (max ma 4) 4 = max ma 4 by omega] at B₃
  have S' := S'.sub (.cons_cons _ (.cons_cons _ (.cons _ (.refl _))))
  exact h _ _ _ _ _ _ _ S' ⟨B₃.ok, B₃.ma, B₃.rm⟩
theorem ct_FinishN {root : Nat} {b0 b1 b2 b3 : UInt8} {tr ti : Tok} (S : St y.cx L m ((b, r.obj) :: (r.ba, baObj buf) :: l) k s) (R : Rm A 6) (B : Bd r buf out room ma) (hs : out.length ≤ 2000000) (hw : Width ma) (hr : root ≤ out.length)
    (h : ∀ ba hd ma' buf' v t s', St y.cx L m ((b, { r.at ba hd ma' with fin := true }.obj) :: (ba, baObj buf') :: l) k s' → Bd { r.at ba hd ma' with fin := true } buf' (finNO ma root b0 b1 b2 b3 out) (finNR ma b0 b1 b2 b3 out room) (max ma 4) → Q (.int v t) s') :
    N y.cx A (call (.ref 434) [.ref b, .int root tr, .bytes #[b0, b1, b2, b3] ti]) Q s := by
  refine p_call (binds := [("self", .ref b), ("rootTable", .int root tr), ("file_identifier", .bytes #[b0, b1, b2, b3] ti)]) S (by rfl) (by rfl) (Rm.depth R) (binds_K (K := (hd.heap_39 _)) (St.X S) rfl rfl rfl rfl rfl) (locs rfl) (fun Lx oLx s₁ S₁ => ?_) (by decide) rfl rfl rfl
  refine n_cons ?_
  refine n_ret ?_
  refine e_meth ?_
  refine r_loc (by assumption) (by exact rfl) ?_
  refine m__Builder__Finish (by assumption) ?_
  walk_at "n_leaf"
  refine sp_cons ?_
  refine r_loc (by assumption) (by exact rfl) ?_
  refine sp_cons ?_
  refine r_cbool ?_
  refine sp_nil ?_
  walk_at "n_leaf"
  refine r_loc (by assumption) (by exact rfl) ?_
  walk_at "n_leaf"
  refine ⟨Kp.of_K (by assumption) (kp_426 _), ?_⟩
  show N _ _ (call _ [_, _, _] _) _ _
  refine ct_FinishPN (root := root) (by assumption) (R.deep.le (by omega)) B hs hw hr fun ba hd ma' buf' v t s₂ S₂ B₂ => ?_
  skip
  refine Back.mk (by assumption) (fun S' => ?_)
  exact h _ _ _ _ _ _ _ S' B₂
end

end Mine

end
-- PG1
section
open PySem PySem.W PySem.Calls PyProof.Rows
set_option maxRecDepth 100000
set_option linter.unusedVariables false
set_option linter.deprecated false
namespace Mine
end Mine
end
local macro_rules | `(tactic| walk_at "n_leaf") => `(tactic| ((with_reducible show N _ _ (truthy (.int _ _)) _ _); refine k_truthy_int ?_))
section
open PySem PySem.W PySem.Calls PyProof.Rows
set_option maxRecDepth 100000
set_option linter.unusedVariables false
set_option linter.deprecated false
namespace Mine
end Mine
end
local macro_rules | `(tactic| walk_at "n_leaf") => `(tactic| ((with_reducible show N _ _ (assignInOrder (List.map _ (assignEach [] _)) _) _ _); refine ao_nil ?_))
section
open PySem PySem.W PySem.Calls PyProof.Rows
set_option maxRecDepth 100000
set_option linter.unusedVariables false
set_option linter.deprecated false
namespace Mine
end Mine
end
local macro_rules | `(tactic| walk_at "n_leaf") => `(tactic| ((with_reducible show N _ _ (assignInOrder (List.map _ (assignEach (_ :: _) _)) _) _ _); refine ao_name ?_))
section
open PySem PySem.W PySem.Calls PyProof.Rows
set_option maxRecDepth 100000
set_option linter.unusedVariables false
set_option linter.deprecated false
namespace Mine
theorem fm (a b : Nat) : Int.fmod (a : Int) (b : Int) = ((a % b : Nat) : Int) := by
  rw [Int.fmod_eq_emod_of_nonneg _ (by omega)]; rfl
section
variable {c : Cx} {A : Around} {s : Shared} {L : Addr} {m : Str → Option Value} {l k : List (Addr × Obj)} {t u : Tok}
theorem i_modN {a b : Nat} {Q : Value → Shared → Prop} (S : St c L m l k s) (hb : b ≠ 0) (h : ∀ t s', St c L m l k s' → Q (.int ((a % b : Nat) : Int) t) s') : N c A (binaryOp .Mod (.int (a : Int) t) (.int (b : Int) u)) Q s :=
  i_mod S (by omega) (by rw [fm]; exact h)
theorem i_mulN {a b : Nat} {Q : Value → Shared → Prop} (S : St c L m l k s) (hb : b < 1000000) (h : ∀ t s', St c L m l k s' → Q (.int ((a * b : Nat) : Int) t) s') : N c A (binaryOp .Mult (.int (a : Int) t) (.int (b : Int) u)) Q s :=
  i_mul S (mulOk (by omega)) (by rw [show (a : Int) * (b : Int) = ((a * b : Nat) : Int) by simp]; exact h)
theorem i_addN {a b : Nat} {Q : Value → Shared → Prop} (S : St c L m l k s) (h : ∀ t s', St c L m l k s' → Q (.int ((a + b : Nat) : Int) t) s') : N c A (binaryOp .Add (.int (a : Int) t) (.int (b : Int) u)) Q s :=
  i_add S (by rw [show (a : Int) + (b : Int) = ((a + b : Nat) : Int) by simp]; exact h)
end
section
variable {c : Cx} {A : Around} {s : Shared} {L : Addr} {m : Str → Option Value} {l k : List (Addr × Obj)} {t u : Tok}
theorem i_modL {a n : Nat} {Q : Value → Shared → Prop} (S : St c L m l k s) (hb : n ≠ 0) (h : ∀ t s', St c L m l k s' → Q (.int ((a % (@OfNat.ofNat Nat n (instOfNatNat n)) : Nat) : Int) t) s') : N c A (binaryOp .Mod (.int (a : Int) t) (.int (@OfNat.ofNat Int n instOfNat) u)) Q s :=
  i_modN (b := n) S hb h
theorem i_mulL {a n : Nat} {Q : Value → Shared → Prop} (S : St c L m l k s) (hb : n < 1000000) (h : ∀ t s', St c L m l k s' → Q (.int ((a * (@OfNat.ofNat Nat n (instOfNatNat n)) : Nat) : Int) t) s') : N c A (binaryOp .Mult (.int (a : Int) t) (.int (@OfNat.ofNat Int n instOfNat) u)) Q s :=
  i_mulN (b := n) S hb h
end
section
variable {c : Cx} {A : Around} {s : Shared} {L : Addr} {m : Str → Option Value} {l k : List (Addr × Obj)} {t u : Tok}
theorem fd (a b : Nat) : Int.fdiv (a : Int) (b : Int) = ((a / b : Nat) : Int) := by
  rw [Int.fdiv_eq_ediv_of_nonneg _ (by omega)]; rfl
theorem i_divL {a n : Nat} {Q : Value → Shared → Prop} (S : St c L m l k s) (hb : n ≠ 0) (hp : Builtin.divisionGoesByPylong (a : Int) ((n : Nat) : Int) = false) (h : ∀ t s', St c L m l k s' → Q (.int ((a / (@OfNat.ofNat Nat n (instOfNatNat n)) : Nat) : Int) t) s') : N c A (binaryOp .FloorDiv (.int (a : Int) t) (.int (@OfNat.ofNat Int n instOfNat) u)) Q s :=
  i_div S (by show ((n : Nat) : Int) ≠ 0; omega) hp (by show ∀ t s', St c L m l k s' → Q (.int (Int.fdiv (a : Int) ((n : Nat) : Int)) t) s'; rw [fd]; exact h)
end
end Mine
end
local macro_rules | `(tactic| walk_at "n_leaf") => `(tactic| ((with_reducible show N _ _ (binaryOp .Mod (.int (Nat.cast _) _) (.int _ _)) _ _); refine i_modL (by assumption) (by decide) ?_; intro _ _ _))
section
open PySem PySem.W PySem.Calls PyProof.Rows
set_option maxRecDepth 100000
set_option linter.unusedVariables false
set_option linter.deprecated false
namespace Mine
end Mine
end
local macro_rules | `(tactic| walk_at "n_leaf") => `(tactic| ((with_reducible show N _ _ (binaryOp .FloorDiv (.int (Nat.cast _) _) (.int _ _)) _ _); refine i_divL (by assumption) (by decide) (PyProof.noPylong_of_log2 (by decide +kernel)) ?_; intro _ _ _))
section
open PySem PySem.W PySem.Calls PyProof.Rows
set_option maxRecDepth 100000
set_option linter.unusedVariables false
set_option linter.deprecated false
namespace Mine
/-- what a builder stands for, between its deeds -/
structure Gh where
  out : List UInt8
  room : Nat
  ma : Nat
  vts : List (List Int × Nat)
def vtsOf (vts : List (List Int × Nat)) (ts : List (Addr × Tok)) : List (List Int × Addr × Value) := List.zipWith (fun v t => (v.1, t.1, Value.int (v.2 : Nat) t.2)) vts ts
def vtAt (vts : List (List Int × Nat)) (key : List Int) : Option Nat := (vts.find? fun v => decide (v.1 = key)).map (·.2)
theorem vtsOf_at {key : List Int} : ∀ {vts : List (List Int × Nat)} {ts : List (Addr × Tok)}, ts.length = vts.length →
    (atKey (vtsOf vts ts) key = none → vtAt vts key = none) ∧ (∀ a v, atKey (vtsOf vts ts) key = some (a, v) → ∃ (d : Nat) (t : Tok), v = .int d t ∧ vtAt vts key = some d)
  | [], [], _ => ⟨fun _ => rfl, fun _ _ q => by cases q⟩
  | v :: vts, t :: ts, h => by
    have ih := vtsOf_at (key := key) (vts := vts) (ts := ts) (by simpa using h)
    unfold atKey vtAt vtsOf at *
    simp only [List.zipWith_cons_cons, List.find?_cons]
    by_cases q : v.1 = key
    · simp only [q, decide_true]
      refine ⟨fun z => by simp at z, fun a w z => ?_⟩
      simp at z
      exact ⟨v.2, t.2, z.2.symm, rfl⟩
    · simp only [q, decide_false]
      exact ih
theorem vtsOf_len {vts : List (List Int × Nat)} {ts : List (Addr × Tok)} (h : ts.length = vts.length) : (vtsOf vts ts).length = vts.length := by simp [vtsOf, h]
theorem vtsOf_val {vts : List (List Int × Nat)} {ts : List (Addr × Tok)} {n : Nat} (h : ∀ v ∈ vts, v.2 ≤ n) : ∀ x ∈ vtsOf vts ts, ∃ (d : Nat) (t : Tok), x.2.2 = .int d t ∧ d ≤ n := by
  intro x hx
  unfold vtsOf at hx
  obtain ⟨i, hi⟩ := List.mem_iff_getElem?.mp hx
  rw [List.getElem?_zipWith] at hi
  cases e1 : vts[i]? with
  | none => rw [e1] at hi; simp at hi
  | some v =>
    cases e2 : ts[i]? with
    | none => rw [e1, e2] at hi; simp at hi
    | some t =>
      rw [e1, e2] at hi
      simp at hi
      exact ⟨v.2, t.2, by rw [← hi], h v (List.mem_of_getElem? e1)⟩
theorem vtsOf_app {vts : List (List Int × Nat)} {ts : List (Addr × Tok)} {v : List Int × Nat} {t : Addr × Tok} (h : ts.length = vts.length) : vtsOf (vts ++ [v]) (ts ++ [t]) = vtsOf vts ts ++ [(v.1, t.1, Value.int (v.2 : Nat) t.2)] := by
  unfold vtsOf; rw [List.zipWith_append h.symm]; rfl
/-- the builder r stands for g; its vtables' keys are in tl -/
structure Bq (y : Cy) (r : Raw) (buf : List UInt8) (od : Obj) (tl : List (Addr × Obj)) (g : Gh) : Prop where
  bd : Bd r buf g.out g.room g.ma
  vt : ∃ ts, ts.length = g.vts.length ∧ VtO y.cx tl od r.vt (vtsOf g.vts ts)
  nn : r.nested = false
  vl : ∀ v ∈ g.vts, v.2 ≤ g.out.length
  wd : Width g.ma
def Gh.num (w : Nat) (v : Int) (g : Gh) : Gh := ⟨le w v ++ prepO w 0 g.out, prepR w 0 g.out g.room, max g.ma w, g.vts⟩
def Gh.str (x : List UInt8) (g : Gh) : Gh := ⟨strO x g.out, prepR 4 (x.length + 1) g.out g.room, max g.ma 4, g.vts⟩
/-- EndObject: cvs the slots, oe where the object began -/
def Gh.endO (cvs : List Int) (oe : Nat) (g : Gh) : Gh :=
  let oo := (prepO 4 0 g.out).length + 4
  let key := keyL cvs oo ++ [(oo : Int) - oe]
  match vtAt g.vts key with
  | none => let p := vtNew oo oe (keyL cvs oo) (soO g.out, prepR 4 0 g.out g.room); ⟨p.1, p.2, max g.ma 4, g.vts ++ [(key, p.1.length)]⟩
  | some d => ⟨over (soO g.out) 0 (le 4 ((d : Int) - oo)), prepR 4 0 g.out g.room, max g.ma 4, g.vts⟩
theorem fill8 {o : Nat} (h : o % 8 = 0) : fillN 8 o = 0 := by unfold fillN; omega
theorem fill8_sum (o a : Nat) : (fillN 8 (o + a) + o + a) % 8 = 0 := by unfold fillN; omega
theorem wd_max {a b : Nat} (h : Width a) (h' : Width b) : Width (max a b) := by
  rcases h with rfl | rfl | rfl | rfl <;> rcases h' with rfl | rfl | rfl | rfl <;> simp [Width]
theorem ints_set {vs : List Value} {ns : List Int} (h : IntsAre vs ns) : ∀ (i : Nat) (v : Int) (t : Tok), IntsAre (vs.set i (.int v t)) (ns.set i v) := by
  induction h with
  | nil => intro i v t; exact .nil
  | cons n u h ih =>
    intro i v t
    cases i with
    | zero => exact .cons v t h
    | succ i => exact .cons n u (ih i v t)
theorem foldV_len (ns : List Int) : ∀ p : List UInt8 × Nat, p.1.length ≤ (ns.foldl stepV p).1.length ∧ (ns.foldl stepV p).1.length ≤ p.1.length + 3 * ns.length := by
  induction ns with
  | nil => intro p; exact ⟨Nat.le_refl _, by simp⟩
  | cons n ns ih =>
    intro p
    have h1 := ih (stepV p n)
    have h2 := stepV_len (p := p) (off := n)
    simp only [List.foldl_cons, List.length_cons]
    omega
theorem vtNew_len {oo oe : Nat} {ns : List Int} {p : List UInt8 × Nat} (h4 : 4 ≤ oo) (ho : oo ≤ p.1.length) : p.1.length ≤ (vtNew oo oe ns p).1.length ∧ (vtNew oo oe ns p).1.length ≤ p.1.length + 3 * ns.length + 6 := by
  have h1 := foldV_len ns p
  have h2 := stepV_len (p := ns.foldl stepV p) (off := (oo : Int) - oe)
  have h3 := stepV_len (p := stepV (ns.foldl stepV p) ((oo : Int) - oe)) (off := ((2 * (ns.length + 2) : Nat) : Int))
  unfold vtNew
  dsimp only
  rw [over_length (by rw [le_length]; omega)]
  omega
theorem soO_len (out : List UInt8) : (soO out).length = (prepO 4 0 out).length + 4 := by unfold soO; rw [List.length_append, le_length]; omega
section
variable {y : Cy} {A : Around} {s : Shared} {L b st ed F d : Addr} {m : Str → Option Value} {l k l0 tl : List (Addr × Obj)} {r : Raw} {Q : Value → Shared → Prop} {w : Nat} {lo hi : Int} {buf out : List UInt8} {g : Gh} {od : Obj}
theorem gq_EndObject {cvs : List Int} {oe : Nat} {te : Tok} {ca : Addr} {o : Obj} {vs : List Value} (S : St y.cx L m ((b, r.obj) :: (r.ba, baObj buf) :: (ca, o) :: (r.vt, od) :: (tl ++ l)) k s) (R : Rm A 7) (bd : Bd r buf g.out g.room g.ma)
    (vt : ∃ ts, ts.length = g.vts.length ∧ VtO y.cx tl od r.vt (vtsOf g.vts ts)) (vl : ∀ v ∈ g.vts, v.2 ≤ g.out.length) (wd : Width g.ma) (hc : r.cv = some ca) (ho : r.oe = some ((oe : Int), te)) (X : LsO o vs) (hi : IntsAre vs cvs) (hvl : cvs.length ≤ 200) (hnn : r.nested = true)
    (hs : g.out.length ≤ 1000000) (hoe : oe ≤ g.out.length) (hos : g.out.length + 11 - oe ≤ 60000) (hcv : ∀ e ∈ cvs, 0 ≤ e ∧ e ≤ g.out.length ∧ (e ≠ 0 → oe ≤ e)) (hxs : g.vts.length ≤ 1000)
    (h : ∀ r' buf' od' tl' t s', Bq y r' buf' od' tl' (g.endO cvs oe) → r'.ss = r.ss → St y.cx L m ((b, r'.obj) :: (r'.ba, baObj buf') :: (r'.vt, od') :: (tl' ++ l)) k s' → Q (.int (((prepO 4 0 g.out).length + 4 : Nat) : Int) t) s') :
    N y.cx A (call (.ref 305) [.ref b]) Q s := by
  obtain ⟨ts, hts, V⟩ := vt
  have hl := prepO_len (w := 4) (a := 0) (out := g.out) (.inr (.inr (.inl rfl)))
  have hge : g.out.length ≤ (prepO 4 0 g.out).length := by simp [prepO]
  refine ct_EndObject (oo := (prepO 4 0 g.out).length + 4) S R V (fun p hp => List.mem_append_left _ hp) bd hs hc ho X hi hvl hnn rfl (by omega) (by omega) (fun e he => ?_) (by rw [vtsOf_len hts]; exact hxs) (vtsOf_val vl) ?_ ?_
  · obtain ⟨a1, a2, a3⟩ := hcv e he
    exact ⟨a1, by omega, fun z => by have := a3 z; omega⟩
  · intro hat ba hd ma' buf' tt to od' t t' s' S' V' B'
    have hv0 := (vtsOf_at hts).1 hat
    have e : g.endO cvs oe = ⟨(vtNew ((prepO 4 0 g.out).length + 4) oe (keyL cvs (((prepO 4 0 g.out).length + 4 : Nat) : Int)) (soO g.out, prepR 4 0 g.out g.room)).1, (vtNew ((prepO 4 0 g.out).length + 4) oe (keyL cvs (((prepO 4 0 g.out).length + 4 : Nat) : Int)) (soO g.out, prepR 4 0 g.out g.room)).2, max g.ma 4,
        g.vts ++ [(keyL cvs (((prepO 4 0 g.out).length + 4 : Nat) : Int) ++ [(((prepO 4 0 g.out).length + 4 : Nat) : Int) - oe], (vtNew ((prepO 4 0 g.out).length + 4) oe (keyL cvs (((prepO 4 0 g.out).length + 4 : Nat) : Int)) (soO g.out, prepR 4 0 g.out g.room)).1.length)]⟩ := by
      unfold Gh.endO
      dsimp only
      rw [hv0]
    have hvn := vtNew_len (oe := oe) (ns := keyL cvs (((prepO 4 0 g.out).length + 4 : Nat) : Int)) (p := (soO g.out, prepR 4 0 g.out g.room)) (show 4 ≤ (prepO 4 0 g.out).length + 4 by omega) (by rw [soO_len]; omega)
    rw [soO_len] at hvn
    rw [e] at h
    refine h _ _ od' ((tt, to) :: tl) _ _ ⟨B', ⟨ts ++ [(tt, t')], by simp [hts], ?_⟩, rfl, fun v hv => ?_, wd_max wd (.inr (.inr (.inl rfl)))⟩ rfl S'
    · rw [vtsOf_app hts]; exact V'
    · rcases List.mem_append.mp hv with hv | hv
      · have := vl v hv; show v.2 ≤ (vtNew _ _ _ _).1.length; omega
      · rw [List.mem_singleton.mp hv]; exact Nat.le_refl _
  · intro a d td hat ba hd ma' buf' t s' S' B'
    obtain ⟨d', t', e1, hv1⟩ := (vtsOf_at hts).2 _ _ hat
    injection e1 with e1
    obtain rfl : d = d' := by omega
    have e : g.endO cvs oe = ⟨over (soO g.out) 0 (le 4 ((d : Int) - (((prepO 4 0 g.out).length + 4 : Nat) : Int))), prepR 4 0 g.out g.room, max g.ma 4, g.vts⟩ := by
      unfold Gh.endO
      dsimp only
      rw [hv1]
    rw [e] at h
    refine h _ _ od tl _ _ ⟨B', ⟨ts, hts, V⟩, rfl, fun v hv => ?_, wd_max wd (.inr (.inr (.inl rfl)))⟩ rfl S'
    show v.2 ≤ (over _ _ _).length
    rw [over_length (by rw [le_length, soO_len]; omega), soO_len]
    have := vl v hv; omega
end

end Mine

end
-- PH1
section
open PySem PySem.W PySem.Calls PyProof.Rows
set_option maxRecDepth 100000
set_option linter.unusedVariables false
set_option linter.deprecated false
namespace Mine
-- shared strings, ghostly
def ssAt (ss : List (List UInt8 × Nat)) (x : List UInt8) : Option Nat := (ss.find? fun p => decide (p.1 = x)).map (·.2)
def ssL (o : Option Addr) (so : Obj) : List (Addr × Obj) := match o with
  | none => []
  | some d => [(d, so)]
/-- the dict of shared strings, if there is one -/
def Ss (c : Cx) (o : Option Addr) (so : Obj) (ss : List (List UInt8 × Nat)) : Prop :=
  (o = none ∧ ss = []) ∨ ∃ d xs, o = some d ∧ SsO c so d xs ∧ ss ≠ [] ∧ xs.length = ss.length ∧ ∀ key, (ssAt ss key = none → valueAt xs key = none) ∧ ∀ n, ssAt ss key = some n → ∃ t, valueAt xs key = some (.int ((n : Nat) : Int) t)
theorem ssAt_app {ss : List (List UInt8 × Nat)} {x key : List UInt8} {n : Nat} : ssAt (ss ++ [(x, n)]) key = match ssAt ss key with
    | some m => some m
    | none => if x = key then some n else none := by
  unfold ssAt
  rw [List.find?_append]
  cases ss.find? fun p => decide (p.1 = key) with
  | some p => rfl
  | none =>
    by_cases h : x = key
    · simp [h]
    · simp [h]
theorem stored_new {xs : List (List UInt8 × Value)} {x : List UInt8} {v : Value} (hn : valueAt xs x = none) : stored xs x v = xs ++ [(x, v)] := by
  unfold stored
  rw [if_neg]
  intro q
  obtain ⟨p, hp, e⟩ := List.any_eq_true.mp q
  unfold valueAt at hn
  rw [Option.map_eq_none_iff, List.find?_eq_none] at hn
  exact hn p hp e
theorem valueAt_app {xs : List (List UInt8 × Value)} {x key : List UInt8} {v : Value} : valueAt (xs ++ [(x, v)]) key = match valueAt xs key with
    | some m => some m
    | none => if x = key then some v else none := by
  unfold valueAt
  rw [List.find?_append]
  cases xs.find? fun p => decide (p.1 = key) with
  | some p => rfl
  | none =>
    by_cases h : x = key
    · simp [h]
    · simp [h]
def shW (x : List UInt8) (g : Gh) (ss : List (List UInt8 × Nat)) : (Gh × List (List UInt8 × Nat)) × Nat := match ssAt ss x with
  | some n => ((g, ss), n)
  | none => ((g.str x, ss ++ [(x, (g.str x).out.length)]), (g.str x).out.length)
theorem Ss.app {c : Cx} {d : Addr} {so : Obj} {ss : List (List UInt8 × Nat)} {xs : List (List UInt8 × Value)} {x : List UInt8} {n : Nat} {t : Tok} (V : SsO c so d (xs ++ [(x, .int ((n : Nat) : Int) t)])) (hl : xs.length = ss.length)
    (hk : ∀ key, (ssAt ss key = none → valueAt xs key = none) ∧ ∀ n, ssAt ss key = some n → ∃ t, valueAt xs key = some (.int ((n : Nat) : Int) t)) : Ss c (some d) so (ss ++ [(x, n)]) := by
  refine .inr ⟨d, _, rfl, V, by simp, by simp [hl], fun key => ?_⟩
  rw [ssAt_app, valueAt_app]
  obtain ⟨h1, h2⟩ := hk key
  cases e : ssAt ss key with
  | some z =>
    obtain ⟨t', e'⟩ := h2 z e
    rw [e']
    exact ⟨fun q => by simp at q, fun n q => ⟨t', by simp at q; rw [q]⟩⟩
  | none =>
    rw [h1 e]
    by_cases q : x = key
    · simp [q]
    · simp [q]
theorem pX {α : Type} (X A T l : List α) : (X ++ (A ++ (T ++ l))).Perm (A ++ (T ++ (X ++ l))) := by
  refine (List.perm_append_comm_assoc X A (T ++ l)).trans (List.Perm.append_left A ?_)
  exact List.perm_append_comm_assoc X T l
theorem pY {α : Type} (X A T l : List α) : (X ++ (A ++ (T ++ l))).Perm (T ++ (X ++ (A ++ l))) := by
  refine (List.Perm.append_left X (List.perm_append_comm_assoc A T l)).trans ?_
  exact List.perm_append_comm_assoc X T (A ++ l)
theorem p3 {α : Type} {p q z : α} {l l' : List α} (h : l.Perm l') : (p :: q :: z :: l).Perm (p :: q :: z :: l') := .cons _ (.cons _ (.cons _ h))
section
variable {y : Cy} {A : Around} {s : Shared} {L b st ed F d : Addr} {m : Str → Option Value} {l k l0 tl X : List (Addr × Obj)} {r : Raw} {Q : Value → Shared → Prop} {w : Nat} {lo hi : Int} {buf out : List UInt8} {g : Gh} {od so : Obj} {ss : List (List UInt8 × Nat)}
theorem ssL_some {o : Option Addr} {so : Obj} (h : o = some d) : ssL o so = [(d, so)] := by rw [h]; rfl
theorem ssL_none {o : Option Addr} {so : Obj} (h : o = none) : ssL o so = [] := by rw [h]; rfl
theorem gq_Shared {x : List UInt8} {t : Tok} (S : St y.cx L m ((b, r.obj) :: (r.ba, baObj buf) :: (r.vt, od) :: (X ++ (ssL r.ss so ++ (tl ++ l)))) k s) (R : Rm A 5) (B : Bq y r buf od tl g) (V : Ss y.cx r.ss so ss) (hs : g.out.length ≤ 1000000) (hx : x.length ≤ 500000) (hz : ss.length ≤ 1000)
    (h : ∀ r' buf' so' t s', Bq y r' buf' od tl (shW x g ss).1.1 → Ss y.cx r'.ss so' (shW x g ss).1.2 → r'.vt = r.vt → St y.cx L m ((b, r'.obj) :: (r'.ba, baObj buf') :: (r'.vt, od) :: (X ++ (ssL r'.ss so' ++ (tl ++ l)))) k s' → Q (.int ((shW x g ss).2 : Nat) t) s') :
    N y.cx A (call (.ref 376) [.ref b, .bytes x.toArray t]) Q s := by
  obtain ⟨bd, vt, nn, vl, wd⟩ := B
  have hlen : g.out.length ≤ (strO x g.out).length := by unfold strO; simp [prepO]; omega
  have hst : Bq y r buf od tl g → True := fun _ => trivial
  rcases V with ⟨e1, e2⟩ | ⟨d, xs, e1, V, e3, e4, e5⟩
  · rw [ssL_none e1] at S
    refine ct_Shared0 S R bd (by omega) hx nn e1 fun d o ba hd ma' buf' t2 s' V' S' B' => ?_
    have q : shW x g ss = ((g.str x, ss ++ [(x, (g.str x).out.length)]), (g.str x).out.length) := by rw [e2]; rfl
    rw [q] at h
    refine h _ _ o _ _ ⟨⟨B'.ok, B'.ma, B'.rm⟩, vt, nn, fun v hv => Nat.le_trans (vl v hv) hlen, wd_max wd (.inr (.inr (.inl rfl)))⟩ ?_ rfl ?_
    · rw [e2]
      exact Ss.app (xs := []) (ss := []) V' rfl fun key => ⟨fun _ => rfl, fun n q => by simp [ssAt] at q⟩
    · refine S'.perm (.cons _ (.cons _ ?_))
      show ([(d, o)] ++ ((r.vt, od) :: (X ++ (tl ++ l)))).Perm ((r.vt, od) :: (X ++ ([(d, o)] ++ (tl ++ l))))
      refine List.perm_middle.trans (.cons _ ?_)
      exact List.perm_append_comm_assoc _ _ _
  · have hne : xs.isEmpty = false := by
      cases xs with
      | nil => cases ss with
        | nil => exact absurd rfl e3
        | cons _ _ => simp at e4
      | cons _ _ => rfl
    rw [ssL_some e1] at S
    have hp : ((r.vt, od) :: (X ++ ([(d, so)] ++ (tl ++ l)))).Perm ((d, so) :: ((r.vt, od) :: (X ++ (tl ++ l)))) := by
      refine (List.Perm.cons _ (List.perm_append_comm_assoc X [(d, so)] (tl ++ l))).trans ?_
      exact .swap _ _ _
    have S1 := S.perm (.cons _ (.cons _ hp))
    obtain ⟨k1, k2⟩ := e5 x
    cases e : ssAt ss x with
    | some n =>
      obtain ⟨t', ev⟩ := k2 n e
      have q : shW x g ss = ((g, ss), n) := by unfold shW; rw [e]
      rw [q] at h
      refine ct_Shared1 (S1.perm (.cons _ (.swap _ _ _))) R V e1 (by omega) ev fun s' S' => ?_
      refine h r _ so _ _ ⟨bd, vt, nn, vl, wd⟩ (.inr ⟨d, xs, e1, V, e3, e4, e5⟩) rfl ?_
      rw [ssL_some e1]
      exact (S'.perm (.cons _ (.swap _ _ _))).perm (.cons _ (.cons _ hp.symm))
    | none =>
      have q : shW x g ss = ((g.str x, ss ++ [(x, (g.str x).out.length)]), (g.str x).out.length) := by unfold shW; rw [e]
      rw [q] at h
      refine ct_Shared2 S1 R bd (by omega) hx nn V e1 (by omega) hne (k1 e) fun o ba hd ma' buf' t2 s' V' S' B' => ?_
      rw [stored_new (k1 e)] at V'
      refine h _ _ o _ _ ⟨⟨B'.ok, B'.ma, B'.rm⟩, vt, nn, fun v hv => Nat.le_trans (vl v hv) hlen, wd_max wd (.inr (.inr (.inl rfl)))⟩ ?_ rfl ?_
      · have z := Ss.app V' e4 e5
        rw [← e1] at z
        exact z
      · show St y.cx L m (_ :: _ :: _ :: (X ++ (ssL r.ss o ++ (tl ++ l)))) k s'
        rw [ssL_some e1]
        refine S'.perm (.cons _ (.cons _ ?_))
        show ((d, o) :: ((r.vt, od) :: (X ++ (tl ++ l)))).Perm ((r.vt, od) :: (X ++ ([(d, o)] ++ (tl ++ l))))
        refine (List.Perm.swap _ _ _).trans (.cons _ ?_)
        exact List.perm_append_comm_assoc [(d, o)] X _
end

end Mine

end
-- PI1
section
open PySem PySem.W PySem.Calls PyProof.Rows
set_option maxRecDepth 100000
set_option linter.unusedVariables false
set_option linter.deprecated false
namespace Mine
/-- a slot that holds a number -/
def slotN (i w : Nat) (x : Int) (T : Gh × List Int) : Gh × List Int := (T.1.num w x, T.2.set i (((T.1.num w x).out.length : Nat) : Int))
def relG (n : Nat) (g : Gh) : Gh := g.num 4 (((prepO 4 0 g.out).length - n + 4 : Nat) : Int)
/-- a slot that holds the way to a thing -/
def slotR (i n : Nat) (T : Gh × List Int) : Gh × List Int := if n = 0 then T else (relG n T.1, T.2.set i (((relG n T.1).out.length : Nat) : Int))
def tabM (which more word row : Nat) (spots : List Nat) (g : Gh) : Gh × List Int :=
  let T0 := (g, List.replicate 8 0)
  let T1 := if more / 7 % 2 = 0 then T0 else slotN (4 + which) 1 ((1 + more % 200 : Nat) : Int) T0
  let T4 := slotR 2 row (slotN 0 8 ((4294967297 + more : Nat) : Int) (slotR 1 word T1))
  let T5 := match spots with
    | [] => T4
    | p :: _ => slotR 3 p T4
  if more / 7 % 2 = 0 then slotN (4 + which) 1 ((1 + more % 200 : Nat) : Int) T5 else T5
/-- a table under way -/
structure Tq (y : Cy) (r : Raw) (buf : List UInt8) (od : Obj) (tl : List (Addr × Obj)) (oe : Nat) (ca : Addr) (o : Obj) (vs : List Value) (T : Gh × List Int) : Prop where
  bd : Bd r buf T.1.out T.1.room T.1.ma
  X : LsO o vs
  hi : IntsAre vs T.2
  cv : r.cv = some ca
  nst : r.nested = true
  oet : ∃ te, r.oe = some ((oe : Int), te)
  vt : ∃ ts, ts.length = T.1.vts.length ∧ VtO y.cx tl od r.vt (vtsOf T.1.vts ts)
  vl : ∀ v ∈ T.1.vts, v.2 ≤ T.1.out.length
  wd : Width T.1.ma
  len : T.2.length = 8
  ge : oe ≤ T.1.out.length
  cb : ∀ e ∈ T.2, 0 ≤ e ∧ e ≤ T.1.out.length ∧ (e ≠ 0 → oe ≤ e)
theorem num_len {w : Nat} {x : Int} {g : Gh} (hw : Width w) : g.out.length + w ≤ (g.num w x).out.length ∧ (g.num w x).out.length ≤ g.out.length + w + 7 := by
  have h := prepO_len (w := w) (a := 0) (out := g.out) hw
  have h2 : g.out.length ≤ (prepO w 0 g.out).length := by simp [prepO]
  have e : (g.num w x).out.length = w + (prepO w 0 g.out).length := by show (le w x ++ prepO w 0 g.out).length = _; rw [List.length_append, le_length]
  omega
section
variable {y : Cy} {A : Around} {s : Shared} {L b st ed F d ca : Addr} {m : Str → Option Value} {l k l0 tl X : List (Addr × Obj)} {r : Raw} {Q : Value → Shared → Prop} {w oe : Nat} {lo hi : Int} {buf out : List UInt8} {T : Gh × List Int} {od so o : Obj} {vs : List Value}
theorem Tq.num {i : Nat} {x : Int} {ba : Addr} {hd ma' : Int × Tok} {buf' : List UInt8} {o' : Obj} {t : Tok} (H : Tq y r buf od tl oe ca o vs T) (hw : Width w) (B : Bd (r.at ba hd ma') buf' (le w x ++ prepO w 0 T.1.out) (prepR w 0 T.1.out T.1.room) (max T.1.ma w))
    (X' : LsO o' (vs.set i (.int (((le w x ++ prepO w 0 T.1.out).length : Nat) : Int) t))) : Tq y (r.at ba hd ma') buf' od tl oe ca o' (vs.set i (.int (((le w x ++ prepO w 0 T.1.out).length : Nat) : Int) t)) (slotN i w x T) := by
  have hl := num_len (x := x) (g := T.1) hw
  have hge := H.ge
  refine ⟨⟨B.ok, B.ma, B.rm⟩, X', ints_set H.hi _ _ _, H.cv, H.nst, H.oet, H.vt, fun v hv => ?_, wd_max H.wd hw, by show (T.2.set i _).length = 8; rw [List.length_set]; exact H.len, ?_, fun e he => ?_⟩
  · have := H.vl v hv
    show _ ≤ (T.1.num w x).out.length
    omega
  · show _ ≤ (T.1.num w x).out.length
    omega
  · show _ ∧ e ≤ ((T.1.num w x).out.length : Int) ∧ _
    rcases List.mem_or_eq_of_mem_set he with he | rfl
    · have := H.cb e he
      omega
    · omega
theorem gq_Slot8 {i n : Nat} {ti tx td : Tok} (S : St y.cx L m ((b, r.obj) :: (r.ba, baObj buf) :: (ca, o) :: l) k s) (R : Rm A 5) (H : Tq y r buf od tl oe ca o vs T) (hs : T.1.out.length ≤ 3000000) (hi' : i < 8) (h0 : 0 < n) (h1 : n ≤ 255)
    (h : ∀ r' buf' o' vs' s', Tq y r' buf' od tl oe ca o' vs' (slotN i 1 (n : Int) T) → r'.ss = r.ss → r'.vt = r.vt → St y.cx L m ((b, r'.obj) :: (r'.ba, baObj buf') :: (ca, o') :: l) k s' → Q .none s') :
    N y.cx A (call (.ref 477) [.ref b, .int i ti, .int n tx, .int 0 td]) Q s := by
  have hvl : vs.length = 8 := by rw [H.hi.length, H.len]
  refine ct_PrependUint8Slot S R H.bd hs H.X H.cv H.nst (by omega) (by omega) (by omega) (by omega) (by omega) (by omega) (fun q => by omega) fun _ ba hd ma' buf' t o' s' S' B' X' => ?_
  exact h _ _ _ _ _ (H.num (.inl rfl) B' X') rfl rfl S'
theorem gq_Slot64 {i n : Nat} {ti tx td : Tok} (S : St y.cx L m ((b, r.obj) :: (r.ba, baObj buf) :: (ca, o) :: l) k s) (R : Rm A 5) (H : Tq y r buf od tl oe ca o vs T) (hs : T.1.out.length ≤ 3000000) (hi' : i < 8) (h0 : 0 < n) (h1 : n ≤ 18446744073709551615)
    (h : ∀ r' buf' o' vs' s', Tq y r' buf' od tl oe ca o' vs' (slotN i 8 (n : Int) T) → r'.ss = r.ss → r'.vt = r.vt → St y.cx L m ((b, r'.obj) :: (r'.ba, baObj buf') :: (ca, o') :: l) k s' → Q .none s') :
    N y.cx A (call (.ref 498) [.ref b, .int i ti, .int n tx, .int 0 td]) Q s := by
  have hvl : vs.length = 8 := by rw [H.hi.length, H.len]
  refine ct_PrependUint64Slot S R H.bd hs H.X H.cv H.nst (by omega) (by omega) (by omega) (by omega) (by omega) (by omega) (fun q => by omega) fun _ ba hd ma' buf' t o' s' S' B' X' => ?_
  exact h _ _ _ _ _ (H.num (.inr (.inr (.inr rfl))) B' X') rfl rfl S'
theorem gq_Rel {i n : Nat} {ti tx td : Tok} (S : St y.cx L m ((b, r.obj) :: (r.ba, baObj buf) :: (ca, o) :: l) k s) (R : Rm A 5) (H : Tq y r buf od tl oe ca o vs T) (hs : T.1.out.length ≤ 3000000) (hi' : i < 8) (hn : n ≤ T.1.out.length)
    (h : ∀ r' buf' o' vs' s', Tq y r' buf' od tl oe ca o' vs' (slotR i n T) → r'.ss = r.ss → r'.vt = r.vt → St y.cx L m ((b, r'.obj) :: (r'.ba, baObj buf') :: (ca, o') :: l) k s' → Q .none s') :
    N y.cx A (call (.ref 533) [.ref b, .int i ti, .int n tx, .int 0 td]) Q s := by
  have hvl : vs.length = 8 := by rw [H.hi.length, H.len]
  refine ct_RelSlot S R H.bd hs H.X H.cv H.nst (by omega) (by omega) hn (fun q s' S' => ?_) fun q ba hd ma' buf' t o' s' S' B' X' => ?_
  · rw [show slotR i n T = T from if_pos q] at h
    exact h _ _ _ _ _ H rfl rfl S'
  · rw [show slotR i n T = slotN i 4 (((prepO 4 0 T.1.out).length - n + 4 : Nat) : Int) T from if_neg q] at h
    exact h _ _ _ _ _ (H.num (.inr (.inr (.inl rfl))) B' X') rfl rfl S'
theorem gq_String {g : Gh} {x : List UInt8} {t : Tok} (S : St y.cx L m ((b, r.obj) :: (r.ba, baObj buf) :: l) k s) (R : Rm A 4) (B : Bq y r buf od tl g) (hs : g.out.length ≤ 1000000) (hx : x.length ≤ 500000)
    (h : ∀ r' buf' t s', Bq y r' buf' od tl (g.str x) → r'.ss = r.ss → r'.vt = r.vt → St y.cx L m ((b, r'.obj) :: (r'.ba, baObj buf') :: l) k s' → Q (.int (((g.str x).out.length : Nat) : Int) t) s') :
    N y.cx A (call (.ref 383) [.ref b, .bytes x.toArray t]) Q s := by
  obtain ⟨bd, vt, nn, vl, wd⟩ := B
  have hlen : g.out.length ≤ (strO x g.out).length := by unfold strO; simp [prepO]; omega
  refine ct_CreateString S R bd (by omega) hx nn fun ba hd ma' buf' t2 s' S' B' => ?_
  exact h _ _ _ _ ⟨⟨B'.ok, B'.ma, B'.rm⟩, vt, nn, fun v hv => Nat.le_trans (vl v hv) hlen, wd_max wd (.inr (.inr (.inl rfl)))⟩ rfl rfl S'
theorem gq_StartObject {g : Gh} {tn : Tok} (S : St y.cx L m ((b, r.obj) :: (r.ba, baObj buf) :: l) k s) (R : Rm A 2) (B : Bq y r buf od tl g)
    (h : ∀ r' ca o vs s', Tq y r' buf od tl g.out.length ca o vs (g, List.replicate 8 0) → r'.ss = r.ss → r'.vt = r.vt → r'.ba = r.ba → St y.cx L m ((b, r'.obj) :: (r'.ba, baObj buf) :: (ca, o) :: l) k s' → Q .none s') :
    N y.cx A (call (.ref 291) [.ref b, .int 8 tn]) Q s := by
  obtain ⟨bd, vt, nn, vl, wd⟩ := B
  refine ct_StartObject (n := 8) S R bd.ok (by omega) nn fun ca o vs t s' X I S' => ?_
  refine h { r with cv := some ca, oe := some ((g.out.length : Nat), t), nested := true } ca o vs s' ⟨⟨bd.ok, bd.ma, bd.rm⟩, X, I, rfl, rfl, ⟨t, rfl⟩, vt, vl, wd, rfl, Nat.le_refl _, fun e he => ?_⟩ rfl rfl rfl S'
  rw [List.eq_of_mem_replicate he]
  omega
theorem gq_End {so : Obj} (S : St y.cx L m ((b, r.obj) :: (r.ba, baObj buf) :: (ca, o) :: (r.vt, od) :: (X ++ (ssL r.ss so ++ (tl ++ l)))) k s) (R : Rm A 7) (H : Tq y r buf od tl oe ca o vs T) (hs : T.1.out.length ≤ 50000) (hxs : T.1.vts.length ≤ 1000)
    (h : ∀ r' buf' od' tl' t s', Bq y r' buf' od' tl' (T.1.endO T.2 oe) → r'.ss = r.ss → St y.cx L m ((b, r'.obj) :: (r'.ba, baObj buf') :: (r'.vt, od') :: (X ++ (ssL r'.ss so ++ (tl' ++ l)))) k s' → Q (.int (((prepO 4 0 T.1.out).length + 4 : Nat) : Int) t) s') :
    N y.cx A (call (.ref 305) [.ref b]) Q s := by
  obtain ⟨te, hte⟩ := H.oet
  refine gq_EndObject (l := X ++ (ssL r.ss so ++ l)) (S.perm (.cons _ (p3 (pY _ _ _ _)))) R H.bd H.vt H.vl H.wd H.cv hte H.X H.hi (by rw [H.len]; omega) H.nst (by omega) H.ge (by omega) H.cb hxs fun r' buf' od' tl' t s' B' es S' => ?_
  refine h r' buf' od' tl' t s' B' es (S'.perm (p3 ?_))
  rw [es]
  exact (pY _ _ _ _).symm
end

end Mine

end
-- PJ1
section
open PySem PySem.W PySem.Calls PyProof.Rows
set_option maxRecDepth 100000
set_option linter.unusedVariables false
set_option linter.deprecated false
namespace Mine
def Gh.vstart (n : Nat) (g : Gh) : Gh := ⟨prepO 4 (4 * n) (prepO 4 (4 * n) g.out), prepR 4 (4 * n) (prepO 4 (4 * n) g.out) (prepR 4 (4 * n) g.out g.room), max (max g.ma 4) 4, g.vts⟩
def Gh.vend (n : Nat) (g : Gh) : Gh := ⟨le 4 n ++ g.out, g.room, g.ma, g.vts⟩
def vecU (more : Nat) : Nat → Gh → Gh
  | 0, g => g
  | i + 1, g => (vecU more i g).num 4 ((more * (i + 1) % 4294967296 : Nat) : Int)
def Gh.vecG (more n : Nat) (g : Gh) : Gh := (vecU more n (g.vstart n)).vend n
theorem fill4 {o : Nat} (h : o % 4 = 0) : fillN 4 o = 0 := by unfold fillN; omega
/-- numbers in a row under way: how many are left -/
structure Vq (y : Cy) (r : Raw) (buf : List UInt8) (od : Obj) (tl : List (Addr × Obj)) (n left : Nat) (g : Gh) : Prop where
  bd : Bd r buf g.out g.room g.ma
  nst : r.nested = true
  vne : ∃ tn, r.vne = some (some ((n : Int), tn))
  vt : ∃ ts, ts.length = g.vts.length ∧ VtO y.cx tl od r.vt (vtsOf g.vts ts)
  vl : ∀ v ∈ g.vts, v.2 ≤ g.out.length
  wd : Width g.ma
  rm : g.out.length + 4 * left + 4 ≤ g.room
  al : g.out.length % 4 = 0
section
variable {y : Cy} {A : Around} {s : Shared} {L b st ed F d ca : Addr} {m : Str → Option Value} {l k l0 tl X : List (Addr × Obj)} {r : Raw} {Q : Value → Shared → Prop} {w oe : Nat} {lo hi : Int} {buf out : List UInt8} {g : Gh} {od so o : Obj} {vs : List Value}
theorem gq_StartVector {n : Nat} {te tn ta : Tok} (S : St y.cx L m ((b, r.obj) :: (r.ba, baObj buf) :: l) k s) (R : Rm A 3) (B : Bq y r buf od tl g) (hs : g.out.length ≤ 1000000) (hn : n ≤ 1000)
    (h : ∀ r' buf' t s', Vq y r' buf' od tl n n (g.vstart n) → r'.ss = r.ss → r'.vt = r.vt → St y.cx L m ((b, r'.obj) :: (r'.ba, baObj buf') :: l) k s' → Q (.int (((g.vstart n).out.length : Nat) : Int) t) s') :
    N y.cx A (call (.ref 361) [.ref b, .int 4 te, .int n tn, .int 4 ta]) Q s := by
  obtain ⟨bd, vt, nn, vl, wd⟩ := B
  have hW : Width 4 := .inr (.inr (.inl rfl))
  have hg := prepR_ge (w := 4) (a := 4 * n) (out := prepO 4 (4 * n) g.out) (room := prepR 4 (4 * n) g.out g.room)
  have h1 : g.out.length ≤ (prepO 4 (4 * n) g.out).length := by simp [prepO]
  have h2 : (prepO 4 (4 * n) g.out).length ≤ (prepO 4 (4 * n) (prepO 4 (4 * n) g.out)).length := by simp [prepO]
  have h3 := (prepO_len (w := 4) (a := 4 * n) (out := prepO 4 (4 * n) g.out) hW).1
  refine ct_StartVector (e := 4) (n := n) (w := 4) S R bd (by omega) hW (by omega) hn nn fun ba hd ma' buf' t s' S' B' => ?_
  refine h _ _ _ _ ⟨⟨B'.ok, B'.ma, B'.rm⟩, rfl, ⟨tn, rfl⟩, vt, fun v hv => Nat.le_trans (vl v hv) (Nat.le_trans h1 h2), wd_max (wd_max wd hW) hW, ?_, ?_⟩ rfl rfl S'
  · show (prepO 4 (4 * n) (prepO 4 (4 * n) g.out)).length + 4 * n + 4 ≤ prepR 4 (4 * n) (prepO 4 (4 * n) g.out) (prepR 4 (4 * n) g.out g.room)
    omega
  · show (prepO 4 (4 * n) (prepO 4 (4 * n) g.out)).length % 4 = 0
    rw [h3]
    unfold fillN
    omega
theorem gq_U32 {n left x : Nat} {t : Tok} (S : St y.cx L m ((b, r.obj) :: (r.ba, baObj buf) :: l) k s) (R : Rm A 4) (V : Vq y r buf od tl n (left + 1) g) (hs : g.out.length ≤ 1000000) (hx : x ≤ 4294967295)
    (h : ∀ r' buf' s', Vq y r' buf' od tl n left (g.num 4 (x : Int)) → r'.ss = r.ss → r'.vt = r.vt → St y.cx L m ((b, r'.obj) :: (r'.ba, baObj buf') :: l) k s' → Q .none s') :
    N y.cx A (call (.ref 575) [.ref b, .int x t]) Q s := by
  have hW : Width 4 := .inr (.inr (.inl rfl))
  have hl := num_len (x := (x : Int)) (g := g) hW
  have e : (g.num 4 (x : Int)).out.length = g.out.length + 4 := by
    show (le 4 (x : Int) ++ prepO 4 0 g.out).length = _
    rw [List.length_append, le_length, (prepO_len (w := 4) (a := 0) (out := g.out) hW).1, Nat.add_zero, fill4 V.al]
    omega
  have hg := (growN_ge (g.out.length + needN 4 g.out.length 0) g.room).2
  have hrm := V.rm
  have hal := V.al
  refine ct_PrependU32 S R V.bd (by omega) (by omega) (by omega) fun ba hd ma' buf' s' S' B' => ?_
  refine h _ _ _ ⟨⟨B'.ok, B'.ma, B'.rm⟩, V.nst, V.vne, V.vt, fun v hv => ?_, wd_max V.wd hW, ?_, ?_⟩ rfl rfl S'
  · have := V.vl v hv
    show _ ≤ (g.num 4 (x : Int)).out.length
    omega
  · show (g.num 4 (x : Int)).out.length + 4 * left + 4 ≤ growN (g.out.length + needN 4 g.out.length 0) g.room
    omega
  · show (g.num 4 (x : Int)).out.length % 4 = 0
    omega
theorem gq_EndVector {n : Nat} (S : St y.cx L m ((b, r.obj) :: (r.ba, baObj buf) :: l) k s) (R : Rm A 3) (V : Vq y r buf od tl n 0 g) (hn : n ≤ 1000)
    (h : ∀ r' buf' t s', Bq y r' buf' od tl (g.vend n) → r'.ss = r.ss → r'.vt = r.vt → St y.cx L m ((b, r'.obj) :: (r'.ba, baObj buf') :: l) k s' → Q (.int (((g.vend n).out.length : Nat) : Int) t) s') :
    N y.cx A (call (.ref 369) [.ref b]) Q s := by
  obtain ⟨tn, hv⟩ := V.vne
  have hrm := V.rm
  refine ct_EndVector S R V.bd (by omega) (by omega) hv V.nst fun hd buf' t s' S' B' => ?_
  refine h _ _ _ _ ⟨⟨B'.ok, B'.ma, B'.rm⟩, V.vt, rfl, fun v hv => ?_, V.wd⟩ rfl rfl S'
  have := V.vl v hv
  show _ ≤ (le 4 n ++ g.out).length
  rw [List.length_append]
  omega
end

end Mine

end
-- PK1
section
open PySem PySem.W PySem.Calls PyProof.Rows
set_option maxRecDepth 100000
set_option linter.unusedVariables false
set_option linter.deprecated false
namespace Mine
structure Ms where
  g : Gh
  ss : List (List UInt8 × Nat)
  told : List Nat
  spots : List Nat
def lettersI (which more : Nat) : List Int := (48 + (which : Int)) :: (List.range (more % 5)).map fun (i : Nat) => 97 + (((more / 5 : Nat) : Int) + (i : Int)).fmod 26
theorem letters_ok {which more : Nat} (hw : which ≤ 3) : ∀ n ∈ lettersI which more, 0 ≤ n ∧ n < 256 := by
  intro n hn
  rcases List.mem_cons.mp hn with rfl | hn
  · omega
  · obtain ⟨i, _, rfl⟩ := List.mem_map.mp hn
    have h1 := Int.fmod_nonneg_of_pos (((more / 5 : Nat) : Int) + (i : Int)) (show (0 : Int) < 26 by decide)
    have h2 := Int.fmod_lt_of_pos (((more / 5 : Nat) : Int) + (i : Int)) (show (0 : Int) < 26 by decide)
    omega
theorem letters_len {which more : Nat} : (lettersI which more).length ≤ 5 ∧ 1 ≤ (lettersI which more).length := by
  have := Nat.mod_lt more (show 0 < 5 by decide)
  unfold lettersI
  simp
  omega
def lettersB (which more : Nat) : List UInt8 := (byteArr (lettersI which more)).toList
def wordM (which more : Nat) (g : Gh) (ss : List (List UInt8 × Nat)) : (Gh × List (List UInt8 × Nat)) × Nat :=
  if more / 5 % 3 = 0 then ((g.str (lettersB which more), ss), (g.str (lettersB which more)).out.length) else shW ((lettersB which more).take (1 + more / 15 % 4)) g ss
def rowM (more : Nat) (g : Gh) : Gh × Nat := if more / 60 % 2 = 0 then (g, 0) else (g.vecG more (more / 120 % 4), (g.vecG more (more / 120 % 4)).out.length)
def stepM (which more : Nat) (M : Ms) : Ms :=
  let w := wordM which more M.g M.ss
  let r := rowM more w.1.1
  let T := tabM which more w.2 r.2 M.spots r.1
  ⟨T.1.endO T.2 r.1.out.length, w.1.2, M.told ++ (if more / 60 % 2 = 0 then [w.2] else [w.2, r.2]), M.spots ++ [(prepO 4 0 T.1.out).length + 4]⟩
def moreOf (mx i : Nat) : Nat := mx / 2 * (i + 1) + 7 * i
def runM (which mx : Nat) : Nat → Ms → Ms
  | 0, M => M
  | i + 1, M => stepM which (moreOf mx i) (runM which mx i M)
theorem fmod_cast {n k : Int} (h : 0 < k) : n.fmod k = ((n.fmod k).toNat : Int) := by
  rw [Int.fmod_eq_emod_of_nonneg _ (by omega)]
  have := Int.emod_nonneg n (show k ≠ 0 by omega)
  omega
theorem cut_take {b : List UInt8} {n : Nat} : cutOf b none (some ((n : Nat) : Int)) = b.take n := by
  unfold cutOf
  simp only [Option.elim, clipAt_nat]
  rw [List.drop_zero, Nat.sub_zero, List.take_eq_take_iff]
  omega
theorem str_bd {x : List UInt8} {g : Gh} : g.out.length ≤ (g.str x).out.length ∧ (g.str x).out.length ≤ g.out.length + x.length + 12 := by
  have h := prepO_len (w := 4) (a := x.length + 1) (out := g.out) (.inr (.inr (.inl rfl)))
  have h2 : g.out.length ≤ (prepO 4 (x.length + 1) g.out).length := by simp [prepO]
  have e : (g.str x).out.length = 4 + (x.length + (1 + (prepO 4 (x.length + 1) g.out).length)) := by
    show (le 4 x.length ++ (x ++ (le 1 0 ++ prepO 4 (x.length + 1) g.out))).length = _
    rw [List.length_append, List.length_append, List.length_append, le_length, le_length]
  omega
def natsI (ns : List Nat) : List Int := ns.map fun (n : Nat) => (n : Int)
theorem ssAt_mem {ss : List (List UInt8 × Nat)} {x : List UInt8} {n : Nat} (h : ssAt ss x = some n) : ∃ p ∈ ss, p.2 = n := by
  unfold ssAt at h
  rw [Option.map_eq_some_iff] at h
  obtain ⟨p, hp, e⟩ := h
  exact ⟨p, List.mem_of_find?_eq_some hp, e⟩
theorem wordM_ok {which more : Nat} {g : Gh} {ss : List (List UInt8 × Nat)} (hz : ∀ p ∈ ss, p.2 ≤ g.out.length) : g.out.length ≤ (wordM which more g ss).1.1.out.length ∧ (wordM which more g ss).1.1.out.length ≤ g.out.length + 20 ∧ (wordM which more g ss).1.1.vts = g.vts ∧
    (wordM which more g ss).1.2.length ≤ ss.length + 1 ∧ (wordM which more g ss).2 ≤ (wordM which more g ss).1.1.out.length ∧ ∀ p ∈ (wordM which more g ss).1.2, p.2 ≤ (wordM which more g ss).1.1.out.length := by
  have hll := letters_len (which := which) (more := more)
  have hlb : (lettersB which more).length ≤ 5 := by unfold lettersB; rw [Array.length_toList, byteArr_size]; exact hll.1
  have hlt : ((lettersB which more).take (1 + more / 15 % 4)).length ≤ 5 := by rw [List.length_take]; omega
  unfold wordM
  by_cases h : more / 5 % 3 = 0
  · rw [if_pos h]
    have := str_bd (x := lettersB which more) (g := g)
    dsimp only
    exact ⟨this.1, by omega, rfl, by omega, Nat.le_refl _, fun p hp => Nat.le_trans (hz p hp) this.1⟩
  · rw [if_neg h]
    have := str_bd (x := (lettersB which more).take (1 + more / 15 % 4)) (g := g)
    unfold shW
    cases e : ssAt ss ((lettersB which more).take (1 + more / 15 % 4)) with
    | some n =>
      dsimp only
      obtain ⟨p, hp, rfl⟩ := ssAt_mem e
      exact ⟨Nat.le_refl _, by omega, rfl, by omega, hz p hp, hz⟩
    | none =>
      dsimp only
      refine ⟨this.1, by omega, rfl, by simp, Nat.le_refl _, fun p hp => ?_⟩
      rcases List.mem_append.mp hp with hp | hp
      · exact Nat.le_trans (hz p hp) this.1
      · rw [List.mem_singleton.mp hp]; exact Nat.le_refl _
theorem vecU_ok {more : Nat} {g : Gh} : ∀ i : Nat, g.out.length ≤ (vecU more i g).out.length ∧ (vecU more i g).out.length ≤ g.out.length + 11 * i ∧ (vecU more i g).vts = g.vts
  | 0 => ⟨Nat.le_refl _, by simp [vecU], rfl⟩
  | i + 1 => by
    have ih := vecU_ok (more := more) (g := g) i
    have := num_len (w := 4) (x := ((more * (i + 1) % 4294967296 : Nat) : Int)) (g := vecU more i g) (.inr (.inr (.inl rfl)))
    show g.out.length ≤ ((vecU more i g).num 4 _).out.length ∧ ((vecU more i g).num 4 _).out.length ≤ _ ∧ (vecU more i g).vts = g.vts
    exact ⟨by omega, by omega, ih.2.2⟩
theorem rowM_ok {more : Nat} {g : Gh} : g.out.length ≤ (rowM more g).1.out.length ∧ (rowM more g).1.out.length ≤ g.out.length + 60 ∧ (rowM more g).1.vts = g.vts ∧ (rowM more g).2 ≤ (rowM more g).1.out.length := by
  unfold rowM
  by_cases h : more / 60 % 2 = 0
  · rw [if_pos h]
    exact ⟨Nat.le_refl _, by dsimp only; omega, rfl, Nat.zero_le _⟩
  · rw [if_neg h]
    have h4 : more / 120 % 4 < 4 := Nat.mod_lt _ (by decide)
    have h1 := vecU_ok (more := more) (g := g.vstart (more / 120 % 4)) (more / 120 % 4)
    have h2 := prepO_len (w := 4) (a := 4 * (more / 120 % 4)) (out := g.out) (.inr (.inr (.inl rfl)))
    have h3 := prepO_len (w := 4) (a := 4 * (more / 120 % 4)) (out := prepO 4 (4 * (more / 120 % 4)) g.out) (.inr (.inr (.inl rfl)))
    have h5 : g.out.length ≤ (prepO 4 (4 * (more / 120 % 4)) g.out).length := by simp [prepO]
    have h6 : (prepO 4 (4 * (more / 120 % 4)) g.out).length ≤ (g.vstart (more / 120 % 4)).out.length := by simp [Gh.vstart, prepO]
    have h7 : (g.vstart (more / 120 % 4)).out.length = (prepO 4 (4 * (more / 120 % 4)) (prepO 4 (4 * (more / 120 % 4)) g.out)).length := rfl
    have e : (g.vecG more (more / 120 % 4)).out.length = 4 + (vecU more (more / 120 % 4) (g.vstart (more / 120 % 4))).out.length := by
      show (le 4 _ ++ _).length = _
      rw [List.length_append, le_length]
    dsimp only
    exact ⟨by omega, by omega, h1.2.2, Nat.le_refl _⟩
structure Mq (y : Cy) (r : Raw) (buf : List UInt8) (od so : Obj) (tl : List (Addr × Obj)) (tvs svs : List Value) (M : Ms) : Prop where
  B : Bq y r buf od tl M.g
  V : Ss y.cx r.ss so M.ss
  ti : IntsAre tvs (natsI M.told)
  si : IntsAre svs (natsI M.spots)
  tb : ∀ n ∈ M.told, n ≤ M.g.out.length
  sb : ∀ n ∈ M.spots, n ≤ M.g.out.length
  zb : ∀ p ∈ M.ss, p.2 ≤ M.g.out.length
section
variable {y : Cy} {A : Around} {s : Shared} {L b st ed F d ca : Addr} {m : Str → Option Value} {l k l0 tl X : List (Addr × Obj)} {r : Raw} {Q : Value → Shared → Prop} {w oe : Nat} {lo hi : Int} {buf out : List UInt8} {g : Gh} {od so o : Obj} {vs : List Value} {ss : List (List UInt8 × Nat)}
theorem p_callF {f : Addr} {nm qual : Str} {params : Arguments} {body : List Stmt} {scope : Scope} {dV kV doc pm cdv ct oc : Value} {an od : Option Addr} {osl : Array (Option Value)} {pos : List Value} {kw : List (Str × Value)} {binds : List (Str × Value)}
    (S : St y.cx L m l k s) (ho : (hd.heap_39 y.w.params).lookup f = some ⟨oc, od, .func (fnOf nm qual params body scope dV kV doc pm an cdv ct), osl⟩) (hcd : codeIn (hd.heap_39 y.w.params) cdv qual = true) (hroom : A.depth < recursionLimit)
    (hbind : BindsTo s (fnOf nm qual params body scope dV kV doc pm an cdv ct) ⟨pos, kw⟩ binds)
    (h : ∀ L' oL s₁, St y.cx L' (fun _ => none) (cellsL (L' + 1) scope.names l) ((L, oL) :: k) s₁ →
      BindsDo y.cx.M A.in1 (envOfC qual scope L' f cdv) (fun _ _ => False) binds (fun s₂ => ∃ L'' m'' l'', St y.cx L'' m'' l'' ((L, oL) :: k) s₂ ∧ N y.cx (A.deeper (envOfC qual scope L' f cdv)) (execs body (envOfC qual scope L' f cdv)) (Back y.cx L m oL k Q) s₂) s₁)
    (hco : scope.isCoroutine = false) (hgen : scope.isGenerator = false) (hk : scope.kind = .function) :
    N y.cx A (call (.ref f) pos kw) Q s := n_callF S ho hcd hroom hbind h hco hgen hk
end

end Mine

end
-- PL1a
section
open PySem PySem.W PySem.Calls PyProof.Rows
set_option maxRecDepth 100000
set_option linter.unusedVariables false
set_option linter.deprecated false
namespace Mine
section
variable {y : Cy} {A : Around} {s : Shared} {L b st ed F d ca : Addr} {m : Str → Option Value} {l k l0 tl X : List (Addr × Obj)} {r : Raw} {Q : Value → Shared → Prop} {w oe : Nat} {lo hi : Int} {buf out : List UInt8} {g : Gh} {od so o : Obj} {vs : List Value} {ss : List (List UInt8 × Nat)}
theorem slotN_bd {i w : Nat} {x : Int} {T : Gh × List Int} (hw : Width w) : T.1.out.length ≤ (slotN i w x T).1.out.length ∧ (slotN i w x T).1.out.length ≤ T.1.out.length + w + 7 ∧ (slotN i w x T).1.vts = T.1.vts := by
  have := num_len (x := x) (g := T.1) hw
  show T.1.out.length ≤ (T.1.num w x).out.length ∧ (T.1.num w x).out.length ≤ _ ∧ T.1.vts = T.1.vts
  exact ⟨by omega, by omega, rfl⟩
theorem slotR_bd {i n : Nat} {T : Gh × List Int} : T.1.out.length ≤ (slotR i n T).1.out.length ∧ (slotR i n T).1.out.length ≤ T.1.out.length + 11 ∧ (slotR i n T).1.vts = T.1.vts := by
  unfold slotR
  by_cases h : n = 0
  · rw [if_pos h]; exact ⟨Nat.le_refl _, by omega, rfl⟩
  · rw [if_neg h]
    have := num_len (w := 4) (x := (((prepO 4 0 T.1.out).length - n + 4 : Nat) : Int)) (g := T.1) (.inr (.inr (.inl rfl)))
    show T.1.out.length ≤ (T.1.num 4 _).out.length ∧ (T.1.num 4 _).out.length ≤ _ ∧ T.1.vts = T.1.vts
    exact ⟨by omega, by omega, rfl⟩
theorem k_truthy_list {vs : List Value} {n : Nat} {Q : Bool → Shared → Prop} (S : St y.cx L m l k s) (hm : (d, listOf vs.toArray n) ∈ l) (hz : vs.length ≤ 1000000) (h : ∀ s', St y.cx L m l k s' → Q (!vs.isEmpty) s') : N y.cx A (truthy (.ref d)) Q s :=
  N.of (wpAny_truthy_list (items := vs.toArray) (LsO.of.isList (S.get hm)) (by rw [List.size_toArray]; omega) (by rw [List.isEmpty_toArray]; exact h _ S.tok))
end
theorem W1 : Width 1 := .inl rfl
theorem W4 : Width 4 := .inr (.inr (.inl rfl))
theorem W8 : Width 8 := .inr (.inr (.inr rfl))
/-- behind Finish -/
def finG (which mx : Nat) (M : Ms) : Gh :=
  if mx / 3 % 2 = 0 then ⟨finO M.g.ma (M.spots.getLastD 0) M.g.out, finR M.g.ma M.g.out M.g.room, max M.g.ma 4, M.g.vts⟩
  else ⟨finNO M.g.ma (M.spots.getLastD 0) 65 66 67 (68 + (which : Int)).toNat.toUInt8 M.g.out, finNR M.g.ma 65 66 67 (68 + (which : Int)).toNat.toUInt8 M.g.out M.g.room, max M.g.ma 4, M.g.vts⟩
def msgM (which mx : Nat) (g : Gh) (ss : List (List UInt8 × Nat)) : Ms := runM which mx (1 + mx % 2) ⟨g, ss, [], []⟩
theorem tabM_ge {which more word row : Nat} {spots : List Nat} {g : Gh} : g.out.length ≤ (tabM which more word row spots g).1.out.length := by
  have h1 : g.out.length ≤ (if more / 7 % 2 = 0 then (g, List.replicate 8 (0 : Int)) else slotN (4 + which) 1 ((1 + more % 200 : Nat) : Int) (g, List.replicate 8 (0 : Int))).1.out.length := by
    split
    · exact Nat.le_refl _
    · exact (slotN_bd (T := (g, List.replicate 8 (0 : Int))) W1).1
  have h4 := Nat.le_trans (Nat.le_trans (Nat.le_trans h1 (slotR_bd (i := 1) (n := word)).1) (slotN_bd (i := 0) (x := ((4294967297 + more : Nat) : Int)) W8).1) (slotR_bd (i := 2) (n := row)).1
  have fin : ∀ T : Gh × List Int, g.out.length ≤ T.1.out.length → g.out.length ≤ (if more / 7 % 2 = 0 then slotN (4 + which) 1 ((1 + more % 200 : Nat) : Int) T else T).1.out.length := fun T hT => by
    split
    · exact Nat.le_trans hT (slotN_bd W1).1
    · exact hT
  cases spots with
  | nil => exact fin _ h4
  | cons p ps => exact fin _ (Nat.le_trans h4 (slotR_bd (i := 3) (n := p)).1)
theorem slotR_vts {i n : Nat} {T : Gh × List Int} : (slotR i n T).1.vts = T.1.vts := slotR_bd.2.2
theorem tab_vts {which more word row : Nat} {spots : List Nat} {g : Gh} : (tabM which more word row spots g).1.vts = g.vts := by
  have h1 : (if more / 7 % 2 = 0 then (g, List.replicate 8 (0 : Int)) else slotN (4 + which) 1 ((1 + more % 200 : Nat) : Int) (g, List.replicate 8 (0 : Int))).1.vts = g.vts := by
    split <;> rfl
  have h4 : (slotR 2 row (slotN 0 8 ((4294967297 + more : Nat) : Int) (slotR 1 word (if more / 7 % 2 = 0 then (g, List.replicate 8 (0 : Int)) else slotN (4 + which) 1 ((1 + more % 200 : Nat) : Int) (g, List.replicate 8 (0 : Int)))))).1.vts = g.vts :=
    slotR_vts.trans ((show (slotN 0 8 _ _).1.vts = _ from rfl).trans (slotR_vts.trans h1))
  have fin : ∀ T : Gh × List Int, T.1.vts = g.vts → (if more / 7 % 2 = 0 then slotN (4 + which) 1 ((1 + more % 200 : Nat) : Int) T else T).1.vts = g.vts := fun T hT => by
    split
    · exact hT
    · exact hT
  cases spots with
  | nil => exact fin _ h4
  | cons p ps => exact fin _ (slotR_vts.trans h4)
theorem tab_le {which more word row : Nat} {spots : List Nat} {g : Gh} : (tabM which more word row spots g).1.out.length ≤ g.out.length + 64 ∧ (tabM which more word row spots g).2.length = 8 := by
  have sl : ∀ {i w : Nat} {x : Int} {T : Gh × List Int}, (slotN i w x T).2.length = T.2.length := fun {i w x T} => by show (T.2.set _ _).length = _; rw [List.length_set]
  have sr : ∀ {i n : Nat} {T : Gh × List Int}, (slotR i n T).2.length = T.2.length := fun {i n T} => by
    unfold slotR
    split
    · rfl
    · show (T.2.set _ _).length = _; rw [List.length_set]
  have h1 : (if more / 7 % 2 = 0 then (g, List.replicate 8 (0 : Int)) else slotN (4 + which) 1 ((1 + more % 200 : Nat) : Int) (g, List.replicate 8 (0 : Int))).1.out.length ≤ g.out.length + (if more / 7 % 2 = 0 then 0 else 8) ∧
      (if more / 7 % 2 = 0 then (g, List.replicate 8 (0 : Int)) else slotN (4 + which) 1 ((1 + more % 200 : Nat) : Int) (g, List.replicate 8 (0 : Int))).2.length = 8 := by
    split
    · exact ⟨Nat.le_refl _, List.length_replicate⟩
    · have := (slotN_bd (i := 4 + which) (x := ((1 + more % 200 : Nat) : Int)) (T := (g, List.replicate 8 (0 : Int))) W1).2.1
      exact ⟨by dsimp only at this; omega, by rw [sl]; exact List.length_replicate⟩
  have four : ∀ T1 : Gh × List Int, T1.1.out.length ≤ g.out.length + (if more / 7 % 2 = 0 then 0 else 8) ∧ T1.2.length = 8 →
      (slotR 2 row (slotN 0 8 ((4294967297 + more : Nat) : Int) (slotR 1 word T1))).1.out.length ≤ g.out.length + (if more / 7 % 2 = 0 then 0 else 8) + 37 ∧ (slotR 2 row (slotN 0 8 ((4294967297 + more : Nat) : Int) (slotR 1 word T1))).2.length = 8 := fun T1 h1 => by
    have b2 := (slotR_bd (i := 1) (n := word) (T := T1)).2.1
    have b3 := (slotN_bd (i := 0) (x := ((4294967297 + more : Nat) : Int)) (T := slotR 1 word T1) W8).2.1
    have b4 := (slotR_bd (i := 2) (n := row) (T := slotN 0 8 ((4294967297 + more : Nat) : Int) (slotR 1 word T1))).2.1
    exact ⟨by omega, by rw [sr, sl, sr]; exact h1.2⟩
  have h4 := four _ h1
  have fin : ∀ T : Gh × List Int, T.1.out.length ≤ g.out.length + (if more / 7 % 2 = 0 then 0 else 8) + 48 → T.2.length = 8 → (if more / 7 % 2 = 0 then slotN (4 + which) 1 ((1 + more % 200 : Nat) : Int) T else T).1.out.length ≤ g.out.length + 64 ∧ (if more / 7 % 2 = 0 then slotN (4 + which) 1 ((1 + more % 200 : Nat) : Int) T else T).2.length = 8 := fun T hT hl => by
    by_cases q : more / 7 % 2 = 0
    · rw [if_pos q] at hT ⊢
      have := (slotN_bd (i := 4 + which) (x := ((1 + more % 200 : Nat) : Int)) (T := T) W1).2.1
      exact ⟨by omega, by rw [sl]; exact hl⟩
    · rw [if_neg q] at hT ⊢
      exact ⟨by omega, hl⟩
  have five : ∀ (p : Nat) (T : Gh × List Int), T.1.out.length ≤ g.out.length + (if more / 7 % 2 = 0 then 0 else 8) + 37 ∧ T.2.length = 8 → (slotR 3 p T).1.out.length ≤ g.out.length + (if more / 7 % 2 = 0 then 0 else 8) + 48 ∧ (slotR 3 p T).2.length = 8 := fun p T h => by
    have b5 := (slotR_bd (i := 3) (n := p) (T := T)).2.1
    exact ⟨by omega, by rw [sr]; exact h.2⟩
  cases spots with
  | nil => exact fin _ (Nat.le_trans h4.1 (by omega)) h4.2
  | cons p ps => exact fin _ (five p _ h4).1 (five p _ h4).2
theorem keyL_le (cvs : List Int) (oo : Int) : (keyL cvs oo).length ≤ cvs.length := by
  have q : ∀ (l : List Int) (acc : Bool × List Int), (l.foldl (stepK oo) acc).2.length ≤ acc.2.length + l.length := by
    intro l
    induction l with
    | nil => intro acc; exact Nat.le_refl _
    | cons e l ih =>
      intro acc
      have := ih (stepK oo acc e)
      have h2 : (stepK oo acc e).2.length ≤ acc.2.length + 1 := by
        unfold stepK
        split
        · split
          · omega
          · simp
        · simp
      rw [List.foldl_cons, List.length_cons]
      omega
  have := q cvs.reverse (true, [])
  rw [List.length_reverse] at this
  unfold keyL
  simpa using this
theorem endO_bd {g : Gh} {cvs : List Int} {oe : Nat} (hc : cvs.length = 8) : (prepO 4 0 g.out).length + 4 ≤ (g.endO cvs oe).out.length ∧ (g.endO cvs oe).out.length ≤ g.out.length + 50 ∧ (g.endO cvs oe).vts.length ≤ g.vts.length + 1 := by
  have h2 := (prepO_len (w := 4) (a := 0) (out := g.out) W4).2
  have hk := keyL_le cvs (((prepO 4 0 g.out).length + 4 : Nat) : Int)
  unfold Gh.endO
  dsimp only
  split
  · have hv := (vtNew_len (oe := oe) (ns := keyL cvs (((prepO 4 0 g.out).length + 4 : Nat) : Int)) (p := (soO g.out, prepR 4 0 g.out g.room)) (oo := (prepO 4 0 g.out).length + 4) (by omega) (by rw [soO_len]; omega))
    rw [soO_len] at hv
    refine ⟨hv.1, ?_, by simp⟩
    have := hv.2
    show (vtNew _ _ _ _).1.length ≤ _
    omega
  · refine ⟨?_, ?_, by simp⟩
    · show _ ≤ (over _ _ _).length
      rw [over_length (by rw [le_length, soO_len]; omega), soO_len]
      exact Nat.le_refl _
    · show (over _ _ _).length ≤ _
      rw [over_length (by rw [le_length, soO_len]; omega), soO_len]
      omega
structure StepOk (M M1 : Ms) : Prop where
  ge : M.g.out.length ≤ M1.g.out.length
  le : M1.g.out.length ≤ M.g.out.length + 250
  vl : M1.g.vts.length ≤ M.g.vts.length + 1
  sl : M1.ss.length ≤ M.ss.length + 1
  tl : M1.told.length ≤ M.told.length + 2
  pl : M1.spots.length = M.spots.length + 1
  zb : ∀ p ∈ M1.ss, p.2 ≤ M1.g.out.length
  tb : (∀ n ∈ M.told, n ≤ M.g.out.length) → ∀ n ∈ M1.told, n ≤ M1.g.out.length
  sb : (∀ n ∈ M.spots, n ≤ M.g.out.length) → ∀ n ∈ M1.spots, n ≤ M1.g.out.length
theorem step_ok {which more : Nat} {M : Ms} (hz : ∀ p ∈ M.ss, p.2 ≤ M.g.out.length) : StepOk M (stepM which more M) := by
  obtain ⟨w1, w2, w3, w4, w5, w6⟩ := wordM_ok (which := which) (more := more) (g := M.g) (ss := M.ss) hz
  obtain ⟨r1, r2, r3, r4⟩ := rowM_ok (more := more) (g := (wordM which more M.g M.ss).1.1)
  have t1 := tabM_ge (which := which) (more := more) (word := (wordM which more M.g M.ss).2) (row := (rowM more (wordM which more M.g M.ss).1.1).2) (spots := M.spots) (g := (rowM more (wordM which more M.g M.ss).1.1).1)
  obtain ⟨t2, t3⟩ := tab_le (which := which) (more := more) (word := (wordM which more M.g M.ss).2) (row := (rowM more (wordM which more M.g M.ss).1.1).2) (spots := M.spots) (g := (rowM more (wordM which more M.g M.ss).1.1).1)
  have t4 := tab_vts (which := which) (more := more) (word := (wordM which more M.g M.ss).2) (row := (rowM more (wordM which more M.g M.ss).1.1).2) (spots := M.spots) (g := (rowM more (wordM which more M.g M.ss).1.1).1)
  have e : stepM which more M = ⟨(tabM which more (wordM which more M.g M.ss).2 (rowM more (wordM which more M.g M.ss).1.1).2 M.spots (rowM more (wordM which more M.g M.ss).1.1).1).1.endO (tabM which more (wordM which more M.g M.ss).2 (rowM more (wordM which more M.g M.ss).1.1).2 M.spots (rowM more (wordM which more M.g M.ss).1.1).1).2 (rowM more (wordM which more M.g M.ss).1.1).1.out.length, (wordM which more M.g M.ss).1.2,
    M.told ++ (if more / 60 % 2 = 0 then [(wordM which more M.g M.ss).2] else [(wordM which more M.g M.ss).2, (rowM more (wordM which more M.g M.ss).1.1).2]), M.spots ++ [(prepO 4 0 (tabM which more (wordM which more M.g M.ss).2 (rowM more (wordM which more M.g M.ss).1.1).2 M.spots (rowM more (wordM which more M.g M.ss).1.1).1).1.out).length + 4]⟩ := rfl
  rw [e]
  generalize (tabM which more (wordM which more M.g M.ss).2 (rowM more (wordM which more M.g M.ss).1.1).2 M.spots (rowM more (wordM which more M.g M.ss).1.1).1) = T at t1 t2 t3 t4
  generalize (rowM more (wordM which more M.g M.ss).1.1) = R at r1 r2 r3 r4 t1 t2 t4
  generalize (wordM which more M.g M.ss) = W at w1 w2 w3 w4 w5 w6 r1 r2 r3
  obtain ⟨e1, e2, e3⟩ := endO_bd (g := T.1) (oe := R.1.out.length) t3
  have e4 : T.1.out.length ≤ (prepO 4 0 T.1.out).length := by simp [prepO]
  refine ⟨?_, ?_, ?_, w4, ?_, ?_, fun p hp => ?_, fun hh n hn => ?_, fun hh n hn => ?_⟩
  · show _ ≤ (T.1.endO T.2 R.1.out.length).out.length; omega
  · show (T.1.endO T.2 R.1.out.length).out.length ≤ _; omega
  · show (T.1.endO T.2 R.1.out.length).vts.length ≤ _; rw [t4, r3, w3] at e3; exact e3
  · show (M.told ++ _).length ≤ _
    rw [List.length_append]
    split <;> simp
  · show (M.spots ++ _).length = _
    rw [List.length_append]; rfl
  · have := w6 p hp
    show _ ≤ (T.1.endO T.2 R.1.out.length).out.length; omega
  · show _ ≤ (T.1.endO T.2 R.1.out.length).out.length
    rcases List.mem_append.mp hn with hn | hn
    · have := hh n hn; omega
    · split at hn
      · rw [List.mem_singleton.mp hn]; omega
      · rcases List.mem_cons.mp hn with rfl | hn
        · omega
        · rw [List.mem_singleton.mp hn]; omega
  · show _ ≤ (T.1.endO T.2 R.1.out.length).out.length
    rcases List.mem_append.mp hn with hn | hn
    · have := hh n hn; omega
    · rw [List.mem_singleton.mp hn]; exact e1
theorem msg_spots {which mx : Nat} {g : Gh} {ss : List (List UInt8 × Nat)} : (msgM which mx g ss).spots ≠ [] := by
  unfold msgM
  rw [Nat.add_comm]
  show (stepM _ _ _).spots ≠ []
  unfold stepM
  simp
theorem finG_bd {which mx : Nat} {M : Ms} (hw : Width M.g.ma) : M.g.out.length ≤ (finG which mx M).out.length ∧ (finG which mx M).out.length ≤ M.g.out.length + 40 ∧ (finG which mx M).vts = M.g.vts ∧ Width (finG which mx M).ma := by
  have hx := wd_max hw W4
  unfold finG
  split
  · have h1 := prepO_len (a := 4) (out := M.g.out) hw
    have h2 := prepO_len (w := 4) (a := 0) (out := prepO M.g.ma 4 M.g.out) W4
    have e : (finO M.g.ma (M.spots.getLastD 0) M.g.out).length = 4 + (prepO 4 0 (prepO M.g.ma 4 M.g.out)).length := by
      show (le 4 _ ++ _).length = _
      rw [List.length_append, le_length]
    refine ⟨?_, ?_, rfl, hx⟩
    · show _ ≤ (finO _ _ _).length; omega
    · show (finO _ _ _).length ≤ _; omega
  · have h1 := prepO_len (a := 8) (out := M.g.out) hw
    have h2 := prepO_len (w := 4) (a := 4) (out := prepO M.g.ma 8 M.g.out) W4
    have h3 := prepO_len (w := 4) (a := 0) (out := nameO M.g.ma 65 66 67 (68 + (which : Int)).toNat.toUInt8 M.g.out) W4
    have e0 : (nameO M.g.ma 65 66 67 (68 + (which : Int)).toNat.toUInt8 M.g.out).length = 4 + (prepO 4 4 (prepO M.g.ma 8 M.g.out)).length := by
      simp only [nameO, List.length_append, le_length]; omega
    have e : (finNO M.g.ma (M.spots.getLastD 0) 65 66 67 (68 + (which : Int)).toNat.toUInt8 M.g.out).length = 4 + (prepO 4 0 (nameO M.g.ma 65 66 67 (68 + (which : Int)).toNat.toUInt8 M.g.out)).length := by
      show (le 4 _ ++ _).length = _
      rw [List.length_append, le_length]
    refine ⟨?_, ?_, rfl, hx⟩
    · show _ ≤ (finNO _ _ _ _ _ _ _).length; omega
    · show (finNO _ _ _ _ _ _ _).length ≤ _; omega
theorem getLastD_at {ns : List Nat} (h : ns ≠ []) : ns[ns.length - 1]? = some (ns.getLastD 0) := by
  rw [List.getLastD_eq_getLast?, ← List.getLast?_eq_getElem?]
  cases e : ns.getLast? with
  | none => exact absurd (List.getLast?_eq_none_iff.mp e) h
  | some n => rfl
theorem ints_last {vs : List Value} {ns : List Nat} (h : IntsAre vs (natsI ns)) (hn : ns ≠ []) : ∃ t, vs[vs.length - 1]? = some (.int ((ns.getLastD 0 : Nat) : Int) t) := by
  have hl : vs.length = ns.length := by rw [h.length, natsI, List.length_map]
  have h0 : 0 < ns.length := List.length_pos_iff.mpr hn
  have hi : vs.length - 1 < vs.length := by omega
  obtain ⟨e, te, hve, hce⟩ := h.at (vs.length - 1) vs[vs.length - 1] (List.getElem?_eq_getElem hi)
  have q := getLastD_at hn
  unfold natsI at hce
  rw [List.getElem?_map, hl, q] at hce
  have hce : ((ns.getLastD 0 : Nat) : Int) = e := Option.some.inj hce
  exact ⟨te, by rw [List.getElem?_eq_getElem hi, hve, hce]⟩
theorem n_list_last {c : Cx} {A : Around} {s : Shared} {L d : Addr} {m : Str → Option Value} {l k : List (Addr × Obj)} {o : Obj} {vs : List Value} {v : Value} {t : Tok} {Q : Value → Shared → Prop} (X : LsO o vs) (S : St c L m l k s) (hm : (d, o) ∈ l) (hi : vs[vs.length - 1]? = some v) (hz : vs.length ≤ 1000000)
    (h : Q v s) : N c A (getItem (.ref d) (.int (-1) t)) Q s := by
  have := (List.getElem?_eq_some_iff.mp hi).1
  refine N.of (wpAny_getItem_list_neg (X.isList (S.get hm)) (by decide) (by rw [List.size_toArray]; omega) (by decide) ?_ h)
  rw [List.size_toArray, show (-1 + (vs.length : Int)).toNat = vs.length - 1 by omega, List.getElem?_toArray]
  exact hi
def mxOf (num : Int) : Nat := ((num * 40503 + 3).fmod 1048576).toNat

end Mine

end
-- PL1
section
open PySem PySem.W PySem.Calls PyProof.Rows
set_option maxRecDepth 100000
set_option linter.unusedVariables false
set_option linter.deprecated false
namespace Mine
section
variable {y : Cy} {A : Around} {s : Shared} {L b st ed F d ca : Addr} {m : Str → Option Value} {l k l0 tl X : List (Addr × Obj)} {r : Raw} {Q : Value → Shared → Prop} {w oe : Nat} {lo hi : Int} {buf out : List UInt8} {g : Gh} {od so o : Obj} {vs : List Value} {ss : List (List UInt8 × Nat)}
set_option maxHeartbeats 2000000 in
theorem ct_message {which : Nat} {num : Int} {tw tn : Tok} (S : St y.cx L m ((b, r.obj) :: (r.ba, baObj buf) :: (r.vt, od) :: (ssL r.ss so ++ (tl ++ l))) k s) (R : Rm A 12) (B : Bq y r buf od tl g) (V : Ss y.cx r.ss so ss) (hw : which ≤ 3)
    (hs : g.out.length ≤ 20000) (hxs : g.vts.length ≤ 100) (hzs : ss.length ≤ 100) (hzb : ∀ p ∈ ss, p.2 ≤ g.out.length)
    (h : ∀ d fd r' buf' od' so' tl' vs n t s', Bq y r' buf' od' tl' (finG which (mxOf num) (msgM which (mxOf num) g ss)) → Ss y.cx r'.ss so' (msgM which (mxOf num) g ss).ss → IntsAre vs (natsI ((msgM which (mxOf num) g ss).told ++ (msgM which (mxOf num) g ss).spots)) →
      (∀ p ∈ (msgM which (mxOf num) g ss).ss, p.2 ≤ (finG which (mxOf num) (msgM which (mxOf num) g ss)).out.length) →
      St y.cx L m ((d, tup [.bytes (finG which (mxOf num) (msgM which (mxOf num) g ss)).out.toArray t, .ref fd]) :: (fd, listOf vs.toArray n) :: (b, r'.obj) :: (r'.ba, baObj buf') :: (r'.vt, od') :: (ssL r'.ss so' ++ (tl' ++ l))) k s' → Q (.ref d) s') :
    N y.cx A (call (.ref 674) [.ref b, .int which tw, .int num tn]) Q s := by
  refine p_callF (binds := [("maker", .ref b), ("which", .int which tw), ("num", .int num tn)]) S (by rfl) (by rfl) (Rm.depth R) (BindsTo.of_eq rfl) (fun Lx oLx s₁ S₁ => ?_) rfl rfl rfl
  have S₁ : St y.cx Lx (fun _ => none) ((Lx + 1, cellO none) :: (b, r.obj) :: (r.ba, baObj buf) :: (r.vt, od) :: (ssL r.ss so ++ (tl ++ l))) ((L, oLx) :: k) s₁ := S₁
  refine w_loc S₁ fun s₂ S₂ => ?_
  refine w_loc S₂ fun s₃ S₃ => ?_
  refine w_loc S₃ fun s₄ S₄ => ?_
  refine ⟨Lx, _, _, S₄, ?_⟩
  have S₅ := S₄.down3
  show N _ _ _ _ _
  refine n_cons ?_
  refine n_assign ?_
  refine e_bin ?_
  refine e_bin ?_
  refine e_bin ?_
  refine r_locC (by assumption) (by exact rfl) ?_
  (refine r_cint (by assumption) ?_; intro _ _ _)
  refine i_mul (by assumption) (mulOk (by decide)) ?_
  intro _ _ _
  (refine r_cint (by assumption) ?_; intro _ _ _)
  (refine i_add (by assumption) ?_; intro _ _ _)
  (refine r_cint (by assumption) ?_; intro _ _ _)
  refine i_mod (by assumption) (by decide) ?_
  intro _ _ _
  obtain ⟨mx, hmx⟩ : ∃ mx : Nat, (num * 40503 + 3).fmod 1048576 = (mx : Int) := ⟨_, fmod_cast (by decide)⟩
  have hmx2 : mx < 1048576 := by have := Int.fmod_lt_of_pos (num * 40503 + 3) (show (0 : Int) < 1048576 by decide); omega
  rw [hmx]
  show N _ _ _ _ _
  (refine r_stC (by assumption) ?_; intro _ _)
  show N _ _ _ _ _
  refine n_cons ?_
  refine n_assign ?_
  refine e_list ?_
  refine sp_nil ?_
  refine k_newlist (by assumption) (by simp) fun sp s₆ S₆ => ?_
  have S₆ := S₆.down3
  show N _ _ _ _ _
  (refine r_stC (by assumption) ?_; intro _ _)
  show N _ _ _ _ _
  refine n_cons ?_
  refine n_assign ?_
  refine e_list ?_
  refine sp_nil ?_
  refine k_newlist (by assumption) (by simp) fun td s₇ S₇ => ?_
  have S₇ := S₇.down3
  show N _ _ _ _ _
  (refine r_stC (by assumption) ?_; intro _ _)
  show N _ _ _ _ _
  refine n_cons ?_
  refine n_for ?_
  refine e_call ?_
  refine p_bltC (by assumption) (gb_range _) (by boot_by_name) (by decide) ?_ rfl rfl
  refine cw1 ?_
  refine sp_cons ?_
  refine e_bin ?_
  (refine r_cint (by assumption) ?_; intro _ _ _)
  refine e_bin ?_
  refine r_locC (by assumption) (by exact rfl) ?_
  (refine r_cint (by assumption) ?_; intro _ _ _)
  walk_at "n_leaf"
  (refine i_add (by assumption) ?_; intro _ _ _)
  refine sp_nil ?_
  refine ⟨Kp.type, ?_⟩
  show N _ _ (call _ [_] _) _ _
  rename_i S₈
  rw [show (1 : Int) + ((mx % 2 : Nat) : Int) = ((1 + mx % 2 : Nat) : Int) by omega]
  refine k_range S₈ fun rg s₉ r1 r2 r3 S₉ => ?_
  skip
  refine k_iter_range (n := 1 + mx % 2) S₉ (by omega) fun it s₁₀ S₁₀ => ?_
  obtain ⟨M0, hM0⟩ : ∃ M0 : Ms, M0 = ⟨g, ss, [], []⟩ := ⟨_, rfl⟩
  refine NC.for_ind (fun n s' => ∃ (i : Nat) (m' : Str → Option Value) (r' : Raw) (buf' : List UInt8) (od' so' : Obj) (tl' : List (Addr × Obj)) (tvs svs : List Value) (nt nn : Nat) (mo : Option Value) (tm : Tok), n + i = 1 + mx % 2 ∧
    St y.cx Lx m' ((it, rit i n) :: (b, r'.obj) :: (r'.ba, baObj buf') :: (r'.vt, od') :: (td, listOf tvs.toArray nt) :: (sp, listOf svs.toArray nn) :: (Lx + 1, cellO mo) :: (ssL r'.ss so' ++ (tl' ++ l))) ((L, oLx) :: k) s' ∧
    Mq y r' buf' od' so' tl' tvs svs (runM which mx i M0) ∧ (runM which mx i M0).g.out.length ≤ 20000 + 1000 * i ∧ (runM which mx i M0).g.vts.length ≤ 100 + i ∧ (runM which mx i M0).ss.length ≤ 100 + i ∧ (runM which mx i M0).told.length ≤ 2 * i ∧ (runM which mx i M0).spots.length ≤ i ∧
    m' "maker" = some (.ref b) ∧ m' "which" = some (.int which tw) ∧ m' "mixed" = some (.int mx tm) ∧ m' "spots" = some (.ref sp) ∧ m' "told" = some (.ref td)) ?_ (1 + mx % 2) _
    ⟨0, _, r, buf, od, so, tl, [], [], 0, 0, none, _, rfl, S₁₀.perm (.cons _ (.cons _ (.cons _ (.cons _ (.refl _))))), ⟨by subst hM0; exact B, by subst hM0; exact V, by subst hM0; exact .nil, by subst hM0; exact .nil, by subst hM0; intro n hn; simp [runM] at hn, by subst hM0; intro n hn; simp [runM] at hn, by subst hM0; exact hzb⟩, by subst hM0; exact hs, by subst hM0; exact hxs, by subst hM0; exact hzs, by subst hM0; simp [runM], by subst hM0; simp [runM], by exact rfl, by exact rfl, by exact rfl, by exact rfl, by exact rfl⟩
  rintro n s₁₁ ⟨i, m', r', buf', od', so', tl', tvs, svs, nt, nn, mo, tm, hni, S₁₁, H, hb1, hb2, hb3, hb4, hb5, e1, e2, e3, e4, e5⟩
  generalize hM : runM which mx i M0 = M at H hb1 hb2 hb3 hb4 hb5
  have hi2 : mx % 2 < 2 := Nat.mod_lt _ (by decide)
  cases n with
  | zero =>
    refine k_next_range_end S₁₁ (by exact R.h) fun s₁₂ S₁₂ => ?_
    have hi1 : i = 1 + mx % 2 := by omega
    have hmo : mxOf num = mx := by unfold mxOf; rw [hmx, Int.toNat_natCast]
    have hMm : msgM which (mxOf num) g ss = M := by rw [hmo, ← hM, hi1, hM0]; rfl
    rw [hMm, hmo] at h
    have hsp : M.spots ≠ [] := by rw [← hMm]; exact msg_spots
    obtain ⟨tla, hla⟩ := ints_last H.si hsp
    have hrb : M.spots.getLastD 0 ≤ M.g.out.length := H.sb _ (List.mem_of_getElem? (getLastD_at hsp))
    have hfb := finG_bd (which := which) (mx := mx) H.B.wd
    have hsl : svs.length ≤ 2 := by rw [H.si.length, natsI, List.length_map]; omega
    have htl : tvs.length ≤ 4 := by rw [H.ti.length, natsI, List.length_map]; omega
    skip
    refine n_cons ?_
    refine N.mono (Q := fun f s' => f = Flow.next ∧ ∃ (m'' : Str → Option Value) (r'' : Raw) (buf'' : List UInt8), r''.fin = true ∧
      St y.cx Lx m'' ((b, r''.obj) :: (r''.ba, baObj buf'') :: (r''.vt, od') :: (td, listOf tvs.toArray nt) :: (sp, listOf svs.toArray nn) :: (Lx + 1, cellO mo) :: (ssL r''.ss so' ++ (tl' ++ l))) ((L, oLx) :: k) s' ∧
      Bq y r'' buf'' od' tl' (finG which mx M) ∧ r''.ss = r'.ss ∧ m'' "maker" = some (.ref b) ∧ m'' "spots" = some (.ref sp) ∧ m'' "told" = some (.ref td)) ?_ ?_
    · refine n_if ?_
      refine t_plain ?_
      refine e_bin ?_
      refine e_bin ?_
      refine r_locC (by assumption) (by exact e3) ?_
      (refine r_cint (by assumption) ?_; intro _ _ _)
      walk_at "n_leaf"
      (refine r_cint (by assumption) ?_; intro _ _ _)
      walk_at "n_leaf"
      walk_at "n_leaf"
      by_cases hfi : mx / 3 % 2 = 0
      · refine g_no (by simp [hfi]) ?_
        refine n_cons ?_
        refine n_expr ?_
        refine e_meth ?_
        refine r_locC (by assumption) (by exact e1) ?_
        refine m_Finish (by assumption) ?_
        refine cw1 ?_
        refine sp_cons ?_
        refine e_sub ?_
        refine r_locC (by assumption) (by exact e4) ?_
        refine e_un ?_
        (refine r_cint (by assumption) ?_; intro _ _ _)
        (refine i_neg (by assumption) ?_; intro _ _ _)
        refine r_item_ls LsO.of (by assumption) (by walk_at "in_lw") ?_ (fun _ _ => by first | exact .inl rfl | exact .inr rfl)
        refine n_list_last LsO.of (by assumption) (by walk_at "in_lw") hla (by omega) ?_
        refine sp_nil ?_
        refine ⟨Kp.of_K (by assumption) (kp_434 _), ?_⟩
        show N _ _ (call _ [_, _] _) _ _
        refine ct_Finish (root := M.spots.getLastD 0) (r := r') (buf := buf') (by assumption) (R.deep.le (by omega)) H.B.bd (by omega) H.B.wd hrb fun ba hd ma' buf2 v t2 s₁₃ S₁₃ B2 => ?_
        refine ⟨(by intro _ h; cases h), ?_⟩
        show N _ _ _ _ _
        refine n_nil ?_
        have ef : finG which mx M = ⟨finO M.g.ma (M.spots.getLastD 0) M.g.out, finR M.g.ma M.g.out M.g.room, max M.g.ma 4, M.g.vts⟩ := by unfold finG; rw [if_pos hfi]
        refine ⟨rfl, _, { r'.at ba hd ma' with fin := true }, buf2, rfl, by assumption, ?_, rfl, by exact e1, by exact e4, by exact e5⟩
        rw [ef] at hfb ⊢
        exact ⟨⟨B2.ok, B2.ma, B2.rm⟩, H.B.vt, H.B.nn, fun v hv => Nat.le_trans (H.B.vl v hv) hfb.1, hfb.2.2.2⟩
      · refine g_yes (by simp; omega) ?_
        refine n_cons ?_
        refine n_expr ?_
        refine e_meth ?_
        refine r_locC (by assumption) (by exact e1) ?_
        refine m_Finish (by assumption) ?_
        refine cw1 ?_
        refine sp_cons ?_
        refine e_sub ?_
        refine r_locC (by assumption) (by exact e4) ?_
        refine e_un ?_
        (refine r_cint (by assumption) ?_; intro _ _ _)
        (refine i_neg (by assumption) ?_; intro _ _ _)
        refine r_item_ls LsO.of (by assumption) (by walk_at "in_lw") ?_ (fun _ _ => by first | exact .inl rfl | exact .inr rfl)
        refine n_list_last LsO.of (by assumption) (by walk_at "in_lw") hla (by omega) ?_
        refine sp_cons ?_
        refine e_call ?_
        refine p_bltC (by assumption) (gb_bytes _) (by boot_by_name) (by decide) ?_ rfl rfl
        refine cw1 ?_
        refine sp_cons ?_
        refine e_list ?_
        refine sp_cons ?_
        (refine r_cint (by assumption) ?_; intro _ _ _)
        refine sp_cons ?_
        (refine r_cint (by assumption) ?_; intro _ _ _)
        refine sp_cons ?_
        (refine r_cint (by assumption) ?_; intro _ _ _)
        refine sp_cons ?_
        refine e_bin ?_
        (refine r_cint (by assumption) ?_; intro _ _ _)
        refine r_locC (by assumption) (by exact e2) ?_
        (refine i_add (by assumption) ?_; intro _ _ _)
        refine sp_nil ?_
        refine k_newlist (by assumption) (by simp) fun nl s₁₃ S₁₃ => ?_
        refine sp_nil ?_
        refine ⟨Kp.type, ?_⟩
        show N _ _ (call _ [_] _) _ _
        refine k_bytes_list (ns := [65, 66, 67, 68 + (which : Int)]) (LsO.of) S₁₃ (.head _) (.cons _ _ (.cons _ _ (.cons _ _ (.cons _ _ .nil)))) (fun n hn => by simp at hn; omega) (by simp) (by exact R.h) ?_
        intro tb s₁₄ S₁₄
        have S₁₄ := S₁₄.drop
        have eb : byteArr [65, 66, 67, 68 + (which : Int)] = #[65, 66, 67, (68 + (which : Int)).toNat.toUInt8] := rfl
        rw [eb]
        show N _ _ _ _ _
        refine sp_nil ?_
        refine ⟨Kp.of_K (by assumption) (kp_434 _), ?_⟩
        show N _ _ (call _ [_, _, _] _) _ _
        refine ct_FinishN (root := M.spots.getLastD 0) (r := r') (buf := buf') (by assumption) (R.deep.le (by omega)) H.B.bd (by omega) H.B.wd hrb fun ba hd ma' buf2 v t2 s₁₃ S₁₃ B2 => ?_
        refine ⟨(by intro _ h; cases h), ?_⟩
        show N _ _ _ _ _
        refine n_nil ?_
        have ef : finG which mx M = ⟨finNO M.g.ma (M.spots.getLastD 0) 65 66 67 (68 + (which : Int)).toNat.toUInt8 M.g.out, finNR M.g.ma 65 66 67 (68 + (which : Int)).toNat.toUInt8 M.g.out M.g.room, max M.g.ma 4, M.g.vts⟩ := by unfold finG; rw [if_neg hfi]
        refine ⟨rfl, _, { r'.at ba hd ma' with fin := true }, buf2, rfl, by assumption, ?_, rfl, by exact e1, by exact e4, by exact e5⟩
        rw [ef] at hfb ⊢
        exact ⟨⟨B2.ok, B2.ma, B2.rm⟩, H.B.vt, H.B.nn, fun v hv => Nat.le_trans (H.B.vl v hv) hfb.1, hfb.2.2.2⟩
    · rintro _ s₁₃ ⟨rfl, m'', r'', buf'', hfin, S₁₃, B2, es2, f1, f2, f3⟩
      obtain ⟨c1, c2, c3, c4, c5⟩ := id B2.bd.ok
      have c6 := B2.bd.rm
      show N _ _ _ _ _
      refine n_cons ?_
      refine n_ret ?_
      refine e_tuple ?_
      refine sp_cons ?_
      refine e_call ?_
      refine p_bltC (by assumption) (gb_bytes _) (by boot_by_name) (by decide) ?_ rfl rfl
      refine cw1 ?_
      refine sp_cons ?_
      refine e_meth ?_
      refine r_locC (by assumption) (by exact f1) ?_
      refine m_Output (by assumption) ?_
      refine cw0 ?_ ?_
      exact Kp.of_K (by assumption) (kp_284 _)
      show N _ _ (call _ [_] _) _ _
      refine ct_Output (r := r'') (buf := buf'') (by assumption) (R.deep.le (by omega)) B2.bd.ok hfin fun eo s₁₅ S₁₅ => ?_
      refine sp_nil ?_
      refine ⟨Kp.type, ?_⟩
      show N _ _ (call _ [_] _) _ _
      refine k_bytes_ba S₁₅ (.head _) (by omega) fun tb s₁₆ S₁₆ => ?_
      have S₁₆ := S₁₆.drop
      show N _ _ _ _ _
      refine sp_cons ?_
      refine e_bin ?_
      refine r_locC (by assumption) (by exact f3) ?_
      refine r_locC (by assumption) (by exact f2) ?_
      refine l_add (vs := tvs) (us := svs) (by assumption) (by walk_at "in_lw") (by walk_at "in_lw") (by omega) fun fd s₁₇ S₁₇ => ?_
      refine sp_nil ?_
      refine k_newtuple (by assumption) (by simp) fun d s₁₈ S₁₈ => ?_
      skip
      refine Back.mk (by assumption) (fun S' => ?_)
      have I5 : IntsAre (tvs ++ svs) (natsI (M.told ++ M.spots)) := by unfold natsI; rw [List.map_append]; exact H.ti.append H.si
      have V5 : Ss y.cx r''.ss so' M.ss := by rw [es2]; exact H.V
      have S' := S'.sub (.cons_cons _ (.cons_cons _ (.cons_cons _ (.cons_cons _ (.cons_cons _ (.cons _ (.cons _ (.cons _ (.refl _)))))))))
      exact h d fd r'' buf'' od' so' tl' (tvs ++ svs) 0 _ _ B2 V5 I5 (fun p hp => Nat.le_trans (H.zb p hp) hfb.1) S'
  | succ n =>
    refine k_next_range S₁₁ (by omega) fun tx s₁₂ S₁₂ => ?_
    rw [show ((((n + 1 : Nat) : Int)) - 1) = (n : Int) by omega] at S₁₂
    have S₁₂ := S₁₂.down3
    show N _ _ _ _ _
    (refine r_stC (by assumption) ?_; intro _ _)
    refine n_cons ?_
    refine n_assign ?_
    refine e_bin ?_
    refine e_bin ?_
    refine e_bin ?_
    refine r_locC (by assumption) (by exact e3) ?_
    (refine r_cint (by assumption) ?_; intro _ _ _)
    walk_at "n_leaf"
    refine e_bin ?_
    refine r_locC (by assumption) (by exact rfl) ?_
    (refine r_cint (by assumption) ?_; intro _ _ _)
    (refine i_add (by assumption) ?_; intro _ _ _)
    rw [show (i : Int) + 1 = ((i + 1 : Nat) : Int) by omega]
    refine i_mulN (by assumption) (by omega) ?_
    intro _ _ _
    refine e_bin ?_
    (refine r_cint (by assumption) ?_; intro _ _ _)
    refine r_locC (by assumption) (by exact rfl) ?_
    refine i_mul (by assumption) (mulOk (by omega)) ?_
    intro _ _ _
    (refine i_add (by assumption) ?_; intro _ _ _)
    obtain ⟨more, hmore⟩ : ∃ more, more = moreOf mx i := ⟨_, rfl⟩
    rw [show (((mx / 2 * (i + 1) : Nat) : Int)) + 7 * (i : Int) = ((more : Nat) : Int) by rw [hmore, moreOf]; omega]
    have hmb : more < 4000000 := by
      have : mx / 2 * (i + 1) ≤ 524288 * 2 := Nat.mul_le_mul (by omega) (by omega)
      rw [hmore, moreOf]; omega
    rename_i S₁₃
    refine r_stcell (S₁₃.perm (List.perm_middle (l₁ := [_, _, _, _, _, _]))) fun s₁₄ S₁₄ => ?_
    have S₁₄ := S₁₄.perm (List.perm_middle (l₁ := [_, _, _, _, _, _])).symm
    simp only [List.cons_append, List.nil_append] at S₁₄
    show N _ _ _ _ _
    refine n_cons ?_
    refine n_assign ?_
    refine e_call ?_
    refine p_bltC (by assumption) (gb_bytes _) (by boot_by_name) (by decide) ?_ rfl rfl
    refine cw1 ?_
    refine sp_cons ?_
    refine e_bin ?_
    refine e_list ?_
    refine sp_cons ?_
    refine e_bin ?_
    (refine r_cint (by assumption) ?_; intro _ _ _)
    refine r_locC (by assumption) (by exact e2) ?_
    (refine i_add (by assumption) ?_; intro _ _ _)
    refine sp_nil ?_
    refine k_newlist (by assumption) (by simp) fun d1 s₁₅ S₁₅ => ?_
    have S₁₅ := S₁₅.down3
    show N _ _ _ _ _
    refine e_lc ?_
    refine e_call ?_
    refine p_bltC (by assumption) (gb_range _) (by boot_by_name) (by decide) ?_ rfl rfl
    refine cw1 ?_
    refine sp_cons ?_
    refine e_bin ?_
    refine r_cell (by rfl) (by assumption) (by walk_at "in_lw") ?_
    (refine r_cint (by assumption) ?_; intro _ _ _)
    walk_at "n_leaf"
    refine sp_nil ?_
    refine ⟨Kp.type, ?_⟩
    show N _ _ (call _ [_] _) _ _
    rename_i S₁₆
    refine k_range S₁₆ fun rg2 s₁₇ q1 q2 q3 S₁₇ => ?_
    have hcell : s₁₇.heap.get? (Lx + 1) = some (cellO (some (.int (more : Int) _))) := S₁₇.get (by walk_at "in_lw")
    refine comp_range (g := fun e => 97 + (((more / 5 : Nat) : Int) + e).fmod 26) S₁₇ (by omega) (by exact R.h) (fun I s₂ hk2 hI => ⟨fun C e t s₃ m₃ E' he hn hm hk3 => ?_⟩) (fun d2 ys nn2 s₁₈ I2 S₁₈ => ?_)
    · have hne : (Lx + 1) ∉ [I] := by
        intro q
        have q : Lx + 1 = I := by simpa using q
        rw [← q, hcell] at hI; cases hI
      have hc3 := hk3 _ _ hne (hk2 _ _ hcell)
      refine wpAny_BinOp (wpAny_Constant_int ?_)
      refine wpAny_BinOp ?_
      refine wpAny_BinOp ?_
      refine wpAny_BinOp ?_
      refine wpAny_Name (wpAny_loadName_cell (by rfl) (by rfl) (by rfl) ⟨_, hc3, rfl⟩ ?_) (by decide)
      refine wpAny_Constant_int ?_
      refine PyProof.Rows.floordiv_int (by decide) ?_ (.inl (PyProof.noPylong_of_log2 (by decide +kernel)))
      refine wpAny_Name (wpAny_loadName_local (by rfl) (by rfl) hn hm ?_) (by decide)
      refine PyProof.Rows.add_int ?_
      refine wpAny_Constant_int ?_
      refine PyProof.Rows.mod_int' (by decide) ?_
      refine PyProof.Rows.add_int ?_
      exact ⟨⟨_, by rw [show ((more : Nat) : Int).fdiv 5 = ((more / 5 : Nat) : Int) from fd more 5]⟩, ⟨s₃.heap, _, rfl, fun _ _ e => e⟩⟩
    refine l_add S₁₈ (.tail _ (.tail _ (.tail _ (.tail _ (.head _))))) (.head _) (by have := I2.length; simp at this; simp; omega) fun d3 s₁₉ S₁₉ => ?_
    have I3 : ∀ t, IntsAre ([Value.int (48 + (which : Int)) t] ++ ys) (lettersI which more) := fun t => .cons _ _ I2
    show N _ _ _ _ _
    refine sp_nil ?_
    refine ⟨Kp.type, ?_⟩
    show N _ _ (call _ [_] _) _ _
    refine k_bytes_list (LsO.of) S₁₉ (.head _) (I3 _) (letters_ok hw) (by have := I2.length; simp at this; simp; omega) (by exact R.h) ?_
    intro tl1 s₂₀ S₂₀
    have eb : byteArr (lettersI which more) = (lettersB which more).toArray := by simp [lettersB]
    have hll := letters_len (which := which) (more := more)
    have hlb : (lettersB which more).length ≤ 5 := by unfold lettersB; rw [Array.length_toList, byteArr_size]; exact hll.1
    rw [eb]
    have S₂₀ := S₂₀.sub (.cons _ (.cons _ (.cons_cons _ (.cons_cons _ (.cons_cons _ (.cons _ (.refl _)))))))
    show N _ _ _ _ _
    (refine r_stC (by assumption) ?_; intro _ _)
    show N _ _ _ _ _
    refine n_cons ?_
    refine n_assign ?_
    (refine r_cint (by assumption) ?_; intro _ _ _)
    (refine r_stC (by assumption) ?_; intro _ _)
    refine n_cons ?_
    refine N.mono (Q := fun f s' => f = Flow.next ∧ ∃ (m'' : Str → Option Value) (r'' : Raw) (buf'' : List UInt8) (so'' : Obj) (tk tc tw' : Tok),
      St y.cx Lx m'' ((b, r''.obj) :: (r''.ba, baObj buf'') :: (r''.vt, od') :: (it, rit (i + 1) n) :: (td, listOf tvs.toArray nt) :: (sp, listOf svs.toArray nn) :: (Lx + 1, cellO (some (.int (more : Nat) tc))) :: (ssL r''.ss so'' ++ (tl' ++ l))) ((L, oLx) :: k) s' ∧
      Bq y r'' buf'' od' tl' (wordM which more M.g M.ss).1.1 ∧ Ss y.cx r''.ss so'' (wordM which more M.g M.ss).1.2 ∧
      m'' "maker" = some (.ref b) ∧ m'' "which" = some (.int which tw) ∧ m'' "mixed" = some (.int mx tm) ∧ m'' "spots" = some (.ref sp) ∧ m'' "told" = some (.ref td) ∧ m'' "wordspot" = some (.int ((wordM which more M.g M.ss).2 : Nat) tw')) ?_ ?_
    · refine n_if ?_
      refine t_plain ?_
      refine e_bin ?_
      refine e_bin ?_
      refine r_cell (by rfl) (by assumption) (by walk_at "in_lw") ?_
      (refine r_cint (by assumption) ?_; intro _ _ _)
      walk_at "n_leaf"
      (refine r_cint (by assumption) ?_; intro _ _ _)
      walk_at "n_leaf"
      walk_at "n_leaf"
      by_cases hsh : more / 5 % 3 = 0
      · refine g_no (by simp [hsh]) ?_
        refine n_cons ?_
        refine n_assign ?_
        refine e_meth ?_
        refine r_locC (by assumption) (by exact e1) ?_
        refine m_CreateString (by assumption) ?_
        refine cw1 ?_
        refine sp_cons ?_
        refine r_locC (by assumption) (by exact rfl) ?_
        refine sp_nil ?_
        refine ⟨Kp.of_K (by assumption) (kp_383 _), ?_⟩
        show N _ _ (call _ [_, _] _) _ _
        refine gq_String (by assumption) (R.deep.le (by omega)) H.B (by omega) (by omega) fun r2 buf2 t2 s₂₁ B2 es ev S₂₁ => ?_
        rw [← ev, ← es] at S₂₁
        (refine r_stC (by assumption) ?_; intro _ _)
        show N _ _ _ _ _
        refine n_nil ?_
        have ew : wordM which more M.g M.ss = ((M.g.str (lettersB which more), M.ss), (M.g.str (lettersB which more)).out.length) := by rw [wordM, if_pos hsh]
        rw [ew]
        refine ⟨rfl, _, r2, buf2, so', tx, _, _, by assumption, B2, (by rw [es]; exact H.V), by exact e1, by exact e2, by exact e3, by exact e4, by exact e5, by exact rfl⟩
      · refine g_yes (by simp; omega) ?_
        refine n_cons ?_
        refine n_assign ?_
        refine e_meth ?_
        refine r_locC (by assumption) (by exact e1) ?_
        refine m_CreateSharedString (by assumption) ?_
        refine cw1 ?_
        refine sp_cons ?_
        refine e_sub ?_
        refine r_locC (by assumption) (by exact rfl) ?_
        refine e_slice_up ?_
        refine e_bin ?_
        (refine r_cint (by assumption) ?_; intro _ _ _)
        refine e_bin ?_
        refine e_bin ?_
        refine r_cell (by rfl) (by assumption) (by walk_at "in_lw") ?_
        (refine r_cint (by assumption) ?_; intro _ _ _)
        walk_at "n_leaf"
        (refine r_cint (by assumption) ?_; intro _ _ _)
        walk_at "n_leaf"
        (refine i_add (by assumption) ?_; intro _ _ _)
        (refine r_slice (by assumption) ?_; intro _ _ _)
        refine r_item_y ?_ (fun _ _ => by first | exact .inl rfl | exact .inr rfl)
        refine y_cut (by assumption) .none (.int _ _) (by omega) ?_
        intro t3 s₂₁ S₂₁
        rw [show (1 : Int) + ((more / 15 % 4 : Nat) : Int) = ((1 + more / 15 % 4 : Nat) : Int) by omega, cut_take]
        refine sp_nil ?_
        refine ⟨Kp.of_K (by assumption) (kp_376 _), ?_⟩
        show N _ _ (call _ [_, _] _) _ _
        refine gq_Shared (X := [_, _, _, _]) (by assumption) (R.deep.le (by omega)) H.B H.V (by omega) (by rw [List.length_take]; omega) (by omega) fun r2 buf2 so2 t2 s₂₂ B2 V2 ev S₂₂ => ?_
        simp only [List.cons_append, List.nil_append] at S₂₂
        (refine r_stC (by assumption) ?_; intro _ _)
        show N _ _ _ _ _
        refine n_nil ?_
        have ew : wordM which more M.g M.ss = shW ((lettersB which more).take (1 + more / 15 % 4)) M.g M.ss := by rw [wordM, if_neg hsh]
        rw [ew]
        refine ⟨rfl, _, r2, buf2, so2, tx, _, _, by assumption, B2, V2, by exact e1, by exact e2, by exact e3, by exact e4, by exact e5, by exact rfl⟩
    · rintro _ s₂₂ ⟨rfl, m'', r'', buf'', so'', tk, tc, tw', S₂₂, B2, V2, f1, f2, f3, f4, f5, f6⟩
      have hW := wordM_ok (which := which) (more := more) (g := M.g) (ss := M.ss) H.zb
      generalize hWe : wordM which more M.g M.ss = W at hW B2 V2 f6 S₂₂
      obtain ⟨hw1, hw2, hw3, hw4, hw5, hw6⟩ := hW
      have htl : tvs.length ≤ 2 * i := by rw [H.ti.length, natsI, List.length_map]; exact hb4
      show N _ _ _ _ _
      refine n_cons ?_
      refine n_expr ?_
      refine e_meth ?_
      refine r_locC (by assumption) (by exact f5) ?_
      walk_at "n_leaf"
      refine cw1 ?_
      refine sp_cons ?_
      refine r_locC (by assumption) (by exact f6) ?_
      refine sp_nil ?_
      refine ⟨Kp.builtin, ?_⟩
      show N _ _ (call _ [_, _] _) _ _
      refine k_append (S₂₂.perm (List.perm_middle (l₁ := [_, _, _, _]))) (by omega) fun s₂₃ S₂₃ => ?_
      have S₂₃ := S₂₃.perm (List.perm_middle (l₁ := [_, _, _, _])).symm
      simp only [List.cons_append, List.nil_append] at S₂₃
      have I4 : ∀ t, IntsAre (tvs ++ [Value.int (W.2 : Nat) t]) (natsI (M.told ++ [W.2])) := fun t => by
        unfold natsI; rw [List.map_append]; exact H.ti.append (.cons _ _ .nil)
      refine ⟨(by intro _ h; cases h), ?_⟩
      show N _ _ _ _ _
      refine n_cons ?_
      refine n_assign ?_
      (refine r_cint (by assumption) ?_; intro _ _ _)
      (refine r_stC (by assumption) ?_; intro _ _)
      refine n_cons ?_
      refine N.mono (Q := fun f s' => f = Flow.next ∧ ∃ (m'' : Str → Option Value) (r'' : Raw) (buf'' : List UInt8) (tvs'' : List Value) (nt'' : Nat) (tr tw' : Tok),
        St y.cx Lx m'' ((b, r''.obj) :: (r''.ba, baObj buf'') :: (r''.vt, od') :: (it, rit (i + 1) n) :: (td, listOf tvs''.toArray nt'') :: (sp, listOf svs.toArray nn) :: (Lx + 1, cellO (some (.int (more : Nat) tc))) :: (ssL r''.ss so'' ++ (tl' ++ l))) ((L, oLx) :: k) s' ∧
        Bq y r'' buf'' od' tl' (rowM more W.1.1).1 ∧ Ss y.cx r''.ss so'' W.1.2 ∧ IntsAre tvs'' (natsI (M.told ++ (if more / 60 % 2 = 0 then [W.2] else [W.2, (rowM more W.1.1).2]))) ∧
        m'' "maker" = some (.ref b) ∧ m'' "which" = some (.int which tw) ∧ m'' "mixed" = some (.int mx tm) ∧ m'' "spots" = some (.ref sp) ∧ m'' "told" = some (.ref td) ∧ m'' "wordspot" = some (.int (W.2 : Nat) tw') ∧ m'' "rowspot" = some (.int ((rowM more W.1.1).2 : Nat) tr)) ?_ ?_
      · refine n_if ?_
        refine t_plain ?_
        refine e_bin ?_
        refine e_bin ?_
        refine r_cell (by rfl) (by assumption) (by walk_at "in_lw") ?_
        (refine r_cint (by assumption) ?_; intro _ _ _)
        walk_at "n_leaf"
        (refine r_cint (by assumption) ?_; intro _ _ _)
        walk_at "n_leaf"
        walk_at "n_leaf"
        by_cases hro : more / 60 % 2 = 0
        · refine g_no (by simp [hro]) ?_
          refine n_nil ?_
          have er : rowM more W.1.1 = (W.1.1, 0) := by rw [rowM, if_pos hro]
          rw [er, if_pos hro]
          refine ⟨rfl, _, r'', buf'', _, _, _, _, by assumption, B2, V2, I4 _, by exact f1, by exact f2, by exact f3, by exact f4, by exact f5, by exact f6, by exact rfl⟩
        · refine g_yes (by simp; omega) ?_
          have h4 : more / 120 % 4 < 4 := Nat.mod_lt _ (by decide)
          show N _ _ _ _ _
          refine n_cons ?_
          refine n_assign ?_
          refine e_bin ?_
          refine e_bin ?_
          refine r_cell (by rfl) (by assumption) (by walk_at "in_lw") ?_
          (refine r_cint (by assumption) ?_; intro _ _ _)
          walk_at "n_leaf"
          (refine r_cint (by assumption) ?_; intro _ _ _)
          walk_at "n_leaf"
          (refine r_stC (by assumption) ?_; intro _ _)
          show N _ _ _ _ _
          refine n_cons ?_
          refine n_expr ?_
          refine e_meth ?_
          refine r_locC (by assumption) (by exact f1) ?_
          refine m_StartVector (by assumption) ?_
          refine cw1 ?_
          refine sp_cons ?_
          (refine r_cint (by assumption) ?_; intro _ _ _)
          refine sp_cons ?_
          refine r_locC (by assumption) (by exact rfl) ?_
          refine sp_cons ?_
          (refine r_cint (by assumption) ?_; intro _ _ _)
          refine sp_nil ?_
          refine ⟨Kp.of_K (by assumption) (kp_361 _), ?_⟩
          show N _ _ (call _ [_, _, _, _] _) _ _
          refine gq_StartVector (n := more / 120 % 4) (by assumption) (R.deep.le (by omega)) B2 (by omega) (by omega) fun r3 buf3 t3 s₂₄ V3 es3 ev3 S₂₄ => ?_
          rw [← ev3, ← es3] at S₂₄
          refine ⟨(by intro _ h; cases h), ?_⟩
          show N _ _ _ _ _
          refine n_cons ?_
          refine n_for ?_
          refine e_call ?_
          refine p_bltC (by assumption) (gb_range _) (by boot_by_name) (by decide) ?_ rfl rfl
          refine cw1 ?_
          refine sp_cons ?_
          refine r_locC (by assumption) (by exact rfl) ?_
          refine sp_nil ?_
          refine ⟨Kp.type, ?_⟩
          show N _ _ (call _ [_] _) _ _
          refine k_range (by assumption) fun rg3 s₂₅ p1 p2 p3 S₂₅ => ?_
          skip
          refine k_iter_range (n := more / 120 % 4) S₂₅ (by omega) fun it2 s₂₆ S₂₆ => ?_
          refine NC.for_ind (fun n2 s' => ∃ (j : Nat) (m3 : Str → Option Value) (r4 : Raw) (buf4 : List UInt8), n2 + j = more / 120 % 4 ∧
            St y.cx Lx m3 ((it2, rit j n2) :: (b, r4.obj) :: (r4.ba, baObj buf4) :: (r4.vt, od') :: (it, rit (i + 1) n) :: (td, listOf (tvs ++ [Value.int (W.2 : Nat) tw']).toArray (nt + 1)) :: (sp, listOf svs.toArray nn) :: (Lx + 1, cellO (some (.int (more : Nat) tc))) :: (ssL r4.ss so'' ++ (tl' ++ l))) ((L, oLx) :: k) s' ∧
            Vq y r4 buf4 od' tl' (more / 120 % 4) n2 (vecU more j (W.1.1.vstart (more / 120 % 4))) ∧ r4.ss = r''.ss ∧
            m3 "maker" = some (.ref b) ∧ m3 "which" = some (.int which tw) ∧ m3 "mixed" = some (.int mx tm) ∧ m3 "spots" = some (.ref sp) ∧ m3 "told" = some (.ref td) ∧ m3 "wordspot" = some (.int (W.2 : Nat) tw')) ?_ (more / 120 % 4) _
            ⟨0, _, r3, buf3, by omega, by assumption, V3, es3, by exact f1, by exact f2, by exact f3, by exact f4, by exact f5, by exact f6⟩
          rintro n2 s₂₇ ⟨j, m3, r4, buf4, hnj, S₂₇, V4, es4, g1, g2, g3, g4, g5, g6⟩
          have hv1 := vecU_ok (more := more) (g := W.1.1.vstart (more / 120 % 4)) j
          have hv2 : (W.1.1.vstart (more / 120 % 4)).out.length ≤ W.1.1.out.length + 14 := by
            have q1 := prepO_len (w := 4) (a := 4 * (more / 120 % 4)) (out := W.1.1.out) (.inr (.inr (.inl rfl)))
            have q2 := prepO_len (w := 4) (a := 4 * (more / 120 % 4)) (out := prepO 4 (4 * (more / 120 % 4)) W.1.1.out) (.inr (.inr (.inl rfl)))
            show (prepO 4 (4 * (more / 120 % 4)) (prepO 4 (4 * (more / 120 % 4)) W.1.1.out)).length ≤ _
            omega
          cases n2 with
          | zero =>
            refine k_next_range_end S₂₇ (by exact R.h) fun s₂₈ S₂₈ => ?_
            show N _ _ _ _ _
            refine n_cons ?_
            refine n_assign ?_
            refine e_meth ?_
            refine r_locC (by assumption) (by exact g1) ?_
            refine m_EndVector (by assumption) ?_
            refine cw0 ?_ ?_
            exact Kp.of_K (by assumption) (kp_369 _)
            show N _ _ (call _ [_] _) _ _
            refine gq_EndVector (by assumption) (R.deep.le (by omega)) V4 (by omega) fun r5 buf5 t5 s₂₉ B5 es5 ev5 S₂₉ => ?_
            rw [← ev5, ← es5] at S₂₉
            (refine r_stC (by assumption) ?_; intro _ _)
            show N _ _ _ _ _
            refine n_cons ?_
            refine n_expr ?_
            refine e_meth ?_
            refine r_locC (by assumption) (by exact g5) ?_
            walk_at "n_leaf"
            refine cw1 ?_
            refine sp_cons ?_
            refine r_locC (by assumption) (by exact rfl) ?_
            refine sp_nil ?_
            refine ⟨Kp.builtin, ?_⟩
            show N _ _ (call _ [_, _] _) _ _
            rename_i S₃₀
            refine k_append (S₃₀.perm (List.perm_middle (l₁ := [_, _, _, _]))) (by simp; omega) fun s₃₁ S₃₁ => ?_
            have S₃₁ := S₃₁.perm (List.perm_middle (l₁ := [_, _, _, _])).symm
            simp only [List.cons_append, List.nil_append] at S₃₁
            refine ⟨(by intro _ h; cases h), ?_⟩
            show N _ _ _ _ _
            refine n_nil ?_
            have hj : j = more / 120 % 4 := by omega
            have er : rowM more W.1.1 = ((vecU more j (W.1.1.vstart (more / 120 % 4))).vend (more / 120 % 4), ((vecU more j (W.1.1.vstart (more / 120 % 4))).vend (more / 120 % 4)).out.length) := by rw [rowM, if_neg hro, hj]; rfl
            rw [er, if_neg hro]
            refine ⟨rfl, _, r5, buf5, _, _, _, _, by assumption, B5, by rw [es5, es4]; exact V2, ?_, by exact g1, by exact g2, by exact g3, by exact g4, by exact g5, by exact g6, by exact rfl⟩
            have z := (I4 tw').append (IntsAre.cons ((((vecU more j (W.1.1.vstart (more / 120 % 4))).vend (more / 120 % 4)).out.length : Nat) : Int) t5 .nil)
            have q : natsI (M.told ++ [W.2, ((vecU more j (W.1.1.vstart (more / 120 % 4))).vend (more / 120 % 4)).out.length]) = natsI (M.told ++ [W.2]) ++ [((((vecU more j (W.1.1.vstart (more / 120 % 4))).vend (more / 120 % 4)).out.length : Nat) : Int)] := by simp [natsI]
            dsimp only
            rw [q]
            exact z
          | succ n2 =>
            refine k_next_range S₂₇ (by omega) fun tx2 s₂₈ S₂₈ => ?_
            rw [show ((((n2 + 1 : Nat) : Int)) - 1) = (n2 : Int) by omega] at S₂₈
            have S₂₈ := S₂₈.under
            show N _ _ _ _ _
            (refine r_stC (by assumption) ?_; intro _ _)
            refine n_cons ?_
            refine n_expr ?_
            refine e_meth ?_
            refine r_locC (by assumption) (by exact g1) ?_
            refine m_PrependUint32 (by assumption) ?_
            refine cw1 ?_
            refine sp_cons ?_
            refine e_bin ?_
            refine e_bin ?_
            refine r_cell (by rfl) (by assumption) (by walk_at "in_lw") ?_
            refine e_bin ?_
            refine r_locC (by assumption) (by exact rfl) ?_
            (refine r_cint (by assumption) ?_; intro _ _ _)
            (refine i_add (by assumption) ?_; intro _ _ _)
            rw [show (j : Int) + 1 = ((j + 1 : Nat) : Int) by omega]
            refine i_mulN (by assumption) (by omega) ?_
            intro _ _ _
            (refine r_cint (by assumption) ?_; intro _ _ _)
            walk_at "n_leaf"
            refine sp_nil ?_
            refine ⟨Kp.of_K (by assumption) (kp_575 _), ?_⟩
            show N _ _ (call _ [_, _] _) _ _
            refine gq_U32 (x := more * (j + 1) % 4294967296) (by assumption) (R.deep.le (by omega)) V4 (by omega) (by have := Nat.mod_lt (more * (j + 1)) (show 0 < 4294967296 by decide); omega) fun r5 buf5 s₂₉ V5 es5 ev5 S₂₉ => ?_
            rw [← ev5, ← es5] at S₂₉
            refine ⟨(by intro _ h; cases h), ?_⟩
            show N _ _ _ _ _
            refine n_nil ?_
            exact ⟨n2, by omega, j + 1, _, r5, buf5, by omega, S₂₉.over, V5, by rw [es5, es4], by exact g1, by exact g2, by exact g3, by exact g4, by exact g5, by exact g6⟩
      · rintro _ s₂₄ ⟨rfl, m3, r3, buf3, tvs3, nt3, tr, tw3, S₂₄, B3, V3, I3, f1, f2, f3, f4, f5, f6, f7⟩
        have hR := rowM_ok (more := more) (g := W.1.1)
        generalize hRe : rowM more W.1.1 = Rw at hR B3 I3 f7 S₂₄
        obtain ⟨hr1, hr2, hr3, hr4⟩ := hR
        show N _ _ _ _ _
        refine n_cons ?_
        refine n_expr ?_
        refine e_meth ?_
        refine r_locC (by assumption) (by exact f1) ?_
        refine m_StartObject (by assumption) ?_
        refine cw1 ?_
        refine sp_cons ?_
        (refine r_cint (by assumption) ?_; intro _ _ _)
        refine sp_nil ?_
        refine ⟨Kp.of_K (by assumption) (kp_291 _), ?_⟩
        show N _ _ (call _ [_, _] _) _ _
        refine gq_StartObject (by assumption) (R.deep.le (by omega)) B3 fun r4 ca o4 vs4 s₂₅ T4 es4 ev4 eb4 S₂₅ => ?_
        rw [← ev4, ← es4] at S₂₅
        refine ⟨(by intro _ h; cases h), ?_⟩
        obtain ⟨T1, hT1⟩ : ∃ T1, T1 = (if more / 7 % 2 = 0 then (Rw.1, List.replicate 8 (0 : Int)) else slotN (4 + which) 1 ((1 + more % 200 : Nat) : Int) (Rw.1, List.replicate 8 (0 : Int))) := ⟨_, rfl⟩
        have h200 := Nat.mod_lt more (show 0 < 200 by decide)
        refine n_cons ?_
        refine N.mono (Q := fun f s' => f = Flow.next ∧ ∃ (m4 : Str → Option Value) (r5 : Raw) (buf5 : List UInt8) (o5 : Obj) (vs5 : List Value),
          St y.cx Lx m4 ((b, r5.obj) :: (r5.ba, baObj buf5) :: (ca, o5) :: (r5.vt, od') :: (it, rit (i + 1) n) :: (td, listOf tvs3.toArray nt3) :: (sp, listOf svs.toArray nn) :: (Lx + 1, cellO (some (.int (more : Nat) tc))) :: (ssL r5.ss so'' ++ (tl' ++ l))) ((L, oLx) :: k) s' ∧
          Tq y r5 buf5 od' tl' Rw.1.out.length ca o5 vs5 T1 ∧ r5.ss = r3.ss ∧
          m4 "maker" = some (.ref b) ∧ m4 "which" = some (.int which tw) ∧ m4 "mixed" = some (.int mx tm) ∧ m4 "spots" = some (.ref sp) ∧ m4 "told" = some (.ref td) ∧ m4 "wordspot" = some (.int (W.2 : Nat) tw3) ∧ m4 "rowspot" = some (.int (Rw.2 : Nat) tr)) ?_ ?_
        · refine n_if ?_
          refine t_plain ?_
          refine e_bin ?_
          refine e_bin ?_
          refine r_cell (by rfl) (by assumption) (by walk_at "in_lw") ?_
          (refine r_cint (by assumption) ?_; intro _ _ _)
          walk_at "n_leaf"
          (refine r_cint (by assumption) ?_; intro _ _ _)
          walk_at "n_leaf"
          walk_at "n_leaf"
          by_cases hmk : more / 7 % 2 = 0
          · refine g_no (by simp [hmk]) ?_
            refine n_nil ?_
            rw [if_pos hmk] at hT1
            subst hT1
            exact ⟨rfl, _, r4, buf3, o4, vs4, by assumption, T4, es4, by exact f1, by exact f2, by exact f3, by exact f4, by exact f5, by exact f6, by exact f7⟩
          · refine g_yes (by simp; omega) ?_
            refine n_cons ?_
            refine n_expr ?_
            refine e_meth ?_
            refine r_locC (by assumption) (by exact f1) ?_
            refine m_PrependUint8Slot (by assumption) ?_
            refine cw1 ?_
            refine sp_cons ?_
            refine e_bin ?_
            (refine r_cint (by assumption) ?_; intro _ _ _)
            refine r_locC (by assumption) (by exact f2) ?_
            (refine i_add (by assumption) ?_; intro _ _ _)
            refine sp_cons ?_
            refine e_bin ?_
            (refine r_cint (by assumption) ?_; intro _ _ _)
            refine e_bin ?_
            refine r_cell (by rfl) (by assumption) (by walk_at "in_lw") ?_
            (refine r_cint (by assumption) ?_; intro _ _ _)
            walk_at "n_leaf"
            (refine i_add (by assumption) ?_; intro _ _ _)
            refine sp_cons ?_
            (refine r_cint (by assumption) ?_; intro _ _ _)
            refine sp_nil ?_
            refine ⟨Kp.of_K (by assumption) (kp_477 _), ?_⟩
            show N _ _ (call _ [_, _, _, _] _) _ _
            rw [show (4 : Int) + (which : Int) = ((4 + which : Nat) : Int) by omega, show (1 : Int) + ((more % 200 : Nat) : Int) = ((1 + more % 200 : Nat) : Int) by omega]
            refine gq_Slot8 (i := 4 + which) (n := 1 + more % 200) (by assumption) (R.deep.le (by omega)) T4 (by dsimp only; omega) (by omega) (by omega) (by omega) fun r5 buf5 o5 vs5 s₂₆ T5 es5 ev5 S₂₆ => ?_
            rw [← ev5, ← es5] at S₂₆
            refine ⟨(by intro _ h; cases h), ?_⟩
            show N _ _ _ _ _
            refine n_nil ?_
            rw [if_neg hmk] at hT1
            subst hT1
            exact ⟨rfl, _, r5, buf5, o5, vs5, by assumption, T5, by rw [es5, es4], by exact f1, by exact f2, by exact f3, by exact f4, by exact f5, by exact f6, by exact f7⟩
        · rintro _ s₂₆ ⟨rfl, m4, r5, buf5, o5, vs5, S₂₆, T5, es5, g1, g2, g3, g4, g5, g6, g7⟩
          have hB1 : Rw.1.out.length ≤ T1.1.out.length ∧ T1.1.out.length ≤ Rw.1.out.length + 8 ∧ T1.1.vts = Rw.1.vts := by
            rw [hT1]
            by_cases hmk : more / 7 % 2 = 0
            · rw [if_pos hmk]; exact ⟨Nat.le_refl _, by dsimp only; omega, rfl⟩
            · rw [if_neg hmk]
              have := slotN_bd (i := 4 + which) (x := ((1 + more % 200 : Nat) : Int)) (T := (Rw.1, List.replicate 8 (0 : Int))) (show Width 1 from .inl rfl)
              dsimp only at this
              exact ⟨this.1, by omega, this.2.2⟩
          show N _ _ _ _ _
          refine n_cons ?_
          refine n_expr ?_
          refine e_meth ?_
          refine r_locC (by assumption) (by exact g1) ?_
          refine m_PrependUOffsetTRelativeSlot (by assumption) ?_
          refine cw1 ?_
          refine sp_cons ?_
          (refine r_cint (by assumption) ?_; intro _ _ _)
          refine sp_cons ?_
          refine r_locC (by assumption) (by exact g6) ?_
          refine sp_cons ?_
          (refine r_cint (by assumption) ?_; intro _ _ _)
          refine sp_nil ?_
          refine ⟨Kp.of_K (by assumption) (kp_533 _), ?_⟩
          show N _ _ (call _ [_, _, _, _] _) _ _
          refine gq_Rel (i := 1) (n := W.2) (by assumption) (R.deep.le (by omega)) T5 (by omega) (by omega) (by omega) fun r6 buf6 o6 vs6 s₂₇ T6 es6 ev6 S₂₇ => ?_
          rw [← ev6, ← es6] at S₂₇
          have hB2 := slotR_bd (i := 1) (n := W.2) (T := T1)
          refine ⟨(by intro _ h; cases h), ?_⟩
          show N _ _ _ _ _
          refine n_cons ?_
          refine n_expr ?_
          refine e_meth ?_
          refine r_locC (by assumption) (by exact g1) ?_
          refine m_PrependUint64Slot (by assumption) ?_
          refine cw1 ?_
          refine sp_cons ?_
          (refine r_cint (by assumption) ?_; intro _ _ _)
          refine sp_cons ?_
          refine e_bin ?_
          (refine r_cint (by assumption) ?_; intro _ _ _)
          refine r_cell (by rfl) (by assumption) (by walk_at "in_lw") ?_
          (refine i_add (by assumption) ?_; intro _ _ _)
          refine sp_cons ?_
          (refine r_cint (by assumption) ?_; intro _ _ _)
          refine sp_nil ?_
          refine ⟨Kp.of_K (by assumption) (kp_498 _), ?_⟩
          show N _ _ (call _ [_, _, _, _] _) _ _
          rw [show (4294967297 : Int) + (more : Int) = ((4294967297 + more : Nat) : Int) by omega]
          refine gq_Slot64 (i := 0) (n := 4294967297 + more) (by assumption) (R.deep.le (by omega)) T6 (by omega) (by omega) (by omega) (by omega) fun r7 buf7 o7 vs7 s₂₈ T7 es7 ev7 S₂₈ => ?_
          rw [← ev7, ← es7] at S₂₈
          have hB3 := slotN_bd (i := 0) (x := ((4294967297 + more : Nat) : Int)) (T := slotR 1 W.2 T1) (show Width 8 from .inr (.inr (.inr rfl)))
          refine ⟨(by intro _ h; cases h), ?_⟩
          show N _ _ _ _ _
          refine n_cons ?_
          refine n_expr ?_
          refine e_meth ?_
          refine r_locC (by assumption) (by exact g1) ?_
          refine m_PrependUOffsetTRelativeSlot (by assumption) ?_
          refine cw1 ?_
          refine sp_cons ?_
          (refine r_cint (by assumption) ?_; intro _ _ _)
          refine sp_cons ?_
          refine r_locC (by assumption) (by exact g7) ?_
          refine sp_cons ?_
          (refine r_cint (by assumption) ?_; intro _ _ _)
          refine sp_nil ?_
          refine ⟨Kp.of_K (by assumption) (kp_533 _), ?_⟩
          show N _ _ (call _ [_, _, _, _] _) _ _
          refine gq_Rel (i := 2) (n := Rw.2) (by assumption) (R.deep.le (by omega)) T7 (by omega) (by omega) (by omega) fun r8 buf8 o8 vs8 s₂₉ T8 es8 ev8 S₂₉ => ?_
          rw [← ev8, ← es8] at S₂₉
          have hB4 := slotR_bd (i := 2) (n := Rw.2) (T := slotN 0 8 ((4294967297 + more : Nat) : Int) (slotR 1 W.2 T1))
          generalize hT4 : slotR 2 Rw.2 (slotN 0 8 ((4294967297 + more : Nat) : Int) (slotR 1 W.2 T1)) = T4' at T8 hB4
          refine ⟨(by intro _ h; cases h), ?_⟩
          obtain ⟨T5', hT5⟩ : ∃ T5', T5' = (match M.spots with | [] => T4' | p :: _ => slotR 3 p T4') := ⟨_, rfl⟩
          have hsl : svs.length ≤ 2 := by rw [H.si.length, natsI, List.length_map]; omega
          refine n_cons ?_
          refine N.mono (Q := fun f s' => f = Flow.next ∧ ∃ (m5 : Str → Option Value) (r9 : Raw) (buf9 : List UInt8) (o9 : Obj) (vs9 : List Value),
            St y.cx Lx m5 ((b, r9.obj) :: (r9.ba, baObj buf9) :: (ca, o9) :: (r9.vt, od') :: (it, rit (i + 1) n) :: (td, listOf tvs3.toArray nt3) :: (sp, listOf svs.toArray nn) :: (Lx + 1, cellO (some (.int (more : Nat) tc))) :: (ssL r9.ss so'' ++ (tl' ++ l))) ((L, oLx) :: k) s' ∧
            Tq y r9 buf9 od' tl' Rw.1.out.length ca o9 vs9 T5' ∧ r9.ss = r3.ss ∧
            m5 "maker" = some (.ref b) ∧ m5 "which" = some (.int which tw) ∧ m5 "mixed" = some (.int mx tm) ∧ m5 "spots" = some (.ref sp) ∧ m5 "told" = some (.ref td)) ?_ ?_
          · refine n_if ?_
            refine t_plain ?_
            refine r_locC (by assumption) (by exact g4) ?_
            refine k_truthy_list (by assumption) (by walk_at "in_lw") (by omega) ?_
            intro _ _
            cases hsp : M.spots with
            | nil =>
              have h0 : svs = [] := List.eq_nil_of_length_eq_zero (by rw [H.si.length, hsp]; rfl)
              refine g_no (by rw [h0]; rfl) ?_
              refine n_nil ?_
              rw [hsp] at hT5
              subst hT5
              exact ⟨rfl, _, r8, buf8, o8, vs8, by assumption, T8, by rw [es8, es7, es6, es5], by exact g1, by exact g2, by exact g3, by exact g4, by exact g5⟩
            | cons p ps =>
              have hpl : 0 < svs.length := by rw [H.si.length, hsp]; simp [natsI]
              obtain ⟨e, te, hve, hce⟩ := H.si.at 0 svs[0] (List.getElem?_eq_getElem hpl)
              have he : e = (p : Int) := by rw [hsp] at hce; simpa [natsI] using hce.symm
              subst he
              have hpb : p ≤ M.g.out.length := H.sb p (by rw [hsp]; exact .head _)
              refine g_yes (by cases svs with | nil => simp at hpl | cons _ _ => rfl) ?_
              refine n_cons ?_
              refine n_expr ?_
              refine e_meth ?_
              refine r_locC (by assumption) (by exact g1) ?_
              refine m_PrependUOffsetTRelativeSlot (by assumption) ?_
              refine cw1 ?_
              refine sp_cons ?_
              (refine r_cint (by assumption) ?_; intro _ _ _)
              refine sp_cons ?_
              refine e_sub ?_
              refine r_locC (by assumption) (by exact g4) ?_
              (refine r_cint (by assumption) ?_; intro _ _ _)
              refine r_item_ls LsO.of (by assumption) (by walk_at "in_lw") ?_ (fun _ _ => by first | exact .inl rfl | exact .inr rfl)
              refine n_list_get (i := 0) LsO.of (by assumption) (by walk_at "in_lw") (v := .int (p : Int) te) (by rw [← hve]; exact List.getElem?_eq_getElem hpl) (by omega) ?_
              refine sp_cons ?_
              (refine r_cint (by assumption) ?_; intro _ _ _)
              refine sp_nil ?_
              refine ⟨Kp.of_K (by assumption) (kp_533 _), ?_⟩
              show N _ _ (call _ [_, _, _, _] _) _ _
              refine gq_Rel (i := 3) (n := p) (by assumption) (R.deep.le (by omega)) T8 (by omega) (by omega) (by omega) fun r9 buf9 o9 vs9 s₃₀ T9 es9 ev9 S₃₀ => ?_
              rw [← ev9, ← es9] at S₃₀
              refine ⟨(by intro _ h; cases h), ?_⟩
              show N _ _ _ _ _
              refine n_nil ?_
              rw [hsp] at hT5
              subst hT5
              exact ⟨rfl, _, r9, buf9, o9, vs9, by assumption, T9, by rw [es9, es8, es7, es6, es5], by exact g1, by exact g2, by exact g3, by exact g4, by exact g5⟩
          · rintro _ s₃₀ ⟨rfl, m5, r9, buf9, o9, vs9, S₃₀, T9, es9, k1, k2, k3, k4, k5⟩
            have hB5 : T4'.1.out.length ≤ T5'.1.out.length ∧ T5'.1.out.length ≤ T4'.1.out.length + 11 ∧ T5'.1.vts = T4'.1.vts := by
              rw [hT5]
              cases M.spots with
              | nil => exact ⟨Nat.le_refl _, Nat.le_add_right _ _, rfl⟩
              | cons p ps => exact slotR_bd
            skip
            obtain ⟨T6', hT6⟩ : ∃ T6', T6' = (if more / 7 % 2 = 0 then slotN (4 + which) 1 ((1 + more % 200 : Nat) : Int) T5' else T5') := ⟨_, rfl⟩
            refine n_cons ?_
            refine N.mono (Q := fun f s' => f = Flow.next ∧ ∃ (m6 : Str → Option Value) (r10 : Raw) (buf10 : List UInt8) (o10 : Obj) (vs10 : List Value),
              St y.cx Lx m6 ((b, r10.obj) :: (r10.ba, baObj buf10) :: (ca, o10) :: (r10.vt, od') :: (it, rit (i + 1) n) :: (td, listOf tvs3.toArray nt3) :: (sp, listOf svs.toArray nn) :: (Lx + 1, cellO (some (.int (more : Nat) tc))) :: (ssL r10.ss so'' ++ (tl' ++ l))) ((L, oLx) :: k) s' ∧
              Tq y r10 buf10 od' tl' Rw.1.out.length ca o10 vs10 T6' ∧ r10.ss = r3.ss ∧
              m6 "maker" = some (.ref b) ∧ m6 "which" = some (.int which tw) ∧ m6 "mixed" = some (.int mx tm) ∧ m6 "spots" = some (.ref sp) ∧ m6 "told" = some (.ref td)) ?_ ?_
            · refine n_if ?_
              refine t_cmp ?_
              refine e_bin ?_
              refine e_bin ?_
              refine r_cell (by rfl) (by assumption) (by walk_at "in_lw") ?_
              (refine r_cint (by assumption) ?_; intro _ _ _)
              walk_at "n_leaf"
              (refine r_cint (by assumption) ?_; intro _ _ _)
              walk_at "n_leaf"
              (refine r_cint (by assumption) ?_; intro _ _ _)
              refine c_eq ?_
              refine tr_bool ?_
              by_cases hmk : more / 7 % 2 = 0
              · refine g_yes (by simp [hmk]) ?_
                refine n_cons ?_
                refine n_expr ?_
                refine e_meth ?_
                refine r_locC (by assumption) (by exact k1) ?_
                refine m_PrependUint8Slot (by assumption) ?_
                refine cw1 ?_
                refine sp_cons ?_
                refine e_bin ?_
                (refine r_cint (by assumption) ?_; intro _ _ _)
                refine r_locC (by assumption) (by exact k2) ?_
                (refine i_add (by assumption) ?_; intro _ _ _)
                refine sp_cons ?_
                refine e_bin ?_
                (refine r_cint (by assumption) ?_; intro _ _ _)
                refine e_bin ?_
                refine r_cell (by rfl) (by assumption) (by walk_at "in_lw") ?_
                (refine r_cint (by assumption) ?_; intro _ _ _)
                walk_at "n_leaf"
                (refine i_add (by assumption) ?_; intro _ _ _)
                refine sp_cons ?_
                (refine r_cint (by assumption) ?_; intro _ _ _)
                refine sp_nil ?_
                refine ⟨Kp.of_K (by assumption) (kp_477 _), ?_⟩
                show N _ _ (call _ [_, _, _, _] _) _ _
                rw [show (4 : Int) + (which : Int) = ((4 + which : Nat) : Int) by omega, show (1 : Int) + ((more % 200 : Nat) : Int) = ((1 + more % 200 : Nat) : Int) by omega]
                refine gq_Slot8 (i := 4 + which) (n := 1 + more % 200) (by assumption) (R.deep.le (by omega)) T9 (by omega) (by omega) (by omega) (by omega) fun r10 buf10 o10 vs10 s₃₁ T10 es10 ev10 S₃₁ => ?_
                rw [← ev10, ← es10] at S₃₁
                refine ⟨(by intro _ h; cases h), ?_⟩
                show N _ _ _ _ _
                refine n_nil ?_
                rw [if_pos hmk] at hT6
                subst hT6
                exact ⟨rfl, _, r10, buf10, o10, vs10, by assumption, T10, by rw [es10, es9], by exact k1, by exact k2, by exact k3, by exact k4, by exact k5⟩
              · refine g_no (by simp; omega) ?_
                refine n_nil ?_
                rw [if_neg hmk] at hT6
                subst hT6
                exact ⟨rfl, _, r9, buf9, o9, vs9, by assumption, T9, es9, by exact k1, by exact k2, by exact k3, by exact k4, by exact k5⟩
            · rintro _ s₃₁ ⟨rfl, m6, r10, buf10, o10, vs10, S₃₁, T10, es10, k1, k2, k3, k4, k5⟩
              have hB6 : T5'.1.out.length ≤ T6'.1.out.length ∧ T6'.1.out.length ≤ T5'.1.out.length + 8 ∧ T6'.1.vts = T5'.1.vts := by
                rw [hT6]
                by_cases hmk : more / 7 % 2 = 0
                · rw [if_pos hmk]
                  have := slotN_bd (i := 4 + which) (x := ((1 + more % 200 : Nat) : Int)) (T := T5') (show Width 1 from .inl rfl)
                  exact ⟨this.1, this.2.1, this.2.2⟩
                · rw [if_neg hmk]; exact ⟨Nat.le_refl _, Nat.le_add_right _ _, rfl⟩
              have hvt : T6'.1.vts = M.g.vts := by rw [hB6.2.2, hB5.2.2, hB4.2.2, hB3.2.2, hB2.2.2, hB1.2.2, hr3, hw3]
              show N _ _ _ _ _
              refine n_cons ?_
              refine n_expr ?_
              refine e_meth ?_
              refine r_locC (by assumption) (by exact k4) ?_
              refine k_append_meth (by assumption) (by walk_at "in_lw") ?_
              refine cw1 ?_
              refine sp_cons ?_
              refine e_meth ?_
              refine r_locC (by assumption) (by exact k1) ?_
              refine m_EndObject (by assumption) ?_
              refine cw0 ?_ ?_
              exact Kp.of_K (by assumption) (kp_305 _)
              show N _ _ (call _ [_] _) _ _
              refine gq_End (X := [_, _, _, _]) (by assumption) (R.deep.le (by omega)) T10 (by omega) (by rw [hvt]; omega) fun r11 buf11 od11 tl11 t11 s₃₂ B11 es11 S₃₂ => ?_
              simp only [List.cons_append, List.nil_append] at S₃₂
              refine sp_nil ?_
              refine ⟨Kp.builtin, ?_⟩
              show N _ _ (call _ [_, _] _) _ _
              refine k_append (S₃₂.perm (List.perm_middle (l₁ := [_, _, _, _, _]))) (by omega) fun s₃₄ S₃₄ => ?_
              have S₃₄ := S₃₄.perm (List.perm_middle (l₁ := [_, _, _, _, _])).symm
              simp only [List.cons_append, List.nil_append] at S₃₄
              refine ⟨(by intro _ h; cases h), ?_⟩
              show N _ _ _ _ _
              refine n_nil ?_
              have hT : tabM which more W.2 Rw.2 M.spots Rw.1 = T6' := by rw [hT6, hT5, ← hT4, hT1]; rfl
              have hst : runM which mx (i + 1) M0 = ⟨T6'.1.endO T6'.2 Rw.1.out.length, W.1.2, M.told ++ (if more / 60 % 2 = 0 then [W.2] else [W.2, Rw.2]), M.spots ++ [(prepO 4 0 T6'.1.out).length + 4]⟩ := by
                rw [runM, hM, ← hmore]
                unfold stepM
                dsimp only
                rw [hWe, hRe, hT]
              have hok := step_ok (which := which) (more := more) H.zb
              have hst2 : stepM which more M = runM which mx (i + 1) M0 := by rw [runM, hM, ← hmore]
              rw [hst2, hst] at hok
              rw [← es10, ← es11] at V3
              have J2 : IntsAre (svs ++ [Value.int (((prepO 4 0 T6'.1.out).length + 4 : Nat) : Int) t11]) (natsI (M.spots ++ [(prepO 4 0 T6'.1.out).length + 4])) := by
                unfold natsI; rw [List.map_append]; exact H.si.append (.cons _ _ .nil)
              have o1 := hok.le
              have o2 := hok.vl
              have o3 := hok.sl
              have o4 := hok.tl
              have o5 := hok.pl
              refine ⟨n, by omega, i + 1, _, r11, buf11, od11, so'', tl11, tvs3, _, nt3, nn + 1, _, tm, by omega, S₃₄.up3, ?_, ?_, ?_, ?_, ?_, ?_, by exact k1, by exact k2, by exact k3, by exact k4, by exact k5⟩
              · rw [hst]
                exact ⟨B11, V3, I3, J2, hok.tb H.tb, hok.sb H.sb, hok.zb⟩
              · rw [hst]; omega
              · rw [hst]; omega
              · rw [hst]; omega
              · rw [hst]; omega
              · rw [hst]; omega
end

end Mine

end
-- PN1
section
open PySem PySem.W PySem.Calls PyProof.Rows
set_option maxRecDepth 100000
set_option linter.unusedVariables false
set_option linter.deprecated false
namespace Mine
-- the plain law: a message made on a pile is the message made alone, then the pile
def shV (p : Nat) (vts : List (List Int × Nat)) : List (List Int × Nat) := vts.map fun v => (v.1, v.2 + p)
def shS (p : Nat) (ss : List (List UInt8 × Nat)) : List (List UInt8 × Nat) := ss.map fun v => (v.1, v.2 + p)
def shC (p : Nat) (cvs : List Int) : List Int := cvs.map fun e => if e = 0 then 0 else e + (p : Int)
def shN (p : Nat) (ns : List Nat) : List Nat := ns.map fun n => n + p
/-- a way to a thing, or none -/
def RelN (p n n' : Nat) : Prop := (n = 0 ∧ n' = 0) ∨ (n ≠ 0 ∧ n' = n + p)
theorem fillN_add {w o p : Nat} (hw : Width w) (hp : p % 16 = 0) : fillN w (o + p) = fillN w o := by
  unfold fillN
  rcases hw with rfl | rfl | rfl | rfl <;> omega
theorem prepO_app {w a : Nat} {o P : List UInt8} (hw : Width w) (hp : P.length % 16 = 0) : prepO w a (o ++ P) = prepO w a o ++ P := by
  unfold prepO
  rw [List.length_append, show o.length + P.length + a = o.length + a + P.length by omega, fillN_add hw hp, List.append_assoc]
structure Sh (P : List UInt8) (ov : List (List Int × Nat)) (g g' : Gh) : Prop where
  out : g'.out = g.out ++ P
  vts : g'.vts = ov ++ shV P.length g.vts
section
variable {P : List UInt8} {ov : List (List Int × Nat)} {g g' : Gh}
theorem Sh.len (h : Sh P ov g g') : g'.out.length = g.out.length + P.length := by rw [h.out, List.length_append]
theorem Sh.num {w : Nat} {x : Int} (hp : P.length % 16 = 0) (hw : Width w) (h : Sh P ov g g') : Sh P ov (g.num w x) (g'.num w x) :=
  ⟨by show le w x ++ prepO w 0 g'.out = (le w x ++ prepO w 0 g.out) ++ P; rw [h.out, prepO_app hw hp, List.append_assoc], h.vts⟩
theorem Sh.str {x : List UInt8} (hp : P.length % 16 = 0) (h : Sh P ov g g') : Sh P ov (g.str x) (g'.str x) :=
  ⟨by show strO x g'.out = strO x g.out ++ P; unfold strO; rw [h.out, prepO_app W4 hp]; simp only [List.append_assoc], h.vts⟩
theorem Sh.vstart {n : Nat} (hp : P.length % 16 = 0) (h : Sh P ov g g') : Sh P ov (g.vstart n) (g'.vstart n) :=
  ⟨by show prepO 4 (4 * n) (prepO 4 (4 * n) g'.out) = prepO 4 (4 * n) (prepO 4 (4 * n) g.out) ++ P; rw [h.out, prepO_app W4 hp, prepO_app W4 hp], h.vts⟩
theorem Sh.vend {n : Nat} (h : Sh P ov g g') : Sh P ov (g.vend n) (g'.vend n) :=
  ⟨by show le 4 n ++ g'.out = (le 4 n ++ g.out) ++ P; rw [h.out, List.append_assoc], h.vts⟩
theorem Sh.vecU {more : Nat} (hp : P.length % 16 = 0) (h : Sh P ov g g') : ∀ i : Nat, Sh P ov (vecU more i g) (vecU more i g')
  | 0 => h
  | i + 1 => (Sh.vecU hp h i).num hp W4
theorem Sh.vecG {more n : Nat} (hp : P.length % 16 = 0) (h : Sh P ov g g') : Sh P ov (g.vecG more n) (g'.vecG more n) := ((h.vstart hp).vecU hp n).vend
end
-- texts
theorem ssAt_pile {os ss : List (List UInt8 × Nat)} {x : List UInt8} {p : Nat} (ho : ∀ v ∈ os, v.1 ≠ x) : ssAt (os ++ shS p ss) x = (ssAt ss x).map (· + p) := by
  unfold ssAt shS
  rw [List.find?_append, List.find?_eq_none.mpr (by intro v hv; simpa using ho v hv), Option.none_or, List.find?_map]
  rw [Option.map_map, Option.map_map]
  rfl
def hdB (which : Nat) : UInt8 := (48 + (which : Int)).toNat.toUInt8
theorem letters_head {which more n : Nat} : ((lettersB which more).take (1 + n)).head? = some (hdB which) := by
  unfold lettersB byteArr lettersI
  rw [Nat.add_comm]
  rfl
theorem letters_head0 {which more : Nat} : (lettersB which more).head? = some (hdB which) := by
  unfold lettersB byteArr lettersI
  rfl
theorem hdB_inj {a b : Nat} (ha : a ≤ 3) (hb : b ≤ 3) (h : a ≠ b) : hdB a ≠ hdB b := by
  have q : ∀ a : Fin 4, ∀ b : Fin 4, a ≠ b → hdB a.1 ≠ hdB b.1 := by decide
  exact q ⟨a, by omega⟩ ⟨b, by omega⟩ (by simpa using h)
theorem str_pos {x : List UInt8} {g : Gh} : (g.str x).out.length ≠ 0 := by
  show (strO x g.out).length ≠ 0
  unfold strO
  rw [List.length_append, le_length]
  omega
section
variable {P : List UInt8} {ov : List (List Int × Nat)} {os ss ss' : List (List UInt8 × Nat)} {g g' : Gh} {which more : Nat}
theorem Sh.shW {x : List UInt8} (hp : P.length % 16 = 0) (h : Sh P ov g g') (hs : ss' = os ++ shS P.length ss) (ho : ∀ v ∈ os, v.1 ≠ x) (hz : ∀ v ∈ ss, v.2 ≠ 0) :
    Sh P ov (shW x g ss).1.1 (shW x g' ss').1.1 ∧ (Mine.shW x g' ss').1.2 = os ++ shS P.length (Mine.shW x g ss).1.2 ∧ (Mine.shW x g' ss').2 = (Mine.shW x g ss).2 + P.length ∧ (Mine.shW x g ss).2 ≠ 0 ∧
    ∀ v ∈ (Mine.shW x g ss).1.2, v ∈ ss ∨ (v.1 = x ∧ v.2 ≠ 0) := by
  have e := ssAt_pile (ss := ss) (p := P.length) ho
  rw [← hs] at e
  unfold Mine.shW
  cases q : ssAt ss x with
  | some n =>
    rw [q] at e
    rw [e]
    obtain ⟨v, hv, rfl⟩ := ssAt_mem q
    exact ⟨h, hs, rfl, hz v hv, fun v hv => .inl hv⟩
  | none =>
    rw [q] at e
    rw [e]
    have h2 := h.str (x := x) hp
    refine ⟨h2, ?_, h2.len, str_pos, fun v hv => ?_⟩
    · show ss' ++ [(x, (g'.str x).out.length)] = os ++ shS P.length (ss ++ [(x, (g.str x).out.length)])
      rw [hs, h2.len]
      simp [shS]
    · rcases List.mem_append.mp hv with hv | hv
      · exact .inl hv
      · rw [List.mem_singleton.mp hv]; exact .inr ⟨rfl, str_pos⟩
theorem Sh.word (hp : P.length % 16 = 0) (h : Sh P ov g g') (hs : ss' = os ++ shS P.length ss) (ho : ∀ v ∈ os, v.1.head? ≠ some (hdB which)) (hz : ∀ v ∈ ss, v.1.head? = some (hdB which) ∧ v.2 ≠ 0) :
    Sh P ov (wordM which more g ss).1.1 (wordM which more g' ss').1.1 ∧ (wordM which more g' ss').1.2 = os ++ shS P.length (wordM which more g ss).1.2 ∧ (wordM which more g' ss').2 = (wordM which more g ss).2 + P.length ∧ (wordM which more g ss).2 ≠ 0 ∧
    ∀ v ∈ (wordM which more g ss).1.2, v.1.head? = some (hdB which) ∧ v.2 ≠ 0 := by
  unfold wordM
  by_cases q : more / 5 % 3 = 0
  · rw [if_pos q, if_pos q]
    have h2 := h.str (x := lettersB which more) hp
    exact ⟨h2, hs, h2.len, str_pos, hz⟩
  · rw [if_neg q, if_neg q]
    have z := h.shW (x := (lettersB which more).take (1 + more / 15 % 4)) hp hs (fun v hv e => ho v hv (by rw [e]; exact letters_head)) fun v hv => (hz v hv).2
    refine ⟨z.1, z.2.1, z.2.2.1, z.2.2.2.1, fun v hv => ?_⟩
    rcases z.2.2.2.2 v hv with hv | hv
    · exact hz v hv
    · exact ⟨by rw [hv.1]; exact letters_head, hv.2⟩
theorem Sh.row (hp : P.length % 16 = 0) (h : Sh P ov g g') : Sh P ov (rowM more g).1 (rowM more g').1 ∧ RelN P.length (rowM more g).2 (rowM more g').2 ∧ (more / 60 % 2 ≠ 0 → (rowM more g').2 = (rowM more g).2 + P.length) := by
  unfold rowM
  by_cases q : more / 60 % 2 = 0
  · rw [if_pos q, if_pos q]
    exact ⟨h, .inl ⟨rfl, rfl⟩, fun z => absurd q z⟩
  · rw [if_neg q, if_neg q]
    have h2 := h.vecG (more := more) (n := more / 120 % 4) hp
    refine ⟨h2, .inr ⟨?_, h2.len⟩, fun _ => h2.len⟩
    show (le 4 _ ++ _).length ≠ 0
    rw [List.length_append, le_length]
    omega
end
-- tables
structure ShT (P : List UInt8) (ov : List (List Int × Nat)) (T T' : Gh × List Int) : Prop where
  sh : Sh P ov T.1 T'.1
  cv : T'.2 = shC P.length T.2
  nn : ∀ e ∈ T.2, 0 ≤ e
section
variable {P : List UInt8} {ov : List (List Int × Nat)} {T T' : Gh × List Int} {which more : Nat}
theorem ShT.slotN {i w : Nat} {x : Int} (hp : P.length % 16 = 0) (hw : Width w) (h : ShT P ov T T') : ShT P ov (slotN i w x T) (slotN i w x T') := by
  have h2 := h.sh.num (x := x) hp hw
  have hl := num_len (x := x) (g := T.1) hw
  have hw' := hw.pos
  refine ⟨h2, ?_, fun e he => ?_⟩
  · show T'.2.set i (((T'.1.num w x).out.length : Nat) : Int) = shC P.length (T.2.set i (((T.1.num w x).out.length : Nat) : Int))
    unfold shC
    rw [List.map_set, if_neg (by omega), h.cv, h2.len]
    congr 1
  · rcases List.mem_or_eq_of_mem_set he with he | rfl
    · exact h.nn e he
    · omega
theorem ShT.slotR {i n n' : Nat} (hp : P.length % 16 = 0) (hn : RelN P.length n n') (h : ShT P ov T T') : ShT P ov (slotR i n T) (slotR i n' T') := by
  rcases hn with ⟨rfl, rfl⟩ | ⟨hn, rfl⟩
  · exact h
  · have e1 : Mine.slotR i n T = Mine.slotN i 4 (((prepO 4 0 T.1.out).length - n + 4 : Nat) : Int) T := if_neg hn
    have e2 : Mine.slotR i (n + P.length) T' = Mine.slotN i 4 (((prepO 4 0 T'.1.out).length - (n + P.length) + 4 : Nat) : Int) T' := if_neg (by omega)
    rw [e1, e2, h.sh.out, prepO_app W4 hp, List.length_append, Nat.add_sub_add_right]
    exact h.slotN hp W4
theorem ShT.tab {word word' row row' : Nat} {spots spots' : List Nat} {g g' : Gh} (hp : P.length % 16 = 0) (h : Sh P ov g g') (hw : RelN P.length word word') (hr : RelN P.length row row') (hs : spots' = shN P.length spots) (hz : ∀ n ∈ spots, n ≠ 0) :
    ShT P ov (tabM which more word row spots g) (tabM which more word' row' spots' g') := by
  have h0 : ShT P ov (g, List.replicate 8 0) (g', List.replicate 8 0) := ⟨h, by simp [shC], fun e he => by rw [List.eq_of_mem_replicate he]; omega⟩
  have h1 : ShT P ov (if more / 7 % 2 = 0 then (g, List.replicate 8 0) else Mine.slotN (4 + which) 1 ((1 + more % 200 : Nat) : Int) (g, List.replicate 8 0)) (if more / 7 % 2 = 0 then (g', List.replicate 8 0) else Mine.slotN (4 + which) 1 ((1 + more % 200 : Nat) : Int) (g', List.replicate 8 0)) := by
    split
    · exact h0
    · exact h0.slotN hp W1
  have h4 := ((h1.slotR (i := 1) hp hw).slotN (i := 0) (x := ((4294967297 + more : Nat) : Int)) hp W8).slotR (i := 2) hp hr
  have key : ∀ A A' : Gh × List Int, ShT P ov A A' → ShT P ov (if more / 7 % 2 = 0 then Mine.slotN (4 + which) 1 ((1 + more % 200 : Nat) : Int) A else A) (if more / 7 % 2 = 0 then Mine.slotN (4 + which) 1 ((1 + more % 200 : Nat) : Int) A' else A') := fun A A' hA => by
    split
    · exact hA.slotN hp W1
    · exact hA
  subst hs
  cases spots with
  | nil => exact key _ _ h4
  | cons p ps => exact key _ _ (h4.slotR (i := 3) hp (.inr ⟨hz p (.head _), rfl⟩))
end
-- the vtable's key
theorem keyL_sh {p : Nat} {oo : Int} {cvs : List Int} (hn : ∀ e ∈ cvs, 0 ≤ e) : keyL (shC p cvs) (oo + p) = keyL cvs oo := by
  have q : ∀ (l : List Int) (acc : Bool × List Int), (∀ e ∈ l, 0 ≤ e) → l.foldl (fun q e => stepK (oo + p) q (if e = 0 then 0 else e + (p : Int))) acc = l.foldl (stepK oo) acc := by
    intro l
    induction l with
    | nil => intro acc _; rfl
    | cons e l ih =>
      intro acc h
      rw [List.foldl_cons, List.foldl_cons, ih _ fun e he => h e (.tail _ he)]
      congr 1
      have he := h e (.head _)
      unfold stepK
      by_cases z : e = 0
      · rw [if_pos z, if_pos rfl, if_pos z]
      · rw [if_neg z, if_neg (by omega), if_neg z, show oo + (p : Int) - (e + (p : Int)) = oo - e by omega]
  unfold keyL shC
  rw [← List.map_reverse, List.foldl_map]
  rw [q _ _ fun e he => hn e (List.mem_reverse.mp he)]
theorem foldK_false (oo : Int) : ∀ (l : List Int) (acc : List Int), (l.foldl (stepK oo) (false, acc)).2.length = acc.length + l.length ∧ (l.foldl (stepK oo) (false, acc)).1 = false := by
  intro l
  induction l with
  | nil => intro acc; exact ⟨rfl, rfl⟩
  | cons e l ih =>
    intro acc
    rw [List.foldl_cons]
    have : ∃ v, stepK oo (false, acc) e = (false, acc ++ [v]) := by
      unfold stepK
      by_cases z : e = 0
      · exact ⟨0, by rw [if_pos z]; rfl⟩
      · exact ⟨oo - e, by rw [if_neg z]⟩
    obtain ⟨v, hv⟩ := this
    rw [hv]
    have := ih (acc ++ [v])
    rw [List.length_append, List.length_singleton] at this
    rw [List.length_cons]
    exact ⟨by omega, this.2⟩
theorem keyL_len {a : List Int} {e oo : Int} {n : Nat} (he : e ≠ 0) : (keyL (a ++ e :: List.replicate n 0) oo).length = a.length + 1 := by
  have z : ∀ n : Nat, (List.replicate n (0 : Int)).foldl (stepK oo) (true, []) = (true, []) := by
    intro n
    induction n with
    | zero => rfl
    | succ n ih => rw [List.replicate_succ, List.foldl_cons]; exact ih
  unfold keyL
  rw [List.reverse_append, List.reverse_cons, List.reverse_replicate, List.foldl_append, List.foldl_append, z, List.foldl_cons, List.foldl_nil]
  have : stepK oo (true, []) e = (false, [oo - e]) := by unfold stepK; rw [if_neg he]; rfl
  rw [this, (foldK_false oo _ _).1, List.length_reverse, List.length_singleton]
  omega
def Lo (j : Nat) (cvs : List Int) : Prop := ∃ a, cvs = a ++ List.replicate (8 - j) 0 ∧ a.length = j
def Top (j : Nat) (cvs : List Int) : Prop := ∃ a e, cvs = a ++ e :: List.replicate (7 - j) 0 ∧ a.length = j ∧ e ≠ 0
theorem Lo.set {i j : Nat} {v : Int} {cvs : List Int} (h : Lo j cvs) (hi : i < j) : Lo j (cvs.set i v) := by
  obtain ⟨a, rfl, ha⟩ := h
  exact ⟨a.set i v, by rw [List.set_append_left _ _ (by omega)], by rw [List.length_set, ha]⟩
theorem Top.set {i j : Nat} {v : Int} {cvs : List Int} (h : Top j cvs) (hi : i < j) : Top j (cvs.set i v) := by
  obtain ⟨a, e, rfl, ha, he⟩ := h
  exact ⟨a.set i v, e, by rw [List.set_append_left _ _ (by omega)], by rw [List.length_set, ha], he⟩
theorem Lo.top {j : Nat} {v : Int} {cvs : List Int} (h : Lo j cvs) (hj : j ≤ 7) (hv : v ≠ 0) : Top j (cvs.set j v) := by
  obtain ⟨a, rfl, ha⟩ := h
  refine ⟨a, v, ?_, ha, hv⟩
  rw [List.set_append_right _ _ (by omega), ha, Nat.sub_self, show 8 - j = (7 - j) + 1 by omega, List.replicate_succ, List.set_cons_zero]
theorem Lo.new {j : Nat} (hj : j ≤ 8) : Lo j (List.replicate 8 (0 : Int)) := ⟨List.replicate j 0, by rw [List.replicate_append_replicate]; congr 1; omega, List.length_replicate⟩
theorem num_pos {w : Nat} {x : Int} {g : Gh} (hw : Width w) : (((g.num w x).out.length : Nat) : Int) ≠ 0 := by
  have hl := num_len (x := x) (g := g) hw
  have := hw.pos
  omega
theorem Lo.slotR {i j n : Nat} {T : Gh × List Int} (h : Lo j T.2) (hi : i < j) : Lo j (slotR i n T).2 := by
  unfold Mine.slotR
  split
  · exact h
  · exact Lo.set h hi
theorem Top.slotR {i j n : Nat} {T : Gh × List Int} (h : Top j T.2) (hi : i < j) : Top j (slotR i n T).2 := by
  unfold Mine.slotR
  split
  · exact h
  · exact Top.set h hi
theorem tab_top {which more word row : Nat} {spots : List Nat} {g : Gh} (hw : which ≤ 3) : Top (4 + which) (tabM which more word row spots g).2 := by
  unfold tabM
  by_cases h : more / 7 % 2 = 0
  · simp only [if_pos h]
    refine Lo.top ?_ (by omega) (num_pos W1)
    have h4 : Lo (4 + which) (slotR 2 row (slotN 0 8 ((4294967297 + more : Nat) : Int) (slotR 1 word (g, List.replicate 8 (0 : Int))))).2 :=
      Lo.slotR (T := slotN 0 8 ((4294967297 + more : Nat) : Int) (slotR 1 word (g, List.replicate 8 (0 : Int)))) (Lo.set (Lo.slotR (T := (g, List.replicate 8 (0 : Int))) (Lo.new (by omega)) (by omega)) (by omega)) (by omega)
    cases spots with
    | nil => exact h4
    | cons p ps => exact Lo.slotR h4 (by omega)
  · simp only [if_neg h]
    have h1 : Top (4 + which) (slotN (4 + which) 1 ((1 + more % 200 : Nat) : Int) (g, List.replicate 8 (0 : Int))).2 := Lo.top (Lo.new (by omega)) (by omega) (num_pos W1)
    have h4 : Top (4 + which) (slotR 2 row (slotN 0 8 ((4294967297 + more : Nat) : Int) (slotR 1 word (slotN (4 + which) 1 ((1 + more % 200 : Nat) : Int) (g, List.replicate 8 (0 : Int)))))).2 :=
      Top.slotR (T := slotN 0 8 ((4294967297 + more : Nat) : Int) (slotR 1 word _)) (Top.set (Top.slotR h1 (by omega)) (by omega)) (by omega)
    cases spots with
    | nil => exact h4
    | cons p ps => exact Top.slotR h4 (by omega)
theorem tab_key {which more word row : Nat} {spots : List Nat} {g : Gh} {oo : Int} (hw : which ≤ 3) : (keyL (tabM which more word row spots g).2 oo).length = 5 + which := by
  obtain ⟨a, e, h, ha, he⟩ := tab_top (more := more) (word := word) (row := row) (spots := spots) (g := g) hw
  rw [h, keyL_len he, ha]
  omega
-- EndObject
theorem foldV_pre (ns : List Int) : ∀ (o o' : List UInt8) (r r' : Nat), o.length % 2 = o'.length % 2 → ∃ V, (ns.foldl stepV (o, r)).1 = V ++ o ∧ (ns.foldl stepV (o', r')).1 = V ++ o' := by
  induction ns with
  | nil => intro o o' r r' _; exact ⟨[], rfl, rfl⟩
  | cons n ns ih =>
    intro o o' r r' h
    have ef : fillN 2 (o'.length + 0) = fillN 2 (o.length + 0) := by unfold fillN; omega
    have e1 : stepV (o, r) n = ((le 2 n ++ List.replicate (fillN 2 (o.length + 0)) 0) ++ o, prepR 2 0 o r) := by unfold stepV prepO; rw [List.append_assoc]
    have e2 : stepV (o', r') n = ((le 2 n ++ List.replicate (fillN 2 (o.length + 0)) 0) ++ o', prepR 2 0 o' r') := by unfold stepV prepO; rw [List.append_assoc, ef]
    obtain ⟨V, h1, h2⟩ := ih ((le 2 n ++ List.replicate (fillN 2 (o.length + 0)) 0) ++ o) ((le 2 n ++ List.replicate (fillN 2 (o.length + 0)) 0) ++ o') (prepR 2 0 o r) (prepR 2 0 o' r') (by simp only [List.length_append]; omega)
    rw [List.foldl_cons, List.foldl_cons, e1, e2, h1, h2]
    exact ⟨V ++ (le 2 n ++ List.replicate (fillN 2 (o.length + 0)) 0), by simp only [List.append_assoc], by simp only [List.append_assoc]⟩
theorem over_app {V b x : List UInt8} : over (V ++ b) V.length x = V ++ over b 0 x := by
  unfold over
  rw [List.take_left', List.take_zero, List.nil_append, Nat.zero_add, List.drop_append, List.drop_of_length_le (by omega), List.nil_append, List.append_assoc, Nat.add_sub_cancel_left]
  rfl
theorem over_soO {out x : List UInt8} (hx : x.length = 4) : over (soO out) 0 x = x ++ prepO 4 0 out := by
  unfold over soO
  rw [List.take_zero, List.nil_append, Nat.zero_add, hx, List.drop_left' (le_length _ _)]
theorem vtNew_app {oe oo r r' : Nat} {ns : List Int} {out P : List UInt8} (hp : P.length % 16 = 0) (ho : oo = (prepO 4 0 out).length + 4) (he : oe ≤ oo) :
    (vtNew (oo + P.length) (oe + P.length) ns (soO (out ++ P), r')).1 = (vtNew oo oe ns (soO out, r)).1 ++ P := by
  have hs : (soO (out ++ P)).length = (soO out).length + P.length := by rw [soO_len, soO_len, prepO_app W4 hp, List.length_append]; omega
  have hs1 : (soO out).length = oo := by rw [soO_len, ho]
  obtain ⟨V, h1, h2⟩ := foldV_pre (ns ++ [(oo : Int) - oe, ((2 * (ns.length + 2) : Nat) : Int)]) (soO out) (soO (out ++ P)) r r' (by omega)
  rw [List.foldl_append, List.foldl_cons, List.foldl_cons, List.foldl_nil] at h1 h2
  have ee : ((oo + P.length : Nat) : Int) - ((oe + P.length : Nat) : Int) = (oo : Int) - oe := by omega
  unfold vtNew
  dsimp only
  rw [ee, h1, h2]
  have l1 : (V ++ soO out).length - oo = V.length := by rw [List.length_append, hs1]; omega
  have l2 : (V ++ soO (out ++ P)).length - (oo + P.length) = V.length := by rw [List.length_append, hs, hs1]; omega
  have l3 : (((V ++ soO out).length : Nat) : Int) - oo = (V.length : Int) := by rw [List.length_append, hs1]; omega
  have l4 : (((V ++ soO (out ++ P)).length : Nat) : Int) - ((oo + P.length : Nat) : Int) = (V.length : Int) := by rw [List.length_append, hs, hs1]; omega
  rw [l1, l2, l3, l4, over_app, over_app, over_soO (le_length _ _), over_soO (le_length _ _), prepO_app W4 hp]
  simp only [List.append_assoc]
theorem vtAt_pile {ov vts : List (List Int × Nat)} {key : List Int} {p : Nat} (ho : ∀ v ∈ ov, v.1 ≠ key) : vtAt (ov ++ shV p vts) key = (vtAt vts key).map (· + p) := by
  unfold vtAt shV
  rw [List.find?_append, List.find?_eq_none.mpr (by intro v hv; simpa using ho v hv), Option.none_or, List.find?_map]
  rw [Option.map_map, Option.map_map]
  rfl
theorem Sh.endO {P : List UInt8} {ov : List (List Int × Nat)} {g g' : Gh} {cvs cvs' : List Int} {oe n : Nat} (hp : P.length % 16 = 0) (h : Sh P ov g g') (hc : cvs' = shC P.length cvs) (hn : ∀ e ∈ cvs, 0 ≤ e) (he : oe ≤ g.out.length)
    (hk : ∀ oo, (keyL cvs oo).length + 1 = n) (ho : ∀ v ∈ ov, v.1.length ≠ n) (hv : ∀ v ∈ g.vts, v.1.length = n) :
    Sh P ov (g.endO cvs oe) (g'.endO cvs' (oe + P.length)) ∧ (∀ v ∈ (g.endO cvs oe).vts, v.1.length = n) := by
  obtain ⟨oo, hoo⟩ : ∃ oo, oo = (prepO 4 0 g.out).length + 4 := ⟨_, rfl⟩
  have hoo' : (prepO 4 0 g'.out).length + 4 = oo + P.length := by rw [h.out, prepO_app W4 hp, List.length_append, hoo]; omega
  have hge : g.out.length ≤ (prepO 4 0 g.out).length := by simp [prepO]
  obtain ⟨key, hkey⟩ : ∃ key, key = keyL cvs (oo : Int) ++ [(oo : Int) - oe] := ⟨_, rfl⟩
  have hkl : key.length = n := by rw [hkey, List.length_append, List.length_singleton]; exact hk _
  have e1 : keyL cvs' ((oo + P.length : Nat) : Int) = keyL cvs (oo : Int) := by rw [hc, Int.natCast_add]; exact keyL_sh hn
  have e2 : ((oo + P.length : Nat) : Int) - ((oe + P.length : Nat) : Int) = (oo : Int) - oe := by omega
  have hat : vtAt g'.vts key = (vtAt g.vts key).map (· + P.length) := by rw [h.vts]; exact vtAt_pile fun v hv q => ho v hv (by rw [q, hkl])
  unfold Gh.endO
  dsimp only
  rw [hoo', ← hoo, e1, e2, ← hkey, hat]
  cases q : vtAt g.vts key with
  | none =>
    have z := vtNew_app (r := prepR 4 0 g.out g.room) (r' := prepR 4 0 g'.out g'.room) (ns := keyL cvs (oo : Int)) hp hoo (show oe ≤ oo by omega)
    rw [← h.out] at z
    refine ⟨⟨z, ?_⟩, fun v hv' => ?_⟩
    · show g'.vts ++ [(key, (vtNew _ _ _ _).1.length)] = ov ++ shV P.length (g.vts ++ [(key, (vtNew _ _ _ _).1.length)])
      rw [z, List.length_append, h.vts]
      simp [shV]
    · rcases List.mem_append.mp hv' with hv' | hv'
      · exact hv v hv'
      · rw [List.mem_singleton.mp hv']; exact hkl
  | some d =>
    refine ⟨⟨?_, h.vts⟩, hv⟩
    show over (soO g'.out) 0 (le 4 (((d + P.length : Nat) : Int) - ((oo + P.length : Nat) : Int))) = over (soO g.out) 0 (le 4 ((d : Int) - oo)) ++ P
    rw [over_soO (le_length _ _), over_soO (le_length _ _), h.out, prepO_app W4 hp, List.append_assoc, show ((d + P.length : Nat) : Int) - ((oo + P.length : Nat) : Int) = (d : Int) - oo by omega]
-- the alignment
theorem endO_ma {g : Gh} {cvs : List Int} {oe : Nat} : (g.endO cvs oe).ma = max g.ma 4 := by
  unfold Gh.endO
  dsimp only
  split <;> rfl
theorem slotR_ma {i n : Nat} {T : Gh × List Int} : T.1.ma ≤ (slotR i n T).1.ma ∧ (T.1.ma ≤ 8 → (slotR i n T).1.ma ≤ 8) := by
  unfold slotR
  split
  · exact ⟨Nat.le_refl _, id⟩
  · show _ ≤ max T.1.ma 4 ∧ (_ → max T.1.ma 4 ≤ 8)
    omega
theorem tab_ma {which more word row : Nat} {spots : List Nat} {g : Gh} (hg : g.ma ≤ 8) : (tabM which more word row spots g).1.ma = 8 := by
  have h1 : (if more / 7 % 2 = 0 then (g, List.replicate 8 (0 : Int)) else slotN (4 + which) 1 ((1 + more % 200 : Nat) : Int) (g, List.replicate 8 (0 : Int))).1.ma ≤ 8 := by
    split
    · exact hg
    · show max g.ma 1 ≤ 8; omega
  have h2 := (slotR_ma (i := 1) (n := word) (T := if more / 7 % 2 = 0 then (g, List.replicate 8 (0 : Int)) else slotN (4 + which) 1 ((1 + more % 200 : Nat) : Int) (g, List.replicate 8 (0 : Int)))).2 h1
  have key : ∀ T : Gh × List Int, T.1.ma = 8 → (slotR 2 row T).1.ma = 8 := fun T hT => by have := slotR_ma (i := 2) (n := row) (T := T); omega
  have key3 : ∀ (p : Nat) (T : Gh × List Int), T.1.ma = 8 → (slotR 3 p T).1.ma = 8 := fun p T hT => by have := slotR_ma (i := 3) (n := p) (T := T); omega
  have h3 := key (slotN 0 8 ((4294967297 + more : Nat) : Int) (slotR 1 word (if more / 7 % 2 = 0 then (g, List.replicate 8 (0 : Int)) else slotN (4 + which) 1 ((1 + more % 200 : Nat) : Int) (g, List.replicate 8 (0 : Int))))) (by show max _ 8 = 8; omega)
  have fin : ∀ T : Gh × List Int, T.1.ma = 8 → (if more / 7 % 2 = 0 then slotN (4 + which) 1 ((1 + more % 200 : Nat) : Int) T else T).1.ma = 8 := fun T hT => by
    split
    · show max T.1.ma 1 = 8; omega
    · exact hT
  cases spots with
  | nil => exact fin _ h3
  | cons p ps => exact fin _ (key3 p _ h3)
theorem word_ma {which more : Nat} {g : Gh} {ss : List (List UInt8 × Nat)} (h : g.ma ≤ 8) : (wordM which more g ss).1.1.ma ≤ 8 := by
  unfold wordM shW
  split
  · show max g.ma 4 ≤ 8; omega
  · split
    · exact h
    · show max g.ma 4 ≤ 8; omega
theorem vecU_ma {more : Nat} {g : Gh} (h : g.ma ≤ 8) : ∀ i : Nat, (vecU more i g).ma ≤ 8
  | 0 => h
  | i + 1 => by
    have := vecU_ma (more := more) h i
    show max (vecU more i g).ma 4 ≤ 8
    omega
theorem row_ma {more : Nat} {g : Gh} (h : g.ma ≤ 8) : (rowM more g).1.ma ≤ 8 := by
  unfold rowM
  split
  · exact h
  · exact vecU_ma (g := g.vstart _) (by show max (max g.ma 4) 4 ≤ 8; omega) _
theorem step_ma {which more : Nat} {M : Ms} (h : M.g.ma ≤ 8) : (stepM which more M).g.ma = 8 := by
  unfold stepM
  dsimp only
  rw [endO_ma, tab_ma (row_ma (word_ma h))]
  rfl
-- a message
structure ShM (which : Nat) (P : List UInt8) (ov : List (List Int × Nat)) (os : List (List UInt8 × Nat)) (M M' : Ms) : Prop where
  sh : Sh P ov M.g M'.g
  ss : M'.ss = os ++ shS P.length M.ss
  told : M'.told = shN P.length M.told
  spots : M'.spots = shN P.length M.spots
  vk : ∀ v ∈ M.g.vts, v.1.length = 6 + which
  sk : ∀ v ∈ M.ss, v.1.head? = some (hdB which) ∧ v.2 ≠ 0
  sp : ∀ n ∈ M.spots, n ≠ 0
theorem word_vts {which more : Nat} {g : Gh} {ss : List (List UInt8 × Nat)} : (wordM which more g ss).1.1.vts = g.vts := by
  unfold wordM shW
  split
  · rfl
  · split <;> rfl
theorem ShM.step {which more : Nat} {P : List UInt8} {ov : List (List Int × Nat)} {os : List (List UInt8 × Nat)} {M M' : Ms} (hp : P.length % 16 = 0) (hw : which ≤ 3) (ho : ∀ v ∈ ov, v.1.length ≠ 6 + which) (hos : ∀ v ∈ os, v.1.head? ≠ some (hdB which))
    (h : ShM which P ov os M M') : ShM which P ov os (stepM which more M) (stepM which more M') := by
  obtain ⟨a1, a2, a3, a4, a5⟩ := h.sh.word (more := more) hp h.ss hos h.sk
  obtain ⟨b1, b2, b3⟩ := a1.row (more := more) hp
  have ht := ShT.tab (which := which) (more := more) hp b1 (.inr ⟨a4, a3⟩) b2 h.spots h.sp
  have hvt : (tabM which more (wordM which more M.g M.ss).2 (rowM more (wordM which more M.g M.ss).1.1).2 M.spots (rowM more (wordM which more M.g M.ss).1.1).1).1.vts = M.g.vts := by
    rw [tab_vts, rowM_ok.2.2.1, word_vts]
  obtain ⟨c1, c2⟩ := ht.sh.endO (oe := (rowM more (wordM which more M.g M.ss).1.1).1.out.length) (n := 6 + which) hp ht.cv ht.nn tabM_ge (fun oo => by rw [tab_key hw]; omega) ho (by rw [hvt]; exact h.vk)
  unfold stepM
  dsimp only
  rw [b1.len]
  refine ⟨c1, a2, ?_, ?_, c2, a5, fun n hn => ?_⟩
  · show M'.told ++ _ = shN P.length (M.told ++ _)
    rw [h.told, a3]
    by_cases q : more / 60 % 2 = 0
    · simp [q, shN]
    · simp [q, shN, b3 q]
  · have e : ∀ x x' : Nat, x' = x + P.length → M'.spots ++ [x'] = shN P.length (M.spots ++ [x]) := fun x x' q => by rw [h.spots, q]; simp [shN]
    refine e _ _ ?_
    rw [ht.sh.out, prepO_app W4 hp, List.length_append]
    omega
  · rcases List.mem_append.mp hn with hn | hn
    · exact h.sp n hn
    · rw [List.mem_singleton.mp hn]; omega
theorem ShM.run {which mx : Nat} {P : List UInt8} {ov : List (List Int × Nat)} {os : List (List UInt8 × Nat)} {M M' : Ms} (hp : P.length % 16 = 0) (hw : which ≤ 3) (ho : ∀ v ∈ ov, v.1.length ≠ 6 + which) (hos : ∀ v ∈ os, v.1.head? ≠ some (hdB which))
    (h : ShM which P ov os M M') : ∀ i : Nat, ShM which P ov os (runM which mx i M) (runM which mx i M')
  | 0 => h
  | i + 1 => (ShM.run hp hw ho hos h i).step hp hw ho hos
theorem run_ma {which mx : Nat} {M : Ms} (h : M.g.ma ≤ 8) : ∀ i : Nat, (runM which mx i M).g.ma ≤ 8
  | 0 => h
  | i + 1 => by have := step_ma (which := which) (more := moreOf mx i) (run_ma (which := which) (mx := mx) h i); show (stepM _ _ _).g.ma ≤ 8; omega
theorem msg_ma {which mx : Nat} {g : Gh} {ss : List (List UInt8 × Nat)} (h : g.ma ≤ 8) : (msgM which mx g ss).g.ma = 8 := by
  unfold msgM
  rw [Nat.add_comm]
  exact step_ma (run_ma (M := ⟨g, ss, [], []⟩) h _)
theorem finO_app {root : Nat} {o P : List UInt8} (hp : P.length % 16 = 0) : finO 8 (root + P.length) (o ++ P) = finO 8 root o ++ P := by
  unfold finO
  dsimp only
  rw [prepO_app W8 hp, prepO_app W4 hp, List.length_append, Nat.add_sub_add_right, List.append_assoc]
theorem finNO_app {root : Nat} {b0 b1 b2 b3 : UInt8} {o P : List UInt8} (hp : P.length % 16 = 0) : finNO 8 (root + P.length) b0 b1 b2 b3 (o ++ P) = finNO 8 root b0 b1 b2 b3 o ++ P := by
  have e : nameO 8 b0 b1 b2 b3 (o ++ P) = nameO 8 b0 b1 b2 b3 o ++ P := by
    unfold nameO
    rw [prepO_app W8 hp, prepO_app W4 hp]
    simp only [List.append_assoc]
  unfold finNO
  dsimp only
  rw [e, prepO_app W4 hp, List.length_append, Nat.add_sub_add_right, List.append_assoc]
theorem getLastD_sh {p : Nat} {ns : List Nat} (h : ns ≠ []) : (shN p ns).getLastD 0 = ns.getLastD 0 + p := by
  unfold shN
  cases ns with
  | nil => exact absurd rfl h
  | cons n ns =>
    rw [List.map_cons]
    induction ns generalizing n with
    | nil => rfl
    | cons a as ih => exact ih a (by simp)
/-- the law, plainly -/
theorem plain {which mx r : Nat} {g' : Gh} {ss' : List (List UInt8 × Nat)} (hp : g'.out.length % 16 = 0) (hw : which ≤ 3) (ho : ∀ v ∈ g'.vts, v.1.length < 6 + which) (hos : ∀ v ∈ ss', ∃ w, w < which ∧ v.1.head? = some (hdB w)) (hma : g'.ma ≤ 8) :
    (finG which mx (msgM which mx g' ss')).out = (finG which mx (msgM which mx ⟨[], r, 1, []⟩ [])).out ++ g'.out ∧
    (msgM which mx g' ss').told = shN g'.out.length (msgM which mx ⟨[], r, 1, []⟩ []).told ∧ (msgM which mx g' ss').spots = shN g'.out.length (msgM which mx ⟨[], r, 1, []⟩ []).spots ∧
    (∀ v ∈ (finG which mx (msgM which mx g' ss')).vts, v.1.length < 7 + which) ∧ (∀ v ∈ (msgM which mx g' ss').ss, ∃ w, w < which + 1 ∧ v.1.head? = some (hdB w)) ∧ (finG which mx (msgM which mx g' ss')).ma = 8 := by
  have h0 : ShM which g'.out g'.vts ss' ⟨⟨[], r, 1, []⟩, [], [], []⟩ ⟨g', ss', [], []⟩ :=
    ⟨⟨rfl, by simp [shV]⟩, by simp [shS], rfl, rfl, (fun v hv => nomatch hv), (fun v hv => nomatch hv), (fun n hn => nomatch hn)⟩
  have h := h0.run (mx := mx) hp hw (fun v hv => by have := ho v hv; omega) (fun v hv q => by
    obtain ⟨w, hw1, hw2⟩ := hos v hv
    rw [hw2] at q
    exact hdB_inj (by omega) hw (by omega) (Option.some.inj q)) (1 + mx % 2)
  have h : ShM which g'.out g'.vts ss' (msgM which mx ⟨[], r, 1, []⟩ []) (msgM which mx g' ss') := h
  have m1 := msg_ma (which := which) (mx := mx) (g := ⟨[], r, 1, []⟩) (ss := []) (show 1 ≤ 8 by decide)
  have m2 := msg_ma (which := which) (mx := mx) (g := g') (ss := ss') hma
  have hsp := getLastD_sh (p := g'.out.length) (msg_spots (which := which) (mx := mx) (g := ⟨[], r, 1, []⟩) (ss := []))
  have ev : (finG which mx (msgM which mx g' ss')).vts = (msgM which mx g' ss').g.vts := by unfold finG; split <;> rfl
  refine ⟨?_, h.told, h.spots, fun v hv => ?_, fun v hv => ?_, ?_⟩
  · unfold finG
    split
    · show finO _ _ _ = finO _ _ _ ++ _
      rw [m1, m2, h.spots, hsp, h.sh.out, finO_app hp]
    · show finNO _ _ _ _ _ _ _ = finNO _ _ _ _ _ _ _ ++ _
      rw [m1, m2, h.spots, hsp, h.sh.out, finNO_app hp]
  · rw [ev, h.sh.vts] at hv
    rcases List.mem_append.mp hv with hv | hv
    · have := ho v hv; omega
    · unfold shV at hv
      obtain ⟨u, hu, rfl⟩ := List.mem_map.mp hv
      have := h.vk u hu
      show u.1.length < _
      omega
  · rw [h.ss] at hv
    rcases List.mem_append.mp hv with hv | hv
    · obtain ⟨w, hw1, hw2⟩ := hos v hv
      exact ⟨w, by omega, hw2⟩
    · unfold shS at hv
      obtain ⟨u, hu, rfl⟩ := List.mem_map.mp hv
      exact ⟨which, by omega, (h.sk u hu).1⟩
  · unfold finG
    split
    · show max _ 4 = 8; rw [m2]; rfl
    · show max _ 4 = 8; rw [m2]; rfl

end Mine

end
-- PM1
section
open PySem PySem.W PySem.Calls PyProof.Rows
set_option maxRecDepth 100000
set_option linter.unusedVariables false
set_option linter.deprecated false
namespace Mine
end Mine
end
local macro_rules | `(tactic| walk_at "n_leafcall") => `(tactic| ((with_reducible show N _ _ (call (.builtin "len") [.bytes _ _]) _ _); refine k_leny (by assumption) (by omega) ?_; intro _ _ _))
section
open PySem PySem.W PySem.Calls PyProof.Rows
set_option maxRecDepth 100000
set_option linter.unusedVariables false
set_option linter.deprecated false
namespace Mine
section
variable {y : Cy} {A : Around} {s : Shared} {L b st ed F d ca : Addr} {m : Str → Option Value} {l k l0 tl X : List (Addr × Obj)} {r : Raw} {Q : Value → Shared → Prop} {w oe : Nat} {lo hi : Int} {buf out : List UInt8} {g : Gh} {od so o : Obj} {vs : List Value} {ss : List (List UInt8 × Nat)}
/-- an octet ahead -/
theorem gq_U8 {n : Nat} {t : Tok} (S : St y.cx L m ((b, r.obj) :: (r.ba, baObj buf) :: l) k s) (R : Rm A 4) (B : Bq y r buf od tl g) (hs : g.out.length ≤ 1000000) (hn : n ≤ 255)
    (h : ∀ r' buf' s', Bq y r' buf' od tl (g.num 1 (n : Int)) → r'.ss = r.ss → r'.vt = r.vt → St y.cx L m ((b, r'.obj) :: (r'.ba, baObj buf') :: l) k s' → Q .none s') :
    N y.cx A (call (.ref 561) [.ref b, .int n t]) Q s := by
  obtain ⟨bd, vt, nn, vl, wd⟩ := B
  have hl := num_len (x := (n : Int)) (g := g) W1
  refine ct_PrependU8 S R bd (by omega) (by omega) (by omega) fun ba hd ma' buf' s' S' B' => ?_
  exact h _ _ _ ⟨⟨B'.ok, B'.ma, B'.rm⟩, vt, nn, fun v hv => by have := vl v hv; show _ ≤ (g.num 1 (n : Int)).out.length; omega, wd_max wd W1⟩ rfl rfl S'
/-- a message made alone, by a fresh builder -/
theorem ct_alone {which n : Nat} {num : Int} {tw tn : Tok} (S : St y.cx L m ((b, r.obj) :: (r.ba, baObj (List.replicate n 0)) :: (r.vt, dict0) :: l) k s) (R : Rm A 12) (bd : Bd r (List.replicate n 0) [] n 1) (hvt : (r.vt == sysModules) = false) (hnn : r.nested = false) (hss : r.ss = none) (hw : which ≤ 3)
    (h : ∀ d fd vs nf t s', IntsAre vs (natsI ((msgM which (mxOf num) ⟨[], n, 1, []⟩ []).told ++ (msgM which (mxOf num) ⟨[], n, 1, []⟩ []).spots)) →
      St y.cx L m ((d, tup [.bytes (finG which (mxOf num) (msgM which (mxOf num) ⟨[], n, 1, []⟩ [])).out.toArray t, .ref fd]) :: (fd, listOf vs.toArray nf) :: l) k s' → Q (.ref d) s') :
    N y.cx A (call (.ref 674) [.ref b, .int which tw, .int num tn]) Q s := by
  have S1 : St y.cx L m ((b, r.obj) :: (r.ba, baObj (List.replicate n 0)) :: (r.vt, dict0) :: (ssL r.ss dict0 ++ ([] ++ l))) k s := by rw [ssL_none hss]; exact S
  refine ct_message (g := ⟨[], n, 1, []⟩) S1 R ⟨bd, ⟨[], rfl, VtO.new hvt⟩, hnn, (fun v hv => nomatch hv), W1⟩ (.inl ⟨hss, rfl⟩) hw (Nat.zero_le _) (Nat.zero_le _) (Nat.zero_le _) (fun p hp => nomatch hp) fun d fd r' buf' od' so' tl' vs nf t s' B' V' I' _ S' => ?_
  refine h d fd vs nf t s' I' (S'.sub (.cons_cons _ (.cons_cons _ (.cons _ (.cons _ (.cons _ ?_))))))
  exact (List.sublist_append_right _ _).trans (List.sublist_append_right _ _)
/-- the law's own call, from the caller, a name of it captured -/
theorem p_topC {f : Addr} {nm qual : Str} {params : Arguments} {body : List Stmt} {scope : Scope} {dV kV doc pm cdv ct oc : Value} {an od : Option Addr} {osl : Array (Option Value)} {pos : List Value} {kw : List (Str × Value)} {binds : List (Str × Value)}
    (hh : y.h₀ = s.heap) (hK : (hd.heap_39 y.w.params).In y.h₀) (hT : TopRead y.p y.loose y.mg y.mb y.h₀) (hg : s.gens = #[]) (hos : s.os = y.os)
    (ho : (hd.heap_39 y.w.params).lookup f = some ⟨oc, od, .func (fnOf nm qual params body scope dV kV doc pm an cdv ct), osl⟩) (hcd : codeIn (hd.heap_39 y.w.params) cdv qual = true) (hroom : A.depth < recursionLimit)
    (hbind : BindsTo s (fnOf nm qual params body scope dV kV doc pm an cdv ct) ⟨pos, kw⟩ binds)
    (h : ∀ L' s₁, St y.cx L' (fun _ => none) (cellsL (L' + 1) scope.names []) [] s₁ →
      BindsDo y.cx.M A.in1 (envOfC qual scope L' f cdv) (fun _ _ => False) binds (fun s₂ => ∃ L'' m'' l'', St y.cx L'' m'' l'' [] s₂ ∧ N y.cx (A.deeper (envOfC qual scope L' f cdv)) (execs body (envOfC qual scope L' f cdv)) (fun fl s' => ∃ L'' m'' l'', St y.cx L'' m'' l'' [] s' ∧ Q (match fl with | .ret v => v | _ => .none) s') s₂) s₁)
    (hco : scope.isCoroutine = false) (hgen : scope.isGenerator = false) (hk : scope.kind = .function) :
    N y.cx A (call (.ref f) pos kw) Q s := by
  have X : (hd.heap_39 y.w.params).In s.heap := hh ▸ hK
  refine N.call (NC.def_ (fd := fnOf nm qual params body scope dV kV doc pm an cdv ct) (body := body) hroom (X _ _ ho) rfl hco hgen rfl (codeRec_of X hcd) (hbind _ _ _ _ ?_))
  simp only [newFunctionEnv, Option.isSome_none, Bool.false_eq_true, if_false]
  refine wpAny_bind (wpAny_alloc ?_)
  refine wpAny_bind (wpAny_layCells _ (fun name kind cells => by cases hkc : kind == NameKind.cell <;> simp) _ _ _ _ ?_)
  have hk₁ : ∀ b o, s.heap.get? b = some o → (s.heap.push { cls := .type "frame", data := .dict #[] }).get? b = some o := fun b o e => Heap.get?_push_of_some _ e
  have S₂ : St y.cx s.heap.objs.size (fun _ => none) [] [] { s with heap := s.heap.push { cls := .type "frame", data := .dict #[] }, toks := s.toks } :=
    ⟨[], (fun _ h => nomatch h), ⟨Heap.Ns.new s.heap (.type "frame"), fun b o e => hk₁ b o (hh ▸ e), Nat.le_of_eq (by show y.h₀.objs.size = _; rw [hh])⟩, (fun _ h => nomatch h), List.nodup_nil, hg, hos, hK, hT⟩
  have S₃ := St.cells scope.names S₂
  have e1 : ({ s with heap := s.heap.push { cls := .type "frame", data := .dict #[] }, toks := s.toks } : Shared).heap.objs.size = s.heap.objs.size + 1 := Heap.size_push _ _
  rw [e1] at S₃
  rw [show ({ s with heap := s.heap.push { cls := .type "frame", data := .dict #[] } } : Shared).heap.objs.size = s.heap.objs.size + 1 from Heap.size_push ..]
  have z := h _ _ S₃
  refine wpAny_bind (binds_each (env := envOfC qual scope s.heap.objs.size f cdv) _ (fun _ _ _ => rfl) binds _ _ ?_)
  refine z.mono fun s₂ h₂ => ?_
  obtain ⟨L'', m'', l'', S'', hb⟩ := h₂
  refine wpAny_pure ⟨S''.top.nolimit.keeps S''.fr.keep, NC.func (hb.mono fun fl s' hb => ?_)⟩
  obtain ⟨L', m', l', S', q⟩ := hb
  cases fl <;> exact q
end
theorem run_bd {which mx : Nat} {M : Ms} (hz : ∀ p ∈ M.ss, p.2 ≤ M.g.out.length) : ∀ i : Nat, M.g.out.length ≤ (runM which mx i M).g.out.length ∧ (runM which mx i M).g.out.length ≤ M.g.out.length + 250 * i ∧ (runM which mx i M).g.vts.length ≤ M.g.vts.length + i ∧ (runM which mx i M).ss.length ≤ M.ss.length + i ∧ ∀ p ∈ (runM which mx i M).ss, p.2 ≤ (runM which mx i M).g.out.length
  | 0 => ⟨Nat.le_refl _, Nat.le_refl _, Nat.le_refl _, Nat.le_refl _, hz⟩
  | i + 1 => by
    obtain ⟨h1, h2, h3, h4, h5⟩ := run_bd (which := which) (mx := mx) hz i
    have k := step_ok (which := which) (more := moreOf mx i) h5
    have k1 := k.ge
    have k2 := k.le
    have k3 := k.vl
    have k4 := k.sl
    show _ ≤ (stepM which (moreOf mx i) (runM which mx i M)).g.out.length ∧ (stepM which (moreOf mx i) (runM which mx i M)).g.out.length ≤ _ ∧ (stepM which (moreOf mx i) (runM which mx i M)).g.vts.length ≤ _ ∧ (stepM which (moreOf mx i) (runM which mx i M)).ss.length ≤ _ ∧ ∀ p ∈ (stepM which (moreOf mx i) (runM which mx i M)).ss, p.2 ≤ (stepM which (moreOf mx i) (runM which mx i M)).g.out.length
    exact ⟨by omega, by omega, by omega, by omega, k.zb⟩
/-- how great a message grows -/
theorem msg_bd {which mx : Nat} {g : Gh} {ss : List (List UInt8 × Nat)} (hz : ∀ p ∈ ss, p.2 ≤ g.out.length) (hma : g.ma ≤ 8) : (finG which mx (msgM which mx g ss)).out.length ≤ g.out.length + 600 ∧ (finG which mx (msgM which mx g ss)).vts.length ≤ g.vts.length + 2 ∧ (msgM which mx g ss).ss.length ≤ ss.length + 2 := by
  obtain ⟨h1, h2, h3, h4, h5⟩ := run_bd (which := which) (mx := mx) (M := ⟨g, ss, [], []⟩) hz (1 + mx % 2)
  have hw : Width (msgM which mx g ss).g.ma := by rw [msg_ma hma]; exact W8
  obtain ⟨f1, f2, f3, _⟩ := finG_bd (which := which) (mx := mx) hw
  have hx : mx % 2 < 2 := Nat.mod_lt _ (by decide)
  have e : runM which mx (1 + mx % 2) ⟨g, ss, [], []⟩ = msgM which mx g ss := rfl
  rw [e] at h2 h3 h4
  dsimp only at h2 h3 h4
  rw [f3]
  omega
/-- the one builder between two files: its pile is what stands in it -/
structure Lq (y : Cy) (r : Raw) (buf : List UInt8) (od so : Obj) (tl : List (Addr × Obj)) (g : Gh) (ss : List (List UInt8 × Nat)) (i : Nat) : Prop where
  B : Bq y r buf od tl g
  V : Ss y.cx r.ss so ss
  al : g.out.length % 16 = 0
  ma : g.ma ≤ 8
  vk : ∀ v ∈ g.vts, v.1.length < 6 + i
  sk : ∀ v ∈ ss, ∃ w, w < i ∧ v.1.head? = some (hdB w)
  zb : ∀ p ∈ ss, p.2 ≤ g.out.length
  b1 : g.out.length ≤ 1000 * i
  b2 : g.vts.length ≤ 10 * i
  b3 : ss.length ≤ 10 * i
theorem run_tl {which mx : Nat} {M : Ms} (hz : ∀ p ∈ M.ss, p.2 ≤ M.g.out.length) : ∀ i : Nat, (runM which mx i M).told.length ≤ M.told.length + 2 * i ∧ (runM which mx i M).spots.length = M.spots.length + i
  | 0 => ⟨Nat.le_refl _, rfl⟩
  | i + 1 => by
    obtain ⟨h1, h2⟩ := run_tl (which := which) (mx := mx) hz i
    have k := step_ok (which := which) (more := moreOf mx i) (run_bd (which := which) (mx := mx) hz i).2.2.2.2
    have k1 := k.tl
    have k2 := k.pl
    show (stepM which (moreOf mx i) (runM which mx i M)).told.length ≤ _ ∧ (stepM which (moreOf mx i) (runM which mx i M)).spots.length = _
    omega
theorem msg_tl {which mx n : Nat} : (msgM which mx ⟨[], n, 1, []⟩ []).told.length ≤ 4 ∧ (msgM which mx ⟨[], n, 1, []⟩ []).spots.length ≤ 2 := by
  obtain ⟨h1, h2⟩ := run_tl (which := which) (mx := mx) (M := ⟨⟨[], n, 1, []⟩, [], [], []⟩) (fun p hp => nomatch hp) (1 + mx % 2)
  have hx : mx % 2 < 2 := Nat.mod_lt _ (by decide)
  have e : runM which mx (1 + mx % 2) ⟨⟨[], n, 1, []⟩, [], [], []⟩ = msgM which mx ⟨[], n, 1, []⟩ [] := rfl
  rw [e] at h1 h2
  dsimp only [List.length_nil] at h1 h2
  omega
theorem natsI_sh {p : Nat} {a b : List Nat} : natsI (shN p a ++ shN p b) = (natsI (a ++ b)).map fun e => e + (p : Int) := by
  have e : ∀ a : List Nat, (a.map fun n => n + p).map (fun (n : Nat) => (n : Int)) = (a.map fun (n : Nat) => (n : Int)).map fun e => e + (p : Int) := fun a => by
    rw [List.map_map, List.map_map]
    exact List.map_congr_left fun n _ => Int.natCast_add n p
  unfold natsI shN
  rw [List.map_append, List.map_append, List.map_append, e, e]
theorem num1_out {g : Gh} : (g.num 1 ((0 : Nat) : Int)).out = 0 :: g.out := by
  show le 1 0 ++ (List.replicate (fillN 1 (g.out.length + 0)) 0 ++ g.out) = _
  rw [show fillN 1 (g.out.length + 0) = 0 by unfold fillN; omega]
  rfl

end Mine

end
-- PO1
section
open PySem PySem.W PySem.Calls PyProof.Rows
set_option maxRecDepth 100000
set_option linter.unusedVariables false
set_option linter.deprecated false
namespace Mine
theorem slicePick_min (items : Array Value) (b : Nat) : slicePick items none (some (b : Int)) none = slicePick items none (some ((min b items.size : Nat) : Int)) none := by
  unfold slicePick
  rw [sliceBounds_plain, sliceBounds_plain]
  simp only [Option.elim, clipAt_nat]
  rw [show min (min b items.size) items.size = min b items.size by omega]
theorem pick_upto {vs : List Value} {ns : List Int} (hi : IntsAre vs ns) (b : Nat) : IntsAre (slicePick vs.toArray none (some (b : Int)) none).toList (ns.take b) := by
  rw [slicePick_min]
  have hl := hi.length
  have := slice_ints_upto hi (y := ((min b vs.toArray.size : Nat) : Int)) (by omega) (by rw [List.size_toArray, hl]; omega)
  rw [Int.toNat_natCast, List.size_toArray, hl] at this
  rw [List.size_toArray, hl]
  rw [show ns.take b = ns.take (min b ns.length) by rw [List.take_eq_take_iff]; omega]
  exact this
section
variable {y : Cy} {A : Around} {s : Shared} {L b st ed F d ca sl : Addr} {m : Str → Option Value} {l k l0 tl X : List (Addr × Obj)} {r : Raw} {Q : Value → Shared → Prop} {w oe : Nat} {lo hi : Int} {buf out : List UInt8} {g : Gh} {od so o : Obj} {vs : List Value} {ss : List (List UInt8 × Nat)}
set_option maxHeartbeats 2000000 in
theorem ct_law {vs : List Value} {ns : List Int} (hh : y.h₀ = s.heap) (hK : (hd.heap_39 y.w.params).In y.h₀) (hT : TopRead y.p y.loose y.mg y.mb y.h₀) (hg : s.gens = #[]) (hos : s.os = y.os) (R : Rm A 20)
    (hsl : y.h₀.IsList sl vs.toArray) (hi : IntsAre vs ns) (hvl : vs.length ≤ 100) (h : ∀ s' L m l, St y.cx L m l [] s' → Q (.bool true) s') :
    N y.cx A (call (.ref 679) [.ref sl]) Q s := by
  have hsl' : ∀ {L : Addr} {m : Str → Option Value} {l k : List (Addr × Obj)} {s : Shared}, St y.cx L m l k s → s.heap.IsList sl vs.toArray := fun S => by
    obtain ⟨o, ho, q⟩ := hsl
    exact ⟨o, S.fr.keep _ _ ho, q⟩
  refine p_topC (binds := [("script", .ref sl)]) hh hK hT hg hos (by rfl) (by rfl) (Rm.depth R) (BindsTo.of_eq rfl) (fun Lx s₁ S₁ => ?_) rfl rfl rfl
  have S₁ : St y.cx Lx (fun _ => none) [(Lx + 1, cellO none)] [] s₁ := S₁
  refine w_loc S₁ fun s₂ S₂ => ?_
  refine ⟨Lx, _, _, S₂, ?_⟩
  refine n_cons ?_
  refine n_assign ?_
  refine e_call ?_
  refine p_bltC (by assumption) (gb_list _) (by boot_by_name) (by decide) ?_ rfl rfl
  refine cw1 ?_
  refine sp_cons ?_
  refine e_sub ?_
  refine r_locC (by assumption) (by exact rfl) ?_
  refine e_slice_up ?_
  (refine r_cint (by assumption) ?_; intro _ _ _)
  (refine r_slice (by assumption) ?_; intro _ _ _)
  rename_i S₃
  refine r_item_list (hsl' S₃) ?_ (fun _ _ => by first | exact .inl rfl | exact .inr rfl)
  refine l_cut S₃ (hsl' S₃) .none (.int _ _) (by rw [List.size_toArray]; omega) fun cl s₄ S₄ => ?_
  have hi1 : IntsAre (slicePick vs.toArray none (some 3) none).toList (ns.take 3) := pick_upto hi 3
  obtain ⟨vs1, hvs1⟩ : ∃ vs1, vs1 = (slicePick vs.toArray none (some 3) none).toList := ⟨_, rfl⟩
  have hvs2 : slicePick vs.toArray none (some 3) none = vs1.toArray := by rw [hvs1, Array.toArray_toList]
  rw [← hvs1] at hi1
  rw [hvs2] at S₄
  have hl1 := hi1.length
  have hl2 : (ns.take 3).length ≤ 3 := by rw [List.length_take]; omega
  show N _ _ _ _ _
  refine sp_nil ?_
  refine ⟨Kp.type, ?_⟩
  show N _ _ (call _ [_] _) _ _
  refine k_list S₄ (.head _) (by omega) fun ro nr s₅ S₅ => ?_
  have S₅ := S₅.sub (.cons_cons _ (.cons _ (.refl _)))
  show N _ _ _ _ _
  (refine r_stC (by assumption) ?_; intro _ _)
  show N _ _ _ _ _
  refine n_cons ?_
  refine n_while ?_
  refine NC.whl_ind (fun n s' => ∃ (m' : Str → Option Value) (rvs : List Value) (rns : List Int) (nr' : Nat), St y.cx Lx m' [(ro, listOf rvs.toArray nr'), (Lx + 1, cellO none)] [] s' ∧ IntsAre rvs rns ∧ rvs.length ≤ 3 ∧ n = 3 - rvs.length ∧ m' "row" = some (.ref ro)) ?_ _ _
    ⟨_, vs1, ns.take 3, nr, by assumption, hi1, by omega, rfl, by exact rfl⟩
  rintro n s₆ ⟨m', rvs, rns, nr', S₆, I6, hr3, hn, e1⟩
  refine t_cmp ?_
  refine e_call ?_
  refine p_bltC (by assumption) (gb_len _) (by boot_by_name) (by decide) ?_ rfl rfl
  refine cw1 ?_
  refine sp_cons ?_
  refine r_locC (by assumption) (by exact e1) ?_
  refine sp_nil ?_
  refine ⟨Kp.builtin, ?_⟩
  show N _ _ (call _ [_] _) _ _
  refine k_lenlist LsO.of (by assumption) (by walk_at "in_lw") (by omega) ?_
  intro _
  intro _
  intro _
  (refine r_cint (by assumption) ?_; intro _ _ _)
  refine c_lt ?_
  refine tr_bool ?_
  by_cases hlt : (rvs.length : Int) < 2
  · refine g_yes (decide_eq_true hlt) ?_
    refine n_cons ?_
    refine n_expr ?_
    refine e_meth ?_
    refine r_locC (by assumption) (by exact e1) ?_
    walk_at "n_leaf"
    refine cw1 ?_
    refine sp_cons ?_
    refine e_bin ?_
    (refine r_cint (by assumption) ?_; intro _ _ _)
    refine e_bin ?_
    (refine r_cint (by assumption) ?_; intro _ _ _)
    refine e_call ?_
    refine p_bltC (by assumption) (gb_len _) (by boot_by_name) (by decide) ?_ rfl rfl
    refine cw1 ?_
    refine sp_cons ?_
    refine r_locC (by assumption) (by exact e1) ?_
    refine sp_nil ?_
    refine ⟨Kp.builtin, ?_⟩
    show N _ _ (call _ [_] _) _ _
    refine k_lenlist LsO.of (by assumption) (by walk_at "in_lw") (by omega) ?_
    intro _
    intro _
    intro _
    refine i_mul (by assumption) (mulOk (by omega)) ?_
    intro _
    intro _
    intro _
    (refine i_add (by assumption) ?_; intro _ _ _)
    refine sp_nil ?_
    refine ⟨Kp.builtin, ?_⟩
    show N _ _ (call _ [_, _] _) _ _
    refine k_append (by assumption) (by omega) fun s₇ S₇ => ?_
    refine ⟨(by intro _ h; cases h), ?_⟩
    show N _ _ _ _ _
    refine n_nil ?_
    refine ⟨2 - rvs.length, by omega, _, _, _, _, S₇, I6.append (.cons _ _ .nil), by simp; omega, by simp, by exact e1⟩
  · refine g_no (decide_eq_false hlt) ?_
    refine n_nil ?_
    show N _ _ _ _ _
    refine n_cons ?_
    refine n_assign ?_
    refine e_call ?_
    refine p_globC (by assumption) (gl_Builder _) ?_ rfl rfl
    refine cw1 ?_
    refine sp_cons ?_
    refine e_bin ?_
    refine e_call ?_
    refine p_bltC (by assumption) (gb_sum _) (by boot_by_name) (by decide) ?_ rfl rfl
    refine cw1 ?_
    refine sp_cons ?_
    refine r_locC (by assumption) (by exact e1) ?_
    refine sp_nil ?_
    refine ⟨Kp.builtin, ?_⟩
    show N _ _ (call _ [_] _) _ _
    rename_i S₇
    refine k_sum (vs := rvs) S₇ (LsO.of.isList (S₇.get (.head _))) I6 R.h ?_
    intro _
    intro _
    intro _
    (refine r_cint (by assumption) ?_; intro _ _ _)
    obtain ⟨f0, hf0⟩ : ∃ f0, f0 = (rns.sum.fmod 23).toNat := ⟨_, rfl⟩
    have hf1 : rns.sum.fmod 23 = (f0 : Int) := by rw [hf0]; exact fmod_cast (by decide)
    have hf2 : f0 < 23 := by have := Int.fmod_lt_of_pos rns.sum (show (0 : Int) < 23 by decide); omega
    refine i_mod (by assumption) (by decide) ?_
    rw [hf1]
    intro _
    intro _
    intro _
    refine sp_nil ?_
    refine ⟨Kp.of_K (by assumption) (kp_656 _), ?_⟩
    show N _ _ (call _ [_] _) _ _
    refine ct_Builder (by assumption) (R.deep.le (by omega)) (by omega) fun b r s₁₁ S₁₁ bd hvt hnn hss => ?_
    (refine r_stC (by assumption) ?_; intro _ _)
    show N _ _ _ _ _
    refine n_cons ?_
    refine n_assign ?_
    walk_at "n_leaf"
    rename_i S₁₂
    refine r_stcell (S₁₂.perm (List.perm_middle (l₁ := [_, _, _, _]))) fun s₁₃ S₁₃ => ?_
    have S₁₃ := S₁₃.perm (List.perm_middle (l₁ := [_, _, _])).symm
    simp only [List.cons_append, List.nil_append] at S₁₃
    show N _ _ _ _ _
    refine n_cons ?_
    refine n_assign ?_
    refine e_list ?_
    refine sp_nil ?_
    refine k_newlist (by assumption) (by simp) fun fa s₁₄ S₁₄ => ?_
    have S₁₄ := S₁₄.down3
    show N _ _ _ _ _
    (refine r_stC (by assumption) ?_; intro _ _)
    show N _ _ _ _ _
    refine n_cons ?_
    refine n_for ?_
    refine e_call ?_
    refine p_bltC (by assumption) (gb_range _) (by boot_by_name) (by decide) ?_ rfl rfl
    refine cw1 ?_
    refine sp_cons ?_
    refine e_call ?_
    refine p_bltC (by assumption) (gb_len _) (by boot_by_name) (by decide) ?_ rfl rfl
    refine cw1 ?_
    refine sp_cons ?_
    refine r_locC (by assumption) (by exact e1) ?_
    refine sp_nil ?_
    refine ⟨Kp.builtin, ?_⟩
    show N _ _ (call _ [_] _) _ _
    refine k_lenlist LsO.of (by assumption) (by walk_at "in_lw") (by omega) ?_
    intro _
    intro _
    intro _
    refine sp_nil ?_
    refine ⟨Kp.type, ?_⟩
    show N _ _ (call _ [_] _) _ _
    rename_i S₁₅
    refine k_range S₁₅ fun rg s₁₆ q1 q2 q3 S₁₆ => ?_
    skip
    refine k_iter_range (n := rvs.length) S₁₆ (by omega) fun it s₁₇ S₁₇ => ?_
    refine NC.for_ind (fun n s' => ∃ (i : Nat) (m' : Str → Option Value) (r : Raw) (buf : List UInt8) (od so : Obj) (tl : List (Addr × Obj)) (g : Gh) (ss : List (List UInt8 × Nat)) (tp : Tok), n + i = rvs.length ∧
      St y.cx Lx m' ((it, rit i n) :: (b, r.obj) :: (r.ba, baObj buf) :: (r.vt, od) :: (fa, listOf #[] 0) :: (Lx + 1, cellO (some (.bytes g.out.toArray tp))) :: (ro, listOf rvs.toArray nr') :: (ssL r.ss so ++ (tl ++ []))) [] s' ∧
      Lq y r buf od so tl g ss i ∧ m' "maker" = some (.ref b) ∧ m' "faults" = some (.ref fa) ∧ m' "row" = some (.ref ro)) ?_ rvs.length _
      ⟨0, _, r, _, dict0, dict0, [], ⟨[], f0, 1, []⟩, [], _, by omega, by rw [ssL_none hss]; exact S₁₇, ⟨⟨bd, ⟨[], rfl, VtO.new hvt⟩, hnn, (fun v hv => nomatch hv), W1⟩, .inl ⟨hss, rfl⟩, rfl, (show 1 ≤ 8 by decide), (fun v hv => nomatch hv), (fun v hv => nomatch hv), (fun v hv => nomatch hv), Nat.zero_le _, Nat.zero_le _, Nat.zero_le _⟩, by exact rfl, by exact rfl, by exact e1⟩
    rintro n s₁₈ ⟨i, m'', r, buf, od, so, tl, g, ss, tp, hni, S₁₈, H, f1, f2, f3⟩
    have hb1 := H.b1
    have hb2 := H.b2
    have hb3 := H.b3
    cases n with
    | zero =>
      refine k_next_range_end S₁₈ (by exact R.h) fun s₁₉ S₁₉ => ?_
      show N _ _ _ _ _
      refine n_cons ?_
      refine n_ret ?_
      refine e_cmp ?_
      refine r_locC (by assumption) (by exact f2) ?_
      refine e_list ?_
      refine sp_nil ?_
      refine k_newlist (by assumption) (by simp) fun w1 s₂₀ S₂₀ => ?_
      skip
      refine l_eq (ns := []) (ms := []) (vs := []) (us := []) (LsO.of (n := 0)) (LsO.of (n := 0)) S₂₀ (.tail _ (.tail _ (.tail _ (.tail _ (.head _))))) (.head _) .nil .nil (by have := R.u; show A.units + 3 + 64 < _; omega) ?_
      skip
      refine ⟨Lx, _, _, S₂₀, ?_⟩
      exact h _ _ _ _ S₂₀
    | succ n =>
      refine k_next_range S₁₈ (by omega) fun tx s₁₉ S₁₉ => ?_
      rw [show ((((n + 1 : Nat) : Int)) - 1) = (n : Int) by omega] at S₁₉
      have S₁₉ := S₁₉.down3
      show N _ _ _ _ _
      (refine r_stC (by assumption) ?_; intro _ _)
      refine n_cons ?_
      refine n_assignT ?_
      refine e_call ?_
      refine p_globC (by assumption) (gl__law_message _) ?_ rfl rfl
      refine cw1 ?_
      refine sp_cons ?_
      refine e_call ?_
      refine p_globC (by assumption) (gl_Builder _) ?_ rfl rfl
      refine cw1 ?_
      refine sp_cons ?_
      refine e_bin ?_
      (refine r_cint (by assumption) ?_; intro _ _ _)
      refine r_locC (by assumption) (by exact rfl) ?_
      refine i_mul (by assumption) (mulOk (by omega)) ?_
      rw [show (64 : Int) * (i : Int) = ((64 * i : Nat) : Int) by omega]
      intro _
      intro _
      intro _
      refine sp_nil ?_
      refine ⟨Kp.of_K (by assumption) (kp_656 _), ?_⟩
      show N _ _ (call _ [_] _) _ _
      refine ct_Builder (by assumption) (R.deep.le (by omega)) (by omega) fun b2 r2 s₂₀ S₂₀ bd2 hvt2 hnn2 hss2 => ?_
      refine sp_cons ?_
      refine r_locC (by assumption) (by exact rfl) ?_
      refine sp_cons ?_
      refine e_sub ?_
      refine r_locC (by assumption) (by exact f3) ?_
      refine r_locC (by assumption) (by exact rfl) ?_
      have hil : i < rvs.length := by omega
      obtain ⟨e, te, hve, hce⟩ := I6.at i rvs[i] (List.getElem?_eq_getElem hil)
      refine r_item_ls LsO.of (by assumption) (by walk_at "in_lw") ?_ (fun _ _ => by first | exact .inl rfl | exact .inr rfl)
      refine n_list_get (i := i) LsO.of (by assumption) (by walk_at "in_lw") (v := .int e te) (by rw [← hve]; exact List.getElem?_eq_getElem hil) (by omega) ?_
      refine sp_nil ?_
      refine ⟨Kp.of_K (by assumption) (kp_674 _), ?_⟩
      show N _ _ (call _ [_, _, _] _) _ _
      refine ct_alone (which := i) (n := 64 * i) (num := e) (by assumption) (R.deep.le (by omega)) bd2 hvt2 hnn2 hss2 (by omega) fun d1 fd1 vs1' nf1 t1 s₂₁ I1 S₂₁ => ?_
      skip
      refine as_tup (vs := [.bytes (finG i (mxOf e) (msgM i (mxOf e) ⟨[], 64 * i, 1, []⟩ [])).out.toArray t1, .ref fd1]) S₂₁ (.head _) R.h fun s₂₂ S₂₂ => ?_
      have S₂₂ := S₂₂.drop.down3
      show N _ _ _ _ _
      walk_at "n_leaf"
      (refine r_stC (by assumption) ?_; intro _ _)
      walk_at "n_leaf"
      (refine r_stC (by assumption) ?_; intro _ _)
      walk_at "n_leaf"
      show N _ _ _ _ _
      refine n_cons ?_
      refine n_assignT ?_
      refine e_call ?_
      refine p_globC (by assumption) (gl__law_message _) ?_ rfl rfl
      refine cw1 ?_
      refine sp_cons ?_
      refine r_locC (by assumption) (by exact f1) ?_
      refine sp_cons ?_
      refine r_locC (by assumption) (by exact rfl) ?_
      refine sp_cons ?_
      refine e_sub ?_
      refine r_locC (by assumption) (by exact f3) ?_
      refine r_locC (by assumption) (by exact rfl) ?_
      refine r_item_ls LsO.of (by assumption) (by walk_at "in_lw") ?_ (fun _ _ => by first | exact .inl rfl | exact .inr rfl)
      refine n_list_get (i := i) LsO.of (by assumption) (by walk_at "in_lw") (v := .int e te) (by rw [← hve]; exact List.getElem?_eq_getElem hil) (by omega) ?_
      refine sp_nil ?_
      refine ⟨Kp.of_K (by assumption) (kp_674 _), ?_⟩
      show N _ _ (call _ [_, _, _] _) _ _
      rename_i S₂₃
      refine ct_message (g := g) (S₂₃.perm (p3 (pX [_, _, _, _, _] _ _ _))) (R.deep.le (by omega)) H.B H.V (by omega) (by omega) (by omega) (by omega) H.zb fun d2 fd2 r3 buf3 od3 so3 tl3 vs2 nf2 t2 s₂₄ B3 V3 I3 zb3 S₂₄ => ?_
      have S₂₄ := S₂₄.perm (.cons _ (.cons _ (p3 (pX [_, _, _, _, _] _ _ _).symm)))
      simp only [List.cons_append, List.nil_append] at S₂₄
      obtain ⟨p1, p2, p4, p5, p6, p7⟩ := plain (which := i) (mx := mxOf e) (r := 64 * i) (g' := g) (ss' := ss) H.al (by omega) H.vk H.sk H.ma
      obtain ⟨q4, q5, q6⟩ := msg_bd (which := i) (mx := mxOf e) H.zb H.ma
      obtain ⟨q7, q8⟩ := msg_tl (which := i) (mx := mxOf e) (n := 64 * i)
      generalize hM1 : msgM i (mxOf e) ⟨[], 64 * i, 1, []⟩ [] = M1 at I1 p1 p2 p4 q7 q8 S₂₄ S₂₃
      generalize hM2 : msgM i (mxOf e) g ss = M2 at B3 V3 I3 zb3 S₂₄ p1 p2 p4 p5 p6 p7 q4 q5 q6
      generalize hG1 : finG i (mxOf e) M1 = G1 at p1 S₂₄ S₂₃
      generalize hG2 : finG i (mxOf e) M2 = G2 at B3 zb3 S₂₄ p1 p5 p7 q4 q5
      show N _ _ _ _ _
      refine as_tup (vs := [.bytes G2.out.toArray t2, .ref fd2]) S₂₄ (.head _) R.h fun s₂₅ S₂₅ => ?_
      have S₂₅ := S₂₅.drop.down3
      have hlen : G2.out.length = G1.out.length + g.out.length := by rw [p1, List.length_append]
      show N _ _ _ _ _
      walk_at "n_leaf"
      (refine r_stC (by assumption) ?_; intro _ _)
      walk_at "n_leaf"
      (refine r_stC (by assumption) ?_; intro _ _)
      walk_at "n_leaf"
      show N _ _ _ _ _
      refine n_cons ?_
      refine n_if ?_
      refine t_cmp ?_
      refine r_locC (by assumption) (by exact rfl) ?_
      refine e_bin ?_
      refine r_locC (by assumption) (by exact rfl) ?_
      refine r_cell (by rfl) (by assumption) (by walk_at "in_lw") ?_
      refine y_add (by assumption) (by rw [List.size_toArray, List.size_toArray]; omega) ?_
      intro _
      intro _
      intro _
      refine y_ne ?_
      refine tr_bool ?_
      refine g_no (by simp [p1]) ?_
      refine n_nil ?_
      show N _ _ _ _ _
      refine n_cons ?_
      refine n_if ?_
      refine t_cmp ?_
      refine r_locC (by assumption) (by exact rfl) ?_
      refine e_lc ?_
      refine r_locC (by assumption) (by exact rfl) ?_
      rename_i S₂₆
      have hcell := S₂₆.get (a := Lx + 1) (by walk_at "in_lw")
      refine comp_list (items := #[]) (vs := vs1') (g := fun e => e + ((g.out.length : Nat) : Int)) S₂₆ (LsO.of.isList (S₂₆.get (by walk_at "in_lw"))) I1 (by rw [I1.length, natsI, List.length_map, List.length_append]; omega) (by exact R.h) (fun I s₂ hk2 hI => ⟨fun C e t s₃ m₃ E' he hn hm hk3 => ?_⟩) (fun d3 ys nn3 s₂₇ I4 S₂₇ => ?_)
      · have hne : (Lx + 1) ∉ [I] := by
          intro q
          have q : Lx + 1 = I := by simpa using q
          rw [← q, hcell] at hI; cases hI
        have hc3 := hk3 _ _ hne (hk2 _ _ hcell)
        have hK3 : ∀ b o, y.h₀.get? b = some o → s₃.heap.get? b = some o := fun b o e => by
          have e1 := S₂₆.fr.keep b o e
          refine hk3 b o (fun q => ?_) (hk2 b o e1)
          have q : b = I := by simpa using q
          rw [← q, e1] at hI; cases hI
        refine wpAny_BinOp ?_
        refine wpAny_Name (wpAny_loadName_local (by rfl) (by rfl) hn hm ?_) (by decide)
        refine Call_Name1 ?_
        refine Name_function_global (by rfl) (by rfl) (loadGlobal_builtin (mg := y.mg) (mb := y.mb) (S₂₆.top.g.keeps hK3) (mg_none_of S₂₆.kin S₂₆.top.g (gb_len _)) (S₂₆.top.b.keeps hK3) ((S₂₆.top.builtins _ (by decide)).trans (by boot_by_name)) ?_)
        refine callWith_builtin1 ?_
        refine wpAny_Name (wpAny_loadName_cell (by rfl) (by rfl) (by rfl) ⟨_, hc3, rfl⟩ ?_) (by decide)
        refine len_bytes (by rw [List.size_toArray]; omega) ?_
        refine PyProof.Rows.add_int ?_
        exact ⟨⟨_, by rw [List.size_toArray]⟩, ⟨s₃.heap, _, rfl, fun _ _ e => e⟩⟩
      skip
      have heq : natsI (M2.told ++ M2.spots) = (natsI (M1.told ++ M1.spots)).map fun e => e + ((g.out.length : Nat) : Int) := by rw [p2, p4]; exact natsI_sh
      refine l_ne (vs := vs2) (us := ys) (LsO.of (n := nf2)) (LsO.of (n := nn3)) S₂₇ (by walk_at "in_lw") (.head _) I3 I4 (by have := R.u; show A.units + 3 + 64 < _; omega) ?_
      have S₂₈ := S₂₇.drop
      show N _ _ _ _ _
      refine tr_bool ?_
      refine g_no (by rw [decide_eq_true heq]; rfl) ?_
      refine n_nil ?_
      show N _ _ _ _ _
      refine n_cons ?_
      refine n_assign ?_
      refine e_bin ?_
      refine r_locC (by assumption) (by exact rfl) ?_
      refine r_cell (by rfl) (by assumption) (by walk_at "in_lw") ?_
      refine y_add (by assumption) (by rw [List.size_toArray, List.size_toArray]; omega) ?_
      rw [show G1.out.toArray ++ g.out.toArray = G2.out.toArray by rw [p1]; simp]
      intro _
      intro _
      intro _
      rename_i S₂₉
      refine r_stcell (S₂₉.perm (List.perm_middle (l₁ := [_, _, _, _, _, _, _]))) fun s₃₀ S₃₀ => ?_
      simp only [List.cons_append, List.nil_append] at S₃₀
      have S₃₀ := (S₃₀.sub (.cons_cons _ (.cons_cons _ (.cons_cons _ (.cons_cons _ (.cons _ (.cons _ (.cons_cons _ (.cons_cons _ (.refl _)))))))))).perm (List.perm_middle (l₁ := [_, _, _, _, _])).symm
      simp only [List.cons_append, List.nil_append] at S₃₀
      show N _ _ _ _ _
      refine n_cons ?_
      refine n_while ?_
      refine NC.whl_ind (fun n1 s' => ∃ (m3 : Str → Option Value) (r4 : Raw) (buf4 : List UInt8) (g4 : Gh) (tq : Tok),
        St y.cx Lx m3 ((b, r4.obj) :: (r4.ba, baObj buf4) :: (r4.vt, od3) :: (it, rit (i + 1) n) :: (fa, listOf #[] 0) :: (Lx + 1, cellO (some (.bytes g4.out.toArray tq))) :: (ro, listOf rvs.toArray nr') :: (ssL r4.ss so3 ++ (tl3 ++ []))) [] s' ∧
        Bq y r4 buf4 od3 tl3 g4 ∧ r4.ss = r3.ss ∧ g4.vts = G2.vts ∧ g4.ma = 8 ∧ G2.out.length ≤ g4.out.length ∧ n1 = (16 - g4.out.length % 16) % 16 ∧ g4.out.length + n1 ≤ G2.out.length + 15 ∧
        m3 "maker" = some (.ref b) ∧ m3 "faults" = some (.ref fa) ∧ m3 "row" = some (.ref ro)) ?_ _ _
        ⟨_, r3, buf3, G2, _, S₃₀, B3, rfl, rfl, p7, Nat.le_refl _, rfl, by omega, by exact f1, by exact f2, by exact f3⟩
      rintro n1 s₃₁ ⟨m3, r4, buf4, g4, tq, S₃₁, B4, es4, ev4, em4, hg1, hn1, hg2, k1, k2, k3⟩
      refine t_plain ?_
      refine e_bin ?_
      refine e_call ?_
      refine p_bltC (by assumption) (gb_len _) (by boot_by_name) (by decide) ?_ rfl rfl
      refine cw1 ?_
      refine sp_cons ?_
      refine r_cell (by rfl) (by assumption) (by walk_at "in_lw") ?_
      refine sp_nil ?_
      refine ⟨Kp.builtin, ?_⟩
      show N _ _ (call _ [_] _) _ _
      walk_at "n_leafcall"
      (refine r_cint (by assumption) ?_; intro _ _ _)
      walk_at "n_leaf"
      walk_at "n_leaf"
      by_cases hz : g4.out.length % 16 = 0
      · refine g_no (by simp [hz]) ?_
        refine n_nil ?_
        show N _ _ _ _ _
        refine n_cons ?_
        refine n_if ?_
        refine t_cmp ?_
        refine e_meth ?_
        refine r_locC (by assumption) (by exact k1) ?_
        refine m_Offset (by assumption) ?_
        refine cw0 ?_ ?_
        exact Kp.of_K (by assumption) (kp_326 _)
        show N _ _ (call _ [_] _) _ _
        refine cp_Offset (r := r4) (buf := buf4) (by assumption) (R.deep.le (by omega)) B4.bd.ok ?_
        intro _
        intro _
        intro _
        refine e_call ?_
        refine p_bltC (by assumption) (gb_len _) (by boot_by_name) (by decide) ?_ rfl rfl
        refine cw1 ?_
        refine sp_cons ?_
        refine r_cell (by rfl) (by assumption) (by walk_at "in_lw") ?_
        refine sp_nil ?_
        refine ⟨Kp.builtin, ?_⟩
        show N _ _ (call _ [_] _) _ _
        walk_at "n_leafcall"
        refine c_ne ?_
        refine tr_bool ?_
        refine g_no (by simp) ?_
        refine n_nil ?_
        show N _ _ _ _ _
        refine n_nil ?_
        rename_i S₃₂
        refine ⟨n, by omega, i + 1, _, r4, buf4, od3, so3, tl3, g4, M2.ss, _, by omega, S₃₂.up3, ⟨B4, by rw [es4]; exact V3, hz, by omega, fun v hv => ?_, p6, fun p hp => Nat.le_trans (zb3 p hp) hg1, by omega, by rw [ev4]; omega, by omega⟩, by exact k1, by exact k2, by exact k3⟩
        have := p5 v (by rw [← ev4]; exact hv)
        omega
      · refine g_yes (by simp; omega) ?_
        refine n_cons ?_
        refine n_expr ?_
        refine e_meth ?_
        refine r_locC (by assumption) (by exact k1) ?_
        refine m_PrependUint8 (by assumption) ?_
        refine cw1 ?_
        refine sp_cons ?_
        (refine r_cint (by assumption) ?_; intro _ _ _)
        refine sp_nil ?_
        refine ⟨Kp.of_K (by assumption) (kp_561 _), ?_⟩
        show N _ _ (call _ [_, _] _) _ _
        refine gq_U8 (n := 0) (by assumption) (R.deep.le (by omega)) B4 (by omega) (by omega) fun r5 buf5 s₃₂ B5 es5 ev5 S₃₂ => ?_
        rw [← ev5, ← es5] at S₃₂
        refine ⟨(by intro _ h; cases h), ?_⟩
        show N _ _ _ _ _
        refine n_cons ?_
        refine n_assign ?_
        refine e_bin ?_
        refine e_call ?_
        refine p_bltC (by assumption) (gb_bytes _) (by boot_by_name) (by decide) ?_ rfl rfl
        refine cw1 ?_
        refine sp_cons ?_
        refine e_list ?_
        refine sp_cons ?_
        (refine r_cint (by assumption) ?_; intro _ _ _)
        refine sp_nil ?_
        refine k_newlist (by assumption) (by simp) fun nl s₃₃ S₃₃ => ?_
        refine sp_nil ?_
        refine ⟨Kp.type, ?_⟩
        show N _ _ (call _ [_] _) _ _
        refine k_bytes_list (ns := [0]) (LsO.of) S₃₃ (.head _) (.cons _ _ .nil) (fun n hn => by simp at hn; omega) (by simp) (by exact R.h) ?_
        intro tb s₃₄ S₃₄
        have S₃₄ := S₃₄.drop
        show N _ _ _ _ _
        refine r_cell (by rfl) (by assumption) (by walk_at "in_lw") ?_
        refine y_add (by assumption) (by show 1 + g4.out.length ≤ 16777216; omega) ?_
        rw [show byteArr [0] ++ g4.out.toArray = (g4.num 1 ((0 : Nat) : Int)).out.toArray by rw [num1_out]; simp [byteArr]]
        intro _
        intro _
        intro _
        rename_i S₃₅
        refine r_stcell (S₃₅.perm (List.perm_middle (l₁ := [_, _, _, _, _]))) fun s₃₆ S₃₆ => ?_
        have S₃₆ := S₃₆.perm (List.perm_middle (l₁ := [_, _, _, _, _])).symm
        simp only [List.cons_append, List.nil_append] at S₃₆
        show N _ _ _ _ _
        refine n_nil ?_
        have hnl : (g4.num 1 ((0 : Nat) : Int)).out.length = g4.out.length + 1 := by rw [num1_out, List.length_cons]
        refine ⟨n1 - 1, by omega, _, r5, buf5, g4.num 1 ((0 : Nat) : Int), _, S₃₆, B5, by rw [es5, es4], ev4, by show max g4.ma 1 = 8; omega, by omega, by omega, by omega, by exact k1, by exact k2, by exact k3⟩
end

end Mine

end
-- PQ1
section
open PySem PySem.W PySem.Calls PyProof.Rows
set_option maxRecDepth 100000
set_option linter.unusedVariables false
set_option linter.deprecated false
namespace Mine
theorem wpC_of_N {α : Type} {c : Cx} {A : Around} {t : Sem α} {Q : α → Shared → Prop} {E : Value → Shared → Prop} {s : Shared} (h : N c A t Q s) : wpC c.M A t Q E s :=
  fun Γ p h1 h2 => Sem.wp_mono c.M Γ t (fun _ _ _ z => z) (fun _ _ _ z => z.elim) p s (h Γ p h1 h2)
set_option maxHeartbeats 4000000 in
theorem entry : PySem.Challenge.rw_fb0004_01.Holds := by
  refine hd ?_
  k_fill
  intro w s₀ s₁ mg mb G Y fa o pm cd doc dV kV ho hdd hcd hD hmg hg args vals as hpre hlay hrd hwl hlo
  have KX := kIn_of Y
  have X := (Ground.X G).1
  have V := (Ground.X G).2
  refine Ground.open G ?_
  intro T B D TE TW
  have hfa := hmg
  have TR := topRead_of T
  clear B D TE TW
  wrow_args hpre hlay hrd hwl hlo
  rename_i hcd1 hcd2
  have hfa2 : mg (PySem.Str.ofString "law") = some (.ref 679) := mg_of KX TR.g (by k_is)
  have hfa3 : fa = 679 := by
    have := hmg.symm.trans hfa2
    simpa using this
  subst hfa3
  refine ⟨GoodW.toG ⟨.inl ⟨_, .bool true, [], rfl, fun _ => rfl, .bool true, by with_unfolding_all rfl, fun _ => ⟨List.nodup_nil, fun _ h => nomatch h⟩⟩, fun _ _ e => e, rfl, hg⟩, ?_⟩
  obtain ⟨pp, ll, TR'⟩ : ∃ pp ll, TopRead pp ll mg mb s₁.heap := ⟨_, _, TR⟩
  have R : Rm callerA 20 := ⟨by decide, by decide, rfl, rfl⟩
  refine wpC_of_N (c := (Cy.mk PySem.Challenge.rw_fb0004_01.row.toRowW.prog w pp ll mg mb s₁.heap s₁.os).cx) (ct_law (y := ⟨PySem.Challenge.rw_fb0004_01.row.toRowW.prog, w, pp, ll, mg, mb, s₁.heap, s₁.os⟩) rfl KX TR' hg rfl R (by assumption) (by assumption) ?_ ?_)
  · have hI := ‹IntsAre _ _›
    have := hI.length
    omega
  · intro s' L m l S
    exact GoodW.toG (goodW_bool S.fr S.gens (fun _ => rfl) (by with_unfolding_all rfl) S.os)

end Mine

end
theorem PySem.Challenge.cw_fb0004_01_holds : PySem.Challenge.rw_fb0004_01.Holds :=
  Mine.entry
