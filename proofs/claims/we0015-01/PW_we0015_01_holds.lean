import PyProof.Rows.All
import Wide.All
import OpenK.AllK
import Wide.FinOn
import PyProof.ListNew
import KE.KBytesWalk
import PyProof.ZipIter
import KE.KPairTest
import PySem.Challenge.RW_we0015_01
set_option Elab.async false
set_option compiler.extract_closed false
section
-- K0
set_option maxHeartbeats 8000000
set_option Elab.async false
namespace Mine
theorem s1 {n : Nat} : n + 1 ≠ n := Nat.succ_ne_self n
theorem s2 {n : Nat} : n + 1 + 1 ≠ n := Nat.ne_of_gt (Nat.lt_add_of_pos_right (k := 2) (by decide))
theorem s3 {n : Nat} : n + 1 + 1 + 1 ≠ n := Nat.ne_of_gt (Nat.lt_add_of_pos_right (k := 3) (by decide))
theorem s4 {n : Nat} : n + 1 + 1 + 1 + 1 ≠ n := Nat.ne_of_gt (Nat.lt_add_of_pos_right (k := 4) (by decide))
theorem b0 {x n : Nat} (h : x < n) : x ≠ n := Nat.ne_of_lt h
theorem b1 {x n : Nat} (h : x < n) : x ≠ n + 1 := Nat.ne_of_lt (Nat.lt_add_right 1 h)
theorem b2 {x n : Nat} (h : x < n) : x ≠ n + 1 + 1 := Nat.ne_of_lt (Nat.lt_add_right 2 h)
theorem b3 {x n : Nat} (h : x < n) : x ≠ n + 1 + 1 + 1 := Nat.ne_of_lt (Nat.lt_add_right 3 h)
theorem b4 {x n : Nat} (h : x < n) : x ≠ n + 1 + 1 + 1 + 1 := Nat.ne_of_lt (Nat.lt_add_right 4 h)
theorem b5 {x n : Nat} (h : x < n) : x ≠ n + 1 + 1 + 1 + 1 + 1 := Nat.ne_of_lt (Nat.lt_add_right 5 h)
theorem c1 {x n : Nat} (h : n + 1 < x) : n ≠ x := Nat.ne_of_lt (Nat.lt_of_succ_lt h)
theorem c2 {x n : Nat} (h : n + 1 + 1 < x) : n ≠ x := c1 (Nat.lt_of_succ_lt h)
theorem c3 {x n : Nat} (h : n + 1 + 1 + 1 < x) : n ≠ x := c2 (Nat.lt_of_succ_lt h)
theorem c4 {x n : Nat} (h : n + 1 + 1 + 1 + 1 < x) : n ≠ x := c3 (Nat.lt_of_succ_lt h)
end Mine
end

-- K0 begin
open Mine in
local macro_rules | `(tactic| k_ne) => `(tactic| with_reducible first | exact s1 | exact s2 | exact s3 | (symm; first | assumption | exact s1 | exact s2 | exact s3 | (apply c1; assumption) | (apply c2; assumption)) | ((rename (_ < _ ∧ _) => hK); (repeat (first | exact b0 hK.1 | exact (b0 hK.1).symm | exact b0 hK | exact (b0 hK).symm | replace hK := hK.2)); done) | ((rename (_ ≠ _ ∧ _) => hK); (repeat (first | exact hK.1 | exact hK.1.symm | replace hK := hK.2)); done))
-- K0 end

section
-- N1
set_option maxHeartbeats 8000000
open PySem PySem.W PyProof.Rows PySem.Calls
open Sem (wp)
set_option Elab.async false
set_option maxRecDepth 100000
namespace Mine
/-- the codes that may hold a bytearray's buffer -/
noncomputable def heldIds : List String := ["bytearray.__contains__", "bytearray.__mod__", "bytearray.__rmod__", "_struct.pack_into.held", "bytearray.find.held"] ++ Builtin.Bytes.decodersThatHold
noncomputable def noHold : Code → Bool
  | .builtin id _ => !heldIds.contains id
  | _ => true
noncomputable def Clear (l : List (Code × Pos)) : Prop := ∀ x ∈ l, noHold x.1 = true
/-- as wpAny, of contexts in which no code holds a buffer -/
noncomputable def wpN {α : Type} (M : Model) (A : Around) (t : Sem α) (Q : α → Shared → Prop) (E : Value → Shared → Prop) (s : Shared) : Prop :=
  ∀ Γ p, Γ.In A → noHold Γ.code = true → Clear Γ.below → wp M Γ t (fun a _ s' => Q a s') (fun e _ s' => E e s') p s
noncomputable def codeN (M : Model) (A : Around) (c : Code) (R : Result → Shared → Prop) (s : Shared) : Prop :=
  ∀ Γ p, Γ.code = c → Γ.Below A → Clear Γ.below → wpCode M Γ R p s
section
variable {α β : Type} {M : Model} {A : Around} {E : Value → Shared → Prop} {s : Shared}
theorem wpN_of {t : Sem α} {Q : α → Shared → Prop} (h : wpAny M A t Q E s) : wpN M A t Q E s := fun Γ p hΓ _ _ => h Γ p hΓ
theorem codeN_of {c : Code} {R : Result → Shared → Prop} (h : codeAny M A c R s) : codeN M A c R s := fun Γ p hc hΓ _ => h Γ p hc hΓ
theorem wpN_mono {t : Sem α} {Q Q' : α → Shared → Prop} {E' : Value → Shared → Prop} (h : wpN M A t Q E s)
    (hQ : ∀ a s, Q a s → Q' a s) (hE : ∀ e s, E e s → E' e s) : wpN M A t Q' E' s :=
  fun Γ p hΓ h1 h2 => Sem.wp_mono M Γ t (fun a _ s => hQ a s) (fun e _ s => hE e s) p s (h Γ p hΓ h1 h2)
theorem wpN_bind {m : Sem α} {f : α → Sem β} {Q : β → Shared → Prop} (h : wpN M A m (fun a s' => wpN M A (f a) Q E s') E s) : wpN M A (m >>= f) Q E s := fun Γ p hΓ h1 h2 => by
  rw [Sem.wp_bind']
  exact Sem.wp_mono M Γ m (fun a p' s' h' => h' Γ p' hΓ h1 h2) (fun _ _ _ h' => h') p s (h Γ p hΓ h1 h2)
/-- a step that needs no more than wpAny, then on -/
theorem wpN_then {m : Sem α} {f : α → Sem β} {Q : β → Shared → Prop} (h : wpAny M A m (fun a s' => wpN M A (f a) Q E s') E s) : wpN M A (m >>= f) Q E s := wpN_bind (wpN_of h)
theorem wpN_onRaise {m : Sem α} {k : Value → Sem Unit} {Q : α → Shared → Prop}
    (h : wpN M A m Q (fun e s' => wpAny M A (k e) (fun _ s'' => E e s'') E s') s) : wpN M A (m.onRaise k) Q E s := fun Γ p hΓ h1 h2 => by
  rw [Sem.wp_onRaise]
  exact Sem.wp_mono M Γ m (fun _ _ _ h' => h') (fun e p' s' h' => h' Γ p' hΓ) p s (h Γ p hΓ h1 h2)
theorem wpN_holding {vs : List Value} {m : Sem α} {Q : α → Shared → Prop} (h : wpN M A m Q E s) : wpN M A (holding vs m) Q E s :=
  fun Γ p hΓ h1 h2 => by rw [Sem.wp_holding]; exact h Γ p hΓ h1 h2
theorem wpN_keep {vs : List Value} {m : Sem α} {Q : α → Shared → Prop} (h : wpN M A m Q E s) : wpN M A (m.keep vs) Q E s :=
  fun Γ p hΓ h1 h2 => by rw [Sem.wp_keep]; exact h Γ p hΓ h1 h2
theorem clear_cons {c : Code} {p : Pos} {l : List (Code × Pos)} (h1 : noHold c = true) (h2 : Clear l) : Clear ((c, p) :: l) := fun x hx => by
  rcases List.mem_cons.mp hx with rfl | hx
  · exact h1
  · exact h2 x hx
theorem wpN_run {c : Code} {h : Option Value} {Q : Flow → Shared → Prop}
    (hc : codeN M (A.mark h) c (fun r s' => match r with | .ok f => Q f s' | .error e => E e s') s) (hnb : h ≠ some byPass := by intro x; cases x) :
    wpN M A (run c h) Q E s :=
  fun Γ p hΓ h1 h2 => by rw [Sem.wp_run]; exact hc _ p rfl (hΓ.enter c h p hnb) (clear_cons h1 h2)
theorem wpN_runValue {c : Code} {Q : Value → Shared → Prop}
    (hc : codeN M A c (fun r s' => match r with | .ok (.ret v) => Q v s' | .ok _ => False | .error e => E e s') s) :
    wpN M A (runValue c) Q E s := fun Γ p hΓ h1 h2 => by rw [Sem.wp_runValue]; exact hc _ p rfl (hΓ.enter c none p (by intro x; cases x)) (clear_cons h1 h2)
theorem wpN_call {f : Value} {pos : List Value} {kw : List (Str × Value)} {Q : Value → Shared → Prop}
    (hc : codeN M A (.call f ⟨pos, kw⟩) (fun r s' => match r with | .ok (.ret v) => Q v s' | .ok _ => False | .error e => E e s') s) :
    wpN M A (call f pos kw) Q E s := wpN_runValue hc
theorem codeN_of_tree {c : Code} {R : Result → Shared → Prop} (hn : noHold c = true)
    (h : wpN M (A.under c) (M.den c) (fun fin s' => match fin with | .done f => R (.ok f) s' | .again c' => c'.quiet = true ∧ codeN M A c' R s')
      (fun e s' => R (.error e) s') s) : codeN M A c R s := fun Γ p hc hΓ h2 => by
  rw [wpCode_iff_wp, hc]
  refine Sem.wp_mono M Γ _ (fun fin p' s' h' => ?_) (fun _ _ _ h' => h') p s (h Γ p (hc ▸ hΓ.in) (by rw [hc]; exact hn) h2)
  cases fin with
  | done f => exact h'
  | again c' => exact ⟨h'.1, h'.2 (Γ.goto c') p' rfl (hΓ.goto c') h2⟩
theorem codeN_mono {c : Code} {R R' : Result → Shared → Prop} (h : codeN M A c R s) (hR : ∀ r s, R r s → R' r s) : codeN M A c R' s :=
  fun Γ p hc hΓ h2 => wpCode_mono hR (h Γ p hc hΓ h2)
theorem wpN_of_eq {a : α} {t : Sem α} {Q : α → Shared → Prop} (e : t = pure a) (h : Q a s) : wpN M A t Q E s := wpN_of (wpAny_of_eq e h)
theorem wpN_pure {a : α} {Q : α → Shared → Prop} (h : Q a s) : wpN M A (pure a) Q E s := wpN_of (wpAny_pure h)

theorem one_exported {v : Value} : ∀ (x : Code × Pos), noHold x.1 = true → (match x with
    | (.builtin "bytearray.__contains__" ⟨v' :: _, _⟩, _) | (.builtin "bytearray.__mod__" ⟨v' :: _, _⟩, _)
    | (.builtin "bytearray.__rmod__" ⟨_ :: v' :: _, _⟩, _) | (.builtin "_struct.pack_into.held" ⟨v' :: _, _⟩, _) => Builtin.Bytes.sameRef v' v
    | (.builtin "bytearray.find.held" ⟨_ :: _ :: held, _⟩, _) => held.any (Builtin.Bytes.sameRef v)
    | (.builtin id ⟨v' :: _, _⟩, _) => Builtin.Bytes.sameRef v' v && Builtin.Bytes.decodersThatHold.contains id
    | _ => false) = false := by
  rintro ⟨c, p⟩ hn
  cases c with
  | builtin id a =>
    have hh : heldIds.contains id = false := by simpa [noHold] using hn
    have h1 : ¬ id = "bytearray.__contains__" := fun e => absurd (e ▸ hh) (by decide)
    have h2 : ¬ id = "bytearray.__mod__" := fun e => absurd (e ▸ hh) (by decide)
    have h3 : ¬ id = "bytearray.__rmod__" := fun e => absurd (e ▸ hh) (by decide)
    have h4 : ¬ id = "_struct.pack_into.held" := fun e => absurd (e ▸ hh) (by decide)
    have h5 : ¬ id = "bytearray.find.held" := fun e => absurd (e ▸ hh) (by decide)
    have h6 : Builtin.Bytes.decodersThatHold.contains id = false := by
      simp only [heldIds, List.contains_eq_mem, List.mem_append, decide_eq_false_iff_not, not_or] at hh
      simpa using hh.2
    obtain ⟨pos, kw⟩ := a
    delta one_exported.match_1
    cases pos with
    | nil => exact (dif_neg h1).trans ((dif_neg h2).trans ((dif_neg h3).trans ((dif_neg h4).trans (dif_neg h5))))
    | cons v' r =>
      refine (dif_neg h1).trans ((dif_neg h2).trans ((dif_neg h3).trans ((dif_neg h4).trans ((dif_neg h5).trans ?_))))
      show (Builtin.Bytes.sameRef v' v && Builtin.Bytes.decodersThatHold.contains id) = false
      rw [h6, Bool.and_false]
  | _ => rfl
theorem noHold_exported {v : Value} : ∀ {l : List (Code × Pos)}, Clear l → (l.any fun
    | (.builtin "bytearray.__contains__" ⟨v' :: _, _⟩, _) | (.builtin "bytearray.__mod__" ⟨v' :: _, _⟩, _)
    | (.builtin "bytearray.__rmod__" ⟨_ :: v' :: _, _⟩, _) | (.builtin "_struct.pack_into.held" ⟨v' :: _, _⟩, _) => Builtin.Bytes.sameRef v' v
    | (.builtin "bytearray.find.held" ⟨_ :: _ :: held, _⟩, _) => held.any (Builtin.Bytes.sameRef v)
    | (.builtin id ⟨v' :: _, _⟩, _) => Builtin.Bytes.sameRef v' v && Builtin.Bytes.decodersThatHold.contains id
    | _ => false) = false := by
  intro l h
  rw [List.any_eq_false]
  intro x hx
  rw [show _ = false from one_exported x (h x hx)]
  exact Bool.false_ne_true
theorem wpN_exported {v : Value} {Q : Bool → Shared → Prop} (h : Q false s) : wpN M A (Builtin.Bytes.exported v) Q E s := fun Γ p hΓ h1 h2 => by
  have e := noHold_exported (v := v) (clear_cons (p := p) h1 h2)
  exact Eq.mpr (congrArg (fun b => Q b s) e) h
end
end Mine
end

section
-- N3
set_option maxHeartbeats 8000000
open PySem PySem.W PyProof.Rows PySem.Calls
open Sem (wp)
set_option Elab.async false
set_option maxRecDepth 100000
namespace Mine
noncomputable def allClear (st : List (Code × Pos)) : Bool := st.all fun x => noHold x.1
/-- a tree that looks round before it starts -/
noncomputable def guarded {α : Type} (t u : Sem α) : Sem α := stack >>= fun st => match allClear st with | true => t | false => u
theorem wp_guarded {α : Type} {M : Model} {Γ : Ctx} {t u : Sem α} {Q : α → Pos → Shared → Prop} {E : Value → Pos → Shared → Prop} {p : Pos} {s : Shared} :
    wp M Γ (guarded t u) Q E p s ↔ wp M Γ (match allClear ((Γ.code, p) :: Γ.below) with | true => t | false => u) Q E p s := Iff.rfl
theorem clear_of_all {Γ : Ctx} {p : Pos} (h : allClear ((Γ.code, p) :: Γ.below) = true) : noHold Γ.code = true ∧ Clear Γ.below := by
  rw [allClear, List.all_eq_true] at h
  exact ⟨h _ (List.mem_cons_self ..), fun x hx => h x (List.mem_cons_of_mem _ hx)⟩
theorem wpAny_guarded {α : Type} {M : Model} {A : Around} {t : Sem α} {b : α} {Q : α → Shared → Prop} {E : Value → Shared → Prop} {s : Shared} (h : wpN M A t Q E s) (hb : Q b s) :
    wpAny M A (guarded t (pure b)) Q E s := fun Γ p hΓ => by
  rw [wp_guarded]
  cases e : allClear ((Γ.code, p) :: Γ.below) with
  | true => exact h Γ p hΓ (clear_of_all e).1 (clear_of_all e).2
  | false => exact hb
noncomputable def caller : Code := .builtin "claim.caller" {}
theorem unstack {prog : Program} {w : World} {t u : Sem Fin} {s s' : Shared} {o : Outcome} (hz : s.asleep) : ∀ {n : Nat}, schedN (denote table) prog w n (.single s ⟨guarded t u, caller, default, []⟩) = .halted o s' →
    ∃ n', schedN (denote table) prog w n' (.single s ⟨t, caller, default, []⟩) = .halted o s'
  | 0, h => by cases h
  | n + 1, h => by
    have e : step (denote table) prog w s ⟨guarded t u, caller, default, []⟩ = .go s ⟨t, caller, default, []⟩ := rfl
    have hc : Thread.calm ⟨guarded t u, caller, default, []⟩ = true := by first | rfl | decide +kernel
    rcases sstep_single (denote table) prog w s _ hc hz with q | q
    · rw [e] at q
      refine ⟨n, ?_⟩
      rw [schedN, q] at h
      exact h
    · rw [e] at q; cases q
/-- under the names, one part alone is turned -/
theorem tr_inner {α β γ δ ε : Type} {A : α → β → Prop} {B B' : α → β → γ → δ → ε → Prop} {R : α → β → δ → ε → Prop} (h : ∀ x y n o z, A x y → B x y n o z → ∃ m, B' x y m o z) :
    (∃ x y, A x y ∧ ∃ n o z, B x y n o z ∧ R x y o z) → ∃ x y, A x y ∧ ∃ n o z, B' x y n o z ∧ R x y o z := fun ⟨x, y, a, n, o, z, b, r⟩ =>
  let ⟨m, b'⟩ := h x y n o z a b
  ⟨x, y, a, m, o, z, b', r⟩
theorem tr_outer {α β : Type} {A B : α → Prop} {C D E F : α → β → Prop} {G G' : α → β → Prop} (h : ∀ x y, A x → C x y → G x y → G' x y) :
    (∃ x, A x ∧ B x ∧ ∃ y, C x y ∧ D x y ∧ E x y ∧ F x y ∧ G x y) → ∃ x, A x ∧ B x ∧ ∃ y, C x y ∧ D x y ∧ E x y ∧ F x y ∧ G' x y := fun ⟨x, a, b, y, c, d, e, f, g⟩ =>
  ⟨x, a, b, y, c, d, e, f, h x y a c g⟩
theorem transfer {c : ClaimW} {tree tree' : List Value → Sem Fin} {u : List Value → Sem Fin} {defs kps : List Str} {writes : Bool} (et : ∀ vs, tree' vs = guarded (tree vs) (u vs))
    (H : c.HoldsOpenBy (fun vs => ⟨tree' vs, .builtin "claim.caller" {}, default, []⟩) defs kps writes) : c.HoldsOpenBy (fun vs => ⟨tree vs, .builtin "claim.caller" {}, default, []⟩) defs kps writes := by
  refine ⟨H.1, H.2.1, fun w => ⟨(H.2.2 w).1, fun s hs => tr_outer (fun s₀ s₁ hf hT hC args hp hl ord ho => ?_) ((H.2.2 w).2 s hs)⟩⟩
  refine tr_inner (fun vs s₂ n o s' hlay hrun => ?_) (hC args hp hl ord ho)
  have hs' : AfterImport (opening c.prog) w s := hs
  have hz : s₂.asleep := Shared.asleep_of_life (((layAllW_rest _ _ _ hlay).2.2.2.trans hT.2.1).trans (fence_lifeW hf)) hs'.life
  dsimp only at hrun
  rw [et vs] at hrun
  exact unstack hz hrun
/-- what the head asks of the walk, in the own logic -/
noncomputable abbrev WalkN' (q : Program) (loose : List Str) (XP : (Str → Option Value) → Heap → Prop) (YP : World → Heap → Prop) (r : RowW) (d : DefRec) (kwd : List (Str × Expr)) : Prop :=
  ∀ (w : World) (s₀ s₁ : Shared) (mg mb : Str → Option Value), Ground q loose r.records XP w s₀ mg mb s₁.heap → YP w s₁.heap → ∀ (a : Addr) (o : Obj) (pm cd doc dV kV : Value), s₁.heap.get? a = some o →
    o.data = .func { docDef d.name d.params d.body d.scope pm cd doc with defaults := dV, kwdefaults := kV } → s₁.heap.CodeRec cd d.name → Dflts mg s₁.heap d.params kwd dV kV → mg d.name = some (.ref a) → s₁.gens = #[] →
    ∀ (args : List WData) (vals : List Value) (as : List Addr), r.claim.pre args = true → WData.layableAll args = true → ReadsAllW r.records (classAt s₀.heap) s₁.heap vals args as → WellAll w.params s₁.heap vals args → (∀ a ∈ as, (a == sysModules) = false) →
      GoodWG r.claim (classAt s₀.heap) (ExcName.means s₀.heap) args s₁ (.ok (.ret (.bool true))) s₁ ∧
      wpN (model r.prog w) callerA (PySem.call (.ref a) vals) (fun v s' => GoodWG r.claim (classAt s₀.heap) (ExcName.means s₀.heap) args s₁ (.ok (.ret v)) s')
        (fun e s' => GoodWG r.claim (classAt s₀.heap) (ExcName.means s₀.heap) args s₁ (.error e) s') s₁
theorem PySem.W.holds_open {r : OpenRow} {q : Program} {loose : List Str} {Xt : Shared → Bool} {XP : (Str → Option Value) → Heap → Prop} {α : Type} {Yf : Shared → α} {Ya : World → α} {YP : World → Heap → Prop} {d : DefRec} {kwd : List (Str × Expr)} {N : Nat}
    (left : LeftO r.prog q loose Xt Yf Ya N) (hY : ∀ w s, Yf s = Ya w → YP w s.heap) (hYk : ∀ w h h', YP w h → (∀ b o, h.get? b = some o → h'.get? b = some o) → YP w h')
    (hX : ∀ s, Xt s = true → XP (s.heap.nsMap mainGlobals) s.heap) (hXk : ∀ mg h h', XP mg h → (∀ b o, h.get? b = some o → h'.get? b = some o) → XP mg h')
    (hdef : defOf q r.name = some (d, kwd)) (hp : r.prog.theDef r.name = some (d.params, d.body, d.scope)) (hk : kwWritten? d.params.kwonlyargs d.params.kw_defaults = some kwd) (hRf : ∀ s, Xt s = true → RecFacts r.records s.heap) (hwr : (!r.writes || r.records.isEmpty) = true)
    (k1 : r.wellSaid = true) (ok : (chainsOk q && opensWell r.prog && (frees r.toRowW && r.within.isEmpty)) = true) (hb : r.prog.bare) (hw : r.toRowW.promised)
    (call : WalkN' q loose XP YP r.toRowW d kwd) : r.Holds := by
  refine ⟨k1, hw, transfer (tree' := fun vs => guarded (callStub r.name vs).cur (pure (.done (.ret (.bool true))))) (u := fun _ => pure (.done (.ret (.bool true)))) (fun vs => rfl)
    (open_anyG (r := r.toRowW) (run := fun f vs => guarded (PySem.call f vs) (pure (.bool true))) left hY hYk hX hXk hRf hwr ok hb hw (fun vs w s mg f Q E hg hf h Γ p hΓ => ?_) (fun w s hg G n hn => ?_) fun w s₀ s₁ mg mb G Y args vs as hpre hlay L low => ?_)⟩
  · have h' := h Γ p hΓ
    rw [wp_guarded] at h' ⊢
    cases e : allClear ((Γ.code, p) :: Γ.below) with
    | false => rw [e] at h'; exact h'
    | true =>
      rw [e] at h'
      show wp _ Γ (nsGet mainNs r.name >>= _) _ _ p s
      rw [Sem.wp_bind']
      refine (Sem.wp_nsGet _ Γ _ p s hg _ _).mpr ?_
      rw [hf]
      show wp _ Γ (PySem.call f vs >>= _) _ _ p s
      rw [Sem.wp_bind']
      exact h'
  · have en : n = r.name := by
      split at hn
      · exact List.mem_singleton.mp hn
      · cases hn
    subst en
    exact pinned_of_view hg G hdef hp hk
  · obtain ⟨a, o, pm, cd, doc, dV, kV, h1, h2, h3, h4, h5⟩ := G.fn hdef
    have hN := call w s₀ s₁ mg mb G Y a o pm cd doc dV kV h2 h3 h4 h5 (defOf_name hdef ▸ h1) L.gens args vs as hpre hlay L.reads L.well (L.low low)
    exact ⟨.ref a, h1, wpAny_guarded hN.2 hN.1⟩
end Mine
end

section
-- Head1
set_option maxHeartbeats 8000000
theorem Mine.anew3 : True := by w_top off; trivial
open PySem PySem.W PyProof.Rows
set_option Elab.async false
namespace Mine
set_option maxRecDepth 100000 in
set_option maxHeartbeats 8000000 in
open_top hd for PySem.Challenge.rw_we0015_01
end Mine
end

section
-- Base
set_option maxHeartbeats 8000000
open PySem PySem.W PyProof.Rows PySem.Calls
set_option Elab.async false
set_option maxRecDepth 100000
namespace Mine
noncomputable abbrev prg : Program := PySem.Challenge.rw_we0015_01.row.prog

noncomputable abbrev AN (n : Nat) : Around := { handled := none, depth := n, units := 4 * n }

theorem weak {α : Type} {M : Model} {A A' : Around} {t : Sem α} {Q : α → Shared → Prop} {E : Value → Shared → Prop} {s : Shared}
    (h : wpAny M A t Q E s) (hh : A.handled = A'.handled) (hd : A'.depth ≤ A.depth) (hu : A'.units ≤ A.units) (hf : A.frames = none) (hg : A.guards = none) : wpAny M A' t Q E s :=
  fun Γ p hΓ => h Γ p ⟨hΓ.1.trans hh.symm, Nat.le_trans hΓ.2.1 hd, (fun l e => by rw [hf] at e; cases e), (fun l e => by rw [hg] at e; cases e), Nat.le_trans hΓ.2.2.2.2 hu⟩

noncomputable abbrev Sub (h h' : Heap) : Prop := ∀ b o, h.get? b = some o → h'.get? b = some o

structure Gnd (w : World) (p : Program) (loose : List Str) (mean : ExcName → Option Value) (mg mb : Str → Option Value) (hb : Heap) : Prop where
  K : (hd.heap_39 w.params).In hb
  T : Top p loose mean mg mb hb
  n86 : hb.get? 86 = none
  n79 : hb.get? 79 = none
  c86 : CodeHd hb 90 86
  c79 : CodeHd hb 83 79

section
variable {w : World} {p : Program} {loose : List Str} {mean : ExcName → Option Value} {mg mb : Str → Option Value} {hb : Heap}
theorem Gnd.keeps {h : Heap} (G : Gnd w p loose mean mg mb hb) (hk : Sub hb h) : (hd.heap_39 w.params).In h ∧ Top p loose mean mg mb h := ⟨fun a o e => hk a o (G.K a o e), G.T.keeps hk⟩

variable {A : Around} {s : Shared} {R : Result → Shared → Prop} {E : Value → Shared → Prop} {name qual : Str} {params : Arguments} {body : List Stmt} {scope : Scope} {dV kV doc pm cdv ct oc : Value} {an od : Option Addr} {osl : Array (Option Value)} {f : Addr}
  {args : List Value} {binds : List (Str × Value)}

theorem sub_hide {hs : List (Addr × Obj)} {h : Heap} (SB : Sub hb h) (hn : ∀ q ∈ hs, hb.get? q.1 = none) : Sub hb (hideAll h (hs.map (·.1))) := fun b o e => by
  refine hideAll_get _ (SB b o e) fun hm => ?_
  obtain ⟨q, hq, rfl⟩ := List.mem_map.mp hm
  rw [hn q hq] at e; cases e

/-- the base of a call: all that stands, but what hs lists -/
structure Gb (hb : Heap) (s : Shared) (hs : List (Addr × Obj)) (h₀ : Heap) : Prop where
  sub : Sub hb h₀
  old : Sub h₀ s.heap
  new : ∀ b o, s.heap.get? b = some o → (∀ q ∈ hs, b ≠ q.1) → h₀.get? b = some o
theorem Gb.mk' {hs : List (Addr × Obj)} (SB : Sub hb s.heap) (hn : ∀ q ∈ hs, hb.get? q.1 = none) : Gb hb s hs (hideAll s.heap (hs.map (·.1))) :=
  ⟨sub_hide SB hn, fun _ _ e => of_hideAll _ e, fun b o e h => hideAll_get _ e fun hm => by obtain ⟨q, hq, rfl⟩ := List.mem_map.mp hm; exact h q hq rfl⟩
theorem Gb.list {hs : List (Addr × Obj)} {h₀ : Heap} {l : Addr} {its : Array Value} (g : Gb hb s hs h₀) (x : s.heap.IsList l its) (hne : ∀ q ∈ hs, l ≠ q.1) : h₀.IsList l its :=
  let ⟨o, ho, r⟩ := x; ⟨o, g.new l o ho hne, r⟩

/-- entering a def of the text; what hs lists stands on the ledger, all else in the base -/
theorem enterP (hs : List (Addr × Obj)) (binds : List (Str × Value)) (G : Gnd w p loose mean mg mb hb) (SB : Sub hb s.heap)
    (ho : (hd.heap_39 w.params).lookup f = some ⟨oc, od, .func (fnOf name qual params body scope dV kV doc pm an cdv ct), osl⟩) (hcd : codeIn (hd.heap_39 w.params) cdv qual = true) (hroom : A.depth < recursionLimit)
    (hbind : bindArgs (fnOf name qual params body scope dV kV doc pm an cdv ct) ⟨args, []⟩ = pure binds) (hloc : ∀ y ∈ binds, scope.names.lookup y.1 = some .local)
    (hco : scope.isCoroutine = false) (hgen : scope.isGenerator = false) (hk : scope.kind = .function)
    (hcell : ∀ x ∈ scope.names, x.2 ≠ .cell)
    (hs1 : ∀ q ∈ hs, s.heap.get? q.1 = some q.2) (hs2 : ∀ q ∈ hs, hb.get? q.1 = none)
    (h : ∀ h₀ h₁ L tk, Gb hb s hs h₀ → (hd.heap_39 w.params).In h₀ → Top p loose mean mg mb h₀ →
      Fr h₀ L h₁ (fun y => binds.reverse.lookup y) → News h₀ L h₁ hs → s.heap.objs.size = L → (∀ q ∈ hs, q.1 < L) →
      wpAny (model prg w) (A.deeper (envOf qual scope L f cdv)) (execs body (envOf qual scope L f cdv))
        (fun fl s' => R (.ok (.ret (match fl with | .ret v => v | _ => .none))) s') (fun _ _ => False) { s with heap := h₁, toks := tk }) : codeAny (model prg w) A (.call (.ref f) ⟨args, []⟩) R s := by
  obtain ⟨X, T⟩ := G.keeps SB
  have gb := Gb.mk' (s := s) SB hs2
  obtain ⟨X', T'⟩ := G.keeps gb.sub
  refine codeAny_call_def (fd := fnOf name qual params body scope dV kV doc pm an cdv ct) (body := body) (binds := binds) hroom (X _ _ ho) rfl T.nolimit (codeRec_of X hcd) rfl (BindsTo.of_eq hbind) hcell hloc (fun h₁ hns hk₁ => ?_) hco hgen hk
  refine wpAny_mono (h _ h₁ s.heap.objs.size _ gb X' T' ⟨hns, fun b o e => hk₁ b o (of_hideAll _ e), Nat.le_of_eq (hideAll_size _ _)⟩
    (fun q hq => ⟨hk₁ _ _ (hs1 q hq), Nat.ne_of_lt (Heap.lt_size (hs1 q hq)), hideAll_none _ (List.mem_map_of_mem hq)⟩) rfl (fun q hq => Heap.lt_size (hs1 q hq))) (fun _ _ x => x) (fun _ _ x => x.elim)

/-- the same, nothing hidden -/
theorem enter0 (G : Gnd w p loose mean mg mb hb) (SB : Sub hb s.heap) (binds : List (Str × Value))
    (ho : (hd.heap_39 w.params).lookup f = some ⟨oc, od, .func (fnOf name qual params body scope dV kV doc pm an cdv ct), osl⟩) (hcd : codeIn (hd.heap_39 w.params) cdv qual = true) (hroom : A.depth < recursionLimit)
    (hbind : bindArgs (fnOf name qual params body scope dV kV doc pm an cdv ct) ⟨args, []⟩ = pure binds) (hloc : ∀ y ∈ binds, scope.names.lookup y.1 = some .local)
    (hco : scope.isCoroutine = false) (hgen : scope.isGenerator = false) (hk : scope.kind = .function)
    (hcell : ∀ x ∈ scope.names, x.2 ≠ .cell)
    (h : ∀ h₁ L tk, (hd.heap_39 w.params).In s.heap → Top p loose mean mg mb s.heap →
      Fr s.heap L h₁ (fun y => binds.reverse.lookup y) → News s.heap L h₁ [] → s.heap.objs.size = L → Sub s.heap h₁ →
      wpAny (model prg w) (A.deeper (envOf qual scope L f cdv)) (execs body (envOf qual scope L f cdv))
        (fun fl s' => R (.ok (.ret (match fl with | .ret v => v | _ => .none))) s') (fun _ _ => False) { s with heap := h₁, toks := tk }) : codeAny (model prg w) A (.call (.ref f) ⟨args, []⟩) R s := by
  obtain ⟨X, T⟩ := G.keeps SB
  refine codeAny_call_def (fd := fnOf name qual params body scope dV kV doc pm an cdv ct) (body := body) (binds := binds) hroom (X _ _ ho) rfl T.nolimit (codeRec_of X hcd) rfl (BindsTo.of_eq hbind) hcell hloc (fun h₁ hns hk₁ => ?_) hco hgen hk
  exact wpAny_mono (h h₁ s.heap.objs.size _ X T ⟨hns, hk₁, Nat.le_refl _⟩ News.nil rfl hk₁) (fun _ _ x => x) (fun _ _ x => x.elim)

/-- a def with cells -/
theorem enterC (hs : List (Addr × Obj)) (binds : List (Str × Value)) (G : Gnd w p loose mean mg mb hb) (SB : Sub hb s.heap)
    (ho : (hd.heap_39 w.params).lookup f = some ⟨oc, od, .func (fnOf name qual params body scope dV kV doc pm an cdv ct), osl⟩) (hcd : codeIn (hd.heap_39 w.params) cdv qual = true) (hroom : A.depth < recursionLimit)
    (hbind : bindArgs (fnOf name qual params body scope dV kV doc pm an cdv ct) ⟨args, []⟩ = pure binds)
    (hkind : (binds.all fun y => scope.names.lookup y.1 == some .local || scope.names.lookup y.1 == some .cell) = true)
    (hnd : ((cellsFrom 0 scope.names []).map (·.1)).Nodup)
    (hco : scope.isCoroutine = false) (hgen : scope.isGenerator = false) (hk : scope.kind = .function)
    (hs1 : ∀ q ∈ hs, s.heap.get? q.1 = some q.2) (hs2 : ∀ q ∈ hs, hb.get? q.1 = none)
    (h : ∀ h₀ h₁ L tk cells, Gb hb s hs h₀ → (hd.heap_39 w.params).In h₀ → Top p loose mean mg mb h₀ →
      Fr h₀ L h₁ (bindL (envOfC qual scope L f cdv).kindOf binds fun _ => none) → News h₀ L h₁ (cells ++ hs) →
      CellsAre (bindC (envOfC qual scope L f cdv).kindOf binds fun _ => none) (cellsFrom (L + 1) scope.names []) cells → s.heap.objs.size = L → (∀ q ∈ hs, q.1 < L) →
      wpAny (model prg w) (A.deeper (envOfC qual scope L f cdv)) (execs body (envOfC qual scope L f cdv))
        (fun fl s' => R (.ok (.ret (match fl with | .ret v => v | _ => .none))) s') (fun _ _ => False) { s with heap := h₁, toks := tk }) : codeAny (model prg w) A (.call (.ref f) ⟨args, []⟩) R s := by
  obtain ⟨X, T⟩ := G.keeps SB
  have gb := Gb.mk' (s := s) SB hs2
  obtain ⟨X', T'⟩ := G.keeps gb.sub
  refine codeAny_call_function hroom (X _ _ ho) rfl hco hgen rfl (codeRec_of X hcd) ((BindsTo.of_eq hbind) _ _ _ _ ?_)
  refine wpAny_newFunctionEnv_cells hk (kindsX hkind _) fun env' he s' x => ?_
  subst he
  refine ⟨T.nolimit.keeps x.toInCall.keep, codeAny_func ?_⟩
  obtain ⟨h₁, tk, rfl, _⟩ := x.done
  have hk₁ := x.toInCall.keep
  obtain ⟨cells, NC, Y⟩ := Cl.news (h₀ := s.heap) (Nat.le_refl _) fun n c hm => ⟨x.cell n c (lookup_of_mem_nodup (cellsFrom_names scope.names 0 (s.heap.objs.size + 1) [] [] rfl ▸ hnd) hm), x.above n c hm⟩
  refine wpAny_mono (h _ h₁ s.heap.objs.size tk cells gb X' T' ⟨x.toInCall.ns, fun b o e => hk₁ b o (of_hideAll _ e), Nat.le_of_eq (hideAll_size _ _)⟩ (fun q hq => ?_) Y rfl (fun q hq => Heap.lt_size (hs1 q hq))) (fun _ _ x => x) (fun _ _ x => x.elim)
  rcases List.mem_append.mp hq with hq | hq
  · refine ⟨(NC q hq).1, (NC q hq).2.1, ?_⟩
    cases e : (hideAll s.heap (hs.map (·.1))).get? q.1 with
    | none => rfl
    | some o => have := of_hideAll _ e; rw [(NC q hq).2.2] at this; cases this
  · exact ⟨hk₁ _ _ (hs1 q hq), Nat.ne_of_lt (Heap.lt_size (hs1 q hq)), hideAll_none _ (List.mem_map_of_mem hq)⟩

/-- a closure that stands in the heap, nothing hidden -/
theorem enterX0 (binds : List (Str × Value)) {cl : List (Str × Addr)} {fo : Obj} (G : Gnd w p loose mean mg mb hb) (SB : Sub hb s.heap)
    (ho : s.heap.get? f = some fo) (hfo : fo.data = .func (fnX name qual params body scope cl dV kV doc pm an cdv ct)) (hcd : s.heap.CodeRec cdv qual) (hroom : A.depth < recursionLimit)
    (hbind : bindArgs (fnX name qual params body scope cl dV kV doc pm an cdv ct) ⟨args, []⟩ = pure binds) (hloc : ∀ y ∈ binds, scope.names.lookup y.1 = some .local)
    (hco : scope.isCoroutine = false) (hgen : scope.isGenerator = false) (hk : scope.kind = .function)
    (hcell : ∀ x ∈ scope.names, x.2 ≠ .cell)
    (h : ∀ h₁ L tk, (hd.heap_39 w.params).In s.heap → Top p loose mean mg mb s.heap →
      Fr s.heap L h₁ (fun y => binds.reverse.lookup y) → News s.heap L h₁ [] → s.heap.objs.size = L →
      wpAny (model prg w) (A.deeper (envX qual scope L f cdv cl)) (execs body (envX qual scope L f cdv cl))
        (fun fl s' => R (.ok (.ret (match fl with | .ret v => v | _ => .none))) s') (fun _ _ => False) { s with heap := h₁, toks := tk }) : codeAny (model prg w) A (.call (.ref f) ⟨args, []⟩) R s := by
  obtain ⟨X, T⟩ := G.keeps SB
  refine codeAny_call_def (fd := fnX name qual params body scope cl dV kV doc pm an cdv ct) (body := body) (binds := binds) hroom ho hfo T.nolimit hcd rfl (BindsTo.of_eq hbind) hcell hloc (fun h₁ hns hk₁ => ?_) hco hgen hk
  exact wpAny_mono (h h₁ s.heap.objs.size _ X T ⟨hns, hk₁, Nat.le_refl _⟩ News.nil rfl) (fun _ _ x => x) (fun _ _ x => x.elim)

/-- a closure that stands in the heap -/
theorem enterX (hs : List (Addr × Obj)) (binds : List (Str × Value)) {cl : List (Str × Addr)} {fo : Obj} (G : Gnd w p loose mean mg mb hb) (SB : Sub hb s.heap)
    (ho : s.heap.get? f = some fo) (hfo : fo.data = .func (fnX name qual params body scope cl dV kV doc pm an cdv ct)) (hcd : s.heap.CodeRec cdv qual) (hroom : A.depth < recursionLimit)
    (hbind : bindArgs (fnX name qual params body scope cl dV kV doc pm an cdv ct) ⟨args, []⟩ = pure binds) (hloc : ∀ y ∈ binds, scope.names.lookup y.1 = some .local)
    (hco : scope.isCoroutine = false) (hgen : scope.isGenerator = false) (hk : scope.kind = .function)
    (hcell : ∀ x ∈ scope.names, x.2 ≠ .cell)
    (hs1 : ∀ q ∈ hs, s.heap.get? q.1 = some q.2) (hs2 : ∀ q ∈ hs, hb.get? q.1 = none)
    (h : ∀ h₀ h₁ L tk, Gb hb s hs h₀ → (hd.heap_39 w.params).In h₀ → Top p loose mean mg mb h₀ →
      Fr h₀ L h₁ (fun y => binds.reverse.lookup y) → News h₀ L h₁ hs → s.heap.objs.size = L → (∀ q ∈ hs, q.1 < L) →
      wpAny (model prg w) (A.deeper (envX qual scope L f cdv cl)) (execs body (envX qual scope L f cdv cl))
        (fun fl s' => R (.ok (.ret (match fl with | .ret v => v | _ => .none))) s') (fun _ _ => False) { s with heap := h₁, toks := tk }) : codeAny (model prg w) A (.call (.ref f) ⟨args, []⟩) R s := by
  obtain ⟨X, T⟩ := G.keeps SB
  have gb := Gb.mk' (s := s) SB hs2
  obtain ⟨X', T'⟩ := G.keeps gb.sub
  refine codeAny_call_def (fd := fnX name qual params body scope cl dV kV doc pm an cdv ct) (body := body) (binds := binds) hroom ho hfo T.nolimit hcd rfl (BindsTo.of_eq hbind) hcell hloc (fun h₁ hns hk₁ => ?_) hco hgen hk
  refine wpAny_mono (h _ h₁ s.heap.objs.size _ gb X' T' ⟨hns, fun b o e => hk₁ b o (of_hideAll _ e), Nat.le_of_eq (hideAll_size _ _)⟩
    (fun q hq => ⟨hk₁ _ _ (hs1 q hq), Nat.ne_of_lt (Heap.lt_size (hs1 q hq)), hideAll_none _ (List.mem_map_of_mem hq)⟩) rfl (fun q hq => Heap.lt_size (hs1 q hq))) (fun _ _ x => x) (fun _ _ x => x.elim)
end

/-- the same, but for what stands at X -/
noncomputable def RetX (n : Nat) (w : World) (f : Addr) (args : List Value) (s : Shared) (X : Addr) (P : Value → Heap → Prop) : Prop :=
  ∀ (A : Around) (Q E : Value → Shared → Prop), A.handled = none → A.depth ≤ n → A.units ≤ 4 * n → (∀ v h' tk, (∀ b o, b ≠ X → s.heap.get? b = some o → h'.get? b = some o) → P v h' → Q v { s with heap := h', toks := tk }) →
    wpAny (model prg w) A (call (.ref f) args) Q E s
noncomputable def BackX (s : Shared) (X : Addr) (P : Value → Heap → Prop) (r : Result) (s' : Shared) : Prop :=
  ∃ v h' tk, r = .ok (.ret v) ∧ s' = { s with heap := h', toks := tk } ∧ (∀ b o, b ≠ X → s.heap.get? b = some o → h'.get? b = some o) ∧ P v h'
theorem retX_of {n : Nat} {w : World} {f : Addr} {args : List Value} {s : Shared} {X : Addr} {P : Value → Heap → Prop} (h : codeAny (model prg w) (AN n) (.call (.ref f) ⟨args, []⟩) (BackX s X P) s) : RetX n w f args s X P := by
  intro A Q E hh hd hu hq
  refine weak (A := AN n) (wpAny_call (codeAny_mono h fun r s' hr => ?_)) hh.symm hd hu rfl rfl
  obtain ⟨v, h', tk, rfl, rfl, hs, hp⟩ := hr
  exact hq v h' tk hs hp
theorem backX_of {s : Shared} {X : Addr} {P : Value → Heap → Prop} {h₀ : Heap} {L : Addr} {m : Str → Option Value} {h' : Heap} {tk : Nat} {v : Value} (F : Fr h₀ L h' m) (hs : ∀ b o, b ≠ X → s.heap.get? b = some o → h₀.get? b = some o) (hp : P v h') :
    BackX s X P (.ok (.ret v)) { s with heap := h', toks := tk } := ⟨v, h', tk, rfl, rfl, fun b o hb e => F.keep b o (hs b o hb e), hp⟩

theorem RetX.use {n : Nat} {w : World} {f : Addr} {args : List Value} {s : Shared} {X : Addr} {P : Value → Heap → Prop} (R : RetX n w f args s X P) {A : Around} {Q E : Value → Shared → Prop} {h₀ : Heap} {L : Addr} {m : Str → Option Value} {news : List (Addr × Obj)} {oX : Obj} {g : Obj → List (Addr × Obj)}
    (F : Fr h₀ L s.heap m) (N : News h₀ L s.heap news) (U : UpdF X oX news g) (hh : A.handled = none) (hd : A.depth ≤ n) (hu : A.units ≤ 4 * n)
    (h : ∀ v h' tk, P v h' → (∀ b o, b ≠ X → s.heap.get? b = some o → h'.get? b = some o) → Fr h₀ L h' m → (∀ o', h'.get? X = some o' → News h₀ L h' (g o')) → Q v { s with heap := h', toks := tk }) : wpAny (model prg w) A (call (.ref f) args) Q E s := by
  obtain ⟨own, rest, rfl, hg, h1, h2⟩ := U.split
  have hm := N (X, oX) (List.mem_append_right _ (.head _))
  refine R A Q E hh hd hu fun v h' tk hs hp => h v h' tk hp hs ⟨?_, fun b o e => ?_, F.above⟩ fun o' e' q hq => ?_
  · obtain ⟨oL, es, ep, e, r⟩ := F.ns
    exact ⟨oL, es, ep, hs _ _ (Ne.symm hm.2.1) e, r⟩
  · exact hs b o (fun q => by rw [q, hm.2.2] at e; cases e) (F.keep b o e)
  · rw [hg o'] at hq
    rcases List.mem_append.mp hq with q1 | q1
    · exact ⟨hs _ _ (h1 q q1) (N q (List.mem_append_left _ q1)).1, (N q (List.mem_append_left _ q1)).2⟩
    · rcases List.mem_cons.mp q1 with rfl | q1
      · exact ⟨e', hm.2⟩
      · have := N q (List.mem_append_right _ (.tail _ q1))
        exact ⟨hs _ _ (h2 q q1) this.1, this.2⟩

/-- the code tables of the two defs that make a def, filled -/
noncomputable def q86 : Str := (("_digits2int" : Str) ++ (".<locals>." : Str)) ++ ("inner" : Str)
noncomputable def q79 : Str := (("_int2digits" : Str) ++ (".<locals>." : Str)) ++ ("inner" : Str)
noncomputable def Tab86 (h : Heap) (c : Addr) : Prop := h.get? 86 = some (tabObj #[rawInt (66 : Nat), rawInt (4 : Nat), .ref c]) ∧ c ≠ 86 ∧ h.CodeRec (.ref c) q86
noncomputable def Tab79 (h : Heap) (c : Addr) : Prop := h.get? 79 = some (tabObj #[rawInt (51 : Nat), rawInt (4 : Nat), .ref c]) ∧ c ≠ 79 ∧ h.CodeRec (.ref c) q79
theorem Tab86.keeps {h h' : Heap} {c : Addr} (x : Tab86 h c) (k : Sub h h') : Tab86 h' c := ⟨k _ _ x.1, x.2.1, x.2.2.keeps k⟩
theorem Tab79.keeps {h h' : Heap} {c : Addr} (x : Tab79 h c) (k : Sub h h') : Tab79 h' c := ⟨k _ _ x.1, x.2.1, x.2.2.keeps k⟩

/-- from two empty tables to two filled ones -/
noncomputable def RetE (n : Nat) (w : World) (f : Addr) (args : List Value) (s : Shared) (P : Value → Heap → Prop) : Prop :=
  ∀ (A : Around) (Q E : Value → Shared → Prop), A.handled = none → A.depth ≤ n → A.units ≤ 4 * n →
    (∀ v h' tk c79 c86, (∀ b o, b ≠ 86 → b ≠ 79 → s.heap.get? b = some o → h'.get? b = some o) → s.heap.objs.size ≤ c79 → s.heap.objs.size ≤ c86 → Tab79 h' c79 → Tab86 h' c86 → P v h' → Q v { s with heap := h', toks := tk }) →
    wpAny (model prg w) A (call (.ref f) args) Q E s
noncomputable def BackE (s : Shared) (P : Value → Heap → Prop) (r : Result) (s' : Shared) : Prop :=
  ∃ v h' tk c79 c86, r = .ok (.ret v) ∧ s' = { s with heap := h', toks := tk } ∧ (∀ b o, b ≠ 86 → b ≠ 79 → s.heap.get? b = some o → h'.get? b = some o) ∧ s.heap.objs.size ≤ c79 ∧ s.heap.objs.size ≤ c86 ∧ Tab79 h' c79 ∧ Tab86 h' c86 ∧ P v h'
theorem retE_of {n : Nat} {w : World} {f : Addr} {args : List Value} {s : Shared} {P : Value → Heap → Prop} (h : codeAny (model prg w) (AN n) (.call (.ref f) ⟨args, []⟩) (BackE s P) s) : RetE n w f args s P := by
  intro A Q E hh hd hu hq
  refine weak (A := AN n) (wpAny_call (codeAny_mono h fun r s' hr => ?_)) hh.symm hd hu rfl rfl
  obtain ⟨v, h', tk, c1, c2, rfl, rfl, hs, l1, l2, t1, t2, hp⟩ := hr
  exact hq v h' tk c1 c2 hs l1 l2 t1 t2 hp

theorem tab_ne {h : Heap} {l P : Addr} {its ps : Array Value} (x : h.IsList l its) (e : h.get? P = some (tabObj ps)) : l ≠ P := fun q => by
  obtain ⟨o, ho, hc, _⟩ := x
  rw [q, e] at ho; cases ho; cases hc

/-- what a call of f gives, from s, wherever it is called (depth at most n): a value and a heap with P, all old objects as they were -/
noncomputable def Ret (n : Nat) (w : World) (f : Addr) (args : List Value) (s : Shared) (P : Value → Heap → Prop) : Prop :=
  ∀ (A : Around) (Q E : Value → Shared → Prop), A.handled = none → A.depth ≤ n → A.units ≤ 4 * n → (∀ v h' tk, Sub s.heap h' → P v h' → Q v { s with heap := h', toks := tk }) →
    wpAny (model prg w) A (call (.ref f) args) Q E s
noncomputable def BackR (s : Shared) (P : Value → Heap → Prop) (r : Result) (s' : Shared) : Prop :=
  ∃ v h' tk, r = .ok (.ret v) ∧ s' = { s with heap := h', toks := tk } ∧ Sub s.heap h' ∧ P v h'
theorem ret_of {n : Nat} {w : World} {f : Addr} {args : List Value} {s : Shared} {P : Value → Heap → Prop} (h : codeAny (model prg w) (AN n) (.call (.ref f) ⟨args, []⟩) (BackR s P) s) : Ret n w f args s P := by
  intro A Q E hh hd hu hq
  refine weak (A := AN n) (wpAny_call (codeAny_mono h fun r s' hr => ?_)) hh.symm hd hu rfl rfl
  obtain ⟨v, h', tk, rfl, rfl, hs, hp⟩ := hr
  exact hq v h' tk hs hp
theorem Ret.use {n : Nat} {w : World} {f : Addr} {args : List Value} {s : Shared} {P : Value → Heap → Prop} (R : Ret n w f args s P) {A : Around} {Q E : Value → Shared → Prop} {h₀ : Heap} {L : Addr} {m : Str → Option Value} {news : List (Addr × Obj)}
    (F : Fr h₀ L s.heap m) (N : News h₀ L s.heap news) (hh : A.handled = none) (hd : A.depth ≤ n) (hu : A.units ≤ 4 * n)
    (h : ∀ v h' tk, P v h' → Sub s.heap h' → Fr h₀ L h' m → News h₀ L h' news → Q v { s with heap := h', toks := tk }) : wpAny (model prg w) A (call (.ref f) args) Q E s :=
  R A Q E hh hd hu fun v h' tk hs hp => h v h' tk hp hs (F.keeps hs) fun q hq => ⟨hs _ _ (N q hq).1, (N q hq).2⟩
theorem back_of {s : Shared} {P : Value → Heap → Prop} {h₀ : Heap} {L : Addr} {m : Str → Option Value} {h' : Heap} {tk : Nat} {v : Value} (F : Fr h₀ L h' m) (hs : ∀ b o, s.heap.get? b = some o → h₀.get? b = some o) (hp : P v h') :
    BackR s P (.ok (.ret v)) { s with heap := h', toks := tk } := ⟨v, h', tk, rfl, rfl, fun b o e => F.keep b o (hs b o e), hp⟩
/-- an end where one object of the ledger is the old one -/
theorem back_tab {s : Shared} {X : Addr} {oX : Obj} {P : Value → Heap → Prop} {h₀ : Heap} {L : Addr} {m : Str → Option Value} {h' : Heap} {tk : Nat} {v : Value} (F : Fr h₀ L h' m) (hs : ∀ b o, b ≠ X → s.heap.get? b = some o → h₀.get? b = some o)
    (hX : s.heap.get? X = some oX) (hX' : h'.get? X = some oX) (hp : P v h') : BackR s P (.ok (.ret v)) { s with heap := h', toks := tk } :=
  ⟨v, h', tk, rfl, rfl, fun b o e => by
    by_cases q : b = X
    · subst q; rw [hX] at e; cases e; exact hX'
    · exact F.keep b o (hs b o q e), hp⟩

end Mine
end

section
-- M1
set_option maxHeartbeats 8000000
open PySem
namespace Mine
/-- the number that figures stand for, the lowest first -/
noncomputable def dval (n : Nat) : List Int → Int
  | [] => 0
  | d :: r => d + 2 ^ n * dval n r

theorem dval_append (n : Nat) (xs ys : List Int) : dval n (xs ++ ys) = dval n xs + 2 ^ (n * xs.length) * dval n ys := by
  induction xs with
  | nil => simp [dval]
  | cons x r ih =>
    rw [List.cons_append, dval, ih, dval, List.length_cons, Nat.mul_succ, Int.mul_add, Int.pow_add, Int.add_assoc]
    congr 2
    rw [← Int.mul_assoc, Int.mul_comm (2 ^ n) (2 ^ (n * r.length))]

theorem dval_bound (n : Nat) (xs : List Int) (h : ∀ d ∈ xs, 0 ≤ d ∧ d < 2 ^ n) : 0 ≤ dval n xs ∧ dval n xs < 2 ^ (n * xs.length) := by
  induction xs with
  | nil => simp [dval]
  | cons x r ih =>
    obtain ⟨a, b⟩ := ih fun d hd => h d (.tail _ hd)
    obtain ⟨c, d⟩ := h x (.head _)
    rw [dval, List.length_cons, Nat.mul_succ, Int.pow_add, Int.mul_comm (2 ^ (n * r.length))]
    have hp : (0 : Int) < 2 ^ n := Int.pow_pos (by decide)
    generalize (2 : Int) ^ n = B at *
    generalize (2 : Int) ^ (n * r.length) = C at *
    have h1 : 0 ≤ B * dval n r := Int.mul_nonneg (Int.le_of_lt hp) a
    have h2 : B * dval n r ≤ B * (C - 1) := Int.mul_le_mul_of_nonneg_left (by (first | lia | omega)) (Int.le_of_lt hp)
    rw [Int.mul_sub, Int.mul_one] at h2
    constructor <;> (first | lia | omega)

theorem intBits_le {x : Int} {k : Nat} (h0 : 0 ≤ x) (h : x < 2 ^ k) : Builtin.Int.intBits x ≤ k := by
  unfold Builtin.Int.intBits
  split
  · exact Nat.zero_le _
  · rename_i hx
    have hx' : x ≠ 0 := by simpa using hx
    have hn : x.natAbs ≠ 0 := by (first | lia | omega)
    have : x.natAbs.log2 < k := (Nat.log2_lt hn).mpr (by
      have e : ((x.natAbs : Nat) : Int) = x := by (first | lia | omega)
      have : ((x.natAbs : Nat) : Int) < ((2 ^ k : Nat) : Int) := by rw [e, Int.natCast_pow]; exact h
      exact Int.ofNat_lt.mp this)
    (first | lia | omega)

theorem dval_cut (n : Nat) (ns : List Int) {a m b : Nat} (h1 : a ≤ m) (h2 : m ≤ b) (h3 : b ≤ ns.length) :
    dval n ((ns.drop a).take (b - a)) = dval n ((ns.drop a).take (m - a)) + 2 ^ (n * (m - a)) * dval n ((ns.drop m).take (b - m)) := by
  have e : (ns.drop a).take (b - a) = (ns.drop a).take (m - a) ++ (ns.drop m).take (b - m) := by
    have e1 : b - a = (m - a) + (b - m) := (Nat.add_comm _ _ ▸ Nat.sub_add_sub_cancel h2 h1).symm
    rw [e1, List.take_add, List.drop_drop]
    have e2 : a + (m - a) = m := Nat.add_sub_cancel' h1
    rw [e2]
  have el : ((ns.drop a).take (m - a)).length = m - a := by
    rw [List.length_take, List.length_drop]
    exact Nat.min_eq_left (Nat.sub_le_sub_right (Nat.le_trans h2 h3) _)
  rw [e, dval_append, el]

theorem dval_one (n : Nat) (ns : List Int) {a : Nat} (h : a < ns.length) : dval n ((ns.drop a).take 1) = ns.getD a 0 := by
  have e : (ns.drop a).take 1 = [ns[a]] := by rw [List.drop_eq_getElem_cons h]; rfl
  rw [e]
  simp [dval, h]
theorem cut_mem {ns : List Int} {P : Int → Prop} (h : ∀ d ∈ ns, P d) (a k : Nat) : ∀ d ∈ (ns.drop a).take k, P d := fun d hd => h d (List.mem_of_mem_drop (List.mem_of_mem_take hd))
theorem cut_length {ns : List Int} {a b : Nat} (h : b ≤ ns.length) : ((ns.drop a).take (b - a)).length = b - a := by
  rw [List.length_take, List.length_drop]
  exact Nat.min_eq_left (Nat.sub_le_sub_right h _)
/-! ## the arithmetic of the two halvings -/
theorem ar_fuel (k : Nat) : 500 - (k + 1) < 1000 := Nat.lt_of_le_of_lt (Nat.sub_le _ _) (by decide)
theorem ar_fuel1 {k : Nat} (h : k + 1 ≤ 100) : 500 - (k + 1) + 1 ≤ 500 - k := Nat.le_of_eq (Nat.succ_pred_eq_of_pos (Nat.sub_pos_of_lt (Nat.lt_of_lt_of_le h (by decide))))
theorem ar_fuel4 {k : Nat} (h : k + 1 ≤ 100) : 4 * (500 - (k + 1)) + 3 ≤ 4 * (500 - k) := Nat.le_trans (Nat.add_le_add_left (show 3 ≤ 4 by decide) _) (Nat.mul_le_mul_left 4 (ar_fuel1 h))
theorem ar_mid {a b m : Nat} (h1 : a < b) (h2 : ¬ (a : Int) + 1 = b) (h3 : (a : Int) + b = 2 * m ∨ (a : Int) + b = 2 * m + 1) : a < m ∧ m < b := by (first | lia | omega)
theorem ar_next {a b : Nat} (h : (a : Int) + 1 = b) : b = a + 1 := (Int.ofNat.inj h).symm
theorem ar_one {a b : Nat} (h : (a : Int) + 1 = b) : b - a = 1 := ar_next h ▸ Nat.add_sub_cancel_left a 1
theorem ar_lo {a b m k : Nat} (h : b - a ≤ k + 1) (hm : a < m ∧ m < b) : m - a ≤ k :=
  Nat.sub_le_iff_le_add.mpr (Nat.le_of_lt_succ (Nat.lt_of_lt_of_le hm.2 (Nat.le_trans (Nat.sub_le_iff_le_add.mp h) (Nat.le_of_eq (Nat.add_right_comm k 1 a)))))
theorem ar_hi {a b m k : Nat} (h : b - a ≤ k + 1) (hm : a < m ∧ m < b) : b - m ≤ k :=
  Nat.le_of_lt_succ (Nat.lt_of_lt_of_le (Nat.sub_lt_sub_left (Nat.lt_trans hm.1 hm.2) hm.1) h)
theorem ar_zero {a b : Nat} {P : Prop} (h : a < b) (h2 : b - a ≤ 0) : P := absurd (Nat.sub_pos_of_lt h) (Nat.not_lt.mpr h2)
theorem ar_part {a b n N : Nat} (hn : n ≤ 10000) (h : b ≤ N) (hN : N ≤ 100) : ((n * (b - a) : Nat) : Int) ≤ 1000000 :=
  Int.ofNat_le.mpr (Nat.le_trans (Nat.mul_le_mul hn (Nat.le_trans (Nat.sub_le _ _) (Nat.le_trans h hN))) (by decide))
theorem ar_bits {k c : Nat} {y : Int} (h : k ≤ c) (h1 : (c : Int) ≤ 1000000) (h2 : y ≤ 1000000) : (k : Int) + y ≤ 2 ^ 27 := by (first | lia | omega)
theorem ar_len {a m n N : Nat} (hn : n = N) (hm : m ≤ N) (ha : a ≤ m) : min a n + (m - a) + (n - m) = N := by
  rw [Nat.min_eq_left (Nat.le_trans ha (Nat.le_trans hm (Nat.le_of_eq hn.symm))), Nat.add_sub_cancel' ha, Nat.add_sub_cancel' (Nat.le_trans hm (Nat.le_of_eq hn.symm)), hn]
theorem ar_sum {a m b : Nat} (h : a < m ∧ m < b) : b - m + (m - a) = b - a := Nat.sub_add_sub_cancel (Nat.le_of_lt h.2) (Nat.le_of_lt h.1)
theorem ar_341 {k : Nat} (h : k ≤ 100) : 341 ≤ 500 - k := Nat.le_trans (by decide) (Nat.sub_le_sub_left h 500)
theorem ar_340 {k : Nat} (h : k ≤ 100) : 4 * 340 + 3 ≤ 4 * (500 - k) := Nat.le_trans (by decide) (Nat.mul_le_mul_left 4 (Nat.sub_le_sub_left h 500))
end Mine
end

section
-- M2
set_option maxHeartbeats 8000000
open PySem
namespace Mine
/-- the c lowest figures of x -/
noncomputable def figs (n : Nat) : Nat → Int → List Int
  | 0, _ => []
  | c + 1, x => x % 2 ^ n :: figs n c (x / 2 ^ n)

theorem figs_length (n : Nat) : ∀ (c : Nat) (x : Int), (figs n c x).length = c
  | 0, _ => rfl
  | c + 1, x => by rw [figs, List.length_cons, figs_length n c]

theorem p2pos (k : Nat) : (0 : Int) < 2 ^ k := Int.pow_pos (by decide)

theorem figs_dig (n : Nat) : ∀ (c : Nat) (x : Int), ∀ d ∈ figs n c x, 0 ≤ d ∧ d < 2 ^ n
  | 0, _, _, h => nomatch h
  | c + 1, x, d, h => by
    rcases List.mem_cons.mp h with rfl | h
    · exact ⟨Int.emod_nonneg _ (Int.ne_of_gt (p2pos n)), Int.emod_lt_of_pos _ (p2pos n)⟩
    · exact figs_dig n c _ d h

theorem figs_add (n : Nat) : ∀ (j k : Nat) (x : Int), figs n (j + k) x = figs n j x ++ figs n k (x / 2 ^ (n * j))
  | 0, k, x => by simp [figs]
  | j + 1, k, x => by
    have e : j + 1 + k = (j + k) + 1 := by (first | lia | omega)
    rw [e, figs, figs, figs_add n j k, List.cons_append, Nat.mul_succ, Int.pow_add, Int.mul_comm (2 ^ (n * j)), Int.ediv_ediv_of_nonneg (Int.le_of_lt (p2pos n))]

theorem figs_mod (n : Nat) : ∀ (c : Nat) (x : Int), figs n c (x % 2 ^ (n * c)) = figs n c x
  | 0, _ => rfl
  | c + 1, x => by
    rw [figs, figs]
    have hB := p2pos n
    have hC := p2pos (n * c)
    have e : (2 : Int) ^ (n * (c + 1)) = 2 ^ n * 2 ^ (n * c) := by rw [Nat.mul_succ, Int.pow_add, Int.mul_comm]
    have e1 : x % 2 ^ (n * (c + 1)) % 2 ^ n = x % 2 ^ n := by rw [e]; exact Int.emod_emod_of_dvd _ ⟨_, rfl⟩
    have e2 : x % 2 ^ (n * (c + 1)) / 2 ^ n = x / 2 ^ n % 2 ^ (n * c) := by
      rw [e]
      generalize (2 : Int) ^ n = B at *
      generalize (2 : Int) ^ (n * c) = C at *
      have hBC : 0 < B * C := Int.mul_pos hB hC
      have h1 := Int.emod_add_mul_ediv x (B * C)
      have h2 := Int.emod_nonneg x (Int.ne_of_gt hBC)
      have h3 := Int.emod_lt_of_pos x hBC
      have h4 : x / B = (x % (B * C)) / B + C * (x / (B * C)) := by
        have : x = x % (B * C) + (C * (x / (B * C))) * B := by
          rw [Int.mul_comm (C * _) B, ← Int.mul_assoc]; exact h1.symm
        conv => lhs; rw [this]
        exact Int.add_mul_ediv_right _ _ (Int.ne_of_gt hB)
      rw [h4, Int.add_mul_emod_self_left]
      refine (Int.emod_eq_of_lt (Int.ediv_nonneg h2 (Int.le_of_lt hB)) ?_).symm
      exact Int.ediv_lt_of_lt_mul hB (by rw [Int.mul_comm C B]; exact h3)
    rw [e1, e2, figs_mod n c]

theorem figs_one (n : Nat) {x : Int} (h0 : 0 ≤ x) (h : x < 2 ^ n) : figs n 1 x = [x] := by
  rw [figs, figs, Int.emod_eq_of_lt h0 h]

theorem dval_figs (n : Nat) : ∀ (c : Nat) (x : Int), dval n (figs n c x) = x % 2 ^ (n * c)
  | 0, x => by simp [figs, dval, Int.emod_one]
  | c + 1, x => by
    rw [figs, dval, dval_figs n c]
    have hB := p2pos n
    have hC := p2pos (n * c)
    have e : (2 : Int) ^ (n * (c + 1)) = 2 ^ n * 2 ^ (n * c) := by rw [Nat.mul_succ, Int.pow_add, Int.mul_comm]
    rw [e]
    generalize (2 : Int) ^ n = B at *
    generalize (2 : Int) ^ (n * c) = C at *
    have hBC : 0 < B * C := Int.mul_pos hB hC
    have a1 := Int.emod_add_mul_ediv x B
    have a2 := Int.emod_add_mul_ediv (x / B) C
    have a3 := Int.emod_nonneg x (Int.ne_of_gt hB)
    have a4 := Int.emod_lt_of_pos x hB
    have a5 := Int.emod_nonneg (x / B) (Int.ne_of_gt hC)
    have a6 := Int.emod_lt_of_pos (x / B) hC
    have hx : x = (x % B + B * (x / B % C)) + (B * C) * (x / B / C) := by
      rw [Int.mul_assoc]
      have : B * (x / B % C) + B * (C * (x / B / C)) = B * (x / B) := by rw [← Int.mul_add, a2]
      (first | lia | omega)
    conv => rhs; rw [hx]
    rw [Int.add_mul_emod_self_left]
    have h1 : 0 ≤ B * (x / B % C) := Int.mul_nonneg (Int.le_of_lt hB) a5
    have h2 : B * (x / B % C) ≤ B * (C - 1) := Int.mul_le_mul_of_nonneg_left (by (first | lia | omega)) (Int.le_of_lt hB)
    rw [Int.mul_sub, Int.mul_one] at h2
    exact (Int.emod_eq_of_lt (by (first | lia | omega)) (by (first | lia | omega))).symm

/-- how many figures _int2digits lays -/
noncomputable def cnt (n : Nat) (a : Int) : Nat := (Builtin.Int.intBits a + n - 1) / n
theorem lt_bits {a : Int} (h : 0 ≤ a) : a < 2 ^ Builtin.Int.intBits a := by
  have h1 := PyProof.Rows.natAbs_lt_pow_bits a
  have e : ((a.natAbs : Nat) : Int) = a := by (first | lia | omega)
  have h2 : ((a.natAbs : Nat) : Int) < ((2 ^ Builtin.Int.intBits a : Nat) : Int) := Int.ofNat_lt.mpr h1
  rw [e, Int.natCast_pow] at h2
  exact h2
theorem bits_cnt {n : Nat} (hn : 1 ≤ n) (a : Int) : Builtin.Int.intBits a ≤ n * cnt n a := by
  unfold cnt
  have h1 := Nat.div_add_mod (Builtin.Int.intBits a + n - 1) n
  have h2 := Nat.mod_lt (Builtin.Int.intBits a + n - 1) hn
  exact Nat.le_of_add_le_add_right (Nat.le_trans (Nat.le_of_eq ((Nat.add_sub_assoc hn _).symm.trans h1.symm)) (Nat.add_le_add_left (Nat.le_sub_one_of_lt h2) _))
theorem p2le {a b : Nat} (h : a ≤ b) : (2 : Int) ^ a ≤ 2 ^ b := by
  have h1 : ((2 ^ a : Nat) : Int) ≤ ((2 ^ b : Nat) : Int) := Int.ofNat_le.mpr (Nat.pow_le_pow_right (by decide) h)
  rw [Int.natCast_pow, Int.natCast_pow] at h1
  exact h1
theorem lt_cnt {n : Nat} (hn : 1 ≤ n) {a : Int} (h : 0 ≤ a) : a < 2 ^ (n * cnt n a) :=
  Int.lt_of_lt_of_le (lt_bits h) (p2le (bits_cnt hn a))
theorem cnt_pos {n : Nat} (hn : 1 ≤ n) {a : Int} (h : a ≠ 0) : 0 < cnt n a := by
  unfold cnt
  have : 1 ≤ Builtin.Int.intBits a := by
    unfold Builtin.Int.intBits
    rw [if_neg (by simpa using h)]
    (first | lia | omega)
  exact Nat.div_pos (by (first | lia | omega)) (by (first | lia | omega))
theorem cnt_zero {n : Nat} (hn : 1 ≤ n) : cnt n 0 = 0 := by
  unfold cnt
  rw [show Builtin.Int.intBits 0 = 0 from rfl]
  exact Nat.div_eq_of_lt (by (first | lia | omega))
/-- as many figures as are wanted, where the number is below -/
theorem cnt_le {n c : Nat} (hn : 1 ≤ n) {a : Int} (h0 : 0 ≤ a) (h : a < 2 ^ (n * c)) : cnt n a ≤ c := by
  unfold cnt
  have h1 := intBits_le h0 h
  rw [Nat.div_le_iff_le_mul_add_pred hn]
  exact Nat.le_trans (Nat.le_of_eq (Nat.add_sub_assoc hn _)) (Nat.add_le_add_right h1 _)

theorem and_high (x k : Nat) : x &&& (x / 2 ^ k * 2 ^ k) = x / 2 ^ k * 2 ^ k := by
  apply Nat.eq_of_testBit_eq
  intro i
  rw [Nat.testBit_and, ← Nat.shiftLeft_eq, Nat.testBit_shiftLeft, ← Nat.shiftRight_eq_div_pow, Nat.testBit_shiftRight]
  by_cases h : k ≤ i
  · have : k + (i - k) = i := by (first | lia | omega)
    simp [h, this]
  · simp [h]

/-- x ^ (x >> k << k) is what lies below k -/
theorem xor_low {x : Int} (h0 : 0 ≤ x) (k : Nat) : Builtin.bitXor x (x / 2 ^ k * 2 ^ k) = x % 2 ^ k := by
  obtain ⟨a, rfl⟩ := Int.eq_ofNat_of_zero_le h0
  have e2 : (2 : Int) ^ k = ((2 ^ k : Nat) : Int) := by rw [Int.natCast_pow]; rfl
  have e3 : (a : Int) / 2 ^ k * 2 ^ k = ((a / 2 ^ k * 2 ^ k : Nat) : Int) := by rw [e2, Int.natCast_mul, Int.natCast_ediv]
  have e4 : ((a : Int) / 2 ^ k * 2 ^ k) + (a : Int) % 2 ^ k = a := by rw [Int.add_comm, Int.mul_comm]; exact Int.emod_add_mul_ediv _ _
  have e5 : Builtin.bitAnd (a : Int) ((a / 2 ^ k * 2 ^ k : Nat) : Int) = ((a / 2 ^ k * 2 ^ k : Nat) : Int) := by
    rw [PyProof.Rows.bitAnd_pp (by (first | lia | omega)) (by exact Int.natCast_nonneg _), Int.toNat_natCast, Int.toNat_natCast, and_high]
  rw [e3] at e4 ⊢
  rw [PyProof.Rows.bitXor_and, e5]
  (first | lia | omega)
end Mine
end

section
-- M3
set_option maxHeartbeats 8000000
open PySem
namespace Mine
theorem dp_x {n : Nat} {b r d : Int} (hr0 : 0 ≤ r) (hrb : r < b) (hb : b ≤ 2 ^ n) (hd0 : 0 ≤ d) (hd1 : d < 2 ^ n) :
    0 ≤ r * 2 ^ n + d ∧ r * 2 ^ n + d < b * 2 ^ n ∧ r * 2 ^ n + d < 2 ^ (n + n) ∧ (r * 2 ^ n + d) / b < 2 ^ n ∧ 0 ≤ (r * 2 ^ n + d) / b := by
  have hp := p2pos n
  have hb0 : 0 < b := by (first | lia | omega)
  have e : (2 : Int) ^ (n + n) = 2 ^ n * 2 ^ n := Int.pow_add ..
  rw [e]
  generalize (2 : Int) ^ n = B at *
  have h0 : 0 ≤ r * B := Int.mul_nonneg hr0 (Int.le_of_lt hp)
  have h1 : r * B ≤ (b - 1) * B := Int.mul_le_mul_of_nonneg_right (by (first | lia | omega)) (Int.le_of_lt hp)
  rw [Int.sub_mul, Int.one_mul] at h1
  have h2 : b * B ≤ B * B := Int.mul_le_mul_of_nonneg_right hb (Int.le_of_lt hp)
  refine ⟨by (first | lia | omega), by (first | lia | omega), by (first | lia | omega), ?_, Int.ediv_nonneg (by (first | lia | omega)) (by (first | lia | omega))⟩
  exact Int.ediv_lt_of_lt_mul hb0 (by rw [Int.mul_comm B b]; (first | lia | omega))

theorem b_le {b : Int} (h : 0 < b) : b ≤ 2 ^ Builtin.Int.intBits b := Int.le_of_lt (lt_bits (Int.le_of_lt h))

theorem noPy {x b : Int} (h : Builtin.Int.intBits b ≤ 4000) : Builtin.divisionGoesByPylong x b = false := by
  refine PyProof.noPylong_of_log2 ?_
  unfold Builtin.Int.intBits at h
  split at h
  · rename_i q
    have : b = 0 := by simpa using q
    subst this
    decide
  · (first | lia | omega)

theorem drop_cons {ns : List Int} {k : Nat} {d : Int} (h : ns[k]? = some d) : ns.drop k = d :: ns.drop (k + 1) := by
  obtain ⟨hl, he⟩ := List.getElem?_eq_some_iff.mp h
  rw [← he]
  exact List.drop_eq_getElem_cons hl

theorem dp_step {n : Nat} {b r d V : Int} {qs : List Int} (h : dval n qs.reverse * b + r = V) :
    dval n (qs ++ [(r * 2 ^ n + d) / b]).reverse * b + (r * 2 ^ n + d) % b = d + 2 ^ n * V := by
  subst h
  rw [List.reverse_append, List.reverse_cons, List.reverse_nil, List.nil_append, List.cons_append, List.nil_append, dval]
  have h1 := Int.emod_add_mul_ediv (r * 2 ^ n + d) b
  generalize (r * 2 ^ n + d) / b = q at *
  generalize (r * 2 ^ n + d) % b = m at *
  generalize (2 : Int) ^ n = B at *
  generalize dval n qs.reverse = D at *
  have e1 : (q + B * D) * b = b * q + B * (D * b) := by rw [Int.add_mul, Int.mul_comm q b, Int.mul_assoc]
  have e2 : B * (D * b + r) = B * (D * b) + r * B := by rw [Int.mul_add, Int.mul_comm B r]
  rw [e1, e2]
  (first | lia | omega)

theorem dp_end {b q r a : Int} (hr0 : 0 ≤ r) (hrb : r < b) (h : q * b + r = a) : q = a / b ∧ r = a % b := by
  have hb : b ≠ 0 := by (first | lia | omega)
  subst h
  rw [Int.add_comm, Int.add_mul_ediv_right _ _ hb, Int.add_mul_emod_self_right, Int.ediv_eq_zero_of_lt hr0 hrb, Int.emod_eq_of_lt hr0 hrb]
  simp
end Mine
end

section
-- M4
set_option maxHeartbeats 8000000
namespace Mine
/-- the place that a place is turned to -/
noncomputable def swp (w k : Nat) : Nat := k - k % w + w - 1 - k % w
noncomputable def swapA (w : Nat) (b : Array UInt8) : Array UInt8 := (Array.range b.size).map fun k => b.getD (swp w k) 0
/-- i blocks turned, and j octets of the next -/
noncomputable def fillA (w : Nat) (b : Array UInt8) (i j : Nat) : Array UInt8 := (Array.range b.size).map fun x => if x < i * w ∨ (i * w + w ≤ x + j ∧ x < i * w + w) then b.getD (swp w x) 0 else 0
theorem fillA_size (w : Nat) (b : Array UInt8) (i j : Nat) : (fillA w b i j).size = b.size := by simp [fillA]
theorem fillA_zero (w : Nat) (b : Array UInt8) : fillA w b 0 0 = Array.replicate b.size 0 := by
  apply Array.ext
  · simp [fillA]
  · intro k h1 h2
    simp only [fillA, Array.getElem_map, Array.getElem_range, Array.getElem_replicate]
    rw [if_neg (by omega)]
theorem fillA_next (w : Nat) (b : Array UInt8) (i : Nat) : fillA w b i w = fillA w b (i + 1) 0 := by
  apply Array.ext
  · simp [fillA]
  · intro k h1 h2
    simp only [fillA, Array.getElem_map, Array.getElem_range]
    have : (i + 1) * w = i * w + w := by rw [Nat.add_mul, Nat.one_mul]
    rw [this]
    by_cases h : k < i * w + w
    · rw [if_pos (by omega), if_pos (by omega)]
    · rw [if_neg (by omega), if_neg (by omega)]
theorem fillA_end (w : Nat) (b : Array UInt8) (i : Nat) (h : i * w = b.size) : fillA w b i 0 = swapA w b := by
  apply Array.ext
  · simp [fillA, swapA]
  · intro k h1 h2
    have : k < b.size := by simpa [swapA] using h2
    simp only [fillA, swapA, Array.getElem_map, Array.getElem_range]
    rw [if_pos (by omega)]
theorem swp_at {w i j : Nat} (hj : j < w) : swp w (i * w + w - 1 - j) = i * w + j := by
  have hw : 1 ≤ w := Nat.lt_of_le_of_lt (Nat.zero_le _) hj
  have hj1 : j ≤ w - 1 := Nat.le_sub_of_add_le hj
  have e0 : ∀ x, x ≤ w - 1 → i * w + w - 1 - x = i * w + (w - 1 - x) := fun x hx => by rw [Nat.add_sub_assoc hw, Nat.add_sub_assoc hx]
  have e1 : (i * w + (w - 1 - j)) % w = w - 1 - j := by
    rw [Nat.mul_comm, Nat.mul_add_mod, Nat.mod_eq_of_lt (Nat.lt_of_le_of_lt (Nat.sub_le _ _) (Nat.sub_lt hw Nat.one_pos))]
  rw [e0 j hj1]
  unfold swp
  rw [e1, Nat.add_sub_cancel, e0 _ (Nat.sub_le _ _), Nat.sub_sub_self hj1]
theorem sub_back {X j : Nat} (h : j + 1 ≤ X) : X - 1 - j + (j + 1) = X := by rw [Nat.sub_sub, Nat.add_comm 1 j, Nat.sub_add_cancel h]
theorem fillA_step {w : Nat} {b : Array UInt8} {i j : Nat} (hj : j < w) : (fillA w b i j).setIfInBounds (i * w + w - 1 - j) (b.getD (i * w + j) 0) = fillA w b i (j + 1) := by
  apply Array.ext
  · simp [fillA]
  · intro k h1 h2
    rw [Array.getElem_setIfInBounds (by simpa [fillA] using h2)]
    by_cases e : i * w + w - 1 - j = k
    · rw [if_pos e]
      subst e
      simp only [fillA, Array.getElem_map, Array.getElem_range]
      have hX : j + 1 ≤ i * w + w := Nat.le_trans hj (Nat.le_add_left _ _)
      rw [if_pos (.inr ⟨Nat.le_of_eq (sub_back hX).symm, Nat.lt_of_le_of_lt (Nat.sub_le _ _) (Nat.sub_lt (Nat.lt_of_le_of_lt (Nat.zero_le _) hX) Nat.one_pos)⟩), swp_at hj]
    · rw [if_neg e]
      simp only [fillA, Array.getElem_map, Array.getElem_range]
      by_cases h : k < i * w ∨ (i * w + w ≤ k + j ∧ k < i * w + w)
      · rw [if_pos h, if_pos (h.imp id fun c => ⟨Nat.le_trans c.1 (Nat.le_succ _), c.2⟩)]
      · rw [if_neg h, if_neg fun c => ?_]
        rcases c with c | ⟨c1, c2⟩
        · exact h (.inl c)
        · rcases Nat.lt_or_ge (k + j) (i * w + w) with q | q
          · refine e ?_
            rw [Nat.le_antisymm c1 q, Nat.sub_sub, Nat.add_comm 1 j, Nat.add_sub_cancel]
          · exact h (.inr ⟨q, c2⟩)
end Mine
end

section
-- M5
set_option maxHeartbeats 8000000
open PySem
namespace Mine
theorem intBits_all {m : Nat} (hm : 1 ≤ m) : Builtin.Int.intBits (2 ^ m - 1) = m := by
  have hp := p2pos m
  have h1 : Builtin.Int.intBits (2 ^ m - 1) ≤ m := intBits_le (Int.le_sub_one_of_lt hp) (Int.sub_lt_self _ (by decide))
  have h2 := lt_bits (a := 2 ^ m - 1) (Int.le_sub_one_of_lt hp)
  rcases Nat.lt_or_ge (Builtin.Int.intBits (2 ^ m - 1)) m with h | h
  · exfalso
    have h3 := p2le (show Builtin.Int.intBits (2 ^ m - 1) ≤ m - 1 from Nat.le_sub_one_of_lt h)
    have h4 : (2 : Int) ^ m = 2 ^ (m - 1) * 2 := by rw [← Int.pow_succ]; exact congrArg ((2 : Int) ^ ·) (Nat.sub_add_cancel hm).symm
    have h5 := p2pos (m - 1)
    (first | lia | omega)
  · exact Nat.le_antisymm h1 h
theorem all_pos {m : Nat} (hm : 1 ≤ m) : (0 : Int) < 2 ^ m - 1 := by
  have h := p2le hm
  have : (2 : Int) ^ 1 = 2 := rfl
  (first | lia | omega)
theorem cnt_hundred {n : Nat} {a : Int} (hn : 31 ≤ n) (h0 : 0 ≤ a) (h : a < 2 ^ 3000) : cnt n a ≤ 100 :=
  cnt_le (by (first | lia | omega)) h0 (Int.lt_of_lt_of_le h (p2le (by (first | lia | omega))))
theorem cnt_thou {n : Nat} {a : Int} (h0 : 0 ≤ a) (h : a < 2 ^ 3000) (hn : 12 * 2 ≤ n) : cnt n a ≤ 125 :=
  cnt_le (by (first | lia | omega)) h0 (Int.lt_of_lt_of_le h (p2le (by (first | lia | omega))))
theorem rest_cnt {wd n : Nat} {K : Int} (hw : 1 ≤ wd) : 0 ≤ K % (2 ^ (wd * (n + 1)) - 1) ∧ K % (2 ^ (wd * (n + 1)) - 1) < 2 ^ (wd * (n + 1)) ∧ cnt wd (K % (2 ^ (wd * (n + 1)) - 1)) ≤ n + 1 := by
  have hp := all_pos (m := wd * (n + 1)) (Nat.mul_pos hw (Nat.succ_pos _))
  have h0 := Int.emod_nonneg K (Int.ne_of_gt hp)
  have h1 := Int.emod_lt_of_pos K hp
  exact ⟨h0, by (first | lia | omega), cnt_le hw h0 (by (first | lia | omega))⟩
end Mine
end

section
-- Loop
set_option maxHeartbeats 8000000
open PySem PySem.W PyProof.Rows PySem.Calls
set_option Elab.async false
set_option maxRecDepth 100000
namespace Mine
/-- a goal that the walk leaves to the hand -/
noncomputable def Hold (P : Prop) : Prop := P
theorem Hold.out {P : Prop} (h : Hold P) : P := h
theorem Hold.in {P : Prop} (h : P) : Hold P := h

/-- a frame's map, of which the written names are known -/
noncomputable abbrev mp (l : List (Str × Value)) (u : Str → Option Value) : Str → Option Value := fun y => match l.lookup y with
  | some v => some v
  | none => u y
noncomputable def mpAll (m : Str → Option Value) : List (Str × Value) → Prop
  | [] => True
  | q :: r => m q.1 = some q.2 ∧ mpAll m r
theorem mp_of {m : Str → Option Value} {l : List (Str × Value)} (h : mpAll m l) : m = mp l m := by
  funext y
  unfold mp
  induction l with
  | nil => rfl
  | cons q r ih =>
    obtain ⟨k, v⟩ := q
    rw [List.lookup_cons]
    by_cases e : (y == k) = true
    · have e' : y = k := by simpa using e
      subst e'
      rw [e]
      exact h.1
    · have e' : (y == k) = false := by simpa using e
      rw [e']
      exact ih h.2

theorem fresh_cons {h₀ h h' : Heap} {L D : Addr} {m : Str → Option Value} {news : List (Addr × Obj)} {o : Obj} (F : Fr h₀ L h m) (N : News h₀ L h' news) (hD : h.objs.size ≤ D) (e : h'.get? D = some o) : News h₀ L h' ((D, o) :: news) := by
  intro q hq
  rcases List.mem_cons.mp hq with rfl | hq
  · exact ⟨e, Nat.ne_of_gt (Nat.lt_of_lt_of_le F.ns.lt hD), Heap.get?_none_of_le (Nat.le_trans F.above (Nat.le_trans (Nat.le_of_lt F.ns.lt) hD))⟩
  · exact N q hq
theorem fresh_lt {h₀ h : Heap} {L D : Addr} {news : List (Addr × Obj)} (N : News h₀ L h news) (hD : h.objs.size ≤ D) : ∀ q ∈ news, q.1 < D := fun q hq => Nat.lt_of_lt_of_le (Heap.lt_size (N q hq).1) hD

theorem ints_reverse {vs : List Value} {ns : List Int} (h : IntsAre vs ns) : IntsAre vs.reverse ns.reverse := by
  induction h with
  | nil => exact .nil
  | cons n t _ ih =>
    rw [List.reverse_cons, List.reverse_cons]
    exact IntsAre.append ih (.cons _ _ .nil)
theorem append_L {w : World} {A : Around} {E : Value → Shared → Prop} {s : Shared} {h₀ : Heap} {L D : Addr} {m : Str → Option Value} {news : List (Addr × Obj)} {g : Obj → List (Addr × Obj)} {vs : List Value} {n : Nat} {x : Value} {Q : Value → Shared → Prop}
    (F : Fr h₀ L s.heap m) (N : News h₀ L s.heap news) (U : UpdF D (listOf vs.toArray n) news g) (hz : vs.length ≤ 16777216)
    (h : ∀ h', Fr h₀ L h' m → News h₀ L h' (g (listOf (vs ++ [x]).toArray (n + 1))) → Q .none { s with heap := h' }) : wpAny (model prg w) A (call (.builtin "list.append") [.ref D, x]) Q E s := by
  obtain ⟨pre, post, rfl, hg, a, b⟩ := U.split
  have z := N (D, listOf vs.toArray n) (List.mem_append.mpr (.inr (.head _)))
  refine append_at (hsz := by rw [List.size_toArray, sizeLine_eq]; exact hz) z.1 fun h' hs ho' => h h' (F.change hs z.2.1 z.2.2) ?_
  rw [hg]
  have e : listOf (vs ++ [x]).toArray (n + 1) = listOf (vs.toArray.push x) (n + 1) := by rw [List.push_toArray]
  rw [e]
  exact news_set N a b hs ho'

section
variable {w : World} {A : Around} {E : Value → Shared → Prop} {s : Shared} {env : Env} {h₀ : Heap} {x : Str} {body : List Stmt} {Q : Flow → Shared → Prop}

theorem loop_inv {I : Addr} {fp wr : List Addr} {n : Nat} {P : Nat → Value → Prop} {St : Nat → Heap → Prop} {m₀ : Str → Option Value} {news : List (Addr × Obj)} (W : Walks prg w A I fp wr n P St)
    (J : Nat → (Str → Option Value) → List (Addr × Obj) → Prop) (hLf : env.locals ∉ fp) (hwr : ∀ b ∈ wr, h₀.get? b = none) (hnf : ∀ p ∈ news, p.1 ∉ fp) (hst : St 0 s.heap)
    (F : Fr h₀ env.locals s.heap m₀) (N : News h₀ env.locals s.heap news) (hj : J 0 m₀ news)
    (turn : ∀ i v m₁ news₁ h tk own, i < n → P i v → news₁.map (·.1) = news.map (·.1) → OwnOff own (news.map (·.1)) → J i m₁ news₁ → Fr h₀ env.locals h (fun y => if y = x then some v else m₁ y) → News h₀ env.locals h (news₁ ++ own) →
      wpAny (model prg w) A (execs body env) (InvPostN h₀ env.locals (J (i + 1)) own (news.map (·.1)) { s with heap := h, toks := tk } Q) E { s with heap := h, toks := tk })
    (done : ∀ m₁ news₁ h tk, J n m₁ news₁ → Fr h₀ env.locals h m₁ → News h₀ env.locals h news₁ → Q .next { s with heap := h, toks := tk }) :
    LoopAtV prg w A h₀ env x body Q E (.ref I) s := by
  let J' : Nat → (Str → Option Value) → List (Addr × Obj) → Prop := fun i m₁ news₁ => news₁.map (·.1) = news.map (·.1) ∧ J i m₁ news₁
  refine ⟨I, fp, wr, n, P, St, m₀, news, J', rfl, W, hLf, hwr, fun p hp q => hnf p hp (W.sub _ q), hst, F, N, ⟨rfl, hj⟩, ?_, ?_⟩
  · rintro i v m₁ news₁ s₁ own ⟨hh', tk', rfl⟩ hin hP ⟨hadr, hJ⟩ hoff hown _ _ _ F₁ N₁
    have hsep : OwnOff own (news.map (·.1)) := by
      intro p hp b hb e
      obtain ⟨q, hq, rfl⟩ := List.mem_map.mp hb
      exact hnf q hq (e ▸ hown p hp)
    have N₂ : News h₀ env.locals hh' (news₁ ++ own) := fun p hp => N₁ p ((List.mem_append.mp hp).elim (fun h => List.mem_append.mpr (.inr h)) fun h => List.mem_append.mpr (.inl h))
    refine wpAny_mono (turn i v m₁ news₁ hh' tk' own hin hP hadr hsep hJ F₁ N₂) (fun f s₂ p => ?_) fun _ _ e => e
    have fin : InvEndN h₀ env.locals (J (i + 1)) own (news.map (·.1)) { s with heap := hh', toks := tk' } s₂ → LoopStepU h₀ env.locals wr own (J' (i + 1)) { s with heap := hh', toks := tk' } .next s₂ := by
      rintro ⟨h', tk, m', news', nx, e, F', N', hn, ho, ha, hm⟩
      refine ⟨rfl, h', tk, m', nx, e, F', fun p hp => N' p ((List.mem_append.mp hp).elim (ho p) (hn p)), fun p hp hq => ?_, ha, hm⟩
      have h1 : p.1 ∈ nx.map (·.1) := List.mem_map.mpr ⟨p, hp, rfl⟩
      rw [ha, ← hadr] at h1
      obtain ⟨q, hq1, hq2⟩ := List.mem_map.mp h1
      exact hoff q hq1 (by rw [hq2]; exact hq)
    cases f with
    | ret v => exact .ret p
    | brk => exact .brk p
    | next => exact .next (fin p)
    | cont => exact .cont (fin p)
  · rintro h' tk m' news' F' N' _ ⟨_, hJ⟩
    exact done m' news' h' tk hJ F' N'
end
end Mine
end

section
-- Enum
set_option maxHeartbeats 8000000
open PySem PySem.W PyProof.Rows PySem.Calls
set_option Elab.async false
set_option maxRecDepth 100000
namespace Mine
section
variable {w : World} {A : Around} {s : Shared} {env : Env} {h₀ : Heap} {E : Value → Shared → Prop}
/-- between the turns -/
inductive EInv (s : Shared) (Z : Nat) (l : Addr) (vs : List Value) (h₀ : Heap) (L : Addr) (news : List (Addr × Obj)) (J : Nat → (Str → Option Value) → List (Addr × Obj) → Prop) (k : Nat) (s' : Shared) : Prop
  | mk (h' : Heap) (tk : Nat) (m' : Str → Option Value) (news' : List (Addr × Obj)) (i : Nat) (e : s' = { s with heap := h', toks := tk }) (hst : (∃ old, IsEnum h' (Z + 1) Z i old) ∧ h'.IsListIter Z l i ∧ h'.IsList l vs.toArray)
    (hF : Fr h₀ L h' m') (hN : News h₀ L h' news') (ha : news'.map (·.1) = news.map (·.1)) (hJ : J i m' news') (hi : i ≤ vs.length) (hk : k = vs.length + 1 - i) : EInv s Z l vs h₀ L news J k s'
/-- for xi, xc in enumerate(l), l an old list; with an else -/
theorem enum_loop {xi xc : Str} {pk pv pt : Pos} {x1 : Nat} {body orelse : List Stmt} {l : Addr} {vs : List Value} {m₀ : Str → Option Value} {news : List (Addr × Obj)} {Q : Flow → Shared → Prop} (hh : A.handled = none) (hl : h₀.IsList l vs.toArray)
    (F : Fr h₀ env.locals s.heap m₀) (N : News h₀ env.locals s.heap news) (hxi : env.kindOf xi = some .local) (hxc : env.kindOf xc = some .local)
    (hp : (env.scope.kind == .class || (env.scope.kind == .module && env.locals != env.globals)) = false)
    (J : Nat → (Str → Option Value) → List (Addr × Obj) → Prop) (hj : J 0 m₀ news)
    (turn : ∀ i x m₁ news₁ h tk own t, vs[i]? = some x → news₁.map (·.1) = news.map (·.1) → OwnOff own (news.map (·.1)) → J i m₁ news₁ →
      Fr h₀ env.locals h (fun y => if y = xc then some x else if y = xi then some (.int (i : Nat) t) else m₁ y) → News h₀ env.locals h (news₁ ++ own) →
      wpAny (model prg w) A (execs body env) (InvPostN h₀ env.locals (J (i + 1)) own (news.map (·.1)) { s with heap := h, toks := tk } Q) (fun _ _ => False) { s with heap := h, toks := tk })
    (done : ∀ m₁ news₁ h tk, J vs.length m₁ news₁ → Fr h₀ env.locals h m₁ → News h₀ env.locals h news₁ → wpAny (model prg w) A (execs orelse env) Q (fun _ _ => False) { s with heap := h, toks := tk }) :
    wpAny (model prg w) A (call (.type "enumerate") [.ref l]) (fun xv s₁ => wpAny (model prg w) A (pyIter xv) (fun it s₂ =>
      codeAny (model prg w) A (.forLoop (.Tuple [.Name xi pk, .Name xc pv] x1 pt) it body orelse env) (fun r s' => match r with | .ok f => Q f s' | .error e => cameBackBy (model prg w) A env E e s') s₂) E s₁) E s := by
  have hls : s.heap.IsList l vs.toArray := hl.at fun o e => F.keep l o e
  have hll : l < s.heap.objs.size := by obtain ⟨o, ho, _⟩ := hls; exact Heap.lt_size ho
  have hLs : env.locals < s.heap.objs.size := F.ns.lt
  obtain ⟨ol, hol, _⟩ := id hl
  refine call_enumerate_list hls fun h' hE hI hsz hk => ?_
  refine wpAny_pyIter_enum hE ?_
  generalize hZ : s.heap.objs.size = Z at *
  have W := WalksT.enumerate (prog := prg) (w := w) hh (Z + 1) Z l (Nat.succ_ne_self _) (Nat.ne_of_lt (Nat.lt_succ_of_lt hll)) (Nat.ne_of_lt hll) vs.toArray
  have hLf : env.locals ∉ [Z + 1, Z, l] := fun hm => by
    rcases List.mem_cons.mp hm with e | hm
    · exact Nat.ne_of_lt (Nat.lt_succ_of_lt hLs) e
    · rcases List.mem_cons.mp hm with e | hm
      · exact Nat.ne_of_lt hLs e
      · have := F.above
        have hlt : l < h₀.objs.size := Heap.lt_size hol
        exact Nat.ne_of_gt (Nat.lt_of_lt_of_le hlt this) (List.mem_singleton.mp hm)
  have hLw : env.locals ∉ [Z + 1, Z] := fun h => hLf (W.sub _ h)
  have hn0 : ∀ b ∈ [Z + 1, Z], h₀.get? b = none := fun b hb => by
    have hz : h₀.objs.size ≤ Z := Nat.le_trans F.above (Nat.le_of_lt hLs)
    rcases List.mem_cons.mp hb with rfl | hb
    · exact Heap.get?_none_of_le (Nat.le_succ_of_le hz)
    · rw [List.mem_singleton.mp hb]; exact Heap.get?_none_of_le hz
  have old : ∀ b o, h₀.get? b = some o → b ∉ [Z + 1, Z] := fun b o e hb => by rw [hn0 b hb] at e; cases e
  have hnw : ∀ p ∈ news, p.1 < Z := fun p hp => hZ ▸ Heap.lt_size (N p hp).1
  have hnw' : ∀ news' : List (Addr × Obj), news'.map (·.1) = news.map (·.1) → ∀ p ∈ news', p.1 < Z := fun news' ha p hp => by
    have : p.1 ∈ news.map (·.1) := ha ▸ List.mem_map.mpr ⟨p, hp, rfl⟩
    obtain ⟨q, hq, e⟩ := List.mem_map.mp this
    exact e ▸ hnw q hq
  have hlt2 : ∀ {a : Nat}, a < Z → a ∉ [Z + 1, Z] := fun {a} ha hm => by
    rcases List.mem_cons.mp hm with e | hm
    · exact Nat.ne_of_lt (Nat.lt_succ_of_lt ha) e
    · exact Nat.ne_of_lt ha (List.mem_singleton.mp hm)
  refine codeAny_forLoop_any
    (EInv s Z l vs h₀ env.locals news J) ?_ (vs.length + 1)
    ⟨h', s.toks, m₀, news, 0, rfl, ⟨⟨_, hE⟩, hI, hls.at fun o e => hk l o e⟩, F.keeps hk, N.grown hk, rfl, hj, Nat.zero_le _, rfl⟩
  rintro k s' ⟨H, tk, m', news', i, rfl, hst', F', N', ha', hJ, hi, rfl⟩
  have next : ∀ h₁ : Heap, (∀ b o, b ∉ [Z + 1, Z] → H.get? b = some o → h₁.get? b = some o) → Fr h₀ env.locals h₁ m' ∧ News h₀ env.locals h₁ news' := fun h₁ hk₁ =>
    ⟨⟨F'.ns.at' fun o e => hk₁ _ o hLw e, fun b o e => hk₁ b o (old b o e) (F'.keep b o e), F'.above⟩, fun p hp => ⟨hk₁ _ _ (hlt2 (hnw' news' ha' p hp)) (N' p hp).1, (N' p hp).2⟩⟩
  by_cases hlt : i < vs.length
  · refine W.item i _ _ _ (by simpa using hlt) hst' fun T vals h₁ tk₁ hPt _ hT hMid hk₁ => ?_
    obtain ⟨t, x, hx, rfl⟩ := hPt
    refine W.go _ x1 pt i T _ _ _ hMid fun h₂ hst₂ hk₂ => ?_
    have ht₂ : h₂.IsTuple T #[.int (i : Nat) t, x] := hT.at fun o e => hk₂ T o (W.apart i T h₁ hMid) e
    refine wpAny_assign_Tuple hh ht₂ rfl rfl fun h₃ hx₃ => ?_
    replace hx₃ : Heap.ExtBut h₂.objs.size h₂ h₃ := hx₃
    have up₃ : ∀ b o, h₂.get? b = some o → h₃.get? b = some o := fun b o x => hx₃ b o (Nat.ne_of_lt (Heap.lt_size x)) x
    obtain ⟨F₃, N₃⟩ := next h₃ fun b o hb x => up₃ b o (hk₂ b o hb (hk₁ b o hb x))
    show wpAny _ A (do holding [x] (assign (.Name xi pk) env (.int (i : Nat) t)); do holding [] (assign (.Name xc pv) env x); pure ()) _ _ _
    refine wpAny_bind (wpAny_holding (wpAny_assign_Name (wpAny_storeName_local hxi F₃.ns (fun h₄ hn₄ hs₄ => ?_) hp)))
    replace hs₄ : Heap.SameBut env.locals h₃ h₄ := hs₄
    have F₄ := F₃.set hn₄ hs₄
    refine wpAny_bind (wpAny_holding (wpAny_assign_Name (wpAny_storeName_local hxc F₄.ns (fun h₅ hn₅ hs₅ => wpAny_pure ?_) hp)))
    replace hs₅ : Heap.SameBut env.locals h₄ h₅ := hs₅
    have F₅ := F₄.set hn₅ hs₅
    have N₅ : News h₀ env.locals h₅ news' := (N₃.set hs₄).set hs₅
    have hst₅ := W.frame _ _ h₅ hst₂ fun b hb o e => hs₅.extBut b o (fun q => hLf (q ▸ hb)) (hs₄.extBut b o (fun q => hLf (q ▸ hb)) (up₃ b o e))
    have Nown := (news_ownOf (h₀ := h₀) (h := h₅) hLf)
    have hoff : OwnOff (PyProof.Rows.ownOf h₀ [Z + 1, Z, l] h₅) (news.map (·.1)) := by
      intro p hp b hb e
      obtain ⟨q, hq, rfl⟩ := List.mem_map.mp hb
      have h1 := ownOf_sub p hp
      have h2 := hnw q hq
      rcases List.mem_cons.mp h1 with e1 | h1
      · rw [e1] at e; exact Nat.ne_of_gt (Nat.lt_succ_of_lt h2) e
      · rcases List.mem_cons.mp h1 with e1 | h1
        · rw [e1] at e; exact Nat.ne_of_gt h2 e
        · have e1 := List.mem_singleton.mp h1
          have := (Nown p hp).2.2
          rw [e1, hol] at this; cases this
    refine wpAny_mono (turn i x m' news' h₅ _ _ t (by simpa using hx) ha' hoff hJ F₅ (fun p hp => (List.mem_append.mp hp).elim (N₅ p) (Nown p))) (fun f s₃ h₆ => ?_) fun _ _ e => e.elim
    have fin : ∀ tkk : Nat, InvEndN h₀ env.locals (J (i + 1)) (PyProof.Rows.ownOf h₀ [Z + 1, Z, l] h₅) (news.map (·.1)) { s with heap := h₅, toks := tkk } s₃ →
        ∃ m, m < vs.length + 1 - i ∧ EInv s Z l vs h₀ env.locals news J m s₃ := by
      rintro tkk ⟨h₆', tk₆, m₂, all₂, nx, rfl, F₆, N₆, hn, ho, ha₆, hJ₆⟩
      refine ⟨vs.length + 1 - (i + 1), Nat.sub_lt_sub_left (Nat.lt_succ_of_lt hlt) (Nat.lt_succ_self i), h₆', tk₆, m₂, nx, i + 1, rfl, ?_, F₆, fun p hp => N₆ p (hn p hp), ha₆, hJ₆, hlt, rfl⟩
      refine W.frame _ _ _ hst₅ fun b hb o e => ?_
      cases hn' : h₀.get? b with
      | some o₀ =>
        have : o₀ = o := by have q := F₅.keep b o₀ hn'; rw [e] at q; exact (Option.some.inj q).symm
        exact this ▸ F₆.keep b o₀ hn'
      | none => exact (N₆ _ (ho _ (mem_ownOf hb hn' e))).1
    cases f with
    | ret v => exact h₆
    | brk => exact h₆
    | cont => exact fin _ h₆
    | next => exact fin _ h₆
  · have hin : i = vs.length := Nat.le_antisymm hi (Nat.not_lt.mp hlt)
    subst hin
    have hst'' : _ := hst'
    have eN : vs.toArray.size = vs.length := by simp
    refine W.done _ _ _ (by rw [eN]; exact hst'') fun h₁ tk₁ hk₁ => ?_
    obtain ⟨F₁, N₁⟩ := next h₁ hk₁
    exact wpAny_noRaise (done m' news' h₁ tk₁ hJ F₁ N₁)
end
end Mine
end

section
-- LB
set_option maxHeartbeats 8000000
open PySem PySem.W PyProof.Rows PySem.Calls
set_option Elab.async false
set_option maxRecDepth 100000
namespace Mine
section
variable {w : World} {A : Around} {E : Value → Shared → Prop} {s : Shared}
theorem ints_of_get : ∀ {l : List Value} {ks : List Int}, l.length = ks.length → (∀ (j : Nat) v, l[j]? = some v → ∃ (k : Int) (u : Nat), ks[j]? = some k ∧ v = .int k u) → IntsAre l ks
  | [], [], _, _ => .nil
  | v :: l, k :: ks, hl, h => by
    obtain ⟨k', u, e, rfl⟩ := h 0 v rfl
    have e' : k = k' := by simpa using e
    subst e'
    exact .cons _ _ (ints_of_get (by simpa using hl) fun j v hv => by simpa using h (j + 1) v (by simpa using hv))
theorem ints_of_items {b : Array UInt8} {acc : Array Value} (h : ItemsOf (fun i v => ∃ (c : UInt8) (u : Tok), b[i]? = some c ∧ v = .int (c.toNat : Int) u) acc b.size) : IntsAre acc.toList (KBw.bInts b) := by
  obtain ⟨h1, h2⟩ := h
  refine ints_of_get (by simp [KBw.bInts, h1]) fun j v hv => ?_
  obtain ⟨c, u, hc, rfl⟩ := h2 j v (by simpa using hv)
  exact ⟨_, u, KBw.ints_get hc, rfl⟩
theorem hint_bytes {b : Array UInt8} {t : Tok} {Q : Bool → Shared → Prop} (h : Q false s) : wpAny (model prg w) A (Builtin.List.listLengthHint (.bytes b t)) Q E s := by
  unfold Builtin.List.listLengthHint
  refine wpAny_bind (wpAny_specialOf (typeIs_bytes s b t) FB.slot_bytes_len.lookup ?_)
  generalize hid : ("bytes.__len__" : String) = id0
  wp_delta
  rw [show splitId id0 = some ("bytes", "__len__") from by subst hid; decide +kernel]
  subst hid
  refine wpAny_bind (wpAny_isInstance (T := "bytes") (b := true) (typeIs_bytes s b t) F.bm_sub ?_)
  refine wpAny_ite_split (fun hab => absurd hab (by decide)) (fun _ => ?_)
  refine wpAny_ite_split (fun _ => ?_) (fun hab => absurd (by decide +kernel) hab)
  exact wpAny_bind (wpAny_typeOf (typeIs_bytes s b t) (wpAny_pure h))
theorem list_bytes {b : Array UInt8} {t : Tok} {Q : Value → Shared → Prop} (hh : A.handled = none) (hz : b.size ≤ 1000)
    (hQ : ∀ h' tk vs ep, Sub s.heap h' → h'.get? s.heap.objs.size = some (listOf vs.toArray ep) → IntsAre vs (KBw.bInts b) → Q (.ref s.heap.objs.size) { s with heap := h', toks := tk }) :
    wpAny (model prg w) A (call (.type "list") [.bytes b t]) Q E s := by
  refine callType_codes (Q₁ := fun obj s₁ => obj = .ref s.heap.objs.size ∧ s₁ = { s with heap := s.heap.push { cls := .type "list", data := .seq #[] } }) F.called_list (F.typeCall_list_1 _) F.entry_list_init
    (code_list_new _ ⟨rfl, rfl⟩) fun obj s₁ h₁ => ?_
  obtain ⟨rfl, rfl⟩ := h₁
  generalize hZ : s.heap.objs.size = Z at *
  have hS : (s.heap.push { cls := .type "list", data := .seq #[] }).get? Z = some { cls := .type "list", data := .seq #[] } := hZ ▸ Heap.get?_push_size _ rfl
  refine ⟨⟨_, hS, rfl⟩, F.args_list_init_2 _ _, ?_⟩
  show wpAny _ _ (do let old ← Builtin.List.listItems (.ref Z); Builtin.List.listUpdate (.ref Z) (fun _ => #[]); letGo old.toList.reverse; Builtin.List.listExtendWith (.ref Z) (.bytes b t) .none) _ _ _
  refine wpAny_bind ?_
  unfold Builtin.List.listItems
  refine wpAny_bind (wpAny_seqItems hS rfl (wpAny_pure ?_))
  show wpAny _ _ (updateSeq Z (fun _ => #[]) >>= fun _ => letGo (#[] : Array Value).toList.reverse >>= fun _ => Builtin.List.listExtendWith (.ref Z) (.bytes b t) .none) _ _ _
  refine wpAny_bind (wpAny_updateSeq hS rfl ?_)
  have hS₂ := Heap.get?_update_self (Obj.mapSeq (fun _ => (#[] : Array Value))) hS rfl
  refine wpAny_bind (wpAny_letGo ?_)
  have old : ∀ b o, s.heap.get? b = some o → ((s.heap.push { cls := .type "list", data := .seq #[] }).update Z (Obj.mapSeq (fun _ => (#[] : Array Value)))).get? b = some o := fun b o e =>
    (Heap.get?_update_other _ _ (fun q => Nat.ne_of_lt (Heap.lt_size e) (by rw [hZ]; exact q.symm))).trans (Heap.get?_push_of_some _ e)
  revert hS₂ old
  generalize (s.heap.push { cls := .type "list", data := .seq #[] }).update Z (Obj.mapSeq (fun _ => (#[] : Array Value))) = H
  intro hS₂ old
  unfold Builtin.List.listExtendWith
  refine wpAny_bind (wpAny_typeOf (T := "bytes") (typeIs_bytes _ b t) ?_)
  have h1 : Builtin.List.listSameRef (.ref Z) (.bytes b t) = false := rfl
  have h2 : (Value.type "bytes" == Value.type "list") = false := by decide
  have h3 : (Value.type "bytes" == Value.type "tuple") = false := by decide
  simp only [h1, h2, h3, Bool.or_false, Bool.false_eq_true, if_false]
  refine wpAny_bind (KBw.pyIter_bytes ?_)
  refine wpAny_bind (wpAny_holding (hint_bytes ?_))
  have hSlt : Z < H.objs.size := Heap.lt_size hS₂
  have W := (KBw.walks (prog := prg) (w := w) (A := A.in1.in1) hh H.objs.size b t).toS
  have hS₃ := Heap.get?_push_of_some { cls := .type "bytes_iterator", data := .fields #[.bytes b t, .int 0 0] } hS₂
  refine wpAny_ite_split (fun hab => absurd hab (by decide +kernel)) (fun _ => wpAny_pure ⟨plainId_quiet F.plain_extend_loop _, ?_⟩)
  refine codeAny_extend_loopS W (by rw [sizeLine_eq]; (first | lia | omega)) Z (fun hm => Nat.ne_of_lt hSlt (List.mem_singleton.mp hm)) .none b.size 0 _ #[] _ rfl (Nat.zero_le _) ⟨_, Heap.get?_push_size _ rfl, rfl, rfl⟩ hS₃ (ItemsOf.nil _) fun s' acc' c' hm hS' hacc => ?_
  rw [Moved.eq_with hm]
  refine ⟨rfl, hQ s'.heap s'.toks acc'.toList c' (fun b o e => hm.heap b o (fun hmem => ?_) (Heap.get?_push_of_some _ (old b o e))) (by rw [Array.toArray_toList]; exact hS') (ints_of_items hacc)⟩
  rcases List.mem_cons.mp hmem with e' | hmem
  · exact Nat.ne_of_lt (Heap.lt_size e) (by rw [hZ]; exact e')
  · exact Nat.ne_of_lt (Heap.lt_size (old b o e)) (List.mem_singleton.mp hmem)
end
end Mine
end

section
-- P1
set_option maxHeartbeats 8000000
theorem Mine.anew13 : True := by w_top off; trivial
open PySem PySem.W PyProof.Rows PySem.Calls
set_option Elab.async false
set_option maxRecDepth 100000
namespace Mine
variable {w : World} {p : Program} {loose : List Str} {mean : ExcName → Option Value} {mg mb : Str → Option Value} {hb : Heap}

local macro_rules | `(tactic| mul_fits) => `(tactic| assumption)
local macro_rules | `(tactic| walk_at "binaryOp LShift int int") => `(tactic| (refine lshift_int (by assumption) (by assumption) ?_))

set_option maxHeartbeats 4000000 in
theorem c_add (G : Gnd w p loose mean mg mb hb) {s : Shared} (SB : Sub hb s.heap) (x y : Int) (tx ty : Nat)  :
    Ret 500 w 21 [.int x tx, .int y ty] s (fun v _ => ∃ t, v = .int (x + y) t) := by
  have KX : (hd.heap_39 w.params).In hb ∧ PySem.Challenge.rw_we0015_01 = PySem.Challenge.rw_we0015_01 := by k_fill; exact ⟨G.K, rfl⟩
  refine ret_of ?_
  refine enter0 G SB [("a", .int x tx), ("b", .int y ty)] (by k_is) (by k_is) (by decide) rfl (locs rfl) rfl rfl rfl (by decide) ?_
  intro h₁ L tk X' T' F' N' hL hk
  k_fold
  k_steps
  all_goals exact back_of F' (fun _ _ e => e) ⟨_, rfl⟩

set_option maxHeartbeats 4000000 in
theorem c_and (G : Gnd w p loose mean mg mb hb) {s : Shared} (SB : Sub hb s.heap) (x y : Int) (tx ty : Nat)  :
    Ret 500 w 28 [.int x tx, .int y ty] s (fun v _ => ∃ t, v = .int (Builtin.bitAnd x y) t) := by
  have KX : (hd.heap_39 w.params).In hb ∧ PySem.Challenge.rw_we0015_01 = PySem.Challenge.rw_we0015_01 := by k_fill; exact ⟨G.K, rfl⟩
  refine ret_of ?_
  refine enter0 G SB [("a", .int x tx), ("b", .int y ty)] (by k_is) (by k_is) (by decide) rfl (locs rfl) rfl rfl rfl (by decide) ?_
  intro h₁ L tk X' T' F' N' hL hk
  k_fold
  k_steps
  all_goals exact back_of F' (fun _ _ e => e) ⟨_, rfl⟩

set_option maxHeartbeats 4000000 in
theorem c_lshift (G : Gnd w p loose mean mg mb hb) {s : Shared} (SB : Sub hb s.heap) (x y : Int) (tx ty : Nat) (hy : 0 ≤ y) (hz : (Builtin.Int.intBits x : Int) + y ≤ 2 ^ 27) :
    Ret 500 w 35 [.int x tx, .int y ty] s (fun v _ => ∃ t, v = .int (x * 2 ^ y.toNat) t) := by
  have KX : (hd.heap_39 w.params).In hb ∧ PySem.Challenge.rw_we0015_01 = PySem.Challenge.rw_we0015_01 := by k_fill; exact ⟨G.K, rfl⟩
  refine ret_of ?_
  refine enter0 G SB [("a", .int x tx), ("b", .int y ty)] (by k_is) (by k_is) (by decide) rfl (locs rfl) rfl rfl rfl (by decide) ?_
  intro h₁ L tk X' T' F' N' hL hk
  k_fold
  k_steps
  all_goals exact back_of F' (fun _ _ e => e) ⟨_, rfl⟩

set_option maxHeartbeats 4000000 in
theorem c_mod (G : Gnd w p loose mean mg mb hb) {s : Shared} (SB : Sub hb s.heap) (x y : Int) (tx ty : Nat) (hy : y ≠ 0) :
    Ret 500 w 42 [.int x tx, .int y ty] s (fun v _ => ∃ t, v = .int (x.fmod y) t) := by
  have KX : (hd.heap_39 w.params).In hb ∧ PySem.Challenge.rw_we0015_01 = PySem.Challenge.rw_we0015_01 := by k_fill; exact ⟨G.K, rfl⟩
  refine ret_of ?_
  refine enter0 G SB [("a", .int x tx), ("b", .int y ty)] (by k_is) (by k_is) (by decide) rfl (locs rfl) rfl rfl rfl (by decide) ?_
  intro h₁ L tk X' T' F' N' hL hk
  k_fold
  k_steps
  all_goals exact back_of F' (fun _ _ e => e) ⟨_, rfl⟩

set_option maxHeartbeats 4000000 in
theorem c_mul (G : Gnd w p loose mean mg mb hb) {s : Shared} (SB : Sub hb s.heap) (x y : Int) (tx ty : Nat) (hm : IntMulOk x y) :
    Ret 500 w 49 [.int x tx, .int y ty] s (fun v _ => ∃ t, v = .int (x * y) t) := by
  have KX : (hd.heap_39 w.params).In hb ∧ PySem.Challenge.rw_we0015_01 = PySem.Challenge.rw_we0015_01 := by k_fill; exact ⟨G.K, rfl⟩
  refine ret_of ?_
  refine enter0 G SB [("a", .int x tx), ("b", .int y ty)] (by k_is) (by k_is) (by decide) rfl (locs rfl) rfl rfl rfl (by decide) ?_
  intro h₁ L tk X' T' F' N' hL hk
  k_fold
  k_steps
  all_goals exact back_of F' (fun _ _ e => e) ⟨_, rfl⟩

set_option maxHeartbeats 4000000 in
theorem c_or (G : Gnd w p loose mean mg mb hb) {s : Shared} (SB : Sub hb s.heap) (x y : Int) (tx ty : Nat)  :
    Ret 500 w 56 [.int x tx, .int y ty] s (fun v _ => ∃ t, v = .int (Builtin.bitOr x y) t) := by
  have KX : (hd.heap_39 w.params).In hb ∧ PySem.Challenge.rw_we0015_01 = PySem.Challenge.rw_we0015_01 := by k_fill; exact ⟨G.K, rfl⟩
  refine ret_of ?_
  refine enter0 G SB [("a", .int x tx), ("b", .int y ty)] (by k_is) (by k_is) (by decide) rfl (locs rfl) rfl rfl rfl (by decide) ?_
  intro h₁ L tk X' T' F' N' hL hk
  k_fold
  k_steps
  all_goals exact back_of F' (fun _ _ e => e) ⟨_, rfl⟩

end Mine
end

section
-- P2
set_option maxHeartbeats 8000000
theorem Mine.anew14 : True := by w_top off; trivial
open PySem PySem.W PyProof.Rows PySem.Calls
set_option Elab.async false
set_option maxRecDepth 100000
namespace Mine
variable {w : World} {p : Program} {loose : List Str} {mean : ExcName → Option Value} {mg mb : Str → Option Value} {hb : Heap}

local macro_rules | `(tactic| walk_at "call builtin:divmod") => `(tactic| (refine divmod_N (by k_asm) (by k_asm) (by assumption) ?_ (Or.inl (by assumption)); intro h' F' N'))
noncomputable abbrev tup2 (q r : Int) (t u : Nat) : Obj := { cls := .type "tuple", data := .seq #[.int q t, .int r u] }

set_option maxHeartbeats 4000000 in
theorem c_div2n1n (G : Gnd w p loose mean mg mb hb) {s : Shared} (SB : Sub hb s.heap) (x y n : Int) (tx ty tn : Nat) (hy : y ≠ 0) (hn : (Builtin.Int.intBits x : Int) - n ≤ 4000) (hp : Builtin.divisionGoesByPylong x y = false) :
    Ret 500 w 70 [.int x tx, .int y ty, .int n tn] s (fun v h' => ∃ a t u, v = .ref a ∧ s.heap.objs.size ≤ a ∧ h'.get? a = some (tup2 (x.fdiv y) (x.fmod y) t u)) := by
  have KX : (hd.heap_39 w.params).In hb ∧ PySem.Challenge.rw_we0015_01 = PySem.Challenge.rw_we0015_01 := by k_fill; exact ⟨G.K, rfl⟩
  refine ret_of ?_
  refine enter0 G SB [("a", .int x tx), ("b", .int y ty), ("n", .int n tn)] (by k_is) (by k_is) (by decide) rfl (locs rfl) rfl rfl rfl (by decide) ?_
  intro h₁ L tk X' T' F' N' hL hk
  k_fold
  k_steps
  all_goals exact back_of (by assumption) (fun _ _ e => e) ⟨_, _, _, rfl, Nat.le_trans (Nat.le_of_eq hL) (Nat.le_of_lt (Fr.ns F').lt), News.get (by assumption) (.head _)⟩
end Mine
end

section
-- P3a
set_option maxHeartbeats 8000000
theorem Mine.anew15 : True := by w_top off; trivial
open PySem PySem.W PyProof.Rows PySem.Calls
set_option Elab.async false
set_option maxRecDepth 100000
namespace Mine
variable {w : World} {p : Program} {loose : List Str} {mean : ExcName → Option Value} {mg mb : Str → Option Value} {hb : Heap}

noncomputable def innerOf (p : Program) (i : Nat) : Option (Arguments × List Stmt × Scope) := match p.main.body[i]? with
  | some (.FunctionDef _ _ body ..) => body.findSome? fun
    | .FunctionDef (args := a) (body := b) (scope := s) .. => some (a, b, s)
    | _ => none
  | _ => none

theorem nameX_H {M : Model} {A : Around} {E : Value → Shared → Prop} {s : Shared} {h₀ : Heap} {L a : Addr} {m : Str → Option Value} {cn : Str} {cs : Scope} {ccd : Value} {cl : List (Str × Addr)}
    {x : Str} {pos : Pos} {v : Value} {Q : Value → Shared → Prop} {c : Addr} (F : Fr h₀ L s.heap m) (hc : cl.lookup x = some c) (hv : h₀.IsCell c (some v)) (h : Q v s)
    (hk : cs.kind = .function := by rfl) (hx : (envX cn cs L a ccd cl).kindOf x = some .free := by rfl) (hb : (x == ("__debug__" : Str)) = false := by decide) (hn : (x == ("__classdict__" : Str)) = false := by decide) :
    wpAny M A (eval (.Name x pos) (envX cn cs L a ccd cl)) Q E s :=
  wpAny_Name (wpAny_loadName_free hk hx hc (let ⟨o, e, d⟩ := hv; ⟨o, F.keep _ _ e, d⟩) h hn) hb
local macro_rules | `(tactic| walk_at "eval Name") => `(tactic| (k_here; k_dflt (refine' nameX_H ?F ?c ?v ?_ ?a ?b; (case a => rfl); (case b => rfl); (case F => k_asm); (case c => rfl); (case v => assumption); k_whole)))

theorem rshift1 {w : World} {A : Around} {E : Value → Shared → Prop} {s : Shared} {x : Int} {t u : Tok} {Q : Value → Shared → Prop} (hx : 0 ≤ x)
    (h : ∀ m : Nat, (x = 2 * m ∨ x = 2 * m + 1) → Q (.int m s.toks) { s with toks := s.toks + 1 }) : wpAny (model prg w) A (binaryOp .RShift (.int x t) (.int 1 u)) Q E s := by
  refine rshift_int (by decide) ?_
  have e : x.fdiv (2 ^ (1 : Int).toNat) = ((x / 2).toNat : Int) := by
    rw [Int.fdiv_eq_ediv_of_nonneg _ (by decide)]
    show x / 2 = _
    (first | lia | omega)
  rw [e]
  exact h _ (by (first | lia | omega))
local macro_rules | `(tactic| walk_at "binaryOp RShift int int") => `(tactic| (refine rshift1 (by omega) ?_; intro m' hm'))

local macro_rules | `(tactic| walk_at "binaryOp LShift int int") => `(tactic| (refine lshift_int (by assumption) (by assumption) ?_))
set_option maxHeartbeats 4000000 in
theorem inner_d2i (G : Gnd w p loose mean mg mb hb) {hX : Heap} (SX : Sub hb hX) {params : Arguments} {body : List Stmt} {scope : Scope} (hsyn : innerOf PySem.Challenge.pw_we0015_01 13 = some (params, body, scope))
    {f c' c1 c2 c3 l : Addr} {fo : Obj} {qual : Str} {doc pm ct : Value} {n : Nat} {tn : Nat} {vs : List Value} {ns : List Int}
    (hf : hX.get? f = some fo) (hfo : fo.data = .func (fnX "inner" qual params body scope [("n", c2), ("inner", c3), ("digits", c1)] .none .none doc pm none (.ref c') ct)) (hcr : hX.CodeRec (.ref c') qual)
    (h1 : hX.IsCell c1 (some (.ref l))) (h2 : hX.IsCell c2 (some (.int n tn))) (h3 : hX.IsCell c3 (some (.ref f))) (hl : hX.IsList l vs.toArray) (hi : IntsAre vs ns) (hlen : ns.length ≤ 100) (hn : n ≤ 10000)
    (hdig : ∀ d ∈ ns, 0 ≤ d ∧ d < 2 ^ n) :
    ∀ (k : Nat) (s : Shared), Sub hX s.heap → ∀ (a b ta tb : Nat), a < b → b ≤ ns.length → b - a ≤ k → k ≤ 100 →
      Ret (500 - k) w f [.int a ta, .int b tb] s (fun v _ => ∃ t, v = .int (dval n ((ns.drop a).take (b - a))) t) := by
  cases (show some _ = some (params, body, scope) from hsyn)
  have KX : (hd.heap_39 w.params).In hb ∧ PySem.Challenge.rw_we0015_01 = PySem.Challenge.rw_we0015_01 := by k_fill; exact ⟨G.K, rfl⟩
  intro k
  induction k with
  | zero => exact fun s _ a b ta tb h1 _ h3 _ => ar_zero h1 h3
  | succ k ih =>
    intro s SS a b ta tb hab hbn hk hk2
    have SB : Sub hb s.heap := fun x o e => SS x o (SX x o e)
    refine ret_of ?_
    have cell : ∀ {c v}, hX.IsCell c v → s.heap.IsCell c v := fun ⟨o, e, d⟩ => ⟨o, SS _ _ e, d⟩
    have gl : s.heap.IsList l vs.toArray := let ⟨o, e, r⟩ := hl; ⟨o, SS _ _ e, r⟩
    have g1 := cell h1
    have g2 := cell h2
    have g3 := cell h3
    refine enterX0 [("L", .int a ta), ("R", .int b tb)] G SB (SS _ _ hf) hfo (hcr.keeps SS) (ar_fuel k) rfl (locs rfl) rfl rfl rfl (by decide) ?_
    intro h₁ L tk X' T' F' N' hL
    k_fold
    k_steps
    · refine back_of F' (fun _ _ e => e) ?_
      have e : b - a = 1 := ar_one (by assumption)
      rw [e, dval_one n ns (by (first | lia | omega))]
      exact ⟨_, rfl⟩
    · exact Fr.keep (by assumption) _ _ (SS _ _ hf)
    · rename_i hne m hm hA hB F N
      have hm1 : a < m ∧ m < b := ar_mid hab hne hm
      clear hm hne
      have bM := dval_bound n _ (cut_mem hdig m (b - m))
      rw [cut_length hbn] at bM
      have hsz : ((n * (b - m) : Nat) : Int) ≤ 1000000 := ar_part hn hbn hlen
      have em : ((m : Int) - (a : Int)) * (n : Int) = ((n * (m - a) : Nat) : Int) := by
        rw [Int.natCast_mul, Int.mul_comm, Int.ofNat_sub (Nat.le_of_lt hm1.1)]
      have hmn : m ≤ ns.length := Nat.le_trans (Nat.le_of_lt hm1.2) hbn
      have hsz2 : ((n * (m - a) : Nat) : Int) ≤ 1000000 := ar_part hn hmn hlen
      refine Ret.use (ih _ (fun x o e => F.keep _ _ (SS x o e)) m b _ _ hm1.2 hbn (ar_hi hk hm1) (Nat.le_of_succ_le hk2)) F N rfl (ar_fuel1 hk2) (ar_fuel4 hk2) ?_
      rintro v h' tk' ⟨t, rfl⟩ hs' F N
      have hbits := intBits_le bM.1 bM.2
      have hsh : 0 ≤ ((m : Int) - (a : Int)) * (n : Int) := by rw [em]; exact Int.natCast_nonneg _
      have hfit : (Builtin.Int.intBits (dval n ((ns.drop m).take (b - m))) : Int) + ((m : Int) - (a : Int)) * (n : Int) ≤ 2 ^ 27 := by rw [em]; exact ar_bits hbits hsz hsz2
      k_steps
      · exact Fr.keep (by assumption) _ _ (SS _ _ hf)
      · refine Ret.use (ih _ (fun x o e => F.keep _ _ (SS x o e)) a m _ _ hm1.1 hmn (ar_lo hk hm1) (Nat.le_of_succ_le hk2)) F N rfl (ar_fuel1 hk2) (ar_fuel4 hk2) ?_
        rintro v h'' tk'' ⟨t', rfl⟩ hs'' F2 N2
        k_steps
        refine back_of F2 (fun _ _ e => e) ?_
        rw [dval_cut n ns (a := a) (m := m) (b := b) (Nat.le_of_lt hm1.1) (Nat.le_of_lt hm1.2) hbn]
        have e : dval n ((ns.drop a).take (m - a)) + 2 ^ (n * (m - a)) * dval n ((ns.drop m).take (b - m)) =
            dval n ((ns.drop m).take (b - m)) * 2 ^ (((m : Int) - (a : Int)) * (n : Int)).toNat + dval n ((ns.drop a).take (m - a)) := by
          rw [em, Int.toNat_natCast, Int.add_comm, Int.mul_comm (2 ^ (n * (m - a)))]
        rw [e]
        exact ⟨_, rfl⟩
end Mine
end

section
-- P3b
set_option maxHeartbeats 8000000
theorem Mine.anew16 : True := by w_top off; trivial
open PySem PySem.W PyProof.Rows PySem.Calls
set_option Elab.async false
set_option maxRecDepth 100000
namespace Mine
variable {w : World} {p : Program} {loose : List Str} {mean : ExcName → Option Value} {mg mb : Str → Option Value} {hb : Heap}

set_option maxHeartbeats 4000000 in
theorem c_d2i_E (G : Gnd w p loose mean mg mb hb) {s : Shared} (SB : Sub hb s.heap) (l : Addr) (vs : List Value) (ns : List Int) (n : Nat) (tn : Nat) (hl : s.heap.IsList l vs.toArray) (hi : IntsAre vs ns)
    (hlen : ns.length ≤ 100) (hn : n ≤ 10000) (hdig : ∀ d ∈ ns, 0 ≤ d ∧ d < 2 ^ n) (h86 : s.heap.get? 86 = some (tabObj #[])) :
    RetX 340 w 91 [.ref l, .int n tn] s 86 (fun v h' => (∃ t, v = .int (dval n ns) t) ∧ ∃ c, s.heap.objs.size ≤ c ∧ Tab86 h' c) := by
  have KX : (hd.heap_39 w.params).In hb ∧ PySem.Challenge.rw_we0015_01 = PySem.Challenge.rw_we0015_01 := by k_fill; exact ⟨G.K, rfl⟩
  refine retX_of ?_
  refine enterC [(86, tabObj #[])] [("digits", .ref l), ("n", .int n tn)] G SB (by k_is) (by k_is) (by decide) rfl rfl (by decide +kernel) rfl rfl rfl (fun q hq => by rw [List.mem_singleton.mp hq]; exact h86) (fun q hq => by rw [List.mem_singleton.mp hq]; exact G.n86) ?_
  intro h₀ h₁ L tk cells gb X' T' F' N' Y' hL hlt
  k_cells Y'
  simp only [List.cons_append, List.nil_append] at N'
  have hl0 := gb.list hl fun q hq => by rw [List.mem_singleton.mp hq]; exact tab_ne hl h86
  have C86 := G.c86.keeps gb.sub
  k_lt hlt
  have g86 : ∀ b o, b ≠ 86 → s.heap.get? b = some o → h₀.get? b = some o := fun b o hb e => gb.new b o e fun q hq => by rw [List.mem_singleton.mp hq]; exact hb
  k_unmd
  k_fold
  k_steps
  · rename_i o1 o2 o3 d1 d2 d3 f c oc vs' t' ct dc hA tkA e1 e2 l1 l2 hB o4 F N e4 hpos
    have m86 := News.get N (.tail _ (.tail _ (.tail _ (.tail _ (.tail _ (.head _))))))
    have mc := News.get N (.tail _ (.head _))
    have hcr : hB.CodeRec (.ref c) q86 := ⟨c, oc, vs', t', rfl, mc, e1, e2⟩
    have t86 : Tab86 hB c := ⟨m86, Nat.ne_of_gt l1.2.2.2, hcr⟩
    have R1 := inner_d2i G (hX := hB) (fun x o e => F.keep _ _ (gb.sub x o e)) rfl (News.get N (.head _)) rfl hcr ⟨o3, News.get N (.tail _ (.tail _ (.tail _ (.tail _ (.head _))))), d3⟩ ⟨o2, News.get N (.tail _ (.tail _ (.tail _ (.head _)))), d2⟩
      ⟨o4, News.get N (.tail _ (.tail _ (.head _))), e4⟩ (let ⟨o, e, r⟩ := hl0; ⟨o, F.keep _ _ e, r⟩) hi hlen hn hdig ns.length
      { heap := hB, gens := s.gens, drawn := s.drawn, toks := tkA + 1 + 1 + 1 + 1 + 1, os := s.os } (fun _ _ e => e) 0 ns.length (tkA + 1 + 1) (tkA + 1 + 1 + 1 + 1) hpos (Nat.le_refl _) (by (first | lia | omega)) hlen
    refine Ret.use R1 F N rfl (by show 341 ≤ 500 - ns.length; (first | lia | omega)) (by show 4 * 340 + 3 ≤ 4 * (500 - ns.length); (first | lia | omega)) ?_
    rintro v h' tk' ⟨t, rfl⟩ hs' F2 N2
    refine backX_of F2 g86 ⟨⟨t, ?_⟩, c, Nat.le_trans (Nat.le_of_eq hL) (Nat.le_of_lt (ltN (by (first | lia | omega)))), t86.keeps hs'⟩
    rw [List.drop_zero, Nat.sub_zero, List.take_length]
  · rename_i o1 o2 o3 d1 d2 d3 f c oc vs' t' ct dc hA tkA e1 e2 l1 l2 hB o4 F N e4 hpos
    have m86 := News.get N (.tail _ (.tail _ (.tail _ (.tail _ (.tail _ (.head _))))))
    have mc := News.get N (.tail _ (.head _))
    have : ns = [] := List.eq_nil_of_length_eq_zero (by (first | lia | omega))
    subst this
    exact backX_of F g86 ⟨⟨_, rfl⟩, c, Nat.le_trans (Nat.le_of_eq hL) (Nat.le_of_lt (ltN (by (first | lia | omega)))), m86, Nat.ne_of_gt l1.2.2.2, c, oc, vs', t', rfl, mc, e1, e2⟩

set_option maxHeartbeats 4000000 in
theorem c_d2i_F (G : Gnd w p loose mean mg mb hb) {s : Shared} (SB : Sub hb s.heap) (l : Addr) (vs : List Value) (ns : List Int) (n : Nat) (tn : Nat) (hl : s.heap.IsList l vs.toArray) (hi : IntsAre vs ns)
    (hlen : ns.length ≤ 100) (hn : n ≤ 10000) (hdig : ∀ d ∈ ns, 0 ≤ d ∧ d < 2 ^ n) {c : Addr} (h86 : Tab86 s.heap c) :
    Ret 340 w 91 [.ref l, .int n tn] s (fun v h' => ∃ t, v = .int (dval n ns) t) := by
  have KX : (hd.heap_39 w.params).In hb ∧ PySem.Challenge.rw_we0015_01 = PySem.Challenge.rw_we0015_01 := by k_fill; exact ⟨G.K, rfl⟩
  obtain ⟨h86, hc, hcr⟩ := h86
  refine ret_of ?_
  refine enterC [(86, tabObj #[rawInt (66 : Nat), rawInt (4 : Nat), .ref c])] [("digits", .ref l), ("n", .int n tn)] G SB (by k_is) (by k_is) (by decide) rfl rfl (by decide +kernel) rfl rfl rfl (fun q hq => by rw [List.mem_singleton.mp hq]; exact h86) (fun q hq => by rw [List.mem_singleton.mp hq]; exact G.n86) ?_
  intro h₀ h₁ L tk cells gb X' T' F' N' Y' hL hlt
  k_cells Y'
  simp only [List.cons_append, List.nil_append] at N'
  have hl0 := gb.list hl fun q hq => by rw [List.mem_singleton.mp hq]; exact tab_ne hl h86
  have C86 := G.c86.keeps gb.sub
  k_lt hlt
  have g86 : ∀ b o, b ≠ 86 → s.heap.get? b = some o → h₀.get? b = some o := fun b o hb e => gb.new b o e fun q hq => by rw [List.mem_singleton.mp hq]; exact hb
  have hcr0 : h₀.CodeRec (.ref c) q86 := let ⟨c', o, vs, t, e, e1, r⟩ := hcr; ⟨c', o, vs, t, e, g86 _ _ (by cases e; exact hc) e1, r⟩
  k_unmd
  k_fold
  k_steps
  · rename_i o1 o2 o3 d1 d2 d3 f ct dc hA tkA l1 hB o4 F N e4 hpos
    have m86 := News.get N (.tail _ (.tail _ (.tail _ (.tail _ (.head _)))))
    have R1 := inner_d2i G (hX := hB) (fun x o e => F.keep _ _ (gb.sub x o e)) rfl (News.get N (.head _)) rfl (hcr0.keeps F.keep) ⟨o3, News.get N (.tail _ (.tail _ (.tail _ (.head _)))), d3⟩ ⟨o2, News.get N (.tail _ (.tail _ (.head _))), d2⟩
      ⟨o4, News.get N (.tail _ (.head _)), e4⟩ (let ⟨o, e, r⟩ := hl0; ⟨o, F.keep _ _ e, r⟩) hi hlen hn hdig ns.length
      { heap := hB, gens := s.gens, drawn := s.drawn, toks := tkA + 1 + 1 + 1 + 1 + 1, os := s.os } (fun _ _ e => e) 0 ns.length (tkA + 1 + 1) (tkA + 1 + 1 + 1 + 1) hpos (Nat.le_refl _) (by (first | lia | omega)) hlen
    refine Ret.use R1 F N rfl (by show 341 ≤ 500 - ns.length; (first | lia | omega)) (by show 4 * 340 + 3 ≤ 4 * (500 - ns.length); (first | lia | omega)) ?_
    rintro v h' tk' ⟨t, rfl⟩ hs' F2 N2
    refine back_tab F2 g86 h86 (hs' _ _ m86) ⟨t, ?_⟩
    rw [List.drop_zero, Nat.sub_zero, List.take_length]
  · rename_i o1 o2 o3 d1 d2 d3 f ct dc hA tkA l1 hB o4 F N e4 hpos
    have m86 := News.get N (.tail _ (.tail _ (.tail _ (.tail _ (.head _)))))
    have : ns = [] := List.eq_nil_of_length_eq_zero (by (first | lia | omega))
    subst this
    exact back_tab F g86 h86 m86 ⟨_, rfl⟩
end Mine
end

section
-- P4a
set_option maxHeartbeats 8000000
theorem Mine.anew17 : True := by w_top off; trivial
open PySem PySem.W PyProof.Rows PySem.Calls
set_option Elab.async false
set_option maxRecDepth 100000
namespace Mine
variable {w : World} {p : Program} {loose : List Str} {mean : ExcName → Option Value} {mg mb : Str → Option Value} {hb : Heap}

theorem fitS {x : Int} {c n : Nat} {m a : Nat} (h0 : 0 ≤ x) (hx : x < 2 ^ (n * c)) (hn : n ≤ 10000) (hc : c ≤ 100) (hm : (m : Int) - a ≤ 100) :
    (Builtin.Int.intBits (x.fdiv (2 ^ (((m : Int) - a) * n).toNat)) : Int) + ((m : Int) - a) * n ≤ 2 ^ 27 := by
  have hp := p2pos (((m : Int) - a) * n).toNat
  have e : x.fdiv (2 ^ (((m : Int) - a) * n).toNat) = x / (2 ^ (((m : Int) - a) * n).toNat) := Int.fdiv_eq_ediv_of_nonneg _ (Int.le_of_lt hp)
  have h1 : x / (2 ^ (((m : Int) - a) * n).toNat) ≤ x := Int.ediv_le_self _ h0
  have h2 : 0 ≤ x / (2 ^ (((m : Int) - a) * n).toNat) := Int.ediv_nonneg h0 (Int.le_of_lt hp)
  have h3 : n * c ≤ 10000 * 100 := Nat.mul_le_mul hn hc
  have h4 := intBits_le h2 (Int.lt_of_le_of_lt h1 hx)
  have h5 : ((m : Int) - a) * n ≤ 100 * 10000 := by
    by_cases q : 0 ≤ (m : Int) - a
    · exact Int.mul_le_mul hm (by (first | lia | omega)) (Int.natCast_nonneg _) (by decide)
    · exact Int.le_trans (Int.mul_nonpos_of_nonpos_of_nonneg (by (first | lia | omega)) (Int.natCast_nonneg _)) (by decide)
  rw [e]
  (first | lia | omega)
local macro_rules | `(tactic| walk_at "eval Name") => `(tactic| (k_here; k_dflt (refine' nameX_H ?F ?c ?v ?_ ?a ?b; (case a => rfl); (case b => rfl); (case F => k_asm); (case c => rfl); (case v => assumption); k_whole)))
local macro_rules | `(tactic| walk_at "binaryOp RShift int int") => `(tactic| (refine rshift_int (Int.mul_nonneg (by omega) (Int.natCast_nonneg _)) ?_))
local macro_rules | `(tactic| walk_at "binaryOp RShift int int") => `(tactic| (refine rshift1 (by omega) ?_; intro m' hm'))
local macro_rules | `(tactic| walk_at "binaryOp LShift int int") => `(tactic| (refine lshift_int (Int.mul_nonneg (by omega) (Int.natCast_nonneg _)) (fitS (by assumption) (by assumption) (by assumption) (by omega) (by omega)) ?_))

theorem splice {n : Nat} {ns : List Int} {a m b : Nat} {x : Int} (h1 : a ≤ m) (h2 : m ≤ b) (h3 : b ≤ ns.length) :
    (ns.take a ++ figs n (m - a) (x % 2 ^ (n * (m - a))) ++ ns.drop m).take m ++ figs n (b - m) (x / 2 ^ (n * (m - a))) ++ (ns.take a ++ figs n (m - a) (x % 2 ^ (n * (m - a))) ++ ns.drop m).drop b =
    ns.take a ++ figs n (b - a) x ++ ns.drop b := by
  rw [figs_mod]
  have el : (ns.take a ++ figs n (m - a) x).length = m := by rw [List.length_append, figs_length, List.length_take, Nat.min_eq_left (Nat.le_trans h1 (Nat.le_trans h2 h3)), Nat.add_sub_cancel' h1]
  have e1 : (ns.take a ++ figs n (m - a) x ++ ns.drop m).take m = ns.take a ++ figs n (m - a) x := by
    rw [List.take_append_of_le_length (Nat.le_of_eq el.symm), List.take_of_length_le (Nat.le_of_eq el)]
  have e2 : (ns.take a ++ figs n (m - a) x ++ ns.drop m).drop b = ns.drop b := by
    rw [List.drop_append, el, List.drop_of_length_le (Nat.le_trans (Nat.le_of_eq el) h2), List.nil_append, List.drop_drop, Nat.add_sub_cancel' h2]
  have e3 : b - a = (m - a) + (b - m) := (Nat.add_comm _ _ ▸ Nat.sub_add_sub_cancel h2 h1).symm
  rw [e1, e2, e3, figs_add, List.append_assoc (ns.take a) (figs n (m - a) x)]

set_option maxHeartbeats 4000000 in
theorem inner_i2d (G : Gnd w p loose mean mg mb hb) {hX : Heap} {D : Addr} (SX : ∀ b o, hb.get? b = some o → hX.get? b = some o) (hD : hb.get? D = none) {params : Arguments} {body : List Stmt} {scope : Scope} (hsyn : innerOf PySem.Challenge.pw_we0015_01 12 = some (params, body, scope))
    {f c' c1 c2 c3 : Addr} {fo : Obj} {qual : Str} {doc pm ct : Value} {n : Nat} {tn : Nat} {NN : Nat}
    (hf : hX.get? f = some fo) (hfo : fo.data = .func (fnX "inner" qual params body scope [("n", c2), ("inner", c3), ("a_digits", c1)] .none .none doc pm none (.ref c') ct)) (hcr : hX.CodeRec (.ref c') qual)
    (h1 : hX.IsCell c1 (some (.ref D))) (h2 : hX.IsCell c2 (some (.int n tn))) (h3 : hX.IsCell c3 (some (.ref f))) (hfD : f ≠ D) (hcD : c' ≠ D) (h1D : c1 ≠ D) (h2D : c2 ≠ D) (h3D : c3 ≠ D) (hN : NN ≤ 100) (hn : n ≤ 10000) :
    ∀ (k : Nat) (s : Shared), (∀ b o, b ≠ D → hX.get? b = some o → s.heap.get? b = some o) → ∀ (x : Int) (a b tx ta tb : Nat) (vs : List Value) (ns : List Int) (ep : Nat), 0 ≤ x → x < 2 ^ (n * (b - a)) → a < b → b ≤ NN → b - a ≤ k → k ≤ 100 →
      s.heap.get? D = some (listOf vs.toArray ep) → IntsAre vs ns → ns.length = NN →
      RetX (500 - k) w f [.int x tx, .int a ta, .int b tb] s D (fun v h' => v = .none ∧ ∃ vs' ep', h'.get? D = some (listOf vs'.toArray ep') ∧ IntsAre vs' (ns.take a ++ figs n (b - a) x ++ ns.drop b)) := by
  cases (show some _ = some (params, body, scope) from hsyn)
  have KX : (hd.heap_39 w.params).In hb ∧ PySem.Challenge.rw_we0015_01 = PySem.Challenge.rw_we0015_01 := by k_fill; exact ⟨G.K, rfl⟩
  intro k
  induction k with
  | zero => exact fun s _ x a b tx ta tb vs ns ep _ _ h1 _ h3 _ _ _ _ => ar_zero h1 h3
  | succ k ih =>
    intro s SS x a b tx ta tb vs ns ep hx0 hx1 hab hbn hk hk2 hDs hi hlen
    have SB : Sub hb s.heap := fun y o e => SS y o (fun q => by rw [q, hD] at e; cases e) (SX y o e)
    refine retX_of ?_
    refine enterX [(D, listOf vs.toArray ep)] [("x", .int x tx), ("L", .int a ta), ("R", .int b tb)] G SB (SS _ _ hfD hf) hfo (let ⟨c, o, vs, t, e, e1, r⟩ := hcr; ⟨c, o, vs, t, e, SS _ _ (by cases e; exact hcD) e1, r⟩) (ar_fuel k) rfl (locs rfl) rfl rfl rfl (by decide)
      (fun q hq => by rw [List.mem_singleton.mp hq]; exact hDs) (fun q hq => by rw [List.mem_singleton.mp hq]; exact hD) ?_
    intro h₀ h₁ L tk gb X' T' F' N' hL hlt
    have old : ∀ b o, b ≠ D → s.heap.get? b = some o → h₀.get? b = some o := fun b o hb e => gb.new b o e fun q hq => by rw [List.mem_singleton.mp hq]; exact hb
    have cell : ∀ {c v}, c ≠ D → hX.IsCell c v → h₀.IsCell c v := fun hc ⟨o, e, d⟩ => ⟨o, old _ _ hc (SS _ _ hc e), d⟩
    have g1 := cell h1D h1
    have g2 := cell h2D h2
    have g3 := cell h3D h3
    k_lt hlt
    k_unmd
    k_fold
    k_steps
    · rename_i hab1 hB F N hi' hl' hs'
      have e : b - a = 1 := ar_one hab1
      rw [e, Nat.mul_one] at hx1
      refine backX_of F old ⟨rfl, _, _, News.get N (.head _), ?_⟩
      have e2 : ns.take a ++ figs n (b - a) x ++ ns.drop b = ns.set a x := by
        have hb1 : b = a + 1 := ar_next hab1
        rw [e, figs_one n hx0 hx1, List.set_eq_take_append_cons_drop, if_pos (by (first | lia | omega)), hb1, List.append_assoc]
        rfl
      rw [e2]
      exact hi'
    · exact Fr.keep (by assumption) _ _ (old _ _ hfD (SS _ _ hfD hf))
    · rename_i hne m hm hA1 hA2 hA3 hB F N
      have hm1 : a < m ∧ m < b := ar_mid hab hne hm
      clear hm hne
      have hmn : m ≤ NN := Nat.le_trans (Nat.le_of_lt hm1.2) hbn
      have em : (((m : Int) - (a : Int)) * (n : Int)).toNat = n * (m - a) := by
        have : ((m : Int) - (a : Int)) * (n : Int) = ((n * (m - a) : Nat) : Int) := by
          rw [Int.natCast_mul, Int.mul_comm, Int.ofNat_sub (Nat.le_of_lt hm1.1)]
        rw [this, Int.toNat_natCast]
      have hp := p2pos (n * (m - a))
      have eup : x.fdiv (2 ^ (((m : Int) - (a : Int)) * (n : Int)).toNat) = x / 2 ^ (n * (m - a)) := by
        rw [em]; exact Int.fdiv_eq_ediv_of_nonneg _ (Int.le_of_lt hp)
      have elow : Builtin.bitXor x (x.fdiv (2 ^ (((m : Int) - (a : Int)) * (n : Int)).toNat) * 2 ^ (((m : Int) - (a : Int)) * (n : Int)).toNat) = x % 2 ^ (n * (m - a)) := by
        rw [eup, em]; exact xor_low hx0 _
      have lo0 : 0 ≤ Builtin.bitXor x (x.fdiv (2 ^ (((m : Int) - (a : Int)) * (n : Int)).toNat) * 2 ^ (((m : Int) - (a : Int)) * (n : Int)).toNat) := by rw [elow]; exact Int.emod_nonneg _ (Int.ne_of_gt hp)
      have lo1 : Builtin.bitXor x (x.fdiv (2 ^ (((m : Int) - (a : Int)) * (n : Int)).toNat) * 2 ^ (((m : Int) - (a : Int)) * (n : Int)).toNat) < 2 ^ (n * (m - a)) := by rw [elow]; exact Int.emod_lt_of_pos _ hp
      generalize Builtin.bitXor x (x.fdiv (2 ^ (((m : Int) - (a : Int)) * (n : Int)).toNat) * 2 ^ (((m : Int) - (a : Int)) * (n : Int)).toNat) = lo at elow lo0 lo1 F ⊢
      have hD2 := News.get N (.head _)
      refine RetX.use (ih { heap := hB, gens := s.gens, drawn := s.drawn, toks := _, os := s.os } (fun y o hy e => F.keep _ _ (old _ _ hy (SS y o hy e))) lo a m _ ta _ vs ns ep lo0 lo1 hm1.1 hmn (ar_lo hk hm1) (Nat.le_of_succ_le hk2) hD2 hi hlen) F N (UpdF.head fun _ h => nomatch h) rfl (ar_fuel1 hk2) (ar_fuel4 hk2) ?_
      rintro v h' tk' ⟨rfl, vs', ep', hD3, hi3⟩ hs' F2 N2
      replace N2 := N2 _ hD3
      have l3 : (ns.take a ++ figs n (m - a) lo ++ ns.drop m).length = NN := by
        rw [List.length_append, List.length_append, figs_length, List.length_take, List.length_drop]; exact ar_len hlen hmn (Nat.le_of_lt hm1.1)
      clear F
      k_steps
      · exact Fr.keep (by assumption) _ _ (old _ _ hfD (SS _ _ hfD hf))
      · have up0 : 0 ≤ x.fdiv (2 ^ (((m : Int) - (a : Int)) * (n : Int)).toNat) := by rw [eup]; exact Int.ediv_nonneg hx0 (Int.le_of_lt hp)
        have up1 : x.fdiv (2 ^ (((m : Int) - (a : Int)) * (n : Int)).toNat) < 2 ^ (n * (b - m)) := by
          rw [eup]
          refine Int.ediv_lt_of_lt_mul hp ?_
          rw [← Int.pow_add, ← Nat.mul_add, ar_sum hm1]
          exact hx1
        generalize x.fdiv (2 ^ (((m : Int) - (a : Int)) * (n : Int)).toNat) = up at eup up0 up1 F2 ⊢
        refine RetX.use (ih { heap := h', gens := s.gens, drawn := s.drawn, toks := _, os := s.os } (fun y o hy e => F2.keep _ _ (old _ _ hy (SS y o hy e))) up m b _ _ _ vs' _ ep' up0 up1 hm1.2 hbn (ar_hi hk hm1) (Nat.le_of_succ_le hk2) hD3 hi3 l3) F2 N2 (UpdF.head fun _ h => nomatch h) rfl (ar_fuel1 hk2) (ar_fuel4 hk2) ?_
        rintro v h'' tk'' ⟨rfl, vs'', ep'', hD4, hi4⟩ hs'' F3 N3
        clear F2
        k_steps
        refine backX_of F3 old ⟨rfl, _, _, hD4, ?_⟩
        rw [elow, eup, splice (Nat.le_of_lt hm1.1) (Nat.le_of_lt hm1.2) (Nat.le_trans hbn (Nat.le_of_eq hlen.symm))] at hi4
        exact hi4
end Mine
end

section
-- P4b
set_option maxHeartbeats 8000000
theorem Mine.anew18 : True := by w_top off; trivial
open PySem PySem.W PyProof.Rows PySem.Calls
set_option Elab.async false
set_option maxRecDepth 100000
namespace Mine
variable {w : World} {p : Program} {loose : List Str} {mean : ExcName → Option Value} {mg mb : Str → Option Value} {hb : Heap}

theorem floordiv_cnt {w : World} {A : Around} {E : Value → Shared → Prop} {s : Shared} {a : Int} {n : Nat} {t u : Tok} {Q : Value → Shared → Prop} (hn0 : 1 ≤ n) (hn : n ≤ 10000)
    (h : Q (.int (cnt n a : Nat) s.toks) { s with toks := s.toks + 1 }) : wpAny (model prg w) A (binaryOp .FloorDiv (.int ((Builtin.Int.intBits a : Int) + (n : Int) - 1) t) (.int (n : Int) u)) Q E s := by
  refine floordiv_int (by (first | lia | omega)) ?_ (Or.inl (PyProof.noPylong_small (by (first | lia | omega))))
  have e : ((Builtin.Int.intBits a : Int) + (n : Int) - 1).fdiv (n : Int) = ((cnt n a : Nat) : Int) := by
    rw [Int.fdiv_eq_ediv_of_nonneg _ (by (first | lia | omega)), cnt, Int.natCast_ediv, Int.ofNat_sub (by (first | lia | omega))]
    rfl
  rw [e]
  exact h
local macro_rules | `(tactic| walk_at "binaryOp FloorDiv int int") => `(tactic| (refine floordiv_cnt (by assumption) (by assumption) ?_))

set_option maxHeartbeats 4000000 in
theorem c_i2d_E (G : Gnd w p loose mean mg mb hb) {s : Shared} (SB : Sub hb s.heap) (a : Int) (n : Nat) (ta tn : Nat) (ha0 : 0 ≤ a) (hn0 : 1 ≤ n) (hn : n ≤ 10000) (hc : cnt n a ≤ 100) (h79 : s.heap.get? 79 = some (tabObj #[])) :
    RetX 340 w 84 [.int a ta, .int n tn] s 79 (fun v h' => (∃ D vs ep, v = .ref D ∧ s.heap.objs.size ≤ D ∧ h'.get? D = some (listOf vs.toArray ep) ∧ IntsAre vs (figs n (cnt n a) a)) ∧ ∃ c, s.heap.objs.size ≤ c ∧ Tab79 h' c) := by
  have KX : (hd.heap_39 w.params).In hb ∧ PySem.Challenge.rw_we0015_01 = PySem.Challenge.rw_we0015_01 := by k_fill; exact ⟨G.K, rfl⟩
  refine retX_of ?_
  refine enterC [(79, tabObj #[])] [("a", .int a ta), ("n", .int n tn)] G SB (by k_is) (by k_is) (by decide) rfl rfl (by decide +kernel) rfl rfl rfl (fun q hq => by rw [List.mem_singleton.mp hq]; exact h79) (fun q hq => by rw [List.mem_singleton.mp hq]; exact G.n79) ?_
  intro h₀ h₁ L tk cells gb X' T' F' N' Y' hL hlt
  k_cells Y'
  simp only [List.cons_append, List.nil_append] at N'
  have C79 := G.c79.keeps gb.sub
  k_lt hlt
  have g79 : ∀ b o, b ≠ 79 → s.heap.get? b = some o → h₀.get? b = some o := fun b o hb e => gb.new b o e fun q hq => by rw [List.mem_singleton.mp hq]; exact hb
  k_unmd
  k_fold
  k_steps
  · rename_i t0 o1 o2 o3 d1 d2 d3 l hA l0 D hB i1 n1 s1 e1 e2 e3 lD hC oA dA f c oc vs' t' ct dc hE tkE g1 g2 l1 l2 hG oI F N dI hne
    have en : n1 = cnt n a := Int.ofNat.inj ((e3 (Int.natCast_nonneg _)).trans (Int.one_mul _))
    have hn1 : n1 ≤ 100 := Nat.le_trans (Nat.le_of_eq en) hc
    have hcp := cnt_pos hn0 hne
    have mD := News.get N (.tail _ (.tail _ (.head _)))
    have mt := News.get N (.tail _ (.tail _ (.tail _ (.tail _ (.tail _ (.tail _ (.tail _ (.head _))))))))
    have mc := News.get N (.tail _ (.head _))
    have hcr : hG.CodeRec (.ref c) q79 := ⟨c, oc, vs', t', rfl, mc, g1, g2⟩
    have t79 : Tab79 hG c := ⟨mt, Nat.ne_of_gt l1.2.2.2.2.2, hcr⟩
    have hbD : hb.get? D = none := by
      cases q : hb.get? D with
      | none => rfl
      | some o =>
        have z := N _ (.tail _ (.tail _ (.head _)))
        have := gb.sub _ _ q
        rw [z.2.2] at this; cases this
    have R1 := inner_i2d G (hX := hG) (D := D) (fun x o e => F.keep _ _ (gb.sub x o e)) hbD rfl (News.get N (.head _)) rfl hcr ⟨oA, News.get N (.tail _ (.tail _ (.tail _ (.tail _ (.tail _ (.head _)))))), dA⟩ ⟨o3, News.get N (.tail _ (.tail _ (.tail _ (.tail _ (.tail _ (.tail _ (.head _))))))), d3⟩
      ⟨oI, News.get N (.tail _ (.tail _ (.tail _ (.tail _ (.head _))))), dI⟩ (Nat.ne_of_gt (Nat.lt_trans l1.1 l2)) (Nat.ne_of_gt l1.1) (by first | exact Nat.ne_of_lt lD.2.1 | exact Nat.ne_of_lt lD.2.2.1 | exact Nat.ne_of_lt lD.2.2.2.1) (by first | exact Nat.ne_of_lt lD.2.1 | exact Nat.ne_of_lt lD.2.2.1 | exact Nat.ne_of_lt lD.2.2.2.1) (by first | exact Nat.ne_of_lt lD.2.1 | exact Nat.ne_of_lt lD.2.2.1 | exact Nat.ne_of_lt lD.2.2.2.1) (NN := n1) hn1 hn n1
      { heap := hG, gens := s.gens, drawn := s.drawn, toks := tkE + 1 + 1 + 1, os := s.os } (fun _ _ _ e => e) a 0 n1 ta tkE (tkE + 1 + 1) _ _ 0 ha0 (by rw [Nat.sub_zero, en]; exact lt_cnt hn0 ha0) (en ▸ hcp) (Nat.le_refl _) (Nat.sub_le _ _) hn1 mD i1 e1
    refine RetX.use R1 F N (by k_updF) rfl (ar_341 hn1) (ar_340 hn1) ?_
    rintro v h' tk' ⟨rfl, vs2, ep2, hD2, hi2⟩ hs' F2 N2
    replace N2 := N2 _ hD2
    clear F N
    k_steps
    refine backX_of F2 g79 ⟨⟨D, vs2, ep2, rfl, Nat.le_trans (Nat.le_of_eq hL) (Nat.le_of_lt (Nat.lt_of_succ_lt lD.2.2.2.1)), hD2, ?_⟩, c, Nat.le_trans (Nat.le_of_eq hL) (Nat.le_of_lt (Nat.lt_of_succ_lt l1.2.2.2.2.1)), hs' _ _ (Nat.ne_of_lt lD.2.2.2.2) mt, Nat.ne_of_gt l1.2.2.2.2.2, c, oc, vs', t', rfl, hs' _ _ (Nat.ne_of_gt l1.1) mc, g1, g2⟩
    rw [List.take_zero, List.nil_append, Nat.sub_zero, List.drop_of_length_le (by (first | lia | omega)), List.append_nil, en] at hi2
    exact hi2
  · rename_i t0 o1 o2 o3 d1 d2 d3 l hA l0 D hB i1 n1 s1 e1 e2 e3 lD hC oA dA f c oc vs' t' ct dc hE tkE g1 g2 l1 l2 hG oI F N dI hne
    subst hne
    have mD := News.get N (.tail _ (.tail _ (.head _)))
    have mt := News.get N (.tail _ (.tail _ (.tail _ (.tail _ (.tail _ (.tail _ (.tail _ (.head _))))))))
    have mc := News.get N (.tail _ (.head _))
    refine backX_of F g79 ⟨⟨D, _, _, rfl, Nat.le_trans (Nat.le_of_eq hL) (Nat.le_of_lt (Nat.lt_of_succ_lt lD.2.2.2.1)), mD, ?_⟩, c, Nat.le_trans (Nat.le_of_eq hL) (Nat.le_of_lt (Nat.lt_of_succ_lt l1.2.2.2.2.1)), mt, Nat.ne_of_gt l1.2.2.2.2.2, c, oc, vs', t', rfl, mc, g1, g2⟩
    rw [cnt_zero hn0] at i1 ⊢
    exact i1

set_option maxHeartbeats 4000000 in
theorem c_i2d_F (G : Gnd w p loose mean mg mb hb) {s : Shared} (SB : Sub hb s.heap) (a : Int) (n : Nat) (ta tn : Nat) (ha0 : 0 ≤ a) (hn0 : 1 ≤ n) (hn : n ≤ 10000) (hc : cnt n a ≤ 100) {c : Addr} (h79 : Tab79 s.heap c) :
    Ret 340 w 84 [.int a ta, .int n tn] s (fun v h' => ∃ D vs ep, v = .ref D ∧ s.heap.objs.size ≤ D ∧ h'.get? D = some (listOf vs.toArray ep) ∧ IntsAre vs (figs n (cnt n a) a)) := by
  have KX : (hd.heap_39 w.params).In hb ∧ PySem.Challenge.rw_we0015_01 = PySem.Challenge.rw_we0015_01 := by k_fill; exact ⟨G.K, rfl⟩
  obtain ⟨h79, hcn, hcr⟩ := h79
  refine ret_of ?_
  refine enterC [(79, tabObj #[rawInt (51 : Nat), rawInt (4 : Nat), .ref c])] [("a", .int a ta), ("n", .int n tn)] G SB (by k_is) (by k_is) (by decide) rfl rfl (by decide +kernel) rfl rfl rfl (fun q hq => by rw [List.mem_singleton.mp hq]; exact h79) (fun q hq => by rw [List.mem_singleton.mp hq]; exact G.n79) ?_
  intro h₀ h₁ L tk cells gb X' T' F' N' Y' hL hlt
  k_cells Y'
  simp only [List.cons_append, List.nil_append] at N'
  have C79 := G.c79.keeps gb.sub
  k_lt hlt
  have g79 : ∀ b o, b ≠ 79 → s.heap.get? b = some o → h₀.get? b = some o := fun b o hb e => gb.new b o e fun q hq => by rw [List.mem_singleton.mp hq]; exact hb
  have hcr0 : h₀.CodeRec (.ref c) q79 := let ⟨c', o, vs, t, e, e1, r⟩ := hcr; ⟨c', o, vs, t, e, g79 _ _ (by cases e; exact hcn) e1, r⟩
  k_unmd
  k_fold
  k_steps
  · rename_i t0 o1 o2 o3 d1 d2 d3 l hA l0 D hB i1 n1 s1 e1 e2 e3 lD hC oA dA f ct dc hE tkE l1 hG oI F N dI hne
    have en : n1 = cnt n a := Int.ofNat.inj ((e3 (Int.natCast_nonneg _)).trans (Int.one_mul _))
    have hn1 : n1 ≤ 100 := Nat.le_trans (Nat.le_of_eq en) hc
    have hcp := cnt_pos hn0 hne
    have mD := News.get N (.tail _ (.head _))
    have mt := News.get N (.tail _ (.tail _ (.tail _ (.tail _ (.tail _ (.tail _ (.head _)))))))
    have hbD : h₀.get? D = none := (N _ (.tail _ (.head _))).2.2
    have hbD2 : hb.get? D = none := by
      cases q : hb.get? D with
      | none => rfl
      | some o => have := gb.sub _ _ q; rw [hbD] at this; cases this
    have hcD : c ≠ D := by
      obtain ⟨c', o, _, _, e, e1, _⟩ := hcr0
      cases e
      rintro rfl
      rw [hbD] at e1; cases e1
    have R1 := inner_i2d G (hX := hG) (D := D) (fun x o e => F.keep _ _ (gb.sub x o e)) hbD2 rfl (News.get N (.head _)) rfl (hcr0.keeps F.keep) ⟨oA, News.get N (.tail _ (.tail _ (.tail _ (.tail _ (.head _))))), dA⟩ ⟨o3, News.get N (.tail _ (.tail _ (.tail _ (.tail _ (.tail _ (.head _)))))), d3⟩
      ⟨oI, News.get N (.tail _ (.tail _ (.tail _ (.head _)))), dI⟩ (Nat.ne_of_gt l1.1) hcD (by first | exact Nat.ne_of_lt lD.2.1 | exact Nat.ne_of_lt lD.2.2.1 | exact Nat.ne_of_lt lD.2.2.2.1) (by first | exact Nat.ne_of_lt lD.2.1 | exact Nat.ne_of_lt lD.2.2.1 | exact Nat.ne_of_lt lD.2.2.2.1) (by first | exact Nat.ne_of_lt lD.2.1 | exact Nat.ne_of_lt lD.2.2.1 | exact Nat.ne_of_lt lD.2.2.2.1) (NN := n1) hn1 hn n1
      { heap := hG, gens := s.gens, drawn := s.drawn, toks := tkE + 1 + 1 + 1, os := s.os } (fun _ _ _ e => e) a 0 n1 ta tkE (tkE + 1 + 1) _ _ 0 ha0 (by rw [Nat.sub_zero, en]; exact lt_cnt hn0 ha0) (en ▸ hcp) (Nat.le_refl _) (Nat.sub_le _ _) hn1 mD i1 e1
    refine RetX.use R1 F N (by k_updF) rfl (ar_341 hn1) (ar_340 hn1) ?_
    rintro v h' tk' ⟨rfl, vs2, ep2, hD2, hi2⟩ hs' F2 N2
    replace N2 := N2 _ hD2
    clear F N
    k_steps
    refine back_tab F2 g79 h79 (hs' _ _ (Nat.ne_of_lt lD.2.2.2.2) mt) ⟨D, vs2, ep2, rfl, Nat.le_trans (Nat.le_of_eq hL) (Nat.le_of_lt (Nat.lt_of_succ_lt lD.2.2.2.1)), hD2, ?_⟩
    rw [List.take_zero, List.nil_append, Nat.sub_zero, List.drop_of_length_le (by (first | lia | omega)), List.append_nil, en] at hi2
    exact hi2
  · rename_i t0 o1 o2 o3 d1 d2 d3 l hA l0 D hB i1 n1 s1 e1 e2 e3 lD hC oA dA f ct dc hE tkE l1 hG oI F N dI hne
    subst hne
    have mD := News.get N (.tail _ (.head _))
    have mt := News.get N (.tail _ (.tail _ (.tail _ (.tail _ (.tail _ (.tail _ (.head _)))))))
    refine back_tab F g79 h79 mt ⟨D, _, _, rfl, Nat.le_trans (Nat.le_of_eq hL) (Nat.le_of_lt (Nat.lt_of_succ_lt lD.2.2.2.1)), mD, ?_⟩
    rw [cnt_zero hn0] at i1 ⊢
    exact i1
end Mine
end

open Mine in
local macro_rules | `(tactic| walk_at $k:str) => if ["exec For Name Call cons nil", "call ref", "pyIter ref", "call builtin:list.append", "call builtin:list.reverse", "InvPostN", "call type:enumerate", "exec For Tuple Call cons nil", "exec For Tuple Call cons cons", "exec For Name Subscript cons nil", "call type:zip"].contains k.getString then `(tactic| apply Hold.out) else `(tactic| fail)

section
-- P5t
set_option maxHeartbeats 8000000
theorem Mine.anew19 : True := by w_top off; trivial
open PySem PySem.W PyProof.Rows PySem.Calls
set_option Elab.async false
set_option maxRecDepth 100000
namespace Mine
variable {w : World} {p : Program} {loose : List Str} {mean : ExcName → Option Value} {mg mb : Str → Option Value} {hb : Heap}


local macro_rules | `(tactic| walk_at "binaryOp LShift int int") => `(tactic| (refine lshift_int (Int.natCast_nonneg _) (by assumption) ?_))

/-- between the turns of the division -/
inductive DivJ (a b : Int) (tb : Nat) (qd : Addr) (rest : List (Addr × Obj)) (i : Nat) (m₁ : Str → Option Value) (news₁ : List (Addr × Obj)) : Prop
  | mk (qs : List Int) (r : Int) (tr tn : Nat) (vq : List Value) (eq : Nat) (u : Str → Option Value)
    (h0 : m₁ = mp [("r", .int r tr), ("b", .int b tb), ("n", .int (Builtin.Int.intBits b) tn), ("q_digits", .ref qd)] u) (h1 : news₁ = (qd, listOf vq.toArray eq) :: rest) (h2 : IntsAre vq qs) (h3 : qs.length = i) (h4 : 0 ≤ r) (h5 : r < b)
    (h6 : ∀ q ∈ qs, 0 ≤ q ∧ q < 2 ^ Builtin.Int.intBits b) (h7 : dval (Builtin.Int.intBits b) qs.reverse * b + r = dval (Builtin.Int.intBits b) ((figs (Builtin.Int.intBits b) (cnt (Builtin.Int.intBits b) a) a).drop (cnt (Builtin.Int.intBits b) a - i))) : DivJ a b tb qd rest i m₁ news₁
/-- the loop's own body -/
noncomputable def divBody : Option (List Stmt × Scope) := match prg.theDef "_divmod_pos" with
  | some (_, b, sc) => (match (b[4]? : Option Stmt) with
    | some (Stmt.For _ _ fb _ _) => some (fb, sc)
    | _ => none)
  | none => none
set_option maxHeartbeats 4000000 in
theorem div_turn {body : List Stmt} {scope : Scope} (hsyn : divBody = some (body, scope)) (G : Gnd w p loose mean mg mb hb) {h₀ h : Heap} (SB : Sub hb h₀) (X' : (hd.heap_39 w.params).In h₀) (T' : Top p loose mean mg mb h₀) {s : Shared} {L : Addr} {tk : Nat}
    {a b : Int} {tb : Nat} {qd : Addr} {rest own : List (Addr × Obj)} {i : Nat} {d : Int} {td : Tok} {m₁ : Str → Option Value} {news₁ : List (Addr × Obj)} {Q : Flow → Shared → Prop} {E : Value → Shared → Prop}
    (hb0 : 0 < b) (hn : Builtin.Int.intBits b ≤ 4000) (hc : cnt (Builtin.Int.intBits b) a ≤ 100) (hlt : i < cnt (Builtin.Int.intBits b) a)
    (hdi : (figs (Builtin.Int.intBits b) (cnt (Builtin.Int.intBits b) a) a)[cnt (Builtin.Int.intBits b) a - 1 - i]? = some d) (hoff : ∀ q ∈ rest ++ own, q.1 ≠ qd) (J : DivJ a b tb qd rest i m₁ news₁)
    (F : Fr h₀ L h (fun y => if y = "a_digit" then some (.int d td) else m₁ y)) (N : News h₀ L h (news₁ ++ own)) :
    wpAny (model prg w) ((AN 330).deeper (envOf "_divmod_pos" scope L 98 (.ref 97))) (execs body (envOf "_divmod_pos" scope L 98 (.ref 97))) (InvPostN h₀ L (DivJ a b tb qd rest (i + 1)) own (qd :: rest.map (·.1)) { s with heap := h, toks := tk } Q) E { s with heap := h, toks := tk } := by
  obtain ⟨qs, r, tr, tn, vq, eq, u, rfl, rfl, hiq, hql, hr0, hrb, hqd, hval⟩ := J
  cases (show some _ = some _ from hsyn)
  have KX : (hd.heap_39 w.params).In h₀ ∧ PySem.Challenge.rw_we0015_01 = PySem.Challenge.rw_we0015_01 := by k_fill; exact ⟨X', rfl⟩
  have hbits : (Builtin.Int.intBits r : Int) + (Builtin.Int.intBits b : Int) ≤ 2 ^ 27 := by
    have := intBits_le hr0 (Int.lt_trans hrb (lt_bits (Int.le_of_lt hb0)))
    (first | lia | omega)
  rw [List.cons_append] at N
  obtain ⟨ro, hro⟩ : ∃ ro, rest ++ own = ro := ⟨_, rfl⟩
  rw [hro] at N hoff
  have hoff' : OwnOff ro [qd] := fun q hq x hx => by rw [List.mem_singleton.mp hx]; exact hoff q hq
  k_unmd
  k_fold
  k_steps
  refine Hold.in ?_
  have hdm := figs_dig _ _ _ d (List.mem_of_getElem? hdi)
  obtain ⟨x0, x1, x2, x3, x4⟩ := dp_x hr0 hrb (b_le hb0) hdm.1 hdm.2
  have hxb := intBits_le x0 x2
  rw [Int.toNat_natCast]
  refine Ret.use (c_div2n1n G (s := { heap := h, gens := s.gens, drawn := s.drawn, toks := tk + 1 + 1, os := s.os }) (fun x o e => F.keep _ _ (SB x o e)) (r * 2 ^ Builtin.Int.intBits b + d) b (Builtin.Int.intBits b) _ tb tn (by (first | lia | omega)) (by (first | lia | omega)) (noPy hn)) F N rfl (Nat.le_of_ble_eq_true rfl) (Nat.le_of_ble_eq_true rfl) ?_
  rintro v h' tk' ⟨T, t1, t2, rfl, hT, eT⟩ hs' F2 N2
  replace N2 := fresh_cons F N2 hT eT
  have lT := fresh_lt N hT
  k_lt lT
  clear F N
  k_steps
  rename_i F N
  refine Hold.in ?_
  refine append_L F N (by k_updF) (by rw [hiq.length, hql]; exact Nat.le_trans (Nat.le_of_lt hlt) (Nat.le_trans hc (by decide))) ?_
  intro hK F N
  k_steps
  refine Hold.in ?_
  have hxd : (r * 2 ^ Builtin.Int.intBits b + d).fdiv b = (r * 2 ^ Builtin.Int.intBits b + d) / b := Int.fdiv_eq_ediv_of_nonneg _ (by (first | lia | omega))
  have hxm : (r * 2 ^ Builtin.Int.intBits b + d).fmod b = (r * 2 ^ Builtin.Int.intBits b + d) % b := Int.fmod_eq_emod_of_nonneg _ (by (first | lia | omega))
  refine InvEndN.intro F N (nx := (qd, listOf (vq ++ [Value.int ((r * 2 ^ Builtin.Int.intBits b + d).fdiv b) t1]).toArray (eq + 1)) :: rest)
    ⟨qs ++ [(r * 2 ^ Builtin.Int.intBits b + d) / b], (r * 2 ^ Builtin.Int.intBits b + d) % b, t2, tn, _, _, _, mp_of ⟨by rw [← hxm]; rfl, rfl, rfl, rfl, trivial⟩, rfl, ?_, ?_, Int.emod_nonneg _ (by (first | lia | omega)), Int.emod_lt_of_pos _ hb0, ?_, ?_⟩ rfl ?_ ?_
  · rw [hxd]
    exact IntsAre.append hiq (.cons _ _ .nil)
  · rw [List.length_append, hql]; rfl
  · intro q hq
    rcases List.mem_append.mp hq with hq | hq
    · exact hqd q hq
    · rw [List.mem_singleton.mp hq]; exact ⟨x4, x3⟩
  · rw [dp_step hval]
    have ek : cnt (Builtin.Int.intBits b) a - (i + 1) = cnt (Builtin.Int.intBits b) a - 1 - i := by rw [Nat.sub_sub, Nat.add_comm]
    have ek2 : cnt (Builtin.Int.intBits b) a - 1 - i + 1 = cnt (Builtin.Int.intBits b) a - i := by rw [Nat.sub_right_comm, Nat.sub_add_cancel (Nat.sub_pos_of_lt hlt)]
    rw [ek, drop_cons hdi, dval, ek2]
  · intro q hq
    rcases List.mem_cons.mp hq with rfl | hq
    · exact .tail _ (.head _)
    · exact .tail _ (.tail _ (hro ▸ List.mem_append_left own hq))
  · intro q hq
    exact .tail _ (.tail _ (hro ▸ List.mem_append_right rest hq))
end Mine
end

section
-- P5
set_option maxHeartbeats 8000000
local macro_rules | `(tactic| walk_at $_) => `(tactic| fail)
theorem Mine.anew20 : True := by w_top off; trivial
open PySem PySem.W PyProof.Rows PySem.Calls
set_option Elab.async false
set_option maxRecDepth 100000
namespace Mine
variable {w : World} {p : Program} {loose : List Str} {mean : ExcName → Option Value} {mg mb : Str → Option Value} {hb : Heap}


local macro_rules | `(tactic| walk_at "binaryOp LShift int int") => `(tactic| (refine lshift_int (Int.natCast_nonneg _) (by assumption) ?_))

set_option maxHeartbeats 4000000 in
theorem c_divpos_F (G : Gnd w p loose mean mg mb hb) {s : Shared} (SB : Sub hb s.heap) (a b : Int) (ta tb : Nat) (ha : 0 ≤ a) (hb0 : 0 < b) (hn : Builtin.Int.intBits b ≤ 4000) (hc : cnt (Builtin.Int.intBits b) a ≤ 100)
    {c c2 : Addr} (h79 : Tab79 s.heap c) (h86 : Tab86 s.heap c2) :
    Ret 330 w 98 [.int a ta, .int b tb] s (fun v h' => ∃ D t u, v = .ref D ∧ s.heap.objs.size ≤ D ∧ h'.get? D = some (tup2 (a / b) (a % b) t u)) := by
  have KX : (hd.heap_39 w.params).In hb ∧ PySem.Challenge.rw_we0015_01 = PySem.Challenge.rw_we0015_01 := by k_fill; exact ⟨G.K, rfl⟩
  refine ret_of ?_
  refine enter0 G SB [("a", .int a ta), ("b", .int b tb)] (by k_is) (by k_is) (by decide) rfl (locs rfl) rfl rfl rfl (by decide) ?_
  intro h₁ L tk X' T' F' N' hL hk
  k_fold
  k_steps
  rename_i hA F N
  refine Hold.in ?_
  have hn1 : 1 ≤ Builtin.Int.intBits b := by
    unfold Builtin.Int.intBits
    rw [if_neg (by simp; (first | lia | omega))]
    (first | lia | omega)
  refine Ret.use (c_i2d_F G (s := { heap := hA, gens := s.gens, drawn := s.drawn, toks := tk + 1 + 1, os := s.os }) (fun x o e => F.keep _ _ (SB x o e)) a (Builtin.Int.intBits b) ta tk ha hn1 (by (first | lia | omega)) hc (h79.keeps F.keep)) F N rfl (Nat.le_of_ble_eq_true rfl) (Nat.le_of_ble_eq_true rfl) ?_
  rintro v h' tk' ⟨D, vs, ep, rfl, hD, eD, hi⟩ hs' F2 N2
  replace N2 := fresh_cons F N2 hD eD
  have hLD : @LT.lt Nat _ L D := Nat.lt_of_lt_of_le F.ns.lt hD
  clear F N
  k_steps
  rename_i qd hG lq hI F N
  refine Hold.in ?_
  refine For_invVF F (by rfl) (by rfl) ?_
  k_unmd
  k_steps
  rename_i R hJ F N lR
  refine Hold.in ?_
  refine wpAny_pyIter_revIter (l := D) (i := ((vs.length : Nat) : Int) - 1) ⟨_, News.get N (.head _), rfl, rfl⟩ ?_
  have hRD : D ≠ R := neN (by (first | lia | omega))
  have hDl : hJ.IsList D vs.toArray := News.isList N (.tail _ (.tail _ (.head _)))
  have hvl : vs.length = cnt (Builtin.Int.intBits b) a := by rw [hi.length, figs_length]
  refine loop_inv (I := R) (news := [(qd, listOf #[] 0)]) (Walks.listRev rfl R D hRD vs.toArray) (DivJ a b tb qd [])
    ?_ ?_ ?_ ?_ F ?_ ?_ ?_ ?_
  · intro hm
    rcases List.mem_cons.mp hm with e | hm
    · exact (N _ (.head _)).2.1 e.symm
    · exact (N _ (.tail _ (.tail _ (.head _)))).2.1 (List.mem_singleton.mp hm).symm
  · intro q hq
    rw [List.mem_singleton.mp hq]
    exact (N _ (.head _)).2.2
  · intro q hq hm
    rw [List.mem_singleton.mp hq] at hm
    rcases List.mem_cons.mp hm with e | hm
    · exact (neN (by (first | lia | omega)) : qd ≠ R) e
    · exact (neN (by (first | lia | omega)) : qd ≠ D) (List.mem_singleton.mp hm)
  · refine ⟨Nat.zero_le _, ⟨_, News.get N (.head _), rfl, ?_⟩, hDl⟩
    rw [List.size_toArray]
    simp [revObj]
  · intro q hq
    rw [List.mem_singleton.mp hq]
    exact N _ (.tail _ (.head _))
  · refine ⟨[], 0, _, _, [], 0, _, mp_of ⟨rfl, rfl, rfl, rfl, trivial⟩, rfl, IntsAre.nil, rfl, Int.le_refl _, hb0, (fun _ h => nomatch h), ?_⟩
    rw [Nat.sub_zero, List.drop_of_length_le (by rw [figs_length]; exact Nat.le_refl _)]
    simp [dval]
  · rintro i v m₁ news₁ h tk own hlt hP hadr hoff J F N
    rw [List.size_toArray, hvl] at hlt hP
    have hx : vs[cnt (Builtin.Int.intBits b) a - 1 - i]? = some v := by simpa using hP
    obtain ⟨d, td, rfl, hdi⟩ := IntsAre.at hi _ _ hx
    exact div_turn rfl G SB X' T' hb0 hn hc hlt hdi (fun q hq => hoff q hq qd (.head _)) J F N
  · rintro m₁ news₁ h tk ⟨qs, r, tr, tn, vq, eq, u, rfl, rfl, hiq, hql, hr0, hrb, hqd, hval⟩ F N
    rw [List.size_toArray, hvl] at hql hval
    have eV : dval (Builtin.Int.intBits b) qs.reverse * b + r = a := by
      rw [hval, Nat.sub_self, List.drop_zero, dval_figs, Int.emod_eq_of_lt ha (lt_cnt hn1 ha)]
    obtain ⟨eq1, er1⟩ := dp_end hr0 hrb eV
    k_steps
    rename_i F N
    refine Hold.in ?_
    refine kl_reverse F N rfl (Upd.head (fun _ h => nomatch h)) (by rw [List.toList_toArray, hiq.length, hql, sizeLine_eq]; (first | lia | omega)) ?_
    intro hK F N
    k_steps
    refine Hold.in ?_
    rw [List.toList_toArray] at N
    refine Ret.use (c_d2i_F G (s := { heap := hK, gens := s.gens, drawn := s.drawn, toks := tk, os := s.os }) (fun x o e => F.keep _ _ (SB x o e)) qd vq.reverse qs.reverse (Builtin.Int.intBits b) tn (News.isList N (.head _)) (ints_reverse hiq) (by rw [List.length_reverse]; (first | lia | omega)) (by (first | lia | omega))
      (fun d hd => hqd d (List.mem_reverse.mp hd)) (h86.keeps F.keep)) F N rfl (Nat.le_of_ble_eq_true rfl) (Nat.le_of_ble_eq_true rfl) ?_
    rintro v h' tk' ⟨t, rfl⟩ hs' F2 N2
    clear F N
    k_steps
    rename_i T hT F N lT
    rw [eq1, er1] at N
    exact back_of F (fun _ _ e => e) ⟨T, t, tr, rfl, Nat.le_trans (Nat.le_of_eq hL) (Nat.le_of_lt (ltN (by (first | lia | omega)))), News.get N (.head _)⟩
end Mine
end

section
-- P5e
set_option maxHeartbeats 8000000
theorem Mine.anew21 : True := by w_top off; trivial
open PySem PySem.W PyProof.Rows PySem.Calls
set_option Elab.async false
set_option maxRecDepth 100000
namespace Mine
variable {w : World} {p : Program} {loose : List Str} {mean : ExcName → Option Value} {mg mb : Str → Option Value} {hb : Heap}


local macro_rules | `(tactic| walk_at "binaryOp LShift int int") => `(tactic| (refine lshift_int (Int.natCast_nonneg _) (by assumption) ?_))

set_option maxHeartbeats 4000000 in
theorem c_divpos_E (G : Gnd w p loose mean mg mb hb) {s : Shared} (SB : Sub hb s.heap) (a b : Int) (ta tb : Nat) (ha : 0 ≤ a) (hb0 : 0 < b) (hn : Builtin.Int.intBits b ≤ 4000) (hc : cnt (Builtin.Int.intBits b) a ≤ 100)
    (h79 : s.heap.get? 79 = some (tabObj #[])) (h86 : s.heap.get? 86 = some (tabObj #[])) :
    RetE 330 w 98 [.int a ta, .int b tb] s (fun v h' => ∃ D t u, v = .ref D ∧ s.heap.objs.size ≤ D ∧ h'.get? D = some (tup2 (a / b) (a % b) t u)) := by
  have KX : (hd.heap_39 w.params).In hb ∧ PySem.Challenge.rw_we0015_01 = PySem.Challenge.rw_we0015_01 := by k_fill; exact ⟨G.K, rfl⟩
  refine retE_of ?_
  refine enterP [(86, tabObj #[]), (79, tabObj #[])] [("a", .int a ta), ("b", .int b tb)] G SB (by k_is) (by k_is) (by decide) rfl (locs rfl) rfl rfl rfl (by decide)
    (fun q hq => by rcases List.mem_cons.mp hq with rfl | hq; exact h86; rw [List.mem_singleton.mp hq]; exact h79) (fun q hq => by rcases List.mem_cons.mp hq with rfl | hq; exact G.n86; rw [List.mem_singleton.mp hq]; exact G.n79) ?_
  intro h₀ h₁ L tk gb X' T' F' N' hL hlt
  have g0 : ∀ b o, b ≠ 86 → b ≠ 79 → s.heap.get? b = some o → h₀.get? b = some o := fun b o hb1 hb2 e => gb.new b o e fun q hq => by
    rcases List.mem_cons.mp hq with rfl | hq
    · exact hb1
    · rw [List.mem_singleton.mp hq]; exact hb2
  k_lt hlt
  k_unmd
  k_fold
  k_steps
  rename_i hA F N
  refine Hold.in ?_
  have hn1 : 1 ≤ Builtin.Int.intBits b := by
    unfold Builtin.Int.intBits
    rw [if_neg (by simp; (first | lia | omega))]
    (first | lia | omega)
  refine RetX.use (c_i2d_E G (s := { heap := hA, gens := s.gens, drawn := s.drawn, toks := tk + 1 + 1, os := s.os }) (fun x o e => F.keep _ _ (gb.sub x o e)) a (Builtin.Int.intBits b) ta tk ha hn1 (by (first | lia | omega)) hc (News.get N (.tail _ (.head _)))) F N (by k_updF) rfl (Nat.le_of_ble_eq_true rfl) (Nat.le_of_ble_eq_true rfl) ?_
  rintro v h' tk' ⟨⟨D, vs, ep, rfl, hD, eD, hi⟩, c, lc, t79⟩ hs' F2 N2
  replace N2 := N2 _ t79.1
  obtain ⟨-, hc79, c', oc, vsc, tc, ecc, ec, dc1, dc2⟩ := t79
  cases ecc
  have hcD : c ≠ D := fun q => by rw [q, eD] at ec; cases ec; cases dc1
  replace N2 := fresh_cons F N2 lc ec
  replace N2 := fresh_cons F N2 hD eD
  have hLc : @LT.lt Nat _ L c := Nat.lt_of_lt_of_le F.ns.lt lc
  have hLD : @LT.lt Nat _ L D := Nat.lt_of_lt_of_le F.ns.lt hD
  clear F N
  k_steps
  rename_i qd hG lq hI F N
  refine Hold.in ?_
  refine For_invVF F (by rfl) (by rfl) ?_
  k_unmd
  k_steps
  rename_i R hJ F N lR
  refine Hold.in ?_
  refine wpAny_pyIter_revIter (l := D) (i := ((vs.length : Nat) : Int) - 1) ⟨_, News.get N (.head _), rfl, rfl⟩ ?_
  have hRD : D ≠ R := neN (by (first | lia | omega))
  have hDl : hJ.IsList D vs.toArray := News.isList N (.tail _ (.tail _ (.head _)))
  have hvl : vs.length = cnt (Builtin.Int.intBits b) a := by rw [hi.length, figs_length]
  refine loop_inv (I := R) (news := [(qd, listOf #[] 0), (c, oc), (86, tabObj #[]), (79, tabObj #[rawInt (51 : Nat), rawInt (4 : Nat), .ref c])]) (Walks.listRev rfl R D hRD vs.toArray) (DivJ a b tb qd [(c, oc), (86, tabObj #[]), (79, tabObj #[rawInt (51 : Nat), rawInt (4 : Nat), .ref c])])
    ?_ ?_ ?_ ?_ F ?_ ?_ ?_ ?_
  · intro hm
    rcases List.mem_cons.mp hm with e | hm
    · exact (N _ (.head _)).2.1 e.symm
    · exact (N _ (.tail _ (.tail _ (.head _)))).2.1 (List.mem_singleton.mp hm).symm
  · intro q hq
    rw [List.mem_singleton.mp hq]
    exact (N _ (.head _)).2.2
  · intro q hq hm
    have hm' : q.1 = R ∨ q.1 = D := (List.mem_cons.mp hm).imp id List.mem_singleton.mp
    rcases List.mem_cons.mp hq with rfl | hq
    · exact hm'.elim (fun e => (neN (by (first | lia | omega)) : qd ≠ R) e) (fun e => (neN (by (first | lia | omega)) : qd ≠ D) e)
    · rcases List.mem_cons.mp hq with rfl | hq
      · exact hm'.elim (fun e => (neN (by (first | lia | omega)) : c ≠ R) e) hcD
      · rcases List.mem_cons.mp hq with rfl | hq
        · exact hm'.elim (fun e => (neN (by (first | lia | omega)) : (86 : Nat) ≠ R) e) (fun e => (neN (by (first | lia | omega)) : (86 : Nat) ≠ D) e)
        · rw [List.mem_singleton.mp hq] at hm'
          exact hm'.elim (fun e => (neN (by (first | lia | omega)) : (79 : Nat) ≠ R) e) (fun e => (neN (by (first | lia | omega)) : (79 : Nat) ≠ D) e)
  · refine ⟨Nat.zero_le _, ⟨_, News.get N (.head _), rfl, ?_⟩, hDl⟩
    rw [List.size_toArray]
    simp [revObj]
  · intro q hq
    rcases List.mem_cons.mp hq with rfl | hq
    · exact N _ (.tail _ (.head _))
    · exact N _ (.tail _ (.tail _ (.tail _ hq)))
  · refine ⟨[], 0, _, _, [], 0, _, mp_of ⟨rfl, rfl, rfl, rfl, trivial⟩, rfl, IntsAre.nil, rfl, Int.le_refl _, hb0, (fun _ h => nomatch h), ?_⟩
    rw [Nat.sub_zero, List.drop_of_length_le (by rw [figs_length]; exact Nat.le_refl _)]
    simp [dval]
  · rintro i v m₁ news₁ h tk own hlt hP hadr hoff J F N
    rw [List.size_toArray, hvl] at hlt hP
    have hx : vs[cnt (Builtin.Int.intBits b) a - 1 - i]? = some v := by simpa using hP
    obtain ⟨d, td, rfl, hdi⟩ := IntsAre.at hi _ _ hx
    refine div_turn rfl G gb.sub X' T' hb0 hn hc hlt hdi (fun q hq => ?_) J F N
    rcases List.mem_append.mp hq with hq | hq
    · rcases List.mem_cons.mp hq with rfl | hq
      · exact neN (by (first | lia | omega))
      rcases List.mem_cons.mp hq with rfl | hq
      · exact neN (by (first | lia | omega))
      · rw [List.mem_singleton.mp hq]; exact neN (by (first | lia | omega))
    · exact hoff q hq qd (.head _)
  · rintro m₁ news₁ h tk ⟨qs, r, tr, tn, vq, eq, u, rfl, rfl, hiq, hql, hr0, hrb, hqd, hval⟩ F N
    rw [List.size_toArray, hvl] at hql hval
    have eV : dval (Builtin.Int.intBits b) qs.reverse * b + r = a := by
      rw [hval, Nat.sub_self, List.drop_zero, dval_figs, Int.emod_eq_of_lt ha (lt_cnt hn1 ha)]
    obtain ⟨eq1, er1⟩ := dp_end hr0 hrb eV
    k_steps
    rename_i F N
    refine Hold.in ?_
    refine kl_reverse F N rfl (by k_upd) (by rw [List.toList_toArray, hiq.length, hql, sizeLine_eq]; (first | lia | omega)) ?_
    intro hK F N
    k_steps
    refine Hold.in ?_
    rw [List.toList_toArray] at N
    refine RetX.use (c_d2i_E G (s := { heap := hK, gens := s.gens, drawn := s.drawn, toks := tk, os := s.os }) (fun x o e => F.keep _ _ (gb.sub x o e)) qd vq.reverse qs.reverse (Builtin.Int.intBits b) tn (News.isList N (.head _)) (ints_reverse hiq) (by rw [List.length_reverse]; (first | lia | omega)) (by (first | lia | omega))
      (fun d hd => hqd d (List.mem_reverse.mp hd)) (News.get N (.tail _ (.tail _ (.head _))))) F N (by k_updF) rfl (Nat.le_of_ble_eq_true rfl) (Nat.le_of_ble_eq_true rfl) ?_
    rintro v h' tk' ⟨⟨t, rfl⟩, c86, l86, t86⟩ hs' F2 N2
    replace N2 := N2 _ t86.1
    obtain ⟨-, hc86, c', oc2, vsc2, tc2, ecc, ec2, dc3, dc4⟩ := t86
    cases ecc
    replace N2 := fresh_cons F N2 l86 ec2
    have hL86 : @LT.lt Nat _ L c86 := Nat.lt_of_lt_of_le F.ns.lt l86
    clear F N
    k_steps
    rename_i T hT F N lT
    rw [eq1, er1] at N
    refine ⟨_, _, _, c, c86, rfl, rfl, fun b o h1 h2 e => F.keep b o (g0 b o h1 h2 e), Nat.le_trans (Nat.le_of_eq hL) (Nat.le_of_lt hLc), Nat.le_trans (Nat.le_of_eq hL) (Nat.le_of_lt hL86), ?_, ?_, T, t, tr, rfl, Nat.le_trans (Nat.le_of_eq hL) (Nat.le_of_lt (ltN (by (first | lia | omega)))), News.get N (.head _)⟩
    · exact ⟨News.get N (.tail _ (.tail _ (.tail _ (.tail _ (.tail _ (.head _)))))), hc79, c, oc, vsc, tc, rfl, News.get N (.tail _ (.tail _ (.tail _ (.head _)))), dc1, dc2⟩
    · exact ⟨News.get N (.tail _ (.tail _ (.tail _ (.tail _ (.head _))))), hc86, c86, oc2, vsc2, tc2, rfl, News.get N (.tail _ (.head _)), dc3, dc4⟩
end Mine
end

section
-- P6
set_option maxHeartbeats 8000000
theorem Mine.anew22 : True := by w_top off; trivial
open PySem PySem.W PyProof.Rows PySem.Calls
set_option Elab.async false
set_option maxRecDepth 100000
namespace Mine
variable {w : World} {p : Program} {loose : List Str} {mean : ExcName → Option Value} {mg mb : Str → Option Value} {hb : Heap}

set_option maxHeartbeats 4000000 in
theorem c_divmod_F (G : Gnd w p loose mean mg mb hb) {s : Shared} (SB : Sub hb s.heap) (a b : Int) (ta tb : Nat) (ha : 0 ≤ a) (hb0 : 0 < b) (hn : Builtin.Int.intBits b ≤ 4000) (hc : cnt (Builtin.Int.intBits b) a ≤ 100)
    {c c2 : Addr} (h79 : Tab79 s.heap c) (h86 : Tab86 s.heap c2) :
    Ret 320 w 105 [.int a ta, .int b tb] s (fun v h' => ∃ D t u, v = .ref D ∧ s.heap.objs.size ≤ D ∧ h'.get? D = some (tup2 (a / b) (a % b) t u)) := by
  have KX : (hd.heap_39 w.params).In hb ∧ PySem.Challenge.rw_we0015_01 = PySem.Challenge.rw_we0015_01 := by k_fill; exact ⟨G.K, rfl⟩
  refine ret_of ?_
  refine enter0 G SB [("a", .int a ta), ("b", .int b tb)] (by k_is) (by k_is) (by decide) rfl (locs rfl) rfl rfl rfl (by decide) ?_
  intro h₁ L tk X' T' F' N' hL hk
  k_fold
  k_steps
  · exfalso; (first | lia | omega)
  refine Hold.in ?_
  refine Ret.use (c_divpos_F G (s := { heap := h₁, gens := s.gens, drawn := s.drawn, toks := _, os := s.os }) (fun x o e => F'.keep _ _ (SB x o e)) a b ta tb ha hb0 hn hc (h79.keeps F'.keep) (h86.keeps F'.keep)) F' N' rfl (by exact Nat.le_of_ble_eq_true rfl) (by exact Nat.le_of_ble_eq_true rfl) ?_
  rintro v h' tk' ⟨D, t, u, rfl, hD, eD⟩ hs' F2 N2
  have hLD : @LT.lt Nat _ L D := Nat.lt_of_lt_of_le F'.ns.lt hD
  clear F' N'
  k_steps
  exact back_of F2 (fun _ _ e => e) ⟨D, t, u, rfl, Nat.le_trans (Nat.le_of_eq hL) (Nat.le_of_lt hLD), eD⟩

set_option maxHeartbeats 4000000 in
theorem c_divmod_E (G : Gnd w p loose mean mg mb hb) {s : Shared} (SB : Sub hb s.heap) (a b : Int) (ta tb : Nat) (ha : 0 ≤ a) (hb0 : 0 < b) (hn : Builtin.Int.intBits b ≤ 4000) (hc : cnt (Builtin.Int.intBits b) a ≤ 100)
    (h79 : s.heap.get? 79 = some (tabObj #[])) (h86 : s.heap.get? 86 = some (tabObj #[])) :
    RetE 320 w 105 [.int a ta, .int b tb] s (fun v h' => ∃ D t u, v = .ref D ∧ s.heap.objs.size ≤ D ∧ h'.get? D = some (tup2 (a / b) (a % b) t u)) := by
  have KX : (hd.heap_39 w.params).In hb ∧ PySem.Challenge.rw_we0015_01 = PySem.Challenge.rw_we0015_01 := by k_fill; exact ⟨G.K, rfl⟩
  refine retE_of ?_
  refine enter0 G SB [("a", .int a ta), ("b", .int b tb)] (by k_is) (by k_is) (by decide) rfl (locs rfl) rfl rfl rfl (by decide) ?_
  intro h₁ L tk X' T' F' N' hL hk
  k_fold
  k_steps
  · exfalso; (first | lia | omega)
  refine Hold.in ?_
  refine c_divpos_E G (s := { heap := h₁, gens := s.gens, drawn := s.drawn, toks := _, os := s.os }) (fun x o e => F'.keep _ _ (SB x o e)) a b ta tb ha hb0 hn hc (F'.keep _ _ h79) (F'.keep _ _ h86) _ _ _ rfl (by exact Nat.le_of_ble_eq_true rfl) (by exact Nat.le_of_ble_eq_true rfl) ?_
  rintro v h' tk' c79 c86 hs l79 l86 t79 t86 ⟨D, t, u, rfl, hD, eD⟩
  have hLs := F'.ns.lt
  refine ⟨_, _, _, c79, c86, rfl, rfl, fun b o h1 h2 e => hs b o h1 h2 (F'.keep b o e), Nat.le_trans (Nat.le_of_eq hL) (Nat.le_of_lt (Nat.lt_of_lt_of_le hLs l79)), Nat.le_trans (Nat.le_of_eq hL) (Nat.le_of_lt (Nat.lt_of_lt_of_le hLs l86)), t79, t86, D, t, u, rfl, Nat.le_trans (Nat.le_of_eq hL) (Nat.le_of_lt (Nat.lt_of_lt_of_le hLs hD)), eD⟩
end Mine
end

section
-- BA1
set_option maxHeartbeats 8000000
open PySem PySem.W PyProof.Rows PySem.Calls
set_option Elab.async false
set_option maxRecDepth 100000
namespace Mine
theorem ba_mro : mroOf (.type "bytearray") = pure [.type "bytearray", .type "object"] := by rw [mroOf_type]; kernel_rfl
theorem ba_lookup_new : typeLookup (.type "bytearray") "__new__" = pure (some (.builtin "bytearray.__new__")) := by rw [typeLookup_type, builtinLookup_eq_fast]; kernel_rfl
theorem ba_slot_init : Slot "bytearray" "__init__" "bytearray.__init__" :=
  .of (owner := "bytearray") (n := "__init__") (by rw [typeLookup_type, builtinLookup_eq_fast]; kernel_rfl) (by decide +kernel) (by decide +kernel) (by decide +kernel)
    (by first | exact .inl (by decide +kernel) | exact .inr (by decide +kernel)) (by rw [isSubtype_type]; kernel_rfl)
theorem ba_slot_setitem : Slot "bytearray" "__setitem__" "bytearray.__setitem__" :=
  .of (owner := "bytearray") (n := "__setitem__") (by rw [typeLookup_type, builtinLookup_eq_fast]; kernel_rfl) (by decide +kernel) (by decide +kernel) (by decide +kernel)
    (by first | exact .inl (by decide +kernel) | exact .inr (by decide +kernel)) (by rw [isSubtype_type]; kernel_rfl)
theorem ba_called : TypeCalled "bytearray" "bytearray.__new__" "bytearray.__init__" :=
  ⟨by decide +kernel, by decide +kernel, ⟨_, _, ba_mro⟩, madeBy_type ba_mro ba_lookup_new (by decide +kernel), by decide +kernel, by rw [isSubtype_type]; kernel_rfl, ba_slot_init⟩
theorem ba_typeCall (a : Value) : checkTypeCall "bytearray" ⟨[a], []⟩ = pure () := by kernel_rfl
theorem ba_newCall (a : Value) : checkBuiltinCall "bytearray.__new__" ⟨[.type "bytearray", a], []⟩ = pure () := by kernel_rfl
theorem ba_plain_new : plainId "bytearray.__new__" = true := by decide +kernel
theorem ba_entry_init : entryFor table "bytearray.__init__" = some Builtin.«bytearray.__init__» := by first | exact entryFor_of_fast (by kernel_rfl) | exact entryFor_of_tree (by kernel_rfl)
theorem ba_entry_setitem : entryFor table "bytearray.__setitem__" = some Builtin.«bytearray.__setitem__» := by first | exact entryFor_of_fast (by kernel_rfl) | exact entryFor_of_tree (by kernel_rfl)
theorem ba_entry_new : entryFor table "bytearray.__new__" = some Builtin.«list.__new__» := by
  exact entryFor_alias (id' := "list.__new__") (by kernel_rfl) (by first | rfl | decide +kernel | (unfold String.splitOn; simp +decide [String.splitOnAux])) (by decide +kernel) (by kernel_rfl)
theorem ba_args_setitem (a b c : Value) : argsOk "bytearray.__setitem__" ⟨[a, b, c], []⟩ := by unfold argsOk; kernel_rfl
theorem ba_args_init (a b : Value) : argsOk "bytearray.__init__" ⟨[a, b], []⟩ := by unfold argsOk; kernel_rfl
theorem ba_bind (v : Value) : Builtin.Bytes.bindOptional "bytearray.__init__" "bytearray" ["source", "encoding", "errors"] [v] [] = pure [some v, none, none] := by kernel_rfl
theorem ba_no_release : typeLookup (.type "bytearray") "__release_buffer__" = pure (some (.builtin "bytearray.__release_buffer__")) := by rw [typeLookup_type, builtinLookup_eq_fast]; kernel_rfl
end Mine
end

section
-- BA2
set_option maxHeartbeats 8000000
open PySem PySem.W PyProof.Rows PySem.Calls
set_option Elab.async false
set_option maxRecDepth 100000
namespace Mine
/-- a bytearray's object -/
noncomputable abbrev baObj (b : Array UInt8) : Obj := { cls := .type "bytearray", data := .bytearray b }
section
variable {w : World} {A : Around} {E : Value → Shared → Prop} {s : Shared}
theorem setItem_ba {a : Addr} {b : Array UInt8} {k x : Int} {t u : Tok} {Q : Unit → Shared → Prop} (ho : s.heap.get? a = some (baObj b)) (h0 : 0 ≤ k) (hk : k < b.size) (hx0 : 0 ≤ x) (hx1 : x < 256) (hz : b.size ≤ 1000)
    (hQ : ∀ h', h'.get? a = some (baObj (b.setIfInBounds k.toNat x.toNat.toUInt8)) → Heap.SameBut a s.heap h' → Q () { s with heap := h' }) :
    wpAny (model prg w) A (setItem (.ref a) (.int k t) (.int x u)) Q E s := by
  have hT : s.TypeIs (.ref a) "bytearray" := ⟨_, ho, rfl⟩
  unfold setItem
  try with_reducible refine wpAny_holding ?_
  first | refine wpAny_bind (wpAny_pure ?_) | skip
  refine wpAny_bind (wpAny_sequenceKey hT (by decide) ?_)
  refine wpAny_bind (wpAny_callSpecial?_slot (name := Str.ofString "__setitem__") hT ba_slot_setitem
    (wpAny_call_entry ba_slot_setitem hT ba_entry_setitem ?_ (ba_args_setitem _ _ _)))
  show wpAny _ _ (Builtin.Bytes.subscript? (.int k t) >>= _) _ _ s
  refine wpAny_bind ?_
  unfold Builtin.Bytes.subscript?
  refine wpAny_bind (wpAny_specialOf (T := "int") (typeIs_int s k t) int_index ?_)
  show wpAny _ _ (asIndex (.int k t) >>= _) _ _ s
  refine wpAny_bind (wpAny_of_eq (a := k) rfl ?_)
  show wpAny _ _ (if (!Builtin.Bytes.fitsIndex k) = true then _ else _) _ _ s
  rw [if_neg (by unfold Builtin.Bytes.fitsIndex; simp; (first | lia | omega))]
  refine wpAny_pure ?_
  show wpAny _ _ (Builtin.Bytes.byteValue (.int x u) >>= _) _ _ s
  refine wpAny_bind ?_
  unfold Builtin.Bytes.byteValue
  refine wpAny_bind (wpAny_of_eq (a := x) rfl ?_)
  show wpAny _ _ (if (decide (x < 0) || decide (x ≥ 256)) = true then _ else _) _ _ s
  rw [if_neg (by simp; (first | lia | omega))]
  refine wpAny_pure ?_
  show wpAny _ _ (Builtin.Bytes.payload (.ref a) >>= _) _ _ s
  refine wpAny_bind ?_
  unfold Builtin.Bytes.payload Builtin.Bytes.payload?
  refine wpAny_bind (wpAny_bind (wpAny_load ho ?_))
  refine wpAny_pure (wpAny_pure ?_)
  dsimp only
  rw [seqIndex_of h0 hk]
  dsimp only
  show wpAny _ _ (updateBytearray a (·.setIfInBounds k.toNat x.toNat.toUInt8) >>= _) _ _ s
  refine wpAny_bind ?_
  unfold updateBytearray
  refine wpAny_bind (wpAny_load ho ?_)
  show wpAny _ _ (update a (Obj.mapBytearray (·.setIfInBounds k.toNat x.toNat.toUInt8)) >>= fun _ => lookBehind a) _ _ _
  refine wpAny_bind (wpAny_update ho ?_)
  have hS : (s.heap.update a (Obj.mapBytearray (·.setIfInBounds k.toNat x.toNat.toUInt8))).get? a = some (baObj (b.setIfInBounds k.toNat x.toNat.toUInt8)) :=
    Heap.get?_update_self (Obj.mapBytearray (·.setIfInBounds k.toNat x.toNat.toUInt8)) ho rfl
  refine wpAny_lookBehind hS ?_ ?_
  · show (if (b.setIfInBounds k.toNat x.toNat.toUInt8).size > sizeLine then some "bytearray:memory" else none) = none
    rw [if_neg (by rw [Array.size_setIfInBounds, sizeLine_eq]; (first | lia | omega))]
  · first
    | exact wpAny_bind (wpAny_pure (wpAny_pure ⟨.none, rfl, wpAny_pure (hQ _ hS (Heap.SameBut.update ..))⟩))
    | exact wpAny_pure ⟨.none, rfl, wpAny_pure (hQ _ hS (Heap.SameBut.update ..))⟩
end
end Mine
end

section
-- N2
set_option maxHeartbeats 8000000
open PySem PySem.W PyProof.Rows PySem.Calls
open Sem (wp)
set_option Elab.async false
set_option maxRecDepth 100000
namespace Mine
set_option maxRecDepth 1000000 in
set_option maxHeartbeats 4000000 in
theorem ba_owner : ("bytearray.__new__".splitOn ".__new__").headD "" = "bytearray" := by simp +decide [String.splitOn, String.splitOnAux]
theorem ba_sub : isSubtype (.type "bytearray") (.type "bytearray") = pure true := by rw [isSubtype_type]; kernel_rfl
section
variable {prog : Program} {w : World} {A : Around} {E : Value → Shared → Prop} {s : Shared}
theorem ba_new (a : Value) {Q₁ : Value → Shared → Prop} (h : Q₁ (.ref s.heap.objs.size) { s with heap := s.heap.push (baObj #[]) }) :
    codeAny (model prog w) A (.call (.builtin "bytearray.__new__") ⟨[.type "bytearray", a], []⟩) (wants Q₁ E) s := by
  refine codeAny_of_tree ?_
  show wpAny _ A.in1 (do checkBuiltinCall "bytearray.__new__" ⟨[.type "bytearray", a], []⟩; again (.builtin "bytearray.__new__" ⟨[.type "bytearray", a], []⟩)) _ _ s
  refine wpAny_bind (wpAny_of_eq (ba_newCall a) (wpAny_pure ⟨plainId_quiet ba_plain_new _, codeAny_builtin_stack ba_entry_new rfl fun p st => ?_⟩))
  rw [Around.under_plainId ba_plain_new _]
  have hsub := ba_sub
  have hown := ba_owner
  obtain ⟨hp, g, d, tk, os⟩ := s
  simp only [hown]
  wp_walk
  exact h
theorem nIf_false {α : Type} {M : Model} {c : Bool} {a b : Sem α} {Q : α → Shared → Prop} (hc : c = false) (h : wpN M A b Q E s) : wpN M A (if c = true then a else b) Q E s := by
  subst hc
  exact h
theorem nIf_true {α : Type} {M : Model} {c : Bool} {a b : Sem α} {Q : α → Shared → Prop} (hc : c = true) (h : wpN M A a Q E s) : wpN M A (if c = true then a else b) Q E s := by
  subst hc
  exact h
theorem codeN_builtin {R : Result → Shared → Prop} {id : String} {args : Args} {b : Builtin} (hn : noHold (.builtin id args) = true) (hb : entryFor table id = some b)
    (h : wpN (model prog w) (A.under (.builtin id args)) (b args)
      (fun fin s' => match fin with | .done f => R (.ok f) s' | .again c' => c'.quiet = true ∧ codeN (model prog w) A c' R s') (fun e s' => R (.error e) s') s) :
    codeN (model prog w) A (.builtin id args) R s := by
  refine codeN_of_tree hn ?_
  show wpN _ _ (match entryFor table id with | some b => b args | none => unsupported ((withoutEnding? id "#data").getD id)) _ _ s
  rw [hb]; exact h
theorem codeN_call_builtin {R : Result → Shared → Prop} {id : String} {args : Args} {b : Builtin} (hn : noHold (.builtin id args) = true) (hq : plainId id = true) (hb : entryFor table id = some b)
    (h : wpAny (model prog w) A.in1 (checkBuiltinCall id args) (fun _ s₁ => wpN (model prog w) A.in1 (b args)
      (fun fin s' => match fin with | .done f => R (.ok f) s' | .again c' => c'.quiet = true ∧ codeN (model prog w) A c' R s') (fun e s' => R (.error e) s') s₁)
      (fun e s' => R (.error e) s') s) : codeN (model prog w) A (.call (.builtin id) args) R s := by
  refine codeN_of_tree rfl ?_
  show wpN _ A.in1 (do checkBuiltinCall id args; again (.builtin id args)) _ _ s
  refine wpN_then (wpAny_mono h (fun _ s₁ h₁ => wpN_pure (And.intro (plainId_quiet hq args) (codeN_builtin hn hb ?_))) fun _ _ h' => h')
  rw [Around.under_plainId hq args]; exact h₁

theorem nh_type_call {a : Args} : noHold (.builtin "type.__call__" a) = true := by show (!heldIds.contains "type.__call__") = true; decide +kernel
theorem nIf_neg {α : Type} {M : Model} {c : Prop} [Decidable c] {a b : Sem α} {Q : α → Shared → Prop} (hc : ¬ c) (h : wpN M A b Q E s) : wpN M A (if c then a else b) Q E s := by
  rw [if_neg hc]; exact h
theorem nIf_pos {α : Type} {M : Model} {c : Prop} [Decidable c] {a b : Sem α} {Q : α → Shared → Prop} (hc : c) (h : wpN M A a Q E s) : wpN M A (if c then a else b) Q E s := by
  rw [if_pos hc]; exact h
theorem nType_call {T newId initId : String} {Bi : Builtin} {args : List Value} {Q Q₁ : Value → Shared → Prop} (ft : TypeCalled T newId initId)
    (hni : ∀ a, noHold (.builtin initId a) = true)
    (hct : checkTypeCall T ⟨args, []⟩ = pure ()) (entryI : entryFor table initId = some Bi)
    (hnew : codeAny (model prog w) A.in1 (.call (.builtin newId) ⟨.type T :: args, []⟩) (wants Q₁ E) s)
    (hnext : ∀ obj s₁, Q₁ obj s₁ → s₁.TypeIs obj T ∧ argsOk initId ⟨obj :: args, []⟩ ∧
      wpN (model prog w) A.in1.in1 (Bi ⟨obj :: args, []⟩)
        (fun fin s' => match fin with | .done f => wants (fun r s₂ => r = .none ∧ Q obj s₂) E (.ok f) s' | .again c' => c'.quiet = true ∧ codeN (model prog w) A.in1 c' (wants (fun r s₂ => r = .none ∧ Q obj s₂) E) s')
        (fun e s' => wants (fun r s₂ => r = .none ∧ Q obj s₂) E (.error e) s') s₁) :
    wpN (model prog w) A (call (.type T) args) Q E s := by
  obtain ⟨c, tl, hmro⟩ := ft.mro
  have hmade := ft.made
  have hsub := ft.sub
  refine wpN_call (codeN_of_tree rfl ?_)
  show wpN _ _ (callAny (.type T) _) _ _ _
  refine wpN_pure ⟨Code.quiet_builtin _ (by decide +kernel), codeN_builtin nh_type_call F.entry_type_call ?_⟩
  rw [Around.under_plain (weight_type_call_type T args []) rfl]
  have h1 := ft.notType
  have h2 := ft.canCreate
  unfold Builtin.«type.__call__»
  refine nIf_false h1 ?_
  refine nIf_false h2 ?_
  refine wpN_then (wpAny_of_eq hct ?_)
  refine wpN_then (wpAny_of_eq hmro ?_)
  refine nIf_false rfl ?_
  refine wpN_then (wpAny_of_eq hmade ?_)
  refine wpN_then (wpAny_pure ?_)
  refine wpN_then (wpAny_holding (wpAny_call (codeAny_mono hnew fun r s₁ hr => ?_)))
  cases r with
  | error e => exact hr
  | ok fl =>
    cases fl with
    | ret obj =>
      obtain ⟨hT, hok, hN⟩ := hnext _ _ hr
      refine wpN_then (wpAny_isInstance hT hsub ?_)
      refine nIf_false rfl ?_
      refine wpN_bind (wpN_holding ?_)
      simp only [callSpecial?]
      refine wpN_then (wpAny_specialOf hT ft.init.lookup ?_)
      simp only [ft.init.bind]
      refine wpN_holding (wpN_then (wpAny_pure (wpN_bind (wpN_call (codeN_mono (codeN_call_builtin (hni _) ft.init.plain entryI (ft.init.check _ _ _ _ _ _ _ _ hT hok hN)) fun r₂ s₂ hr₂ => ?_)))))
      cases r₂ with
      | error e => exact hr₂
      | ok fl₂ =>
        cases fl₂ with
        | ret r =>
          obtain ⟨rfl, hq⟩ := hr₂
          refine wpN_pure ?_
          refine nIf_false rfl ?_
          exact wpN_pure hq
        | _ => exact hr₂.elim
    | _ => exact hr.elim
theorem ba_look_release : typeLookup (.type "bytearray") "__release_buffer__" = pure (some (.builtin "bytearray.__release_buffer__")) := ba_no_release
theorem ba_own_release {M : Model} {v : Value} {Q : Bool → Shared → Prop} (hT : s.TypeIs v "bytearray") (hQ : Q false s) : wpAny M A (Builtin.Bytes.ownRelease v) Q E s := by
  unfold Builtin.Bytes.ownRelease Builtin.Bytes.slotIsOwn
  refine wpAny_bind (wpAny_bind (wpAny_specialOf hT ba_look_release ?_))
  dsimp only
  split
  · rename_i hx
    exact absurd hx (by decide +kernel)
  · have key : ∀ x : String, x = "bytearray" → wpAny M A (isInstance v (.type x)) (fun b s' => wpAny M A (pure (!b)) Q E s') E s := fun x hx => by subst hx; exact wpAny_isInstance hT ba_sub (wpAny_pure hQ)
    exact key _ (by decide +kernel)
theorem ba_write {M : Model} {a : Addr} {b : Array UInt8} {f : Array UInt8 → Array UInt8} {Q : Unit → Shared → Prop} (ho : s.heap.get? a = some (baObj b)) (hz : (f b).size ≤ 1000)
    (hQ : ∀ h', h'.get? a = some (baObj (f b)) → Heap.SameBut a s.heap h' → Q () { s with heap := h' }) : wpAny M A (Builtin.Bytes.write (.ref a) f) Q E s := by
  show wpAny M A (updateBytearray a f) Q E s
  unfold updateBytearray
  refine wpAny_bind (wpAny_load ho ?_)
  show wpAny _ _ (update a (Obj.mapBytearray f) >>= fun _ => lookBehind a) _ _ _
  refine wpAny_bind (wpAny_update ho ?_)
  have hS : (s.heap.update a (Obj.mapBytearray f)).get? a = some (baObj (f b)) := Heap.get?_update_self (Obj.mapBytearray f) ho rfl
  refine wpAny_lookBehind hS ?_ (hQ _ hS (Heap.SameBut.update ..))
  show (if (f b).size > sizeLine then some "bytearray:memory" else none) = none
  rw [if_neg (by rw [sizeLine_eq]; (first | lia | omega))]
theorem nh_init (a : Args) : noHold (.builtin "bytearray.__init__" a) = true := by show (!heldIds.contains "bytearray.__init__") = true; decide +kernel
theorem call_bytearray {n : Int} {t : Tok} {Q : Value → Shared → Prop} (h0 : 0 ≤ n) (hz : n ≤ 1000)
    (hQ : ∀ h', h'.get? s.heap.objs.size = some (baObj (Array.replicate n.toNat 0)) → (∀ b o, s.heap.get? b = some o → h'.get? b = some o) → Q (.ref s.heap.objs.size) { s with heap := h' }) :
    wpN (model prog w) A (call (.type "bytearray") [.int n t]) Q E s := by
  refine nType_call (Q₁ := fun obj s₁ => obj = .ref s.heap.objs.size ∧ s₁ = { s with heap := s.heap.push (baObj #[]) }) ba_called nh_init (ba_typeCall _) ba_entry_init (ba_new _ ⟨rfl, rfl⟩) ?_
  rintro obj s₁ ⟨rfl, rfl⟩
  have hS : (s.heap.push (baObj #[])).get? s.heap.objs.size = some (baObj #[]) := Heap.get?_push_size _ rfl
  have hT : ({ s with heap := s.heap.push (baObj #[]) } : Shared).TypeIs (.ref s.heap.objs.size) "bytearray" := ⟨_, hS, rfl⟩
  refine ⟨hT, ba_args_init _ _, ?_⟩
  unfold Builtin.«bytearray.__init__»
  refine wpN_then (ba_own_release hT ?_)
  refine nIf_false rfl ?_
  refine wpN_then (wpAny_of_eq (ba_bind _) ?_)
  refine wpN_then (wpAny_of_eq (a := ()) rfl ?_)
  refine wpN_then (wpAny_of_eq (a := ()) rfl ?_)
  refine wpN_bind (wpN_bind (wpN_exported ?_))
  show wpN _ _ (Builtin.Bytes.exportsOf (.ref s.heap.objs.size) >>= fun k => pure (decide (k > 0))) _ _ _
  refine wpN_then ?_
  unfold Builtin.Bytes.exportsOf
  refine wpAny_bind (wpAny_load hS ?_)
  refine wpAny_pure (wpN_pure ?_)
  refine nIf_false rfl ?_
  refine wpN_then (ba_write hS (by decide) fun h₁ h1 hb1 => ?_)
  refine wpN_then (wpAny_of_eq (a := none) rfl ?_)
  refine nIf_false rfl ?_
  refine wpN_then (wpAny_of_eq (a := ()) rfl ?_)
  refine wpN_then (wpAny_specialOf (T := "int") (typeIs_int _ n t) int_index ?_)
  refine nIf_true rfl ?_
  refine wpN_then (wpAny_attempt (wpAny_of_eq (a := n) rfl ?_))
  refine nIf_false (by unfold Builtin.Bytes.fitsIndex; simp; (first | lia | omega)) ?_
  refine nIf_neg (by (first | lia | omega)) ?_
  refine nIf_false (by rw [beq_eq_false_iff_ne]; (first | lia | omega)) ?_
  refine nIf_false (by unfold Builtin.Bytes.tooLong; rw [sizeLine_eq]; exact decide_eq_false (by (first | lia | omega))) ?_
  refine wpN_then (wpAny_rule ?_)
  have old : ∀ {h' : Heap}, Heap.SameBut s.heap.objs.size h₁ h' → ∀ b o, s.heap.get? b = some o → h'.get? b = some o := fun hb' b o e =>
    (hb'.2 b (Nat.ne_of_lt (Heap.lt_size e))).trans ((hb1.2 b (Nat.ne_of_lt (Heap.lt_size e))).trans (Heap.get?_push_of_some _ e))
  by_cases hp : n > 0
  · refine nIf_pos hp ?_
    refine wpN_then (ba_write h1 (by simp; (first | lia | omega)) fun h₂ h2 hb2 => ?_)
    exact wpN_pure ⟨rfl, hQ h₂ h2 (old hb2)⟩
  · refine nIf_neg hp ?_
    have e0 : n = 0 := by (first | lia | omega)
    subst e0
    exact wpN_pure ⟨rfl, hQ h₁ h1 fun b o e => (hb1.2 b (Nat.ne_of_lt (Heap.lt_size e))).trans (Heap.get?_push_of_some _ e)⟩
end
end Mine
end

section
-- BA3
set_option maxHeartbeats 8000000
open PySem PySem.W PyProof.Rows PySem.Calls
set_option Elab.async false
set_option maxRecDepth 100000
namespace Mine
theorem ba_no_bytes : typeLookup (.type "bytearray") "__bytes__" = pure none := by rw [typeLookup_type, builtinLookup_eq_fast]; kernel_rfl
theorem ba_no_index : typeLookup (.type "bytearray") "__index__" = pure none := by rw [typeLookup_type, builtinLookup_eq_fast]; kernel_rfl
theorem ba_look_buffer : typeLookup (.type "bytearray") "__buffer__" = pure (some (.builtin "bytearray.__buffer__")) := by rw [typeLookup_type, builtinLookup_eq_fast]; kernel_rfl
section
variable {w : World} {A : Around} {E : Value → Shared → Prop} {s : Shared}
theorem ba_own_buffer {M : Model} {v : Value} {Q : Bool → Shared → Prop} (hT : s.TypeIs v "bytearray") (hQ : Q true s) : wpAny M A (Builtin.Bytes.slotIsOwn v "__buffer__") Q E s := by
  unfold Builtin.Bytes.slotIsOwn
  refine wpAny_bind (wpAny_specialOf hT ba_look_buffer ?_)
  dsimp only
  split
  · rename_i hx
    exact absurd hx (by decide +kernel)
  · have key : ∀ x : String, x = "bytearray" → wpAny M A (isInstance v (.type x)) Q E s := fun x hx => by subst hx; exact wpAny_isInstance hT ba_sub hQ
    exact key _ (by decide +kernel)
theorem bytes_ba {X : Addr} {b : Array UInt8} {Q : Value → Shared → Prop} (hX : s.heap.get? X = some (baObj b)) (hz : b.size ≤ 1000) (hQ : ∀ t k, Q (.bytes b t) { s with toks := k }) :
    wpAny (model prg w) A (call (.type "bytes") [.ref X]) Q E s := by
  have hT : s.TypeIs (.ref X) "bytearray" := ⟨_, hX, rfl⟩
  refine callType_codes (Q₁ := fun obj s₁ => s₁.TypeIs obj "bytes" ∧ Q obj s₁) F.bm_called (F.bm_typeCall _) F.entry_object_init ?_ fun obj s₁ h₁ =>
    ⟨h₁.1, F.args_object_init_2 obj _, object_init_meets F.bm_called.init.lookup F.bm_called.made (by decide) prg w A.in1 _ s₁ ⟨h₁.1, rfl, h₁.2⟩⟩
  refine codeAny_of_tree ?_
  show wpAny _ _ (do checkBuiltinCall "bytes.__new__" ⟨[.type "bytes", .ref X], []⟩; again (.builtin "bytes.__new__" ⟨[.type "bytes", .ref X], []⟩)) _ _ s
  refine wpAny_bind (wpAny_of_eq (F.bm_newCall _) (wpAny_pure ⟨plainId_quiet F.bm_plain _, codeAny_builtin F.bm_entry ?_⟩))
  rw [Around.under_plainId F.bm_plain _]
  unfold Builtin.«bytes.__new__»
  refine wpAny_bind (wpAny_of_eq (a := true) rfl ?_)
  refine bm_if_false rfl ?_
  refine wpAny_bind (wpAny_of_eq F.bm_sub ?_)
  refine bm_if_false rfl ?_
  refine wpAny_bind (wpAny_of_eq (F.bm_bind _) ?_)
  refine wpAny_bind (wpAny_of_eq (a := ()) rfl ?_)
  refine wpAny_bind (wpAny_of_eq (a := ()) rfl ?_)
  refine bm_if_false rfl ?_
  refine wpAny_bind (wpAny_specialOf hT ba_no_bytes ?_)
  refine wpAny_bind (wpAny_bind ?_)
  show wpAny _ _ (load X >>= _) _ _ _
  refine wpAny_bind (wpAny_load hX ?_)
  refine wpAny_pure (wpAny_pure ?_)
  refine bm_if_false rfl ?_
  refine wpAny_bind (wpAny_specialOf hT ba_no_index ?_)
  refine bm_if_true rfl ?_
  show wpAny _ _ (Builtin.Bytes.buffer? "bytes.__new__" (.ref X) true >>= _) _ _ _
  refine wpAny_bind ?_
  unfold Builtin.Bytes.buffer?
  refine wpAny_bind (wpAny_specialOf hT ba_look_buffer ?_)
  refine wpAny_bind (ba_own_buffer hT ?_)
  refine bm_if_false rfl ?_
  refine wpAny_bind (wpAny_specialOf hT ba_look_buffer ?_)
  refine wpAny_bind (ba_own_release hT ?_)
  refine bm_if_false rfl ?_
  refine wpAny_bind ?_
  unfold Builtin.Bytes.payload Builtin.Bytes.payload?
  refine wpAny_bind (wpAny_bind (wpAny_load hX ?_))
  refine wpAny_pure (wpAny_pure (wpAny_pure ?_))
  refine wpAny_bind (wpAny_rule ?_)
  have hzz : b.size ≤ sizeLine := by rw [sizeLine_eq]; (first | lia | omega)
  first
    | refine wpAny_bind (wpAny_bind (wpAny_mkBytes (b := b) ?_ hzz))
    | refine wpAny_bind (wpAny_mkBytes (b := b) ?_ hzz)
  first
    | exact wpAny_pure (wpAny_pure ⟨PySem.W.typeIs_bytes _ _ _, hQ _ _⟩)
    | exact wpAny_pure ⟨PySem.W.typeIs_bytes _ _ _, hQ _ _⟩
    | exact wpAny_pure (wpAny_pure (wpAny_pure ⟨PySem.W.typeIs_bytes _ _ _, hQ _ _⟩))
    | trace_state
end
end Mine
end

section
-- N4
set_option maxHeartbeats 8000000
open PySem PySem.W PyProof.Rows PySem.Calls
open Sem (wp)
set_option Elab.async false
set_option maxRecDepth 100000
namespace Mine
section
variable {M : Model} {A : Around} {E : Value → Shared → Prop} {s : Shared} {env : Env}
theorem wpN_execs_cons {st : Stmt} {rest : List Stmt} {Q : Flow → Shared → Prop}
    (h : wpN M A (exec st env) (fun f s' => match f with | .next => wpN M A (execs rest env) Q E s' | f => Q f s') E s) : wpN M A (execs (st :: rest) env) Q E s := by
  rw [execs_cons]
  refine wpN_bind (wpN_mono h (fun f s' h' => ?_) fun _ _ x => x)
  cases f with
  | next => exact h'
  | cont => exact wpN_pure h'
  | brk => exact wpN_pure h'
  | ret v => exact wpN_pure h'
theorem execs_append (a b : List Stmt) : execs (a ++ b) env = (do match ← execs a env with | .next => execs b env | f => pure f) := by
  induction a with
  | nil => rfl
  | cons st a ih =>
    show execs (st :: (a ++ b)) env = _
    rw [execs_cons, execs_cons, ih]
    simp only [bind_assoc]
    congr 1
    funext f
    cases f <;> rfl
/-- a first part by wpAny, the rest by wpN -/
theorem wpN_execs_append {a b : List Stmt} {Q : Flow → Shared → Prop}
    (h : wpAny M A (execs a env) (fun f s' => match f with | .next => wpN M A (execs b env) Q E s' | f => Q f s') E s) : wpN M A (execs (a ++ b) env) Q E s := by
  rw [execs_append]
  refine wpN_then (wpAny_mono h (fun f s' h' => ?_) fun _ _ x => x)
  cases f with
  | next => exact h'
  | cont => exact wpN_pure h'
  | brk => exact wpN_pure h'
  | ret v => exact wpN_pure h'
theorem wpN_Assign_Name {x : Str} {pos' : Pos} {value : Expr} {pos : Pos} {Q : Flow → Shared → Prop}
    (h : wpN M A (eval value env) (fun v s₁ => wpAny M A (storeName env x v) (fun _ s₂ => Q .next s₂) E s₁) E s)
    (hs : swapsWith value (some (.Name x pos')) pos.line env = pure false := by rfl) : wpN M A (exec (.Assign [.Name x pos'] value pos) env) Q E s := by
  rw [exec_Assign_Name env x pos' value pos hs]
  refine wpN_then (wpAny_standAt (wpN_bind (wpN_mono h (fun v s₁ h₁ => ?_) fun _ _ x => x)))
  exact wpN_then (wpAny_standAt (wpN_then (wpAny_mono (wpAny_bindName h₁) (fun _ _ q => wpN_pure q) fun _ _ x => x)))
theorem wpN_Call_Name {id : Str} {p pos : Pos} {args : List Expr} {Q : Value → Shared → Prop}
    (h : wpAny M A (eval (.Name id p) env) (fun f s₁ => wpN M A (callWith pos f [] (backTo pos (starEach args env)) []) Q E s₁) E s) :
    wpN M A (eval (.Call (.Name id p) args [] pos) env) Q E s := wpN_then h
theorem wpN_callWith_type {pos : Pos} {T : String} {args : List (Bool × Sem Value)} {Q : Value → Shared → Prop} (hplain : args.any (·.1) = false)
    (h : wpAny M A (evalArgs (.type T) true args []) (fun a s₁ => wpN M A (call (.type T) a.pos a.kw) Q E s₁) E s) : wpN M A (callWith pos (.type T) [] args []) Q E s := by
  unfold callWith
  refine wpN_then (wpAny_holding (wpAny_mono h (fun a s₁ h₁ => wpN_then (wpAny_standAt ?_)) fun _ _ x => x))
  simp only [hplain, List.any_nil, Bool.or_false]
  refine wpN_then (wpAny_pure ?_)
  exact wpN_bind (wpN_mono h₁ (fun r s₂ hr => wpN_then (wpAny_holding (wpAny_point (wpN_pure hr)))) fun _ _ x => x)
theorem wpN_callWith_fn {pos : Pos} {a : Addr} {o : Obj} {fd : FuncData} {args : List (Bool × Sem Value)} {Q : Value → Shared → Prop} (hplain : args.any (·.1) = false) (hlen : args.length ≤ 30)
    (h : wpAny M A (evalArgs (.ref a) true args []) (fun x s₁ => (s₁.heap.get? a = some o ∧ o.data = .func fd) ∧ wpN M A (call (.ref a) x.pos x.kw) Q E s₁) E s) : wpN M A (callWith pos (.ref a) [] args []) Q E s := by
  unfold callWith
  refine wpN_then (wpAny_holding (wpAny_mono h (fun x s₁ h₁ => wpN_then (wpAny_standAt ?_)) fun _ _ x => x))
  simp only [hplain, List.any_nil, Bool.or_false]
  refine wpN_then (m := keeperOf (.ref a)) ?_
  unfold keeperOf
  refine wpAny_bind (wpAny_load h₁.1.1 ?_)
  rw [h₁.1.2]
  refine wpAny_pure ?_
  have tail : ∀ {t : Sem Value}, wpN M A t Q E s₁ → wpN M A (t >>= fun r => holding [r] point >>= fun _ => pure r) Q E s₁ :=
    fun ht => wpN_bind (wpN_mono ht (fun r s₂ hr => wpN_then (wpAny_holding (wpAny_point (wpN_pure hr)))) fun _ _ x => x)
  dsimp only
  split
  · exact tail h₁.2
  · exact tail (by unfold callMarked; exact wpN_keep h₁.2)
theorem wpN_type1 {pos : Pos} {T : String} {e : Expr} {rest : List Expr} {Q : Value → Shared → Prop}
    (h : wpAny M A (spliced (backTo pos (starEach (e :: rest) env))) (fun vs s₁ => wpN M A (call (.type T) vs) Q E s₁) E s)
    (he : starEach (e :: rest) env = (false, eval e env) :: starEach rest env := by rfl)
    (hplain : (backTo pos (starEach rest env)).any (·.1) = false := by rfl) : wpN M A (callWith pos (.type T) [] (backTo pos (starEach (e :: rest) env)) []) Q E s := by
  rw [he] at h ⊢
  exact wpN_callWith_type (by show (false || (backTo pos (starEach rest env)).any (·.1)) = false; rw [hplain]; rfl) (Calls.evalArgs_plain h)
theorem wpN_fn1 {pos : Pos} {a : Addr} {o : Obj} {fd : FuncData} {e : Expr} {rest : List Expr} {Q : Value → Shared → Prop}
    (h : wpAny M A (spliced (backTo pos (starEach (e :: rest) env))) (fun vs s₁ => (s₁.heap.get? a = some o ∧ o.data = .func fd) ∧ wpN M A (call (.ref a) vs) Q E s₁) E s)
    (he : starEach (e :: rest) env = (false, eval e env) :: starEach rest env := by rfl)
    (hplain : (backTo pos (starEach rest env)).any (·.1) = false := by rfl) (hlen : (backTo pos (starEach (e :: rest) env)).length ≤ 30 := by decide) : wpN M A (callWith pos (.ref a) [] (backTo pos (starEach (e :: rest) env)) []) Q E s := by
  rw [he] at h hlen ⊢
  exact wpN_callWith_fn (by show (false || (backTo pos (starEach rest env)).any (·.1)) = false; rw [hplain]; rfl) hlen (Calls.evalArgs_plain h)
end
section
variable {prog : Program} {w : World} {A : Around} {E : Value → Shared → Prop} {s : Shared} {env : Env} {R : Result → Shared → Prop}
theorem codeN_func {body : List Stmt}
    (h : wpN (model prog w) (A.deeper env) (execs body env) (fun f s' => R (.ok (.ret (match f with | .ret v => v | _ => .none))) s') (fun _ _ => False) s) : codeN (model prog w) A (.func body env) R s := by
  refine codeN_of_tree rfl ?_
  show wpN _ (A.deeper env) (do point; match ← (execs body env).onRaise (leaving env) with | .ret v => ret v | _ => ret .none) _ _ s
  refine wpN_then (wpAny_point (wpN_bind (wpN_onRaise (wpN_mono h (fun f s' h' => ?_) fun _ _ h' => h'.elim))))
  cases f <;> exact wpN_pure h'
theorem codeN_call_fn {a : Addr} {args : Args} {o : Obj} {fd : FuncData} {body : List Stmt} (hroom : A.depth < recursionLimit) (ho : s.heap.get? a = some o)
    (hd' : o.data = .func fd) (hco : fd.scope.isCoroutine = false) (hgen : fd.scope.isGenerator = false) (hbody : fd.body = .stmts body) (hcd : s.heap.CodeRec fd.code fd.qualname)
    (h : wpAny (model prog w) A.in1 (bindArgs fd args) (fun binds s₁ =>
      wpAny (model prog w) A.in1 (newFunctionEnv fd.scope fd.globals fd.closure binds (fd.qualname ++ ".<locals>.") (some a) fd.code none fd.builtins)
        (fun env s₂ => s₂.heap.NoLimit ∧ codeN (model prog w) A (.func body env) R s₂) (fun e s' => R (.error e) s') s₁) (fun e s' => R (.error e) s') s) : codeN (model prog w) A (.call (.ref a) args) R s := by
  refine codeN_of_tree rfl ?_
  show wpN _ A.in1 (callAny (.ref a) args) _ _ s
  simp only [callAny]
  refine wpN_then (wpAny_load ho ?_)
  obtain ⟨c, oc, vs, tq, hc, hoc, hdc, hq⟩ := hcd
  simp only [hd', callFunction, hco, hgen, hbody, hc]
  rw [hc] at h
  refine wpN_then (m := field (.ref c) 1) (wpAny_field hoc hdc hq (wpN_then (wpAny_pure ?_)))
  exact wpN_then (wpAny_mono h (fun binds s₁ h₁ => wpN_then (wpAny_mono h₁ (fun env s₂ h₂ => wpN_then (wpAny_enterFrame h₂.1 hroom (wpN_pure ⟨rfl, h₂.2⟩))) fun _ _ x => x)) fun _ _ x => x)
theorem wpN_For {x : Str} {px pos : Pos} {iter : Expr} {body : List Stmt} {Q : Flow → Shared → Prop}
    (h : wpAny (model prog w) A (eval iter env) (fun xv s₁ => wpAny (model prog w) A (pyIter xv) (fun it s₂ =>
      codeN (model prog w) A (.forLoop (.Name x px) it body [] env) (fun r s' => match r with | .ok f => Q f s' | .error _ => False) s₂) E s₁) E s)
    (hs : ∀ x, foldedSetIterable iter env x = pure x := by intro _; rfl) :
    wpN (model prog w) A (exec (.For (.Name x px) iter body [] pos) env) Q E s := by
  rw [exec_For]
  refine wpN_then (wpAny_standAt (wpN_then (wpAny_mono h (fun xv s₁ h₁ => wpN_then (wpAny_of_eq (hs xv) (wpN_then (wpAny_standAt (wpN_then (wpAny_holding (wpAny_mono h₁ (fun it s₂ h₂ => ?_) fun _ _ e => e))))))) fun _ _ e => e)))
  unfold runOwn
  exact wpN_onRaise (wpN_run (codeN_mono h₂ fun r s' hr => by cases r with | error e => exact hr.elim | ok f => exact hr))
/-- one look at the iterator: an item, and on; or the end -/
theorem codeN_turn {x : Str} {px : Pos} {body : List Stmt} {it : Value}
    (h : wpAny (model prog w) A (pyNext it) (fun r s₁ => match r with
      | none => R (.ok .next) s₁
      | some v => wpAny (model prog w) A (storeName env x v) (fun _ s₂ => wpN (model prog w) A (execs body env) (fun f s₃ => match f with
          | .next => codeN (model prog w) A (.forLoop (.Name x px) it body [] env) R s₃
          | _ => False) (fun _ _ => False) s₂) (fun _ _ => False) s₁) (fun _ _ => False) s) : codeN (model prog w) A (.forLoop (.Name x px) it body [] env) R s := by
  refine codeN_of_tree rfl ?_
  rw [Around.under_of_weight rfl rfl]
  show wpN _ A ((forTurn (.Name x px) it body [] env).onRaise (fun x => do noteFrame x env; theTreesLotGoes x)) _ _ s
  refine wpN_onRaise ?_
  simp only [forTurn]
  refine wpN_then (wpAny_standAt (wpN_bind (wpN_onRaise (wpN_of (wpAny_mono h (fun r s₁ h₁ => ?_) fun _ _ h' => h'.elim)))))
  cases r with
  | none => exact wpN_pure ⟨rfl, codeN_of (codeAny_block (wpAny_execs_nil h₁))⟩
  | some v =>
    refine wpN_then (wpAny_of_eq (show letOwnedTupleGo (.Name x px) it v = pure () from rfl) ?_)
    refine wpN_then (wpAny_mono (wpAny_assign_Name h₁) (fun _ s₂ h₂ => wpN_bind (wpN_mono h₂ (fun f s₃ h₃ => ?_) fun _ _ h' => h'.elim)) fun _ _ h' => h'.elim)
    cases f with
    | next => exact wpN_pure ⟨rfl, h₃⟩
    | cont => exact h₃.elim
    | brk => exact h₃.elim
    | ret v => exact h₃.elim
end
end Mine
end

section
-- P7
set_option maxHeartbeats 8000000
theorem Mine.anew28 : True := by w_top off; trivial
open PySem PySem.W PyProof.Rows PySem.Calls
set_option Elab.async false
set_option maxRecDepth 100000
namespace Mine
theorem weakN {α : Type} {M : Model} {A A' : Around} {t : Sem α} {Q : α → Shared → Prop} {E : Value → Shared → Prop} {s : Shared}
    (h : wpN M A t Q E s) (hh : A.handled = A'.handled) (hd : A'.depth ≤ A.depth) (hu : A'.units ≤ A.units) (hf : A.frames = none) (hg : A.guards = none) : wpN M A' t Q E s :=
  fun Γ p hΓ h1 h2 => h Γ p ⟨hΓ.1.trans hh.symm, Nat.le_trans hΓ.2.1 hd, (fun l e => by rw [hf] at e; cases e), (fun l e => by rw [hg] at e; cases e), Nat.le_trans hΓ.2.2.2.2 hu⟩ h1 h2
/-- Ret, in the own logic -/
noncomputable def RetN (n : Nat) (w : World) (f : Addr) (args : List Value) (s : Shared) (P : Value → Heap → Prop) : Prop :=
  ∀ (A : Around) (Q E : Value → Shared → Prop), A.handled = none → A.depth ≤ n → A.units ≤ 4 * n → (∀ v h' tk, Sub s.heap h' → P v h' → Q v { s with heap := h', toks := tk }) →
    wpN (model prg w) A (call (.ref f) args) Q E s
theorem retN_of {n : Nat} {w : World} {f : Addr} {args : List Value} {s : Shared} {P : Value → Heap → Prop} (h : codeN (model prg w) (AN n) (.call (.ref f) ⟨args, []⟩) (BackR s P) s) : RetN n w f args s P := by
  intro A Q E hh hd hu hq
  refine weakN (A := AN n) (wpN_call (codeN_mono h fun r s' hr => ?_)) hh.symm hd hu rfl rfl
  obtain ⟨v, h', tk, rfl, rfl, hs, hp⟩ := hr
  exact hq v h' tk hs hp
theorem RetN.use {n : Nat} {w : World} {f : Addr} {args : List Value} {s : Shared} {P : Value → Heap → Prop} (R : RetN n w f args s P) {A : Around} {Q E : Value → Shared → Prop} {h₀ : Heap} {L : Addr} {m : Str → Option Value} {news : List (Addr × Obj)}
    (F : Fr h₀ L s.heap m) (N : News h₀ L s.heap news) (hh : A.handled = none) (hd : A.depth ≤ n) (hu : A.units ≤ 4 * n)
    (h : ∀ v h' tk, P v h' → Sub s.heap h' → Fr h₀ L h' m → News h₀ L h' news → Q v { s with heap := h', toks := tk }) : wpN (model prg w) A (call (.ref f) args) Q E s :=
  R A Q E hh hd hu fun v h' tk hs hp => h v h' tk hp hs (F.keeps hs) fun q hq => ⟨hs _ _ (N q hq).1, (N q hq).2⟩
section
variable {w : World} {p : Program} {loose : List Str} {mean : ExcName → Option Value} {mg mb : Str → Option Value} {hb : Heap}
variable {A : Around} {s : Shared} {R : Result → Shared → Prop} {E : Value → Shared → Prop} {name qual : Str} {params : Arguments} {body : List Stmt} {scope : Scope} {dV kV doc pm cdv ct oc : Value} {an od : Option Addr} {osl : Array (Option Value)} {f : Addr}
  {args : List Value}
theorem enterN0 (G : Gnd w p loose mean mg mb hb) (SB : Sub hb s.heap) (binds : List (Str × Value))
    (ho : (hd.heap_39 w.params).lookup f = some ⟨oc, od, .func (fnOf name qual params body scope dV kV doc pm an cdv ct), osl⟩) (hcd : codeIn (hd.heap_39 w.params) cdv qual = true) (hroom : A.depth < recursionLimit)
    (hbind : bindArgs (fnOf name qual params body scope dV kV doc pm an cdv ct) ⟨args, []⟩ = pure binds) (hloc : ∀ y ∈ binds, scope.names.lookup y.1 = some .local)
    (hco : scope.isCoroutine = false) (hgen : scope.isGenerator = false) (hk : scope.kind = .function)
    (hcell : ∀ x ∈ scope.names, x.2 ≠ .cell)
    (h : ∀ h₁ L tk, (hd.heap_39 w.params).In s.heap → Top p loose mean mg mb s.heap →
      Fr s.heap L h₁ (fun y => binds.reverse.lookup y) → News s.heap L h₁ [] → s.heap.objs.size = L → Sub s.heap h₁ →
      wpN (model prg w) (A.deeper (envOf qual scope L f cdv)) (execs body (envOf qual scope L f cdv))
        (fun fl s' => R (.ok (.ret (match fl with | .ret v => v | _ => .none))) s') (fun _ _ => False) { s with heap := h₁, toks := tk }) : codeN (model prg w) A (.call (.ref f) ⟨args, []⟩) R s := by
  obtain ⟨X, T⟩ := G.keeps SB
  refine codeN_call_fn (fd := fnOf name qual params body scope dV kV doc pm an cdv ct) (body := body) hroom (X _ _ ho) rfl hco hgen rfl (codeRec_of X hcd) (BindsTo.of_eq hbind _ _ _ _ ?_)
  refine wpAny_newFunctionEnv hcell hloc (fun h₁ hns hsb => ⟨T.nolimit.fresh _ hsb, codeN_func (wpN_mono (h h₁ s.heap.objs.size _ X T ⟨hns, ?_, Nat.le_refl _⟩ News.nil rfl ?_) (fun _ _ x => x) fun _ _ x => x.elim)⟩) hk
  · exact fun b o e => hsb.extBut b o (Nat.ne_of_lt (Heap.lt_size e)) (Heap.get?_push_of_some _ e)
  · exact fun b o e => hsb.extBut b o (Nat.ne_of_lt (Heap.lt_size e)) (Heap.get?_push_of_some _ e)
end
variable {w : World} {p : Program} {loose : List Str} {mean : ExcName → Option Value} {mg mb : Str → Option Value} {hb : Heap}
noncomputable abbrev rngObj (a b c : Int) (t u v : Tok) : Obj := { cls := .type "range", data := .fields #[.int a t, .int b u, .int c v] }
noncomputable abbrev itObj (x l c : Int) : Obj := { cls := .type "range_iterator", data := .fields #[rawInt x, rawInt l, rawInt c] }
theorem small_pos {n w k : Nat} (hw : 1 ≤ w) (hw2 : w ≤ 1000) (hk : k * w = n) (hn : n ≤ 1000) : Builtin.Range.rangeSize 0 n w = (k : Int) ∧ Builtin.Range.small 0 n w = true := by
  have e : Builtin.Range.rangeSize 0 (n : Int) (w : Int) = (k : Int) := by
    rw [rangeSize_pos (by (first | lia | omega)) (by (first | lia | omega))]
    have : (n : Int) + w - 1 = (w - 1) + k * w := by rw [← hk]; push_cast; (first | lia | omega)
    rw [this, Int.add_mul_ediv_right _ _ (by (first | lia | omega)), Int.ediv_eq_zero_of_lt (by (first | lia | omega)) (by (first | lia | omega))]
    (first | lia | omega)
  have hkn : k ≤ n := by rw [← hk]; exact Nat.le_mul_of_pos_right _ hw
  refine ⟨e, ?_⟩
  unfold Builtin.Range.small
  rw [e]
  unfold Builtin.Range.rangeFitsLong
  simp only [Bool.and_eq_true, decide_eq_true_eq, Bool.or_eq_true]
  refine ⟨⟨⟨⟨⟨by (first | lia | omega), by (first | lia | omega)⟩, by (first | lia | omega), by (first | lia | omega)⟩, by (first | lia | omega), by (first | lia | omega)⟩, by (first | lia | omega), by (first | lia | omega)⟩, .inr ?_⟩
  rw [if_pos (by (first | lia | omega))]
  simp only [Bool.and_eq_true, decide_eq_true_eq]
  (first | lia | omega)
section
variable {A : Around} {E : Value → Shared → Prop} {s : Shared} {w : World}
theorem iter_range3 {K : Value → Shared → Prop} {n wd k : Nat} {t u v : Tok} (hw : 1 ≤ wd) (hw2 : wd ≤ 1000) (hk : k * wd = n) (hn : n ≤ 1000)
    (h : K (.ref (s.heap.objs.size + 1)) { s with heap := (s.heap.push (rngObj 0 n wd t u v)).push (itObj 0 k wd) }) :
    wpAny (model prg w) A (call (.type "range") [.int 0 t, .int n u, .int wd v]) (fun xv s₁ => wpAny (model prg w) A (pyIter xv) K E s₁) E s := by
  refine call_range_3 (by (first | lia | omega)) ?_ (Or.inl (PyProof.noPylong_small (by (first | lia | omega))))
  obtain ⟨e, hs⟩ := small_pos hw hw2 hk hn
  refine wpAny_pyIter_range (IsRange.new _ _ _ _ _ _ _) hs ?_
  rw [e]
  have e2 : (s.heap.push (rngObj 0 n wd t u v)).objs.size = s.heap.objs.size + 1 := Heap.size_push _ _
  exact e2 ▸ h
theorem iter_range1 {K : Value → Shared → Prop} {k : Nat} {t : Tok} (hn : k ≤ 1000)
    (h : ∀ u v, K (.ref (s.heap.objs.size + 1)) { s with heap := (s.heap.push (rngObj 0 k 1 u t v)).push (itObj 0 k 1), toks := s.toks + 1 + 1 }) :
    wpAny (model prg w) A (call (.type "range") [.int k t]) (fun xv s₁ => wpAny (model prg w) A (pyIter xv) K E s₁) E s := by
  refine call_range_1 ?_
  refine wpAny_pyIter_range (IsRange.new _ _ _ _ _ _ _) (small_one (by (first | lia | omega)) (by (first | lia | omega)) (by (first | lia | omega)) (by (first | lia | omega))) ?_
  have e : Builtin.Range.rangeSize 0 (k : Int) 1 = (k : Int) := by rw [rangeSize_one]; split <;> (first | lia | omega)
  rw [e]
  have e2 : (s.heap.push (rngObj 0 k 1 s.toks t (s.toks + 1))).objs.size = s.heap.objs.size + 1 := Heap.size_push _ _
  exact e2 ▸ h s.toks (s.toks + 1)
end
theorem set_L {h₀ h h' : Heap} {L X : Addr} {m : Str → Option Value} {o o' : Obj} {rest : List (Addr × Obj)} (F : Fr h₀ L h m) (N : News h₀ L h ((X, o) :: rest)) (hs : Heap.SameBut X h h') (e : h'.get? X = some o') (hr : ∀ q ∈ rest, q.1 ≠ X) :
    Fr h₀ L h' m ∧ News h₀ L h' ((X, o') :: rest) := by
  obtain ⟨z1, z2, z3⟩ := N _ (.head _)
  refine ⟨F.change hs z2 z3, fun q hq => ?_⟩
  rcases List.mem_cons.mp hq with rfl | hq
  · exact ⟨e, z2, z3⟩
  · exact ⟨(hs.2 _ (hr q hq)).trans (N q (.tail _ hq)).1, (N q (.tail _ hq)).2⟩
theorem it_zero {h : Heap} {o : Obj} {k c : Int} : IsRangeIter ((h.push o).push (itObj 0 k c)) (h.objs.size + 1) (0 + ((0 : Nat) : Int) * c) (k - ((0 : Nat) : Int)) c := by
  have e2 : (h.push o).objs.size = h.objs.size + 1 := Heap.size_push _ _
  have e : ((h.push o).push (itObj 0 k c)).get? (h.push o).objs.size = some (itObj 0 k c) := Heap.get?_push_size _ rfl
  rw [e2] at e
  have e5 : (0 + ((0 : Nat) : Int) * c) = 0 := by simp
  have e6 : k - ((0 : Nat) : Int) = k := by simp
  rw [e5, e6]
  exact e
theorem byte_at {A : Around} {E : Value → Shared → Prop} {s : Shared} {w : World} {nm : Str} {px : Pos} {sl : Expr} {b : Array UInt8} {i : Int} {t u : Tok} {Q : Value → Shared → Prop} (hz : b.size ≤ 1000) (h0 : 0 ≤ i) (h1 : i < b.size)
    (h : Q (.int ((b.getD i.toNat 0).toNat : Int) s.toks) { s with toks := s.toks + 1 }) (hs : subscripted sl false (.bytes b t) (.int i u) = operate [.bytes b t, .int i u] (getItem (.bytes b t) (.int i u)) := by with_unfolding_all rfl) : wpAny (model prg w) A (subscriptTail (.Name nm px) sl (.bytes b t) (.int i u)) Q E s := by
  refine subscriptTail_builtin (typeIs_bytes _ _ _) FB.slot_bytes_getitem.lookup ?_ hs
  obtain ⟨l⟩ := b
  refine getItem_bytes (by simp at hz; (first | lia | omega)) h0 (by simpa using h1) ?_
  simpa using h
local macro_rules | `(tactic| walk_at $k:str) => if ["subscriptTail", "call type:range", "setItem ref"].contains k.getString then `(tactic| apply Hold.out) else `(tactic| fail)

theorem bs_at (i wd j : Nat) : ((i : Int) * wd + j).toNat = i * wd + j := by
  rw [← Int.natCast_mul, ← Int.natCast_add]
  exact Int.toNat_natCast _
theorem bs_to {i wd j : Nat} (h : j < wd) : (i : Int) * wd + wd - 1 - j = ((i * wd + wd - 1 - j : Nat) : Int) := by
  have h1 : j + 1 ≤ i * wd + wd := Nat.le_trans h (Nat.le_add_left _ _)
  rw [Int.ofNat_sub (Nat.le_sub_of_add_le h1), Int.ofNat_sub (Nat.le_trans (Nat.le_add_left _ _) h1), Int.natCast_add, Int.natCast_mul]
  rfl
theorem bs_lt {i wd j n : Nat} (h : i * wd + wd ≤ n) (hj : j < wd) : (i : Int) * wd + j < n := by
  rw [← Int.natCast_mul, ← Int.natCast_add]
  exact Int.ofNat_lt.mpr (Nat.lt_of_lt_of_le (Nat.add_lt_add_left hj _) h)
theorem bs_lt2 {i wd j n : Nat} (h : i * wd + wd ≤ n) (hj : j < wd) : (i : Int) * wd + wd - 1 - j < n := by
  rw [bs_to hj]
  exact Int.ofNat_lt.mpr (Nat.lt_of_lt_of_le (Nat.lt_of_le_of_lt (Nat.sub_le _ _) (Nat.sub_lt (Nat.lt_of_lt_of_le (Nat.lt_of_le_of_lt (Nat.zero_le _) hj) (Nat.le_add_left _ _)) Nat.one_pos)) h)
/-- between the turns over the blocks -/
inductive SwO (b : Array UInt8) (wd tb tw : Nat) (X : Addr) (i : Nat) (m₁ : Str → Option Value) (news₁ : List (Addr × Obj)) : Prop
  | mk (u : Str → Option Value) (h0 : m₁ = mp [("swapped_data", .ref X), ("data", .bytes b tb), ("width", .int (wd : Int) tw)] u) (h1 : news₁ = [(X, baObj (fillA wd b i 0))]) : SwO b wd tb tw X i m₁ news₁
/-- between the turns within a block -/
inductive SwI (b : Array UInt8) (wd tb tw : Nat) (X : Addr) (i : Nat) (own : List (Addr × Obj)) (j : Nat) (m₁ : Str → Option Value) (news₁ : List (Addr × Obj)) : Prop
  | mk (u : Str → Option Value) (ti : Nat) (h0 : m₁ = mp [("swapped_data", .ref X), ("data", .bytes b tb), ("width", .int (wd : Int) tw), ("i", .int (i * wd) ti)] u) (h1 : news₁ = (X, baObj (fillA wd b i j)) :: own) : SwI b wd tb tw X i own j m₁ news₁
set_option maxHeartbeats 4000000 in
theorem c_byteswap (G : Gnd w p loose mean mg mb hb) {s : Shared} (SB : Sub hb s.heap) (b : Array UInt8) (wd : Nat) (tb tw : Nat) (hw : 1 ≤ wd) (hdv : b.size % wd = 0) (hz : b.size ≤ 8) (hwz : wd ≤ 8) :
    RetN 320 w 112 [.bytes b tb, .int (wd : Int) tw] s (fun v h' => ∃ t, v = .bytes (swapA wd b) t) := by
  have KX : (hd.heap_39 w.params).In hb ∧ PySem.Challenge.rw_we0015_01 = PySem.Challenge.rw_we0015_01 := by k_fill; exact ⟨G.K, rfl⟩
  refine retN_of ?_
  refine enterN0 G SB [("data", .bytes b tb), ("width", .int (wd : Int) tw)] (by k_is) (by k_is) (by decide) rfl (locs rfl) rfl rfl rfl (by decide) ?_
  intro h₁ L tk X' T' F' N' hL hk
  refine wpN_execs_cons (wpN_Assign_Name (wpN_Call_Name ?_) (by rfl))
  k_fold
  k_steps
  refine wpN_type1 ?_
  k_steps
  refine call_bytearray (Int.natCast_nonneg _) (by (first | lia | omega)) fun h2 hD k2 => ?_
  refine wpAny_mono ?_ (fun _ _ x => wpN_of x) (fun _ _ x => x)
  rename_i F
  have N2 := fresh_cons (h' := h2) F News.nil (Nat.le_refl _) hD
  have hLX : @LT.lt Nat _ L h₁.objs.size := F.ns.lt
  replace F := Fr.keeps F k2
  clear N'
  revert N2 hLX
  generalize hXs : h₁.objs.size = X
  intro N2 hLX
  k_steps
  rename_i hA F N
  clear k2 hD
  refine Hold.in ?_
  refine For_invVF F (by rfl) (by rfl) ?_
  k_unmd
  k_steps
  refine Hold.in ?_
  obtain ⟨k, hk'⟩ : ∃ k, k * wd = b.size := ⟨b.size / wd, Nat.div_mul_cancel (Nat.dvd_of_mod_eq_zero hdv)⟩
  refine iter_range3 hw (by (first | lia | omega)) hk' (by (first | lia | omega)) ?_
  have hsz : hA.objs.size = hA.objs.size := rfl
  have hXA : X < hA.objs.size := Heap.lt_size (N _ (.head _)).1
  have hLA : @LT.lt Nat _ L hA.objs.size := F.ns.lt
  have e2 : (hA.push (rngObj 0 b.size wd tk (tk + 1 + 1) tw)).objs.size = hA.objs.size + 1 := Heap.size_push _ _
  refine loop_inv (I := hA.objs.size + 1) (news := [(X, baObj (Array.replicate b.size 0))]) (Walks.range rfl _ 0 wd k) (SwO b wd tb tw X)
    ?_ ?_ ?_ ?_ ((F.push _).push _) ?_ ?_ ?_ ?_
  · intro hm
    exact absurd (List.mem_singleton.mp hm) (Nat.ne_of_lt (Nat.lt_succ_of_lt hLA))
  · intro q hq
    rw [List.mem_singleton.mp hq]
    exact Heap.get?_none_of_le (Nat.le_trans F.above (Nat.le_trans (Nat.le_of_lt hLA) (Nat.le_succ _)))
  · intro q hq hm
    rw [List.mem_singleton.mp hq] at hm
    exact absurd (List.mem_singleton.mp hm) (neN (by (first | lia | omega)))
  · exact it_zero
  · intro q hq
    rw [List.mem_singleton.mp hq]
    obtain ⟨n1, n2⟩ := N _ (.head _)
    exact ⟨Heap.get?_push_of_some _ (Heap.get?_push_of_some _ n1), n2⟩
  · exact ⟨_, mp_of ⟨rfl, rfl, rfl, trivial⟩, by rw [fillA_zero]⟩
  · rintro i v m₁ news₁ h tk' own hlt ⟨t, rfl⟩ hadr hoff ⟨u, rfl, rfl⟩ F N
    rw [Int.zero_add] at F
    k_steps
    refine Hold.in ?_
    refine For_invVF F (by rfl) (by rfl) ?_
    k_unmd
    k_steps
    refine Hold.in ?_
    refine iter_range1 (by (first | lia | omega)) fun t1 t2 => ?_
    have hXh : X < h.objs.size := Heap.lt_size (N _ (.head _)).1
    have hLh : @LT.lt Nat _ L h.objs.size := F.ns.lt
    have e3 : (h.push (rngObj 0 wd 1 t1 tw t2)).objs.size = h.objs.size + 1 := Heap.size_push _ _
    have hiw : i * wd + wd ≤ b.size := by
      rw [← hk']
      have := Nat.mul_le_mul_right wd hlt
      rw [Nat.succ_mul] at this
      exact this
    refine loop_inv (I := h.objs.size + 1) (news := (X, baObj (fillA wd b i 0)) :: own) (Walks.range rfl _ 0 1 wd) (SwI b wd tb tw X i own)
      ?_ ?_ ?_ ?_ ((F.push _).push _) ?_ ?_ ?_ ?_
    · intro hm
      exact absurd (List.mem_singleton.mp hm) (Nat.ne_of_lt (Nat.lt_succ_of_lt hLh))
    · intro q hq
      rw [List.mem_singleton.mp hq]
      exact Heap.get?_none_of_le (Nat.le_trans F.above (Nat.le_trans (Nat.le_of_lt hLh) (Nat.le_succ _)))
    · intro q hq hm
      exact absurd (List.mem_singleton.mp hm) (Nat.ne_of_lt (Nat.lt_succ_of_lt (Heap.lt_size (N q hq).1)))
    · exact it_zero
    · intro q hq
      obtain ⟨n1, n2⟩ := N q hq
      exact ⟨Heap.get?_push_of_some _ (Heap.get?_push_of_some _ n1), n2⟩
    · exact ⟨_, _, mp_of ⟨rfl, rfl, rfl, rfl, trivial⟩, rfl⟩
    · rintro j v m₁ news₁ h3 tk3 own3 hlt3 ⟨t3, rfl⟩ hadr3 hoff3 ⟨u3, ti, rfl, rfl⟩ F N
      rw [Int.zero_add, Int.mul_one] at F
      k_steps
      refine Hold.in ?_
      refine byte_at (Nat.le_trans hz (by decide)) (Int.add_nonneg (Int.mul_nonneg (Int.natCast_nonneg _) (Int.natCast_nonneg _)) (Int.natCast_nonneg _)) (bs_lt hiw hlt3) ?_
      k_steps
      refine Hold.in ?_
      have e8 : ((b.getD ((i : Int) * wd + j).toNat 0).toNat : Int).toNat.toUInt8 = b.getD (i * wd + j) 0 := by
        rw [bs_at, Int.toNat_natCast]
        simp
      refine setItem_ba (b := fillA wd b i j) (News.get N (.head _)) (by rw [bs_to hlt3]; exact Int.natCast_nonneg _) (by rw [fillA_size]; exact bs_lt2 hiw hlt3) (Int.natCast_nonneg _) (Int.ofNat_lt.mpr (b.getD ((i : Int) * wd + j).toNat 0).toNat_lt) (by rw [fillA_size]; exact Nat.le_trans hz (by decide)) fun h4 eX hs4 => ?_
      have hkk : ((i : Int) * wd + wd - 1 - j).toNat = i * wd + wd - 1 - j := by rw [bs_to hlt3, Int.toNat_natCast]
      rw [e8, hkk, fillA_step hlt3] at eX
      obtain ⟨F4, N4⟩ := set_L F N hs4 eX (fun q hq => by
        rcases List.mem_append.mp hq with hq | hq
        · exact hoff q hq X (List.mem_singleton.mpr rfl)
        · exact hoff3 q hq X (.head _))
      clear F N
      k_steps
      refine Hold.in ?_
      refine InvEndN.intro F4 N4 (nx := (X, baObj (fillA wd b i (j + 1))) :: own) ⟨_, _, mp_of ⟨rfl, rfl, rfl, rfl, trivial⟩, rfl⟩ rfl ?_ ?_
      · intro q hq
        exact List.mem_append_left _ hq
      · intro q hq
        exact .tail _ (List.mem_append_right _ hq)
    · rintro m₁ news₁ h3 tk3 ⟨u3, ti, rfl, rfl⟩ F N
      dsimp only
      k_steps
      refine Hold.in ?_
      rw [fillA_next] at N
      refine InvEndN.intro F N (nx := [(X, baObj (fillA wd b (i + 1) 0))]) ⟨_, mp_of ⟨rfl, rfl, rfl, trivial⟩, rfl⟩ rfl ?_ ?_
      · intro q hq
        rw [List.mem_singleton.mp hq]
        exact .head _
      · intro q hq
        exact .tail _ hq
  · rintro m₁ news₁ h tk' ⟨u, rfl, rfl⟩ F N
    dsimp only
    k_steps
    refine bytes_ba (News.get N (.head _)) (by rw [fillA_size]; (first | lia | omega)) fun t k' => ?_
    rw [fillA_end _ _ _ hk']
    exact back_of F (fun _ _ e => e) ⟨t, rfl⟩
end Mine
end

section
-- P8
set_option maxHeartbeats 8000000
theorem Mine.anew29 : True := by w_top off; trivial
open PySem PySem.W PyProof.Rows PySem.Calls
set_option Elab.async false
set_option maxRecDepth 100000
namespace Mine
variable {w : World} {p : Program} {loose : List Str} {mean : ExcName → Option Value} {mg mb : Str → Option Value} {hb : Heap}
local macro_rules | `(tactic| walk_at "exec For") => `(tactic| apply Hold.out)

theorem idx_at {ns : List Int} {x : Int} {i : Nat} (h : ns[i]? = some x) (hn : x ∉ ns.take i) : ns.findIdx (· == x) = i := by
  obtain ⟨hi, he⟩ := List.getElem?_eq_some_iff.mp h
  refine (List.findIdx_eq hi).mpr ⟨by simp [he], fun j hj => ?_⟩
  have : ns[j]'(Nat.lt_trans hj hi) ∈ ns.take i := by
    rw [List.mem_take_iff_getElem]
    exact ⟨j, by (first | lia | omega), rfl⟩
  simp only [beq_eq_false_iff_ne]
  intro e
  exact hn (e ▸ this)
theorem is_int {A : Around} {E : Value → Shared → Prop} {s : Shared} {M : Model} {n x : Int} {tn tx : Tok} {Q : Value → Shared → Prop} (h0 : tn ≠ 0) (h1 : tx ≠ 0) (hne : tn ≠ tx) (hs : 0 ≤ n ∧ n < 100) (hQ : Q (.bool (n == x)) s) :
    wpAny M A (compareOp .Is (.int n tn) (.int x tx)) Q E s := by
  have hz : (tn == 0 || tx == 0) = false := by
    rw [Bool.or_eq_false_iff]
    exact ⟨beq_eq_false_iff_ne.mpr h0, beq_eq_false_iff_ne.mpr h1⟩
  show wpAny M A ((if (n == x && smallInt n) = true then isSame.cachedInt tn tx else isSame.created (n == x) tn tx) >>= fun b => pure (Value.bool b)) Q E s
  refine wpAny_bind ?_
  by_cases e : n = x
  · subst e
    rw [if_pos (by simp [smallInt]; (first | lia | omega))]
    unfold isSame.cachedInt
    rw [hz]
    refine wpAny_bind (wpAny_rule (wpAny_pure (wpAny_pure ?_)))
    simpa using hQ
  · have e' : (n == x) = false := by simpa using e
    rw [e'] at hQ ⊢
    rw [if_neg (by simp)]
    unfold isSame.created
    rw [hz, beq_eq_false_iff_ne.mpr hne]
    exact wpAny_pure (wpAny_pure hQ)
local macro_rules | `(tactic| walk_at "compareOp Is int int") => `(tactic| (refine is_int (by assumption) (by assumption) (by assumption) (by assumption) ?_))
set_option maxHeartbeats 4000000 in
theorem c_indexOf (G : Gnd w p loose mean mg mb hb) {s : Shared} (SB : Sub hb s.heap) (l : Addr) (vs : List Value) (ns : List Int) (x : Int) (tx : Nat) (hl : s.heap.IsList l vs.toArray) (hi : IntsAre vs ns) (hz : ns.length ≤ 8)
    (hx : x ∈ ns) (hsm : ∀ n ∈ ns, 0 ≤ n ∧ n < 100)
    (htk : ∀ n t, Value.int n t ∈ vs → t ≠ 0 ∧ t ≠ tx) (htx : tx ≠ 0) :
    Ret 320 w 63 [.ref l, .int x tx] s (fun v h' => ∃ t, v = .int (ns.findIdx (· == x) : Nat) t) := by
  have KX : (hd.heap_39 w.params).In hb ∧ PySem.Challenge.rw_we0015_01 = PySem.Challenge.rw_we0015_01 := by k_fill; exact ⟨G.K, rfl⟩
  refine ret_of ?_
  refine enter0 G SB [("a", .ref l), ("b", .int x tx)] (by k_is) (by k_is) (by decide) rfl (locs rfl) rfl rfl rfl (by decide) ?_
  intro h₁ L tk X' T' F' N' hL hk
  k_fold
  k_steps
  refine Hold.in ?_
  refine wpAny_For ?_
  k_unmd
  k_steps
  refine Hold.in ?_
  refine enum_loop rfl hl F' N' (by rfl) (by rfl) (by rfl) (fun i m₁ news₁ => ∃ (u : Str → Option Value), m₁ = mp [("a", .ref l), ("b", .int x tx)] u ∧ news₁ = [] ∧ x ∉ ns.take i)
    ⟨_, mp_of ⟨rfl, rfl, trivial⟩, rfl, by simp⟩ ?_ ?_
  · rintro i v m₁ news₁ h tk' own t hv hadr hoff ⟨u, rfl, rfl, hnot⟩ F N
    obtain ⟨n, tn, rfl, hn⟩ := IntsAre.at hi i v hv
    simp only [List.nil_append] at N
    obtain ⟨ht0, htne⟩ := htk n tn (List.mem_of_getElem? hv)
    have hsn := hsm n (List.mem_of_getElem? hn)
    have hil : i < ns.length := (List.getElem?_eq_some_iff.mp hn).1
    k_steps
    · rename_i e
      subst e
      exact Hold.in (back_of F (fun _ _ e => e) ⟨t, by rw [idx_at hn hnot]⟩)
    · rename_i e1 e2
      exact absurd e2 e1
    · rename_i e
      refine Hold.in (InvEndN.intro F N (nx := []) ⟨_, mp_of ⟨rfl, rfl, trivial⟩, rfl, ?_⟩ rfl (fun _ h => nomatch h) fun q hq => hq)
      rw [List.take_add_one, hn]
      intro hm
      rcases List.mem_append.mp hm with hm | hm
      · exact hnot hm
      · exact e (List.mem_singleton.mp hm).symm
  · rintro m₁ news₁ h tk' ⟨u, rfl, rfl, hnot⟩ F N
    rw [hi.length, List.take_length] at hnot
    exact absurd hx hnot
end Mine
end

section
-- P9
set_option maxHeartbeats 8000000
theorem Mine.anew30 : True := by w_top off; trivial
open PySem PySem.W PyProof.Rows PySem.Calls
set_option Elab.async false
set_option maxRecDepth 100000
namespace Mine
variable {w : World} {p : Program} {loose : List Str} {mean : ExcName → Option Value} {mg mb : Str → Option Value} {hb : Heap}
local macro_rules | `(tactic| walk_at $k:str) => if ["call type:list", "binaryOp Mult ref int", "binaryOp Add ref ref"].contains k.getString then `(tactic| apply Hold.out) else `(tactic| fail)
local macro_rules | `(tactic| walk_at "call builtin:len") => `(tactic| ((with_reducible show wpAny _ _ (call (Value.builtin _) [Value.ref _]) _ _ _); (refine Hold.out ?_)))

local macro_rules | `(tactic| walk_at "storeName") => `(tactic| (dsimp only; walk_at "storeName"))

theorem flat_one {v : Value} : ∀ k, (List.replicate k [v]).flatten = List.replicate k v
  | 0 => rfl
  | k + 1 => by rw [List.replicate_succ, List.flatten_cons, flat_one k, List.replicate_succ]; rfl
theorem ints_rep {t : Tok} {x : Int} : ∀ k, IntsAre (List.replicate k (.int x t)) (List.replicate k x)
  | 0 => .nil
  | k + 1 => .cons _ _ (ints_rep k)
/-- the place of the octet i that is to come to t -/
noncomputable def posn (n i : Nat) (t : Int) : Int := i + n * ((i - t).fmod (n + 1))
noncomputable def maskv (wd n : Nat) (ts : List Int) : Nat → Int
  | 0 => 0
  | i + 1 => Builtin.bitOr (maskv wd n ts i) ((2 ^ wd - 1) * 2 ^ (wd * posn n i (ts.getD i 0)).toNat)
theorem posn_bound {n i : Nat} {t : Int} (hi : i < n) (hn : n ≤ 8) : 0 ≤ posn n i t ∧ posn n i t < 8 * (8 + 1) ∧ 0 ≤ n * ((i - t).fmod (n + 1)) ∧ n * ((i - t).fmod (n + 1)) ≤ 64 ∧ 0 ≤ (i - t).fmod (n + 1) ∧ (i - t).fmod (n + 1) ≤ 8 := by
  have h1 : 0 ≤ ((i : Int) - t).fmod (n + 1) := Int.fmod_nonneg_of_pos _ (by omega)
  have h2 : ((i : Int) - t).fmod (n + 1) < n + 1 := Int.fmod_lt_of_pos _ (by omega)
  have h5 : ((i : Int) - t).fmod (n + 1) ≤ 8 := Int.le_trans (Int.le_of_lt_add_one h2) (Int.ofNat_le.mpr hn)
  have h3 : (n : Int) * (((i : Int) - t).fmod (n + 1)) ≤ 8 * 8 := Int.mul_le_mul (Int.ofNat_le.mpr hn) h5 h1 (by decide)
  have h4 : 0 ≤ (n : Int) * (((i : Int) - t).fmod (n + 1)) := Int.mul_nonneg (Int.natCast_nonneg _) h1
  exact ⟨Int.add_nonneg (Int.natCast_nonneg _) h4, Int.lt_of_lt_of_le (Int.add_lt_add_of_lt_of_le (Int.ofNat_lt.mpr (Nat.lt_of_lt_of_le hi hn)) h3) (by decide), h4, h3, h1, h5⟩
/-- between the turns of the mask's loop -/
inductive LedJ (b : Array UInt8) (tb : Nat) (C : Int) (tc wd tw : Nat) (ts : List Int) (i : Nat) (m₁ : Str → Option Value) (news₁ : List (Addr × Obj)) : Prop
  | mk (u : Str → Option Value) (tm t2 t3 : Nat) (h0 : m₁ = mp [("row", .bytes b tb), ("copies", .int C tc), ("width", .int (wd : Int) tw), ("size", .int (b.size : Int) t2), ("top", .int (2 ^ wd - 1) t3), ("mask", .int (maskv wd b.size ts i) tm)] u) (h1 : news₁ = []) : LedJ b tb C tc wd tw ts i m₁ news₁
/-- a frame of which the named ones alone are told -/
theorem frq {h₀ h : Heap} {L : Addr} {m : Str → Option Value} (l : List (Str × Value)) (F : Fr h₀ L h m) (hm : mpAll m l) : ∃ u, Fr h₀ L h (mp l u) := ⟨m, by rw [← mp_of hm]; exact F⟩
theorem toNat_rest (x a : Nat) : ((x : Int) + 1 - (a : Nat)).toNat = x + 1 - a := Int.toNat_sub (x + 1) a
theorem rest_small {x a : Nat} (hx : x ≤ 8) (ha : a ≤ x + 1) : a + (x + 1 - a) ≤ 9 := by omega
theorem sz1 {n : Nat} (h : n = 4 ∨ n = 6 ∨ n = 8) : 4 ≤ n := by rcases h with rfl | rfl | rfl <;> decide
theorem sz2 {n : Nat} (h : n = 4 ∨ n = 6 ∨ n = 8) : n ≤ 8 := by rcases h with rfl | rfl | rfl <;> decide
theorem off7 {L X : Nat} (h : L + 1 + 1 + 1 + 1 + 1 < X) (hlt : 86 < L ∧ 79 < L) : L + 1 + 1 + 1 + 1 + 1 ≠ X ∧ L + 1 + 1 + 1 + 1 ≠ X ∧ L + 1 + 1 + 1 ≠ X ∧ L + 1 + 1 ≠ X ∧ L + 1 ≠ X ∧ 86 ≠ X ∧ 79 ≠ X :=
  have h4 := Nat.lt_of_succ_lt h
  have h3 := Nat.lt_of_succ_lt h4
  have h2 := Nat.lt_of_succ_lt h3
  have h1 := Nat.lt_of_succ_lt h2
  have h0 := Nat.lt_of_succ_lt h1
  ⟨Nat.ne_of_lt h, Nat.ne_of_lt h4, Nat.ne_of_lt h3, Nat.ne_of_lt h2, Nat.ne_of_lt h1, Nat.ne_of_lt (Nat.lt_trans hlt.1 h0), Nat.ne_of_lt (Nat.lt_trans hlt.2 h0)⟩
theorem ne79 {L X : Nat} (h : L + 1 + 1 + 1 + 1 + 1 < X) (hlt : 86 < L ∧ 79 < L) : X ≠ 79 := Nat.ne_of_gt (Nat.lt_trans hlt.2 (Nat.lt_of_le_of_lt (Nat.le_add_right L 5) h))
theorem ne86 {L X : Nat} (h : L + 1 + 1 + 1 + 1 + 1 < X) (hlt : 86 < L ∧ 79 < L) : X ≠ 86 := Nat.ne_of_gt (Nat.lt_trans hlt.1 (Nat.lt_of_le_of_lt (Nat.le_add_right L 5) h))
theorem ne1 (n : Nat) : (n : Int) + 1 ≠ 0 := by omega
theorem nn1 (n : Nat) : (0 : Int) ≤ (n : Int) + 1 := by omega
theorem le9 {n : Nat} (h : n ≤ 8) : (n : Int) + 1 ≤ 9 := by omega
theorem mul_fit {wd : Nat} {y : Int} (hw : wd ≤ 41) (h0 : 0 ≤ y) (h : y < 8 * (8 + 1)) : (wd : Int) * y ≤ 41 * 72 :=
  Int.mul_le_mul (Int.ofNat_le.mpr hw) (Int.le_trans (Int.le_of_lt h) (by decide)) h0 (by decide)
theorem led_hbt {wd : Nat} {y : Int} (hw1 : 12 ≤ wd) (hw : wd ≤ 41) (h0 : 0 ≤ y) (h : y < 8 * (8 + 1)) : (Builtin.Int.intBits (2 ^ wd - 1) : Int) + wd * y ≤ 2 ^ 27 := by
  rw [intBits_all (Nat.le_trans (by decide) hw1)]
  exact Int.le_trans (Int.add_le_add (Int.ofNat_le.mpr hw) (mul_fit hw h0 h)) (by decide)
theorem dig_of {d : Int} {wd : Nat} (h : 0 ≤ d ∧ d < 256) (hw : 12 ≤ wd) : 0 ≤ d ∧ d < 2 ^ wd := ⟨h.1, Int.lt_of_lt_of_le h.2 (Int.le_trans (by decide) (p2le hw))⟩
theorem small64 {n k : Nat} (h : n ≤ k + 1) (hk : k ≤ 8) : (n : Int) < 2 ^ 63 := by omega
theorem rep1 {n k : Nat} (h : n ≤ k + 1) : -(2 ^ 63 : Int) ≤ (k : Int) + 1 - (n : Nat) := by omega
theorem rep2 {n k : Nat} (h : k ≤ 8) : (k : Int) + 1 - (n : Nat) < 2 ^ 63 := by omega
theorem rep3 {n k : Nat} {v : Value} (h : k ≤ 8) : [v].length * ((k : Int) + 1 - (n : Nat)).toNat ≤ 256 := by
  rw [List.length_singleton]
  omega
set_option maxHeartbeats 4000000 in
theorem c_ledP (G : Gnd w p loose mean mg mb hb) {s : Shared} (SB : Sub hb s.heap) (b : Array UInt8) (l : Addr) (vs : List Value) (ts : List Int) (C : Int) (wd : Nat) (tb tc tw : Nat) (hl : s.heap.IsList l vs.toArray) (hi : IntsAre vs ts)
    (hlen : ts.length = b.size) (hw : 12 ≤ wd) (hw2 : wd ≤ 41) (hz : b.size ≤ 8) (hz2 : 2 ≤ b.size)
    (hC : Builtin.Int.intBits C ≤ 3000) (K : Int) (hK : K = Builtin.bitAnd (dval wd (KBw.bInts b) * C) (maskv wd b.size ts b.size)) (hK0 : 0 ≤ K) (hKb : K < 2 ^ 3000)
    {c c2 : Addr} (h79 : Tab79 s.heap c) (h86 : Tab86 s.heap c2) {P : Value → Heap → Prop} (hP : ∀ D vs ep h', s.heap.objs.size ≤ D → h'.get? D = some (listOf vs.toArray ep) →
      IntsAre vs (figs wd (cnt wd (K % (2 ^ (wd * (b.size + 1)) - 1))) (K % (2 ^ (wd * (b.size + 1)) - 1)) ++ List.replicate (b.size + 1 - cnt wd (K % (2 ^ (wd * (b.size + 1)) - 1))) 0) → P (.ref D) h') :
    Ret 310 w 119 [.bytes b tb, .ref l, .int C tc, .int (wd : Int) tw] s P := by
  have KX : (hd.heap_39 w.params).In hb ∧ PySem.Challenge.rw_we0015_01 = PySem.Challenge.rw_we0015_01 := by k_fill; exact ⟨G.K, rfl⟩
  refine ret_of ?_
  refine enter0 G SB [("row", .bytes b tb), ("targets", .ref l), ("copies", .int C tc), ("width", .int (wd : Int) tw)] (by k_is) (by k_is) (by decide) rfl (locs rfl) rfl rfl rfl (by decide) ?_
  intro h₁ L tk X' T' F' N' hL hk
  k_fold
  k_steps
  rename_i D hA F N
  refine Hold.in ?_
  refine wpAny_For ?_
  k_unmd
  k_steps
  refine Hold.in ?_
  refine enum_loop rfl hl F News.nil (by rfl) (by rfl) (by rfl) (LedJ b tb C tc wd tw ts)
    ⟨_, _, _, _, mp_of ⟨rfl, rfl, rfl, rfl, rfl, rfl, trivial⟩, rfl⟩ ?_ ?_
  · rintro i v m₁ news₁ h tk' own t hv hadr hoff ⟨u, tm, t2, t3, rfl, rfl⟩ F N
    obtain ⟨n, tn, rfl, hn⟩ := IntsAre.at hi i v hv
    simp only [List.nil_append] at N
    have hil : i < b.size := by rw [← hlen]; exact (List.getElem?_eq_some_iff.mp hn).1
    obtain ⟨p1, p2, p3, p4, p5, p6⟩ := posn_bound (t := n) hil hz
    try dsimp only
    k_steps
    refine Hold.in ?_
    refine Ret.use (c_mod G (s := { heap := h, gens := s.gens, drawn := s.drawn, toks := tk' + 1 + 1 + 1, os := s.os }) (fun x o e => F.keep _ _ (SB x o e)) ((i : Int) - n) (b.size + 1) _ _ (ne1 _)) F N rfl (Nat.le_of_ble_eq_true rfl) (Nat.le_of_ble_eq_true rfl) ?_
    rintro v h' tk2 ⟨tl, rfl⟩ hs' F2 N2
    clear F N
    try dsimp only
    k_steps
    rename_i hB F N
    refine Hold.in ?_
    have hbt : (Builtin.Int.intBits (2 ^ wd - 1) : Int) + wd * (i + b.size * ((i : Int) - n).fmod (b.size + 1)) ≤ 2 ^ 27 := led_hbt hw hw2 p1 p2
    refine Ret.use (c_lshift G (s := { heap := hB, gens := s.gens, drawn := s.drawn, toks := _, os := s.os }) (fun x o e => F.keep _ _ (SB x o e)) (2 ^ wd - 1) _ _ _ (Int.mul_nonneg (Int.natCast_nonneg _) p1) hbt) F N rfl (by exact Nat.le_of_ble_eq_true rfl) (by exact Nat.le_of_ble_eq_true rfl) ?_
    rintro v h2' tk3 ⟨tsh, rfl⟩ hs2 F3 N3
    clear F N F2 N2
    try dsimp only
    k_steps
    refine Hold.in ?_
    refine Ret.use (c_or G (s := { heap := h2', gens := s.gens, drawn := s.drawn, toks := _, os := s.os }) (fun x o e => F3.keep _ _ (SB x o e)) (maskv wd b.size ts i) _ _ _) F3 N3 rfl (by exact Nat.le_of_ble_eq_true rfl) (by exact Nat.le_of_ble_eq_true rfl) ?_
    rintro v h3' tk4 ⟨tor, rfl⟩ hs3 F4 N4
    clear F3 N3
    try dsimp only
    k_steps
    rename_i hD F N
    refine Hold.in ?_
    refine InvEndN.intro F N (nx := []) ⟨_, tor, t2, t3, mp_of (l := [("row", .bytes b tb), ("copies", .int C tc), ("width", .int (wd : Int) tw), ("size", .int (b.size : Int) t2), ("top", .int (2 ^ wd - 1) t3), ("mask", .int (maskv wd b.size ts (i + 1)) tor)]) ⟨rfl, rfl, rfl, rfl, rfl, ?_, trivial⟩, rfl⟩ rfl (fun _ h => nomatch h) (fun _ h => h)
    show _ = some (Value.int (Builtin.bitOr (maskv wd b.size ts i) ((2 ^ wd - 1) * 2 ^ (wd * posn b.size i (ts.getD i 0)).toNat)) _)
    have : ts.getD i 0 = n := by rw [List.getD_eq_getElem?_getD, hn]; rfl
    rw [this]
    rfl
  · rintro m₁ news₁ h tk' ⟨u, tm, t2, t3, rfl, rfl⟩ F N
    try dsimp only
    k_steps
    refine Hold.in ?_
    refine list_bytes rfl (Nat.le_trans hz (by decide)) fun h' tk' rv ep hs' eD hrow => ?_
    have N2 := fresh_cons (h' := h') F News.nil (Nat.le_refl _) eD
    have hLX : @LT.lt Nat _ L h.objs.size := F.ns.lt
    replace F := Fr.keeps F hs'
    clear N
    revert N2 hLX
    generalize hRs : h.objs.size = X
    intro N2 hLX
    try dsimp only
    k_steps
    refine Hold.in ?_
    have hdig : ∀ d ∈ KBw.bInts b, 0 ≤ d ∧ d < 2 ^ wd := fun d hd => dig_of (KBw.ints_in hd) hw
    have hrl : (KBw.bInts b).length = b.size := KBw.ints_length b
    have hRb := dval_bound wd _ hdig
    rw [hrl] at hRb
    have hRbits : Builtin.Int.intBits (dval wd (KBw.bInts b)) ≤ 400 := by
      refine Nat.le_trans (intBits_le hRb.1 hRb.2) (Nat.le_trans (Nat.mul_le_mul hw2 hz) (by decide))
    refine Ret.use (c_d2i_F G (s := { heap := h', gens := s.gens, drawn := s.drawn, toks := _, os := s.os }) (fun x o e => F.keep _ _ (SB x o e)) X rv (KBw.bInts b) wd tw (News.isList N2 (.head _)) hrow (Nat.le_trans (Nat.le_of_eq hrl) (Nat.le_trans hz (by decide))) (Nat.le_trans hw2 (by decide)) hdig (h86.keeps F.keep)) F N2 rfl (by exact Nat.le_of_ble_eq_true rfl) (by exact Nat.le_of_ble_eq_true rfl) ?_
    rintro v h2' tk3 ⟨tR, rfl⟩ hs2 F3 N3
    clear F N2
    try dsimp only
    k_steps
    refine Hold.in ?_
    refine Ret.use (c_mul G (s := { heap := h2', gens := s.gens, drawn := s.drawn, toks := _, os := s.os }) (fun x o e => F3.keep _ _ (SB x o e)) (dval wd (KBw.bInts b)) C _ _ (IntMulOk.of_le hRbits hC (by decide))) F3 N3 rfl (by exact Nat.le_of_ble_eq_true rfl) (by exact Nat.le_of_ble_eq_true rfl) ?_
    rintro v h3' tk4 ⟨tP, rfl⟩ hs3 F4 N4
    clear F3 N3
    try dsimp only
    k_steps
    refine Hold.in ?_
    refine Ret.use (c_and G (s := { heap := h3', gens := s.gens, drawn := s.drawn, toks := _, os := s.os }) (fun x o e => F4.keep _ _ (SB x o e)) (dval wd (KBw.bInts b) * C) _ _ _) F4 N4 rfl (by exact Nat.le_of_ble_eq_true rfl) (by exact Nat.le_of_ble_eq_true rfl) ?_
    rintro v h4' tk5 ⟨tA, rfl⟩ hs4 F5 N5
    clear F4 N4
    rw [hi.length, hlen, ← hK]
    have hq0 : 0 ≤ (wd : Int) * (b.size + 1) := Int.mul_nonneg (Int.natCast_nonneg _) (nn1 _)
    have hq1 : (wd : Int) * (b.size + 1) ≤ 41 * 9 := Int.mul_le_mul (Int.ofNat_le.mpr hw2) (le9 hz) (nn1 _) (by decide)
    have hq2 : ((wd : Int) * (b.size + 1)).toNat = wd * (b.size + 1) := by
      have : (wd : Int) * (b.size + 1) = ((wd * (b.size + 1) : Nat) : Int) := by push_cast; rfl
      rw [this, Int.toNat_natCast]
    try dsimp only
    k_steps
    rename_i hE F N
    refine Hold.in ?_
    rw [hq2] at *
    obtain ⟨kt, dt, u2, F⟩ : ∃ kt dt u2, Fr s.heap L hE (mp [("width", .int (wd : Int) tw), ("size", .int (b.size : Int) t2), ("kept", .int K kt), ("divisor", .int (2 ^ (wd * (b.size + 1)) - 1) dt)] u2) := ⟨_, _, frq [("width", .int (wd : Int) tw), ("size", .int (b.size : Int) t2), ("kept", .int K _), ("divisor", .int (2 ^ (wd * (b.size + 1)) - 1) _)] F ⟨rfl, rfl, rfl, rfl, trivial⟩⟩
    have hwp : 1 ≤ wd := Nat.le_trans (by decide) hw
    have hDb := intBits_all (m := wd * (b.size + 1)) (Nat.mul_pos hwp (Nat.succ_pos _))
    have hDp := all_pos (m := wd * (b.size + 1)) (Nat.mul_pos hwp (Nat.succ_pos _))
    have hm1 : wd * (b.size + 1) ≤ 41 * 9 := Nat.mul_le_mul hw2 (Nat.succ_le_succ hz)
    have hm2 : 12 * 3 ≤ wd * (b.size + 1) := Nat.mul_le_mul hw (Nat.succ_le_succ hz2)
    obtain ⟨hr0, hr1, hr2⟩ := rest_cnt (wd := wd) (n := b.size) (K := K) hwp
    have hc1 := cnt_hundred (n := wd * (b.size + 1)) (Nat.le_trans (by decide) hm2) hK0 hKb
    have hqb : Builtin.Int.intBits (K / (2 ^ (wd * (b.size + 1)) - 1)) ≤ 3000 := intBits_le (Int.ediv_nonneg hK0 (Int.le_of_lt hDp)) (Int.lt_of_le_of_lt (Int.ediv_le_self _ hK0) hKb)
    have hqe : K / (2 ^ (wd * (b.size + 1)) - 1) * (2 ^ (wd * (b.size + 1)) - 1) + K % (2 ^ (wd * (b.size + 1)) - 1) = K := Int.ediv_mul_add_emod _ _
    rw [← hDb] at hc1
    generalize hDv : (2 : Int) ^ (wd * (b.size + 1)) - 1 = Dv at *
    clear hDv
    refine Ret.use (c_divmod_F G (s := { heap := hE, gens := s.gens, drawn := s.drawn, toks := _, os := s.os }) (fun x o e => F.keep _ _ (SB x o e)) K Dv _ _ hK0 hDp (Nat.le_trans (Nat.le_of_eq hDb) (Nat.le_trans hm1 (by decide))) hc1 (h79.keeps F.keep) (h86.keeps F.keep)) F N rfl (by exact Nat.le_of_ble_eq_true rfl) (by exact Nat.le_of_ble_eq_true rfl) ?_
    rintro v h5' tk6 ⟨T, tq, tr, rfl, hT, eT⟩ hs5 F6 N6
    generalize hqv : K / Dv = qv at *
    generalize hrv : K % Dv = rv at *
    clear hqv hrv
    replace N6 := fresh_cons F N6 hT eT
    have lT := fresh_lt N hT
    k_lt lT
    clear F N F5 N5
    try dsimp only
    k_steps
    rename_i F N
    obtain ⟨u3, F⟩ : ∃ u3, Fr s.heap L _ (mp [("width", .int (wd : Int) tw), ("size", .int (b.size : Int) t2), ("kept", .int K kt), ("divisor", .int Dv dt), ("quotient", .int qv tq), ("rest", .int rv tr)] u3) := frq [("width", .int (wd : Int) tw), ("size", .int (b.size : Int) t2), ("kept", .int K kt), ("divisor", .int Dv dt), ("quotient", .int qv tq), ("rest", .int rv tr)] F ⟨rfl, rfl, rfl, rfl, rfl, rfl, trivial⟩
    refine Hold.in ?_
    refine Ret.use (c_mul G (s := { heap := _, gens := s.gens, drawn := s.drawn, toks := _, os := s.os }) (fun x o e => F.keep _ _ (SB x o e)) qv Dv _ _ (IntMulOk.of_le hqb (Nat.le_of_eq hDb) (Nat.le_trans (Nat.add_le_add_left hm1 _) (by decide)))) F N rfl (by exact Nat.le_of_ble_eq_true rfl) (by exact Nat.le_of_ble_eq_true rfl) ?_
    rintro v h6' tk7 ⟨tM, rfl⟩ hs6 F7 N7
    clear F N
    try dsimp only
    k_steps
    refine Hold.in ?_
    refine Ret.use (c_add G (s := { heap := h6', gens := s.gens, drawn := s.drawn, toks := _, os := s.os }) (fun x o e => F7.keep _ _ (SB x o e)) (qv * Dv) _ _ _) F7 N7 rfl (by exact Nat.le_of_ble_eq_true rfl) (by exact Nat.le_of_ble_eq_true rfl) ?_
    rintro v h7' tk8 ⟨tS, rfl⟩ hs7 F8 N8
    clear F7 N7
    rw [hqe]
    try dsimp only
    k_steps
    · exfalso
      first | contradiction | exact absurd rfl (by assumption) | omega
    refine Hold.in ?_
    refine Ret.use (c_i2d_F G (s := { heap := h7', gens := s.gens, drawn := s.drawn, toks := _, os := s.os }) (fun x o e => F8.keep _ _ (SB x o e)) rv wd _ _ hr0 hwp (Nat.le_trans hw2 (by decide)) (Nat.le_trans hr2 (Nat.le_trans (Nat.succ_le_succ hz) (by decide))) (h79.keeps F8.keep)) F8 N8 rfl (by exact Nat.le_of_ble_eq_true rfl) (by exact Nat.le_of_ble_eq_true rfl) ?_
    rintro v h8' tk9 ⟨Fg, fv, fe, rfl, hFg, eFg, hfi⟩ hs8 F9 N9
    replace N9 := fresh_cons F8 N9 hFg eFg
    have lFg := fresh_lt N8 hFg
    k_lt lFg
    have hfl : fv.length = cnt wd rv := by rw [hfi.length, figs_length]
    clear F8 N8
    try dsimp only
    k_steps
    rename_i Zl hZ Fz Nz lZ
    obtain ⟨u4, Fz⟩ := frq [("figures", .ref Fg), ("size", .int (b.size : Int) t2)] Fz ⟨rfl, rfl, trivial⟩
    refine Hold.in ?_
    refine len_list (News.isList Nz (.tail _ (.head _))) (by rw [List.size_toArray, hfl]; exact small64 hr2 hz) ?_
    have e9 : ((fv.toArray.size : Nat) : Int) = ((cnt wd rv : Nat) : Int) := by rw [List.size_toArray, hfl]
    rw [e9]
    try dsimp only
    k_steps
    refine Hold.in ?_
    refine KMa.mul (vs := [_]) Fz Nz (News.isList Nz (.head _)) (rep1 hr2) (rep2 hz) (rep3 hz) (flat_one _) fun Y hY Fy Ny lY => ?_
    try dsimp only
    k_steps
    refine Hold.in ?_
    rw [toNat_rest] at Ny
    refine kmk_add_ints Fy Ny (News.isList Ny (.tail _ (.tail _ (.head _)))) (News.isList Ny (.head _)) hfi (ints_rep _) (fun U us hU Fu Nu lU hiu => ?_) (by rw [figs_length, List.length_replicate, sizeLine_eq]; exact Nat.le_trans (rest_small hz hr2) (Nat.le_of_ble_eq_true rfl))
    k_lt lY
    k_lt lU
    have hLU : @LT.lt Nat _ L U := ltN (by omega)
    exact back_of Fu (fun _ _ e => e) (hP U us 0 _ (Nat.le_trans (Nat.le_of_eq hL) (Nat.le_of_lt hLU)) (News.get Nu (.head _)) hiu)
theorem c_led (G : Gnd w p loose mean mg mb hb) {s : Shared} (SB : Sub hb s.heap) (b : Array UInt8) (l : Addr) (vs : List Value) (ts : List Int) (C : Int) (wd : Nat) (tb tc tw : Nat) (hl : s.heap.IsList l vs.toArray) (hi : IntsAre vs ts)
    (hlen : ts.length = b.size) (hw : 12 ≤ wd) (hw2 : wd ≤ 41) (hz : b.size ≤ 8) (hz2 : 2 ≤ b.size)
    (hC : Builtin.Int.intBits C ≤ 3000) (K : Int) (hK : K = Builtin.bitAnd (dval wd (KBw.bInts b) * C) (maskv wd b.size ts b.size)) (hK0 : 0 ≤ K) (hKb : K < 2 ^ 3000)
    {c c2 : Addr} (h79 : Tab79 s.heap c) (h86 : Tab86 s.heap c2) :
    Ret 310 w 119 [.bytes b tb, .ref l, .int C tc, .int (wd : Int) tw] s (fun v h' => ∃ D vs ep, v = .ref D ∧ s.heap.objs.size ≤ D ∧ h'.get? D = some (listOf vs.toArray ep) ∧
      IntsAre vs (figs wd (cnt wd (K % (2 ^ (wd * (b.size + 1)) - 1))) (K % (2 ^ (wd * (b.size + 1)) - 1)) ++ List.replicate (b.size + 1 - cnt wd (K % (2 ^ (wd * (b.size + 1)) - 1))) 0)) :=
  c_ledP G SB b l vs ts C wd tb tc tw hl hi hlen hw hw2 hz hz2 hC K hK hK0 hKb h79 h86 fun D vs ep _ h1 h2 h3 => ⟨D, vs, ep, rfl, h1, h2, h3⟩
end Mine
end

section
-- M6
set_option maxHeartbeats 8000000
namespace Mine
theorem and_dig {n a b x y : Nat} (ha : a < 2 ^ n) (hb : b < 2 ^ n) : (2 ^ n * x + a) &&& (2 ^ n * y + b) = 2 ^ n * (x &&& y) + (a &&& b) := by
  apply Nat.eq_of_testBit_eq
  intro i
  rw [Nat.testBit_and, Nat.testBit_two_pow_mul_add _ ha, Nat.testBit_two_pow_mul_add _ hb, Nat.testBit_two_pow_mul_add _ (Nat.and_lt_two_pow _ hb)]
  split <;> simp
theorem or_dig {n a b x y : Nat} (ha : a < 2 ^ n) (hb : b < 2 ^ n) : (2 ^ n * x + a) ||| (2 ^ n * y + b) = 2 ^ n * (x ||| y) + (a ||| b) := by
  apply Nat.eq_of_testBit_eq
  intro i
  rw [Nat.testBit_or, Nat.testBit_two_pow_mul_add _ ha, Nat.testBit_two_pow_mul_add _ hb, Nat.testBit_two_pow_mul_add _ (Nat.or_lt_two_pow ha hb)]
  split <;> simp
noncomputable def nval (n : Nat) : List Nat → Nat
  | [] => 0
  | d :: ds => 2 ^ n * nval n ds + d
noncomputable def mval (n : Nat) : List Bool → Nat
  | [] => 0
  | b :: bs => 2 ^ n * mval n bs + (if b then 2 ^ n - 1 else 0)
theorem full_lt (n : Nat) : 2 ^ n - 1 < 2 ^ n := Nat.sub_lt (Nat.two_pow_pos n) (by decide)
theorem bit_lt (n : Nat) (b : Bool) : (if b then 2 ^ n - 1 else 0) < 2 ^ n := by
  cases b
  · exact Nat.two_pow_pos n
  · exact full_lt n
theorem mval_false (n : Nat) : ∀ k, mval n (List.replicate k false) = 0
  | 0 => rfl
  | k + 1 => by rw [List.replicate_succ, mval, mval_false n k]; simp
theorem or_set {n : Nat} : ∀ (bs : List Bool) (p : Nat), p < bs.length → mval n bs ||| ((2 ^ n - 1) * 2 ^ (n * p)) = mval n (bs.set p true)
  | [], _, h => absurd h (Nat.not_lt_zero _)
  | b :: bs, 0, _ => by
    have e : (2 ^ n - 1) * 2 ^ (n * 0) = 2 ^ n * 0 + (2 ^ n - 1) := by simp
    rw [e, mval, or_dig (bit_lt n b) (full_lt n), List.set_cons_zero, mval]
    cases b <;> simp
  | b :: bs, p + 1, h => by
    have e : (2 ^ n - 1) * 2 ^ (n * (p + 1)) = 2 ^ n * ((2 ^ n - 1) * 2 ^ (n * p)) + 0 := by
      rw [Nat.mul_add, Nat.mul_one, Nat.pow_add, ← Nat.mul_assoc, Nat.mul_comm _ (2 ^ n), Nat.add_zero]
    rw [e, mval, or_dig (bit_lt n b) (Nat.two_pow_pos n), or_set bs p (by simpa using h), List.set_cons_succ, mval, Nat.or_zero]
noncomputable def sel : List Nat → List Bool → List Nat
  | d :: ds, b :: bs => (if b then d else 0) :: sel ds bs
  | _, _ => []
theorem and_full {n d : Nat} (h : d < 2 ^ n) : d &&& (2 ^ n - 1) = d := by rw [Nat.and_two_pow_sub_one_eq_mod, Nat.mod_eq_of_lt h]
theorem and_sel {n : Nat} : ∀ (ds : List Nat) (bs : List Bool), ds.length = bs.length → (∀ d ∈ ds, d < 2 ^ n) → nval n ds &&& mval n bs = nval n (sel ds bs)
  | [], [], _, _ => by simp [nval, mval, sel]
  | d :: ds, b :: bs, h, hd => by
    rw [nval, mval, and_dig (hd d (.head _)) (bit_lt n b), and_sel ds bs (by simpa using h) (fun x hx => hd x (.tail _ hx)), sel, nval]
    cases b
    · simp
    · simp [and_full (hd d (.head _))]
theorem sel_false (n : Nat) : ∀ (ds : List Nat) (k : Nat), nval n (sel ds (List.replicate k false)) = 0
  | [], _ => by simp [sel, nval]
  | _ :: _, 0 => by simp [sel, nval]
  | d :: ds, k + 1 => by rw [List.replicate_succ, sel, nval, sel_false n ds k]; simp
theorem sel_set {n : Nat} : ∀ (ds : List Nat) (bs : List Bool) (p d : Nat), ds[p]? = some d → bs[p]? = some false → nval n (sel ds (bs.set p true)) = nval n (sel ds bs) + d * 2 ^ (n * p)
  | [], _, _, _, h, _ => by simp at h
  | _ :: _, [], _, _, _, h => by simp at h
  | d' :: ds, b :: bs, 0, d, h, hb => by
    have e1 : d' = d := by simpa using h
    have e2 : b = false := by simpa using hb
    subst e1; subst e2
    rw [List.set_cons_zero, sel, sel, nval, nval]
    simp
  | d' :: ds, b :: bs, p + 1, d, h, hb => by
    rw [List.set_cons_succ, sel, sel, nval, nval, sel_set ds bs p d (by simpa using h) (by simpa using hb), Nat.mul_add, Nat.mul_add n, Nat.mul_one, Nat.pow_add]
    have : 2 ^ n * (d * 2 ^ (n * p)) = d * (2 ^ (n * p) * 2 ^ n) := by rw [Nat.mul_left_comm, Nat.mul_comm (2 ^ n)]
    (first | lia | omega)
/-- the mask's figures after i octets -/
noncomputable def bsI (pos : Nat → Nat) (N : Nat) : Nat → List Bool
  | 0 => List.replicate N false
  | i + 1 => (bsI pos N i).set (pos i) true
theorem bsI_length (pos : Nat → Nat) (N : Nat) : ∀ i, (bsI pos N i).length = N
  | 0 => by simp [bsI]
  | i + 1 => by rw [bsI, List.length_set, bsI_length pos N i]
theorem bsI_false {pos : Nat → Nat} {N q : Nat} (hq : q < N) : ∀ i, (∀ j, j < i → pos j ≠ q) → (bsI pos N i)[q]? = some false
  | 0, _ => by simp [bsI, hq]
  | i + 1, h => by
    rw [bsI, List.getElem?_set_ne (h i (Nat.lt_succ_self _))]
    exact bsI_false hq i fun j hj => h j (Nat.lt_succ_of_lt hj)
noncomputable def maskN (n : Nat) (pos : Nat → Nat) : Nat → Nat
  | 0 => 0
  | i + 1 => maskN n pos i ||| ((2 ^ n - 1) * 2 ^ (n * pos i))
theorem maskN_eq {n N : Nat} {pos : Nat → Nat} : ∀ i, (∀ j, j < i → pos j < N) → maskN n pos i = mval n (bsI pos N i)
  | 0, _ => by rw [maskN, bsI, mval_false]
  | i + 1, h => by
    rw [maskN, maskN_eq i (fun j hj => h j (Nat.lt_succ_of_lt hj)), bsI, or_set _ _ (by rw [bsI_length]; exact h i (Nat.lt_succ_self _))]
/-- a sum of octets, each at its place -/
noncomputable def sumAt (n : Nat) (row pos : Nat → Nat) : Nat → Nat
  | 0 => 0
  | i + 1 => sumAt n row pos i + row i * 2 ^ (n * pos i)
theorem kept_eq {n N k : Nat} {ds : List Nat} {row pos : Nat → Nat} (hl : ds.length = N) (hd : ∀ d ∈ ds, d < 2 ^ n) (hp : ∀ j, j < k → pos j < N) (hr : ∀ j, j < k → ds[pos j]? = some (row j)) (hne : ∀ i j, i < j → j < k → pos i ≠ pos j) :
    nval n ds &&& maskN n pos k = sumAt n row pos k := by
  rw [maskN_eq k hp, and_sel ds _ (by rw [hl, bsI_length]) hd]
  have key : ∀ i, i ≤ k → nval n (sel ds (bsI pos N i)) = sumAt n row pos i := by
    intro i
    induction i with
    | zero => intro _; rw [bsI, sel_false, sumAt]
    | succ i ih =>
      intro hi
      rw [bsI, sel_set ds _ (pos i) (row i) (hr i hi) (bsI_false (hp i hi) i fun j hj => hne j i hj hi), ih (Nat.le_of_succ_le hi), sumAt]
  exact key k (Nat.le_refl _)
/-- places that part by multiples of m: the same sum but for multiples of B^m - 1 -/
theorem pow_wrap (n m q : Nat) : ∃ z, 2 ^ (n * (m * q)) = 1 + (2 ^ (n * m) - 1) * z := by
  induction q with
  | zero => exact ⟨0, by simp⟩
  | succ q ih =>
    obtain ⟨z, e⟩ := ih
    have hp : 1 ≤ 2 ^ (n * m) := Nat.two_pow_pos _
    refine ⟨2 ^ (n * m) * z + 1, ?_⟩
    have e1 : n * (m * (q + 1)) = n * m + n * (m * q) := by rw [Nat.mul_add, Nat.mul_one, Nat.mul_add, Nat.add_comm]
    rw [e1, Nat.pow_add, e]
    generalize 2 ^ (n * m) = B at *
    obtain ⟨c, rfl⟩ : ∃ c, B = c + 1 := ⟨B - 1, by (first | lia | omega)⟩
    simp only [Nat.add_sub_cancel]
    rw [Nat.mul_add, Nat.mul_add, Nat.mul_one, Nat.mul_one, Nat.mul_left_comm (c + 1) c z]
    (first | lia | omega)
theorem sum_wrap {n m k : Nat} {row pos t q : Nat → Nat} (h : ∀ j, j < k → pos j = t j + m * q j) : ∃ z, sumAt n row pos k = sumAt n row t k + (2 ^ (n * m) - 1) * z := by
  induction k with
  | zero => exact ⟨0, by simp [sumAt]⟩
  | succ k ih =>
    obtain ⟨z, e⟩ := ih fun j hj => h j (Nat.lt_succ_of_lt hj)
    obtain ⟨z2, e2⟩ := pow_wrap n m (q k)
    refine ⟨z + row k * 2 ^ (n * t k) * z2, ?_⟩
    rw [sumAt, sumAt, e, h k (Nat.lt_succ_self _), Nat.mul_add n, Nat.pow_add, e2]
    generalize 2 ^ (n * m) - 1 = D
    generalize 2 ^ (n * t k) = T
    rw [Nat.mul_add D, ← Nat.mul_assoc (row k) T, Nat.mul_add (row k * T), Nat.mul_one]
    have : row k * T * (D * z2) = D * (row k * T * z2) := Nat.mul_left_comm ..
    (first | lia | omega)
/-- the sums, place by place -/
noncomputable def sumsI (row t : Nat → Nat) (m : Nat) : Nat → List Nat
  | 0 => List.replicate m 0
  | i + 1 => (sumsI row t m i).set (t i) ((sumsI row t m i).getD (t i) 0 + row i)
theorem sumsI_length (row t : Nat → Nat) (m : Nat) : ∀ i, (sumsI row t m i).length = m
  | 0 => by simp [sumsI]
  | i + 1 => by rw [sumsI, List.length_set, sumsI_length row t m i]
theorem nval_zero (n : Nat) : ∀ m, nval n (List.replicate m 0) = 0
  | 0 => rfl
  | m + 1 => by rw [List.replicate_succ, nval, nval_zero n m]; simp
theorem nval_set {n : Nat} : ∀ (ds : List Nat) (p r : Nat), p < ds.length → nval n (ds.set p (ds.getD p 0 + r)) = nval n ds + r * 2 ^ (n * p)
  | [], _, _, h => absurd h (Nat.not_lt_zero _)
  | d :: ds, 0, r, _ => by rw [List.set_cons_zero, nval, nval]; simp; (first | lia | omega)
  | d :: ds, p + 1, r, h => by
    rw [List.set_cons_succ, nval, nval]
    have e := nval_set (n := n) ds p r (by simpa using h)
    have e2 : (d :: ds).getD (p + 1) 0 = ds.getD p 0 := by simp
    rw [e2, e, Nat.mul_add, Nat.mul_add n, Nat.mul_one, Nat.pow_add]
    have : 2 ^ n * (r * 2 ^ (n * p)) = r * (2 ^ (n * p) * 2 ^ n) := by rw [Nat.mul_left_comm, Nat.mul_comm (2 ^ n)]
    (first | lia | omega)
theorem sums_eq {n m k : Nat} {row t : Nat → Nat} (h : ∀ j, j < k → t j < m) : nval n (sumsI row t m k) = sumAt n row t k := by
  induction k with
  | zero => rw [sumsI, nval_zero, sumAt]
  | succ k ih =>
    rw [sumsI, nval_set _ _ _ (by rw [sumsI_length]; exact h k (Nat.lt_succ_self _)), ih fun j hj => h j (Nat.lt_succ_of_lt hj), sumAt]
end Mine
end

section
-- M7
set_option maxHeartbeats 8000000
namespace Mine
theorem nval_append (n : Nat) : ∀ (ds es : List Nat), nval n (ds ++ es) = nval n ds + 2 ^ (n * ds.length) * nval n es
  | [], es => by simp [nval]
  | d :: ds, es => by
    rw [List.cons_append, nval, nval, nval_append n ds es, List.length_cons, Nat.mul_add, Nat.mul_add n, Nat.mul_one, Nat.pow_add, ← Nat.mul_assoc, Nat.mul_comm (2 ^ n) (2 ^ (n * ds.length))]
    (first | lia | omega)
/-- the row k times over -/
noncomputable def rep (row : List Nat) : Nat → List Nat
  | 0 => []
  | k + 1 => row ++ rep row k
theorem rep_length (row : List Nat) : ∀ k, (rep row k).length = row.length * k
  | 0 => rfl
  | k + 1 => by rw [rep, List.length_append, rep_length row k, Nat.mul_succ, Nat.add_comm]
theorem rep_mem {row : List Nat} {d : Nat} : ∀ {k}, d ∈ rep row k → d ∈ row
  | k + 1, h => (List.mem_append.mp h).elim id rep_mem
theorem rep_get {row : List Nat} (hn : 0 < row.length) : ∀ (k p : Nat), p < row.length * k → (rep row k)[p]? = row[p % row.length]?
  | 0, p, h => absurd h (by (first | lia | omega))
  | k + 1, p, h => by
    rw [rep]
    by_cases hp : p < row.length
    · rw [List.getElem?_append_left hp, Nat.mod_eq_of_lt hp]
    · have hp : row.length ≤ p := Nat.le_of_not_lt hp
      rw [List.getElem?_append_right hp, rep_get hn k (p - row.length) (by rw [Nat.mul_succ] at h; (first | lia | omega)), Nat.mod_eq_sub_mod hp]
/-- the copies: one in each row's first place -/
noncomputable def geo (q : Nat) : Nat → Nat
  | 0 => 0
  | k + 1 => 1 + q * geo q k
theorem rep_val (n : Nat) (row : List Nat) : ∀ k, nval n (rep row k) = nval n row * geo (2 ^ (n * row.length)) k
  | 0 => by simp [rep, geo, nval]
  | k + 1 => by
    rw [rep, nval_append, rep_val n row k, geo, Nat.mul_add, Nat.mul_one, Nat.mul_left_comm]
theorem geo_mul {q : Nat} (hq : 1 ≤ q) : ∀ k, geo q k * (q - 1) = q ^ k - 1
  | 0 => by simp [geo]
  | k + 1 => by
    obtain ⟨c, rfl⟩ : ∃ c, q = c + 1 := ⟨q - 1, by (first | lia | omega)⟩
    have ih := geo_mul (q := c + 1) hq k
    have hp : 1 ≤ (c + 1) ^ k := Nat.pos_of_ne_zero (by simp)
    simp only [Nat.add_sub_cancel] at ih ⊢
    rw [geo, Nat.add_mul, Nat.one_mul, Nat.mul_assoc, ih, Nat.pow_succ, Nat.mul_comm ((c + 1) ^ k), Nat.mul_sub, Nat.mul_one]
    have key : ∀ X, c + 1 ≤ X → c + (X - (c + 1)) = X - 1 := fun X h => by
      rw [Nat.add_comm c 1, ← Nat.sub_sub]
      exact Nat.add_sub_cancel' (Nat.le_sub_of_add_le h)
    exact key _ (Nat.le_mul_of_pos_right _ hp)
/-- digits all below B - 1: less than B^m - 1 -/
theorem nval_lt {n : Nat} : ∀ (ds : List Nat), (∀ d ∈ ds, d < 2 ^ n) → nval n ds < 2 ^ (n * ds.length)
  | [], _ => by simp [nval]
  | d :: ds, h => by
    have ih := nval_lt ds fun x hx => h x (.tail _ hx)
    have hd := h d (.head _)
    rw [nval, List.length_cons, Nat.mul_add, Nat.mul_one, Nat.pow_add, Nat.mul_comm _ (2 ^ n)]
    have : 2 ^ n * (nval n ds + 1) ≤ 2 ^ n * 2 ^ (n * ds.length) := Nat.mul_le_mul_left _ ih
    rw [Nat.mul_add, Nat.mul_one] at this
    (first | lia | omega)
theorem nval_lt2 {n : Nat} (d : Nat) (ds : List Nat) (h : ∀ x ∈ ds, x < 2 ^ n) (hd : d + 1 < 2 ^ n) : nval n (d :: ds) < 2 ^ (n * (ds.length + 1)) - 1 := by
  have ih := nval_lt ds h
  rw [nval, Nat.mul_add, Nat.mul_one, Nat.pow_add, Nat.mul_comm _ (2 ^ n)]
  have : 2 ^ n * (nval n ds + 1) ≤ 2 ^ n * 2 ^ (n * ds.length) := Nat.mul_le_mul_left _ ih
  rw [Nat.mul_add, Nat.mul_one] at this
  refine Nat.lt_sub_of_add_lt (Nat.lt_of_lt_of_le ?_ this)
  exact Nat.add_lt_add_left hd (2 ^ n * nval n ds)
/-- what is kept, by the divisor: the sums -/
theorem kept_mod {n m k : Nat} {ds : List Nat} {row pos t q : Nat → Nat} {N : Nat} (hl : ds.length = N) (hd : ∀ d ∈ ds, d < 2 ^ n) (hp : ∀ j, j < k → pos j < N) (hr : ∀ j, j < k → ds[pos j]? = some (row j)) (hne : ∀ i j, i < j → j < k → pos i ≠ pos j)
    (ht : ∀ j, j < k → t j < m) (hw : ∀ j, j < k → pos j = t j + m * q j) (hs : ∀ d ∈ sumsI row t m k, d + 1 < 2 ^ n) (hm : 0 < m) :
    (nval n ds &&& maskN n pos k) % (2 ^ (n * m) - 1) = nval n (sumsI row t m k) := by
  rw [kept_eq hl hd hp hr hne]
  obtain ⟨z, e⟩ := sum_wrap (n := n) (row := row) hw
  rw [e, ← sums_eq ht, Nat.add_mul_mod_self_left, Nat.mod_eq_of_lt]
  have hlen := sumsI_length row t m k
  revert hlen hs
  cases sumsI row t m k with
  | nil => intro _ h; simp at h; (first | lia | omega)
  | cons d r =>
    intro hs hlen
    have := nval_lt2 (n := n) d r (fun x hx => Nat.lt_of_succ_lt (hs x (.tail _ hx))) (hs d (.head _))
    rw [← hlen]
    exact this
/-- the sums are no greater than all octets together -/
theorem sums_le {row t : Nat → Nat} {m b : Nat} (h : ∀ j, row j ≤ b) : ∀ k, ∀ d ∈ sumsI row t m k, d ≤ k * b
  | 0, d, hd => by rw [sumsI] at hd; rw [(List.mem_replicate.mp hd).2]; exact Nat.zero_le _
  | k + 1, d, hd => by
    rw [sumsI] at hd
    rw [Nat.succ_mul]
    have ih := sums_le (row := row) (t := t) (m := m) h k
    rcases List.mem_or_eq_of_mem_set hd with hd | hd
    · exact Nat.le_trans (ih d hd) (Nat.le_add_right _ _)
    · subst hd
      refine Nat.add_le_add ?_ (h k)
      rw [List.getD_eq_getElem?_getD]
      cases e : (sumsI row t m k)[t k]? with
      | none => exact Nat.zero_le _
      | some x => exact ih x (List.mem_of_getElem? e)
/-- whereto a place leads -/
theorem place_wrap {n i t lap : Nat} (hi : i < n) (ht : t ≤ n) (hlap : lap = (i + (n + 1) - t) % (n + 1)) : ∃ q, i + n * lap = t + (n + 1) * q := by
  by_cases h : t ≤ i
  · have e : t + lap = i := by
      rw [hlap, Nat.sub_add_comm h, Nat.add_mod_right, Nat.mod_eq_of_lt (Nat.lt_of_le_of_lt (Nat.sub_le _ _) (Nat.lt_succ_of_lt hi)), Nat.add_sub_cancel' h]
    refine ⟨lap, ?_⟩
    calc i + n * lap = (t + lap) + n * lap := by rw [e]
      _ = t + (n + 1) * lap := by rw [Nat.add_mul, Nat.one_mul, Nat.add_assoc, Nat.add_comm lap]
  · have h2 : t ≤ i + n := Nat.le_trans ht (Nat.le_add_left _ _)
    have e : lap = (i + n - t) + 1 := by
      rw [hlap, Nat.mod_eq_of_lt (show i + (n + 1) - t < n + 1 from Nat.sub_lt_left_of_lt_add (Nat.le_trans h2 (Nat.le_succ (i + n))) (Nat.add_lt_add_right (Nat.lt_of_not_le h) (n + 1))), ← Nat.add_assoc, Nat.sub_add_comm h2]
    have hc : t + (i + n - t) = i + n := Nat.add_sub_cancel' h2
    refine ⟨i + n - t, ?_⟩
    rw [e]
    generalize i + n - t = c at hc
    calc i + n * (c + 1) = (i + n) + n * c := by rw [Nat.mul_add, Nat.mul_one, Nat.add_comm (n * c), Nat.add_assoc]
      _ = (t + c) + n * c := by rw [hc]
      _ = t + (n + 1) * c := by rw [Nat.add_mul, Nat.one_mul, Nat.add_assoc, Nat.add_comm c]
theorem place_bound {n i lap : Nat} (hi : i < n) (hl : lap ≤ n) : i + n * lap < n * (n + 1) := by
  have : n * lap ≤ n * n := Nat.mul_le_mul_left _ hl
  rw [Nat.mul_add, Nat.mul_one]; (first | lia | omega)
theorem place_mod {n i lap : Nat} (hi : i < n) : (i + n * lap) % n = i := by rw [Nat.add_mul_mod_self_left, Nat.mod_eq_of_lt hi]
end Mine
end

section
-- M8
set_option maxHeartbeats 8000000
open PySem PySem.W
namespace Mine
theorem dval_nat (n : Nat) : ∀ l : List Nat, dval n (l.map fun (c : Nat) => (c : Int)) = ((nval n l : Nat) : Int)
  | [] => rfl
  | d :: l => by
    rw [List.map_cons, dval, dval_nat n l, nval]
    push_cast
    (first | lia | omega)
theorem posn_nat {n i : Nat} {t : Int} (h0 : 0 ≤ t) (h1 : t ≤ n) : posn n i t = ((i + n * ((i + (n + 1) - t.toNat) % (n + 1)) : Nat) : Int) := by
  obtain ⟨k, rfl⟩ := Int.eq_ofNat_of_zero_le h0
  unfold posn
  have e : ((i : Int) - (k : Nat)).fmod (n + 1) = (((i + (n + 1) - k) % (n + 1) : Nat) : Int) := by
    rw [Int.fmod_eq_emod_of_nonneg _ (by (first | lia | omega))]
    have e1 : ((i : Int) - (k : Nat)) % (n + 1) = ((i : Int) - (k : Nat) + (n + 1)) % (n + 1) := (Int.add_emod_right _ _).symm
    have e2 : (i : Int) - (k : Nat) + (n + 1) = ((i + (n + 1) - k : Nat) : Int) := by (first | lia | omega)
    rw [e1, e2, Int.natCast_emod]
    push_cast
    rfl
  rw [e, Int.toNat_natCast]
  push_cast
  rfl
theorem figs_dval (n : Nat) : ∀ xs : List Int, (∀ d ∈ xs, 0 ≤ d ∧ d < 2 ^ n) → figs n xs.length (dval n xs) = xs
  | [], _ => rfl
  | d :: xs, h => by
    have hd := h d (.head _)
    have hp := p2pos n
    rw [List.length_cons, figs, dval, Int.add_mul_emod_self_left, Int.emod_eq_of_lt hd.1 hd.2, Int.add_mul_ediv_left _ _ (Int.ne_of_gt hp), Int.ediv_eq_zero_of_lt hd.1 hd.2, Int.zero_add, figs_dval n xs fun x hx => h x (.tail _ hx)]
theorem figs_nought (n : Nat) : ∀ c, figs n c 0 = List.replicate c 0
  | 0 => rfl
  | c + 1 => by rw [figs, Int.zero_emod, Int.zero_ediv, figs_nought n c, List.replicate_succ]
/-- the figures with noughts behind them -/
theorem figs_pad {n : Nat} (hn : 1 ≤ n) {xs : List Int} (h : ∀ d ∈ xs, 0 ≤ d ∧ d < 2 ^ n) : figs n (cnt n (dval n xs)) (dval n xs) ++ List.replicate (xs.length - cnt n (dval n xs)) 0 = xs := by
  have hb := dval_bound n xs h
  have hc := cnt_le hn hb.1 hb.2
  have e := figs_add n (cnt n (dval n xs)) (xs.length - cnt n (dval n xs)) (dval n xs)
  rw [Nat.add_sub_cancel' hc, figs_dval n xs h, Int.ediv_eq_zero_of_lt hb.1 (lt_cnt hn hb.1), figs_nought] at e
  exact e.symm
theorem bitOr_nat (a b : Nat) : Builtin.bitOr (a : Int) (b : Int) = ((a ||| b : Nat) : Int) := by
  have hn : ∀ x : Int, Builtin.bitNot (Builtin.bitNot x) = x := fun x => by unfold Builtin.bitNot; (first | lia | omega)
  have hd : ∀ c : Nat, decide (0 ≤ Builtin.bitNot (c : Int)) = false := fun c => decide_eq_false (by unfold Builtin.bitNot; (first | lia | omega))
  unfold Builtin.bitOr Builtin.bitAnd
  rw [hd a, hd b]
  simp only [hn, Int.toNat_natCast]
theorem bitAnd_nat (a b : Nat) : Builtin.bitAnd (a : Int) (b : Int) = ((a &&& b : Nat) : Int) := rfl
noncomputable def lapN (n : Nat) (ts : List Int) (i : Nat) : Nat := (i + (n + 1) - (ts.getD i 0).toNat) % (n + 1)
noncomputable def posN (n : Nat) (ts : List Int) (i : Nat) : Nat := i + n * lapN n ts i
theorem pow_cast (k : Nat) : (2 : Int) ^ k = ((2 ^ k : Nat) : Int) := by rw [Int.natCast_pow]; rfl
theorem maskv_nat {wd n : Nat} {ts : List Int} (h : ∀ j, j < n → 0 ≤ ts.getD j 0 ∧ ts.getD j 0 ≤ n) : ∀ i, i ≤ n → maskv wd n ts i = ((maskN wd (posN n ts) i : Nat) : Int)
  | 0, _ => rfl
  | i + 1, hi => by
    rw [maskv, maskv_nat h i (Nat.le_of_succ_le hi), posn_nat (h i hi).1 (h i hi).2, maskN]
    have e1 : ((wd : Int) * ((i + n * ((i + (n + 1) - (ts.getD i 0).toNat) % (n + 1)) : Nat) : Int)).toNat = wd * posN n ts i := by
      rw [← Int.natCast_mul, Int.toNat_natCast]; rfl
    have e2 : ((2 : Int) ^ wd - 1) * 2 ^ (wd * posN n ts i) = (((2 ^ wd - 1) * 2 ^ (wd * posN n ts i) : Nat) : Int) := by
      rw [Int.natCast_mul, ← pow_cast, pow_cast wd]
      congr 1
      have := Nat.two_pow_pos wd
      (first | lia | omega)
    rw [e1, e2, bitOr_nat]
noncomputable def rowL (b : Array UInt8) : List Nat := b.toList.map UInt8.toNat
theorem rowL_length (b : Array UInt8) : (rowL b).length = b.size := by simp [rowL]
theorem bInts_row (b : Array UInt8) : KBw.bInts b = (rowL b).map fun (c : Nat) => (c : Int) := by simp [KBw.bInts, rowL]
theorem rowL_lt {b : Array UInt8} {d : Nat} (h : d ∈ rowL b) : d < 256 := by
  obtain ⟨c, _, rfl⟩ := List.mem_map.mp h
  exact c.toNat_lt
theorem rowL_getD (b : Array UInt8) (j : Nat) : (rowL b).getD j 0 ≤ 255 := by
  rw [List.getD_eq_getElem?_getD]
  cases e : (rowL b)[j]? with
  | none => exact Nat.zero_le _
  | some x => exact Nat.le_of_lt_succ (rowL_lt (List.mem_of_getElem? e))
/-- what the led gives: the sums of the octets, place by place -/
noncomputable def sumsL (b : Array UInt8) (ts : List Int) : List Int := (sumsI (fun j => (rowL b).getD j 0) (fun j => (ts.getD j 0).toNat) (b.size + 1) b.size).map fun (c : Nat) => (c : Int)
theorem led_plain {b : Array UInt8} {wd : Nat} {ts : List Int} {C : Int} (hw : 12 ≤ wd) (hw2 : wd ≤ 41) (hz : b.size ≤ 8) (hz2 : 2 ≤ b.size) (ht : ∀ j, j < b.size → 0 ≤ ts.getD j 0 ∧ ts.getD j 0 ≤ b.size)
    (hC : C = ((geo (2 ^ (wd * b.size)) (b.size + 1) : Nat) : Int)) {K : Int} (hK : K = Builtin.bitAnd (dval wd (KBw.bInts b) * C) (maskv wd b.size ts b.size)) :
    0 ≤ K ∧ K < 2 ^ 3000 ∧ Builtin.Int.intBits C ≤ 3000 ∧
    figs wd (cnt wd (K % (2 ^ (wd * (b.size + 1)) - 1))) (K % (2 ^ (wd * (b.size + 1)) - 1)) ++ List.replicate (b.size + 1 - cnt wd (K % (2 ^ (wd * (b.size + 1)) - 1))) 0 = sumsL b ts := by
  have hpw : 4096 ≤ 2 ^ wd := Nat.le_trans (by decide : 4096 ≤ 2 ^ 12) (Nat.pow_le_pow_right (by decide) hw)
  have hrl := rowL_length b
  have eK : K = ((nval wd (rep (rowL b) (b.size + 1)) &&& maskN wd (posN b.size ts) b.size : Nat) : Int) := by
    rw [hK, hC, bInts_row, dval_nat, maskv_nat ht _ (Nat.le_refl _), ← Int.natCast_mul, bitAnd_nat, rep_val, hrl]
  have hdig : ∀ d ∈ rep (rowL b) (b.size + 1), d < 2 ^ wd := fun d hd => Nat.lt_of_lt_of_le (rowL_lt (rep_mem hd)) (by (first | lia | omega))
  have hlen : (rep (rowL b) (b.size + 1)).length = b.size * (b.size + 1) := by rw [rep_length, hrl]
  have hlap : ∀ j, lapN b.size ts j ≤ b.size := fun j => Nat.le_of_lt_succ (Nat.mod_lt _ (Nat.succ_pos _))
  have htn : ∀ j, j < b.size → (ts.getD j 0).toNat ≤ b.size := fun j hj => by have := ht j hj; (first | lia | omega)
  have hbN := nval_lt _ hdig
  rw [hlen] at hbN
  have hexp : wd * (b.size * (b.size + 1)) ≤ 41 * 72 := Nat.mul_le_mul hw2 (Nat.le_trans (Nat.mul_le_mul hz (Nat.succ_le_succ hz)) (by decide))
  have hmod := kept_mod (n := wd) (m := b.size + 1) (k := b.size) (ds := rep (rowL b) (b.size + 1)) (row := fun j => (rowL b).getD j 0) (pos := posN b.size ts) (t := fun j => (ts.getD j 0).toNat)
    (q := fun j => (posN b.size ts j - (ts.getD j 0).toNat) / (b.size + 1)) hlen hdig (fun j hj => place_bound hj (hlap j)) (fun j hj => by
      rw [rep_get (by (first | lia | omega)) _ _ (by rw [hrl]; exact place_bound hj (hlap j)), hrl, show posN b.size ts j % b.size = j from place_mod hj, List.getElem?_eq_getElem (by (first | lia | omega))]
      show _ = some ((rowL b).getD j 0)
      rw [List.getD_eq_getElem?_getD, List.getElem?_eq_getElem (by (first | lia | omega))]; rfl)
    (fun i j hij hj e => by
      have h1 : posN b.size ts i % b.size = i := place_mod (by (first | lia | omega))
      have h2 : posN b.size ts j % b.size = j := place_mod hj
      rw [e, h2] at h1; (first | lia | omega))
    (fun j hj => Nat.lt_succ_of_le (htn j hj)) (fun j hj => by
      obtain ⟨q, hq⟩ := place_wrap (lap := lapN b.size ts j) hj (htn j hj) rfl
      have e1 : posN b.size ts j = (ts.getD j 0).toNat + (b.size + 1) * q := hq
      show posN b.size ts j = _ + _ * ((posN b.size ts j - (ts.getD j 0).toNat) / (b.size + 1))
      rw [e1, Nat.add_sub_cancel_left, Nat.mul_div_cancel_left _ (Nat.succ_pos _)])
    (fun d hd => by
      have := sums_le (row := fun j => (rowL b).getD j 0) (b := 255) (rowL_getD b) b.size d hd
      have : b.size * 255 ≤ 8 * 255 := Nat.mul_le_mul_right _ hz
      (first | lia | omega)) (Nat.succ_pos _)
  refine ⟨by rw [eK]; (first | lia | omega), ?_, ?_, ?_⟩
  · rw [eK, pow_cast]
    exact Int.ofNat_lt.mpr (Nat.lt_of_le_of_lt Nat.and_le_left (Nat.lt_of_lt_of_le hbN (Nat.pow_le_pow_right (by decide) (by (first | lia | omega)))))
  · refine Nat.le_trans (intBits_le (k := wd * (b.size * (b.size + 1))) (by rw [hC]; (first | lia | omega)) ?_) (by (first | lia | omega))
    rw [hC, pow_cast]
    refine Int.ofNat_lt.mpr ?_
    have hq : 2 ≤ 2 ^ (wd * b.size) := Nat.le_trans (by decide : 2 ≤ 2 ^ 1) (Nat.pow_le_pow_right (by decide) (Nat.mul_pos (by (first | lia | omega)) (by (first | lia | omega))))
    have hg := geo_mul (q := 2 ^ (wd * b.size)) (by (first | lia | omega)) (b.size + 1)
    have h1 : geo (2 ^ (wd * b.size)) (b.size + 1) ≤ geo (2 ^ (wd * b.size)) (b.size + 1) * (2 ^ (wd * b.size) - 1) := Nat.le_mul_of_pos_right _ (by (first | lia | omega))
    rw [hg, ← Nat.pow_mul, Nat.mul_assoc] at h1
    have := Nat.two_pow_pos (wd * (b.size * (b.size + 1)))
    (first | lia | omega)
  · have eR : K % (2 ^ (wd * (b.size + 1)) - 1) = dval wd (sumsL b ts) := by
      have e2 : (2 : Int) ^ (wd * (b.size + 1)) - 1 = ((2 ^ (wd * (b.size + 1)) - 1 : Nat) : Int) := by
        rw [pow_cast]; have := Nat.two_pow_pos (wd * (b.size + 1)); (first | lia | omega)
      rw [eK, e2, ← Int.natCast_emod, hmod, sumsL, dval_nat]
    have hsl : (sumsL b ts).length = b.size + 1 := by rw [sumsL, List.length_map, sumsI_length]
    rw [eR, ← hsl]
    refine figs_pad (by (first | lia | omega)) fun d hd => ?_
    obtain ⟨c, hc, rfl⟩ := List.mem_map.mp hd
    have h1 := sums_le (row := fun j => (rowL b).getD j 0) (b := 255) (rowL_getD b) b.size c hc
    have h2 : b.size * 255 ≤ 8 * 255 := Nat.mul_le_mul_right _ hz
    rw [pow_cast]
    exact ⟨by (first | lia | omega), Int.ofNat_lt.mpr (by (first | lia | omega))⟩
end Mine
end

section
-- M9
set_option maxHeartbeats 8000000
namespace Mine
theorem swp_split {w q r : Nat} (hr : r < w) : swp w (w * q + r) = w * q + (w - 1 - r) := by
  unfold swp
  rw [Nat.mul_add_mod, Nat.mod_eq_of_lt hr, Nat.add_sub_cancel, Nat.add_sub_assoc (Nat.lt_of_le_of_lt (Nat.zero_le _) hr), Nat.add_sub_assoc (Nat.le_sub_of_add_le hr)]
theorem swp_swp {w k : Nat} (hw : 1 ≤ w) : swp w (swp w k) = k := by
  have hr := Nat.mod_lt k hw
  have e := Nat.div_add_mod k w
  have h1 : swp w k = w * (k / w) + (w - 1 - k % w) := by
    have := swp_split (q := k / w) hr
    rw [e] at this; exact this
  rw [h1, swp_split (Nat.lt_of_le_of_lt (Nat.sub_le _ _) (Nat.sub_lt hw Nat.one_pos)), Nat.sub_sub_self (Nat.le_sub_of_add_le hr), e]
theorem swp_lt {w n k : Nat} (hw : 1 ≤ w) (hd : n % w = 0) (hk : k < n) : swp w k < n := by
  have hr := Nat.mod_lt k hw
  have e := Nat.div_add_mod k w
  have en := Nat.div_add_mod n w
  rw [hd, Nat.add_zero] at en
  have h1 : swp w k = w * (k / w) + (w - 1 - k % w) := by
    have := swp_split (q := k / w) hr
    rw [e] at this; exact this
  have hq : k / w < n / w := by
    refine (Nat.div_lt_iff_lt_mul hw).mpr ?_
    rw [Nat.mul_comm, en]; exact hk
  have h2 : w * (k / w + 1) ≤ w * (n / w) := Nat.mul_le_mul_left w hq
  rw [en, Nat.mul_add, Nat.mul_one] at h2
  rw [h1]
  exact Nat.lt_of_lt_of_le (Nat.add_lt_add_left (Nat.lt_of_le_of_lt (Nat.sub_le _ _) (Nat.sub_lt hw Nat.one_pos)) _) h2
theorem swapA_size (w : Nat) (b : Array UInt8) : (swapA w b).size = b.size := by simp [swapA]
theorem swapA_getD {w k : Nat} {b : Array UInt8} (hk : k < b.size) : (swapA w b).getD k 0 = b.getD (swp w k) 0 := by
  rw [Array.getD_eq_getD_getElem?, Array.getElem?_eq_getElem (by rw [swapA_size]; exact hk)]
  simp [swapA]
/-- c is the row b, turned, and as says whereto each place came -/
noncomputable def Led (b c : Array UInt8) (as : Nat → Nat) : Prop := c.size = b.size ∧ (∀ i, i < b.size → as i < b.size ∧ c.getD (as i) 0 = b.getD i 0) ∧ ∀ i j, i < b.size → j < b.size → as i = as j → i = j
theorem Led.start (b : Array UInt8) : Led b b id := ⟨rfl, fun i hi => ⟨hi, rfl⟩, fun _ _ _ _ h => h⟩
theorem Led.turn {b c : Array UInt8} {as : Nat → Nat} {w : Nat} (h : Led b c as) (hw : 1 ≤ w) (hd : b.size % w = 0) : Led b (swapA w c) (fun i => swp w (as i)) := by
  obtain ⟨h1, h2, h3⟩ := h
  refine ⟨by rw [swapA_size, h1], fun i hi => ?_, fun i j hi hj e => ?_⟩
  · have hs := swp_lt hw hd (h2 i hi).1
    refine ⟨hs, ?_⟩
    rw [swapA_getD (by rw [h1]; exact hs), swp_swp hw]
    exact (h2 i hi).2
  · have := congrArg (swp w) e
    simp only [swp_swp hw] at this
    exact h3 i j hi hj this
end Mine
end

section
-- M10
set_option maxHeartbeats 8000000
namespace Mine
/-- the octets that come to q -/
noncomputable def hit (row t : Nat → Nat) (q : Nat) : Nat → Nat
  | 0 => 0
  | k + 1 => hit row t q k + if t k = q then row k else 0
theorem sumsI_getD {row t : Nat → Nat} {m q : Nat} (hq : q < m) : ∀ k, (sumsI row t m k).getD q 0 = hit row t q k
  | 0 => by simp [sumsI, hit, List.getD_eq_getElem?_getD, hq]
  | k + 1 => by
    have ih := sumsI_getD (row := row) (t := t) hq k
    rw [sumsI, hit]
    by_cases e : t k = q
    · subst e
      rw [if_pos rfl, List.getD_eq_getElem?_getD, List.getElem?_set_self (by rw [sumsI_length]; exact hq), ih]
      rfl
    · rw [if_neg e, Nat.add_zero, ← ih, List.getD_eq_getElem?_getD, List.getElem?_set_ne e, ← List.getD_eq_getElem?_getD]
theorem hit_none {row t : Nat → Nat} {q : Nat} : ∀ {k}, (∀ j, j < k → t j ≠ q) → hit row t q k = 0
  | 0, _ => rfl
  | k + 1, h => by rw [hit, hit_none fun j hj => h j (Nat.lt_succ_of_lt hj), if_neg (h k (Nat.lt_succ_self _))]
theorem hit_one {row t : Nat → Nat} : ∀ {k i : Nat}, i < k → (∀ a b, a < k → b < k → t a = t b → a = b) → hit row t (t i) k = row i
  | k + 1, i, hi, hinj => by
    rw [hit]
    by_cases e : i = k
    · subst e
      rw [hit_none fun j hj he => Nat.ne_of_lt hj (hinj j i (Nat.lt_succ_of_lt hj) (Nat.lt_succ_self _) he), if_pos rfl, Nat.zero_add]
    · have hik : i < k := by (first | lia | omega)
      rw [hit_one hik fun a b ha hb => hinj a b (Nat.lt_succ_of_lt ha) (Nat.lt_succ_of_lt hb), if_neg fun he => e (hinj i k hi (Nat.lt_succ_self _) he.symm), Nat.add_zero]
/-- places that are a permutation: each octet alone -/
theorem sums_perm {row out t : Nat → Nat} {n : Nat} (hinj : ∀ a b, a < n → b < n → t a = t b → a = b) (ht : ∀ i, i < n → t i < n) (hout : ∀ i, i < n → out (t i) = row i) (hsur : ∀ q, q < n → ∃ i, i < n ∧ t i = q) :
    sumsI row t (n + 1) n = (List.range n).map out ++ [0] := by
  apply List.ext_getElem?
  intro q
  by_cases hq : q < n + 1
  · have h1 : (sumsI row t (n + 1) n)[q]? = some (hit row t q n) := by
      rw [← sumsI_getD (m := n + 1) hq n, List.getD_eq_getElem?_getD, List.getElem?_eq_getElem (by rw [sumsI_length]; exact hq)]
      rfl
    rw [h1]
    by_cases hn : q < n
    · obtain ⟨i, hi, rfl⟩ := hsur q hn
      rw [hit_one hi hinj, List.getElem?_append_left (by simp; exact hn)]
      simp [hn, hout i hi]
    · have : q = n := by (first | lia | omega)
      subst this
      rw [hit_none fun j hj e => by have := ht j hj; (first | lia | omega)]
      simp
  · rw [List.getElem?_eq_none (by rw [sumsI_length]; (first | lia | omega)), List.getElem?_eq_none (by simp; (first | lia | omega))]
end Mine
end

section
-- PT
set_option maxHeartbeats 8000000
open PySem PySem.W PyProof.Rows PySem.Calls
set_option Elab.async false
set_option maxRecDepth 100000
namespace Mine
/-- a walk whose items' tokens may be told: each look comes at T0 tokens or more -/
structure TWalk (prog : Program) (w : World) (A : Around) (T0 : Nat) (I : Addr) (fp : List Addr) (n : Nat) (P : Nat → Value → Prop) (St : Nat → Heap → Prop) : Prop where
  mem : I ∈ fp
  frame : ∀ i h h', St i h → (∀ b ∈ fp, ∀ o, h.get? b = some o → h'.get? b = some o) → St i h'
  item : ∀ i (s : Shared) (Q : Option Value → Shared → Prop) (E : Value → Shared → Prop), i < n → T0 ≤ s.toks → St i s.heap →
    (∀ v h' tk, P i v → St (i + 1) h' → (∀ b o, b ∉ [I] → s.heap.get? b = some o → h'.get? b = some o) → Q (some v) { s with heap := h', toks := tk }) → wpAny (model prog w) A (pyNext (.ref I)) Q E s
  done : ∀ (s : Shared) (Q : Option Value → Shared → Prop) (E : Value → Shared → Prop), St n s.heap →
    (∀ h' tk, (∀ b o, b ∉ [I] → s.heap.get? b = some o → h'.get? b = some o) → Q none { s with heap := h', toks := tk }) → wpAny (model prog w) A (pyNext (.ref I)) Q E s
  self : ∀ i (s : Shared) (Q : Value → Shared → Prop) (E : Value → Shared → Prop), St i s.heap → Q (.ref I) s → wpAny (model prog w) A (pyIter (.ref I)) Q E s
section
variable {prog : Program} {w : World} {A : Around} {T0 : Nat}
theorem TWalk.list (hh : A.handled = none) (I ax : Addr) (hne : ax ≠ I) (items : Array Value) :
    TWalk prog w A T0 I [I, ax] items.size (fun i v => items[i]? = some v) (fun i h => h.IsListIter I ax i ∧ h.IsList ax items) :=
  let W := Walks.list (prog := prog) (w := w) hh I ax hne items
  ⟨W.sub _ (.head _), W.frame, fun i s Q E hi _ st hQ => W.item i s Q E hi st hQ, W.done, W.self⟩
theorem TWalk.range (hh : A.handled = none) (I : Addr) (n : Nat) :
    TWalk prog w A T0 I [I] n (fun i v => ∃ t, v = .int i t ∧ T0 ≤ t) (fun i h => IsRangeIter h I (i : Nat) ((n : Int) - (i : Nat)) 1) where
  mem := .head _
  frame := fun _ _ _ st hk => hk I (.head _) _ st
  item := fun i s Q E hi ht st hQ => by
    refine wpAny_pyNext_range_item st (by (first | lia | omega)) fun h' hit' hs' => hQ _ h' _ ⟨_, rfl, ht⟩ ?_ fun b o hb e => hs'.extBut b o (fun q => hb (by simp [q])) e
    have e2 : (n : Int) - ((i + 1 : Nat) : Int) = (n : Int) - (i : Int) - 1 := by push_cast; (first | lia | omega)
    rw [e2]; push_cast; exact hit'
  done := fun s Q E st hQ => wpAny_pyNext_range_end hh st (by (first | lia | omega)) fun h' he' => hQ h' s.toks fun b o hb e => he' b o (fun q => hb (by simp [q])) e
  self := fun _ _ _ _ st hQ => wpAny_pyIter_rangeiter st hQ
end
section
variable {prog : Program} {w : World} {A : Around} {E : Value → Shared → Prop} {h₀ : Heap} {L : Addr} {m : Str → Option Value} {env : Env}

/-- between the turns -/
inductive TInv (s : Shared) (n T0 : Nat) (C D : Nat) (h₀ : Heap) (L : Addr) (m : Str → Option Value) (news : List (Addr × Obj)) (J : List Value → Nat → Prop) (St : Nat → Heap → Prop) (k : Nat) (s' : Shared) : Prop
  | mk (h : Heap) (tk i : Nat) (ys : List Value) (m' : Str → Option Value) (e : s' = { s with heap := h, toks := tk }) (hi : i ≤ n) (hk : k = n + 1 - i) (hy : ys.length = i) (hT : T0 ≤ tk) (hJ : J ys tk) (hs : St i h) (hF : Fr h₀ L h m) (hn : h.Ns C m')
    (hN : News h₀ L h ((D, LCg.lst ys) :: news)) : TInv s n T0 C D h₀ L m news J St k s'
/-- a comprehension of one clause, no test, whose turns leave the ledger alone; J: what holds of the items made and of the tokens given out -/
theorem comp_T {elt iter : Expr} {x : Str} {px : Pos} {scope : Scope} {cl : List (Str × Addr)} {pos : Pos} {s : Shared} {T0 : Nat} {I : Addr} {fp : List Addr} {n : Nat} {P : Nat → Value → Prop} {St : Nat → Heap → Prop} {news : List (Addr × Obj)}
    {J : List Value → Nat → Prop} {RR : Value → Addr → Result → Shared → Prop}
    (W : TWalk prog w A T0 I fp n P St) (hsz : n ≤ sizeLine) (hIo : ∀ i h, St i h → ∃ o, h.get? I = some o)
    (hSt : ∀ i h h' o, St i h → h.get? I = some o → h'.get? I = some o → News h₀ L h' news → St i h')
    (hcell : ∀ y ∈ scope.names, y.2 ≠ .cell) (hkind : scope.kind = .function) (hx : scope.names.lookup x = some .local) (hst : St 0 s.heap) (hfp : ∀ b ∈ fp, b < s.heap.objs.size)
    (F : Fr h₀ L s.heap m) (N : News h₀ L s.heap news) (hIL : L ≠ I) (hI₀ : h₀.get? I = none) (off : ∀ p ∈ news, p.1 ≠ I) (hT : T0 ≤ s.toks) (hJ : J [] T0) (mono : ∀ ys t t', J ys t → t ≤ t' → J ys t')
    (step : ∀ i v ys I oI C oC D m₂ h tk (E' : Value → Shared → Prop), i < n → P i v → ys.length = i → T0 ≤ tk → J ys tk → LCg.NsObj oC m₂ → m₂ x = some v → Fr h₀ L h m → News h₀ L h ((I, oI) :: (C, oC) :: (D, LCg.lst ys) :: news) → LCg.Off3 I C D news →
      ((@Ne Nat I C) ∧ (@Ne Nat I D) ∧ (@Ne Nat C D)) →
      wpAny (model prog w) A (eval elt (compEnvC scope cl C env)) (fun y s' => ∃ h' tk', s' = { s with heap := h', toks := tk' } ∧ Fr h₀ L h' m ∧ News h₀ L h' ((I, oI) :: (C, oC) :: (D, LCg.lst ys) :: news) ∧ J (ys ++ [y]) tk') E' { s with heap := h, toks := tk })
    (hRR : ∀ D C h tk m' ys, Fr h₀ L h m → News h₀ L h ((D, LCg.lst ys) :: news) → (∀ p ∈ news, p.1 < D) → h.Ns C m' → h₀.get? C = none → C ≠ L → C ≠ D → (∀ p ∈ news, p.1 ≠ C) → ys.length = n → J ys tk → T0 ≤ tk → RR (.ref D) C (.ok .next) { s with heap := h, toks := tk }) :
    wpAny (model prog w) A (newList []) (fun acc s₃ => wpAny (model prog w) A (newFunctionEnv scope env.globals cl [] env.qual none .none (some env)) (fun cenv s₄ =>
      codeAny (model prog w) A (.compStart (.ListComp elt [⟨.Name x px, iter, [], 0⟩] scope pos) 0 (.ref I) acc { cenv with scope := relabel scope env }) (RR acc cenv.locals) s₄) E s₃) E s := by
  refine wpAny_newObj_type (wpAny_newFunctionEnv hcell (by intro y hy; simp at hy) (fun h₁ hns₁ hsb₁ => ?_) hkind)
  dsimp only at hns₁ hsb₁ ⊢
  generalize hH2 : s.heap.push { cls := .type "list", dict := none, data := .seq ([] : List Value).toArray } = H2 at hns₁ hsb₁ ⊢
  obtain ⟨D, hD⟩ : ∃ D : Nat, s.heap.objs.size = D := ⟨_, rfl⟩
  obtain ⟨C, hC⟩ : ∃ C : Nat, H2.objs.size = C := ⟨_, rfl⟩
  have hCD : @Eq Nat C (D + 1) := by rw [← hC, ← hH2, Heap.size_push, hD]
  have hLD : @LT.lt Nat _ L D := hD ▸ F.ns.lt
  have hID : @LT.lt Nat _ I D := hD ▸ hfp I W.mem
  have hnD : ∀ p ∈ news, @LT.lt Nat _ p.1 D := fun p hp => hD ▸ Heap.lt_size (N p hp).1
  have above : ∀ a, D ≤ a → h₀.get? a = none := fun a ha => Heap.get?_none_of_le (Nat.le_trans F.above (Nat.le_trans (Nat.le_of_lt hLD) ha))
  have hC₀ := above C (hCD ▸ Nat.le_succ D)
  have hD₀ := above D (Nat.le_refl _)
  have hCL : C ≠ L := hCD ▸ Nat.ne_of_gt (Nat.lt_succ_of_lt hLD)
  have hDL : D ≠ L := Nat.ne_of_gt hLD
  have hCD' : C ≠ D := hCD ▸ Nat.succ_ne_self D
  have hIC : I ≠ C := hCD ▸ Nat.ne_of_lt (Nat.lt_succ_of_lt hID)
  have hID' : I ≠ D := Nat.ne_of_lt hID
  have off₀ : LCg.Off3 I C D news := LCg.Off3.of fun p hp => ⟨off p hp, hCD ▸ Nat.ne_of_lt (Nat.lt_succ_of_lt (hnD p hp)), Nat.ne_of_lt (hnD p hp)⟩
  rw [hC] at hns₁ hsb₁
  rw [hD, hC]
  have old : ∀ b o, s.heap.get? b = some o → h₁.get? b = some o := fun b o e => hsb₁.extBut b o (neN (by have hb : @LT.lt Nat _ b D := hD ▸ Heap.lt_size e; (first | lia | omega))) (Heap.get?_push_of_some _ (hH2 ▸ Heap.get?_push_of_some _ e))
  have hacc : h₁.get? D = some (LCg.lst []) := hsb₁.extBut _ _ (Ne.symm hCD') (Heap.get?_push_of_some _ (by rw [← hH2, ← hD]; exact Heap.get?_push_size _ rfl))
  have hst₁ : St 0 h₁ := W.frame _ _ _ hst fun b _ o e => old b o e
  have hDf : D ∉ fp := fun hm => by have := hfp _ hm; rw [hD] at this; exact Nat.lt_irrefl _ this
  have hCf : C ∉ fp := fun hm => by have := hfp _ hm; rw [hD, hCD] at this; exact Nat.lt_irrefl _ (Nat.lt_of_succ_lt this)
  have loop : ∀ s₃ : Shared, s₃ = { s with heap := h₁, toks := s.toks + ([] : List (Str × Value)).length } →
      codeAny (model prog w) A (.compLoop (.ListComp elt [⟨.Name x px, iter, [], 0⟩] scope pos) 0 (.ref I) (.ref D) (compEnvC scope cl C env)) (RR (.ref D) C) s₃ := by
    rintro s₃ rfl
    refine codeAny_compLoop_tests
      (TInv s n T0 C D h₀ L m news J St) ?_ (n + 1)
      ⟨h₁, _, 0, [], _, rfl, Nat.zero_le _, rfl, rfl, hT, mono _ _ _ hJ hT, hst₁, F.keeps old, hns₁, fun p hp => ?_⟩
    · rintro k s' ⟨h, tk, i, ys, m', rfl, hi, rfl, hyl, hTk, hJ', hst', F', hn', N'⟩
      have offD : ∀ p ∈ (D, LCg.lst ys) :: news, p.1 ≠ I := fun p hp => by
        rcases List.mem_cons.mp hp with rfl | hp
        · exact Ne.symm hID'
        · exact off p hp
      by_cases hlt : i < n
      · refine wpAny_with_toks (n := tk) (Nat.le_refl _) ?_
        refine W.item i _ _ _ hlt hTk hst' fun v h₂ tk₂ hPv hst₂ hk₂ htk₂ => ?_
        replace htk₂ : tk ≤ tk₂ := htk₂
        refine wpAny_assign_Name (wpAny_storeName_local (lookup_relabel_local hx) (hn'.at' fun o e => hk₂ _ o (by simpa using Ne.symm hIC) e) (fun h₃ hn₃ hs₃ => ?_) (by simp [compEnvC, relabel, hkind]))
        refine wpAny_tests_nil ?_
        simp only [if_true]
        have hst₃ : St (i + 1) h₃ := W.frame _ _ _ hst₂ fun b hb o e => hs₃.extBut b o (fun q => hCf (by have q' : b = C := q; rw [← q']; exact hb)) e
        obtain ⟨oI, heI⟩ := hIo _ _ hst₃
        obtain ⟨oC, heC, hoC⟩ := LCg.ns_obj hn₃
        have F₃ : Fr h₀ L h₃ m := (LCg.fr_but F' hk₂ hIL hI₀).change hs₃ hCL hC₀
        have N₂ := LCg.news_but N' hk₂ offD
        have N₃ : News h₀ L h₃ ((I, oI) :: (C, oC) :: (D, LCg.lst ys) :: news) := fun p hp => by
          rcases List.mem_cons.mp hp with rfl | hp
          · exact ⟨heI, Ne.symm hIL, hI₀⟩
          · rcases List.mem_cons.mp hp with rfl | hp
            · exact ⟨heC, hCL, hC₀⟩
            · have z := N₂ p hp
              refine ⟨hs₃.extBut _ _ ?_ z.1, z.2⟩
              rcases List.mem_cons.mp hp with rfl | hp
              · exact Ne.symm hCD'
              · exact (off₀.mem p hp).2.1
        refine wpAny_with_toks (n := tk₂) (Nat.le_add_right _ 1) ?_
        refine wpAny_mono (step i v ys I oI C oC D _ h₃ _ _ hlt hPv hyl (Nat.le_trans hTk (Nat.le_trans htk₂ (Nat.le_add_right _ 1))) (mono _ _ _ hJ' (Nat.le_trans htk₂ (Nat.le_add_right _ 1))) hoC (by simp) F₃ N₃ off₀ ⟨hIC, hID', hCD'⟩) (fun y s₄ h₄ => ?_) fun _ _ e => e
        obtain ⟨h₄, tk₄, rfl, F₄, N₄, hJ₄⟩ := h₄
        intro htk₄
        replace htk₄ : tk ≤ tk₄ := Nat.le_trans htk₂ htk₄
        have zI := (N₄ _ (.head _)).1
        have zC := (N₄ (C, oC) (.tail _ (.head _))).1
        have zD := (N₄ (D, LCg.lst ys) (.tail _ (.tail _ (.head _)))).1
        have N₄' : News h₀ L h₄ news := fun p hp => N₄ p (.tail _ (.tail _ (.tail _ hp)))
        have hst₄ : St (i + 1) h₄ := hSt _ _ _ _ hst₃ heI zI N₄'
        refine append_at (hsz := by show ys.toArray.size ≤ sizeLine; rw [List.size_toArray, hyl]; exact Nat.le_trans hi hsz) (show h₄.get? D = some { cls := .type "list", data := .seq ys.toArray ys.length } from zD) fun h₅ hs₅ hD₅ => ?_
        refine ⟨n + 1 - (i + 1), Nat.sub_lt_sub_left (Nat.lt_succ_of_lt hlt) (Nat.lt_succ_self i), h₅, tk₄, i + 1, ys ++ [y], _, rfl, hlt, rfl, by rw [List.length_append, List.length_singleton, hyl], Nat.le_trans hTk htk₄, hJ₄, W.frame _ _ _ hst₄ fun b hb o e => hs₅.extBut b o (fun q => hDf (q ▸ hb)) e, F₄.change hs₅ hDL hD₀, (hoC.ns zC).sameBut hs₅ hCD', fun p hp => ?_⟩
        rcases List.mem_cons.mp hp with rfl | hp
        · exact ⟨hD₅.trans (congrArg some (LCg.lst_snoc ys y)), hDL, hD₀⟩
        · exact ⟨hs₅.extBut _ _ (off₀.mem p hp).2.2 (N₄' p hp).1, (N₄' p hp).2⟩
      · obtain rfl : i = n := Nat.le_antisymm hi (Nat.not_lt.mp hlt)
        refine wpAny_with_toks (n := tk) (Nat.le_refl _) ?_
        refine W.done _ _ _ hst' fun h₂ tk₂ hk₂ htk₂ => ?_
        replace htk₂ : tk ≤ tk₂ := htk₂
        exact hRR _ _ h₂ tk₂ _ ys (LCg.fr_but F' hk₂ hIL hI₀) (LCg.news_but N' hk₂ offD) hnD (hn'.at' fun o e => hk₂ _ o (by simpa using Ne.symm hIC) e) hC₀ hCL hCD' (fun p hp => (off₀.mem p hp).2.1) hyl (mono _ _ _ hJ' htk₂) (Nat.le_trans hTk htk₂)
    · rcases List.mem_cons.mp hp with rfl | hp
      · exact ⟨hacc, hDL, hD₀⟩
      · exact ⟨old _ _ (N p hp).1, (N p hp).2⟩
  exact codeAny_compStart_list (loop _ rfl) (W.self 0 _ _ _ hst₁ (loop _ rfl))

/-- the end of such a comprehension, used as a value -/
theorem comp_end {Q : Value → Shared → Prop} {s : Shared} {D C : Addr} {h : Heap} {tk : Nat} {m' : Str → Option Value} {ys : List Value} {news : List (Addr × Obj)}
    (F : Fr h₀ L h m) (N : News h₀ L h ((D, LCg.lst ys) :: news)) (hn : h.Ns C m') (hC₀ : h₀.get? C = none) (hCL : C ≠ L) (hCD : C ≠ D) (offC : ∀ p ∈ news, p.1 ≠ C)
    (fin : ∀ h', Fr h₀ L h' m → News h₀ L h' ((D, LCg.lst ys) :: news) → Q (.ref D) { s with heap := h', toks := tk }) :
    compPost (model prog w) A E none Q (.ref D) C (.ok .next) { s with heap := h, toks := tk } := by
  refine ⟨m', hn, fun h'' hs'' => fin h'' (F.change hs'' hCL hC₀) fun p hp => ?_⟩
  refine ⟨hs''.extBut _ _ ?_ (N p hp).1, (N p hp).2⟩
  rcases List.mem_cons.mp hp with rfl | hp
  · exact Ne.symm hCD
  · exact offC p hp
/-- the end, laid under a local name -/
theorem comp_end_as {Q : Value → Shared → Prop} {s : Shared} {D C : Addr} {h : Heap} {tk : Nat} {m' : Str → Option Value} {ys : List Value} {news : List (Addr × Obj)} {y : Str} {py : Pos}
    (hy : env.kindOf y = some .local) (hp : (env.scope.kind == .class || (env.scope.kind == .module && env.locals != env.globals)) = false) (hLe : env.locals = L)
    (F : Fr h₀ L h m) (N : News h₀ L h ((D, LCg.lst ys) :: news)) (hn : h.Ns C m') (hC₀ : h₀.get? C = none) (hCL : C ≠ L) (hCD : C ≠ D) (offC : ∀ p ∈ news, p.1 ≠ C)
    (fin : ∀ h' tk', tk ≤ tk' → Fr h₀ L h' (fun z => if z = y then some (.ref D) else m z) → News h₀ L h' ((D, LCg.lst ys) :: news) → Q .none { s with heap := h', toks := tk' }) :
    compPost (model prog w) A E (some (assign (.Name y py) env)) Q (.ref D) C (.ok .next) { s with heap := h, toks := tk } := by
  subst hLe
  show wpAny _ A (assign (.Name y py) env (.ref D)) _ _ _
  refine wpAny_assign_Name (wpAny_storeName_local hy F.ns (fun h₂ hn₂ hs₂ => ?_) hp)
  have hL₀ : h₀.get? env.locals = none := Heap.get?_none_of_le F.above
  have F₂ : Fr h₀ env.locals h₂ (fun z => if z = y then some (.ref D) else m z) := ⟨hn₂, fun b o e => hs₂.extBut b o (fun q => by rw [q, hL₀] at e; cases e) (F.keep b o e), F.above⟩
  refine ⟨m', hn.sameBut hs₂ hCL, fun h'' hs'' => fin h'' _ (Nat.le_succ _) (F₂.change hs'' hCL hC₀) fun p hp => ?_⟩
  refine ⟨hs''.extBut _ _ ?_ (hs₂.extBut _ _ (N p hp).2.1 (N p hp).1), (N p hp).2⟩
  rcases List.mem_cons.mp hp with rfl | hp
  · exact Ne.symm hCD
  · exact offC p hp

/-- over a list of the ledger -/
theorem comp_list {elt iter : Expr} {x : Str} {px : Pos} {scope : Scope} {cl : List (Str × Addr)} {pos : Pos} {s : Shared} {T0 : Nat} {ax : Addr} {its : Array Value} {k : Nat} {news : List (Addr × Obj)} {J : List Value → Nat → Prop} {RR : Value → Addr → Result → Shared → Prop}
    (hh : A.handled = none) (F : Fr h₀ L s.heap m) (N : News h₀ L s.heap news) (hm : (ax, ({ cls := .type "list", data := .seq its k } : Obj)) ∈ news) (hsz : its.size ≤ sizeLine)
    (hcell : ∀ y ∈ scope.names, y.2 ≠ .cell) (hkind : scope.kind = .function) (hx : scope.names.lookup x = some .local) (hT : T0 ≤ s.toks) (hJ : J [] T0) (mono : ∀ ys t t', J ys t → t ≤ t' → J ys t')
    (step : ∀ i v ys I oI C oC D m₂ h tk (E' : Value → Shared → Prop), its[i]? = some v → ys.length = i → T0 ≤ tk → J ys tk → LCg.NsObj oC m₂ → m₂ x = some v → Fr h₀ L h m → News h₀ L h ((I, oI) :: (C, oC) :: (D, LCg.lst ys) :: news) → LCg.Off3 I C D news →
      ((@Ne Nat I C) ∧ (@Ne Nat I D) ∧ (@Ne Nat C D)) →
      wpAny (model prog w) A (eval elt (compEnvC scope cl C env)) (fun y s' => ∃ h' tk', s' = { s with heap := h', toks := tk' } ∧ Fr h₀ L h' m ∧ News h₀ L h' ((I, oI) :: (C, oC) :: (D, LCg.lst ys) :: news) ∧ J (ys ++ [y]) tk') E' { s with heap := h, toks := tk })
    (hRR : ∀ D C h tk m' ys, Fr h₀ L h m → News h₀ L h ((D, LCg.lst ys) :: news) → (∀ p ∈ news, p.1 < D) → h.Ns C m' → h₀.get? C = none → C ≠ L → C ≠ D → (∀ p ∈ news, p.1 ≠ C) → ys.length = its.size → J ys tk → T0 ≤ tk → RR (.ref D) C (.ok .next) { s with heap := h, toks := tk }) :
    wpAny (model prog w) A (pyIter (.ref ax)) (fun it s₂ => wpAny (model prog w) A (newList []) (fun acc s₃ => wpAny (model prog w) A (newFunctionEnv scope env.globals cl [] env.qual none .none (some env)) (fun cenv s₄ =>
      codeAny (model prog w) A (.compStart (.ListComp elt [⟨.Name x px, iter, [], 0⟩] scope pos) 0 it acc { cenv with scope := relabel scope env }) (RR acc cenv.locals) s₄) E s₃) E s₂) E s := by
  have hl : s.heap.IsList ax its := ⟨_, (N _ hm).1, rfl, _, rfl⟩
  have hlt : ax < s.heap.objs.size := Heap.lt_size (N _ hm).1
  refine wpAny_pyIter_list hl ?_
  have up : ∀ b o, s.heap.get? b = some o → (s.heap.push { cls := .type "list_iterator", data := .fields #[.ref ax, .int 0 0] }).get? b = some o := fun b o e => Heap.get?_push_of_some _ e
  refine comp_T (TWalk.list (T0 := T0) hh s.heap.objs.size ax (Nat.ne_of_lt hlt) its) hsz (fun i h st => by obtain ⟨o, e, _⟩ := st.1; exact ⟨o, e⟩) (fun i h h' o st e e' N' => ?_) hcell hkind hx ⟨⟨_, Heap.get?_push_size _ rfl, rfl, rfl⟩, hl.push _⟩ (fun b hb => ?_)
    (F.keeps up) (N.grown up) (Nat.ne_of_lt F.ns.lt) (next_is_new F) (fun p hp => Nat.ne_of_lt (Heap.lt_size (N p hp).1)) hT hJ mono (fun i v ys I oI C oC D m₂ h tk E' hi => step i v ys I oI C oC D m₂ h tk E') hRR
  · exact ⟨by obtain ⟨o', q, r⟩ := st.1; rw [e] at q; cases q; exact ⟨o, e', r⟩, ⟨_, (N' _ hm).1, rfl, _, rfl⟩⟩
  · show b < (s.heap.push _).objs.size
    rw [Heap.size_push]
    rcases List.mem_cons.mp hb with rfl | hb
    · exact Nat.lt_succ_self _
    · rw [List.mem_singleton.mp hb]; exact Nat.lt_succ_of_lt hlt
/-- over range(n), from the call on -/
theorem comp_range {elt iter : Expr} {x : Str} {px : Pos} {scope : Scope} {cl : List (Str × Addr)} {pos : Pos} {s : Shared} {T0 : Nat} {n : Nat} {tn : Tok} {news : List (Addr × Obj)} {J : List Value → Nat → Prop} {RR : Value → Addr → Result → Shared → Prop}
    (hh : A.handled = none) (F : Fr h₀ L s.heap m) (N : News h₀ L s.heap news) (hn : n ≤ 1000)
    (hcell : ∀ y ∈ scope.names, y.2 ≠ .cell) (hkind : scope.kind = .function) (hx : scope.names.lookup x = some .local) (hT : T0 ≤ s.toks) (hJ : J [] T0) (mono : ∀ ys t t', J ys t → t ≤ t' → J ys t')
    (step : ∀ i t ys I oI C oC D m₂ h tk (E' : Value → Shared → Prop), i < n → T0 ≤ t → ys.length = i → T0 ≤ tk → J ys tk → LCg.NsObj oC m₂ → m₂ x = some (.int i t) → Fr h₀ L h m → News h₀ L h ((I, oI) :: (C, oC) :: (D, LCg.lst ys) :: news) → LCg.Off3 I C D news →
      ((@Ne Nat I C) ∧ (@Ne Nat I D) ∧ (@Ne Nat C D)) →
      wpAny (model prg w) A (eval elt (compEnvC scope cl C env)) (fun y s' => ∃ h' tk', s' = { s with heap := h', toks := tk' } ∧ Fr h₀ L h' m ∧ News h₀ L h' ((I, oI) :: (C, oC) :: (D, LCg.lst ys) :: news) ∧ J (ys ++ [y]) tk') E' { s with heap := h, toks := tk })
    (hRR : ∀ D C h tk m' ys, Fr h₀ L h m → News h₀ L h ((D, LCg.lst ys) :: news) → (∀ p ∈ news, p.1 < D) → h.Ns C m' → h₀.get? C = none → C ≠ L → C ≠ D → (∀ p ∈ news, p.1 ≠ C) → ys.length = n → J ys tk → T0 ≤ tk → RR (.ref D) C (.ok .next) { s with heap := h, toks := tk }) :
    wpAny (model prg w) A (call (.type "range") [.int n tn]) (fun xv s₁ => wpAny (model prg w) A (pyIter xv) (fun it s₂ => wpAny (model prg w) A (newList []) (fun acc s₃ => wpAny (model prg w) A (newFunctionEnv scope env.globals cl [] env.qual none .none (some env)) (fun cenv s₄ =>
      codeAny (model prg w) A (.compStart (.ListComp elt [⟨.Name x px, iter, [], 0⟩] scope pos) 0 it acc { cenv with scope := relabel scope env }) (RR acc cenv.locals) s₄) E s₃) E s₂) E s₁) E s := by
  refine iter_range1 hn fun u v => ?_
  have hLs : @LT.lt Nat _ L s.heap.objs.size := F.ns.lt
  have e2 : (s.heap.push (rngObj 0 n 1 u tn v)).objs.size = s.heap.objs.size + 1 := Heap.size_push _ _
  have e3 : ((s.heap.push (rngObj 0 n 1 u tn v)).push (itObj 0 n 1)).objs.size = s.heap.objs.size + 1 + 1 := by rw [Heap.size_push, e2]
  have up : ∀ b o, s.heap.get? b = some o → ((s.heap.push (rngObj 0 n 1 u tn v)).push (itObj 0 n 1)).get? b = some o := fun b o e => Heap.get?_push_of_some _ (Heap.get?_push_of_some _ e)
  refine comp_T (s := { s with heap := (s.heap.push (rngObj 0 n 1 u tn v)).push (itObj 0 n 1), toks := s.toks + 1 + 1 }) (TWalk.range (T0 := T0) hh (s.heap.objs.size + 1) n) (Nat.le_trans hn (by decide)) (fun i h st => ⟨_, st⟩) (fun i h h' o st e e' _ => ?_) hcell hkind hx ?_ (fun b hb => ?_)
    (F.keeps up) (N.grown up) (neN (by (first | lia | omega))) (Heap.get?_none_of_le (Nat.le_trans F.above (Nat.le_trans (Nat.le_of_lt hLs) (Nat.le_succ _)))) (fun p hp => Nat.ne_of_lt (Nat.lt_succ_of_lt (Heap.lt_size (N p hp).1))) (Nat.le_succ_of_le (Nat.le_succ_of_le hT)) hJ mono
    (fun i v ys I oI C oC D m₂ h tk E' hi hP => by obtain ⟨t, rfl, ht⟩ := hP; exact step i t ys I oI C oC D m₂ h tk E' hi ht) hRR
  · have st' : h.get? (s.heap.objs.size + 1) = some _ := st
    show h'.get? (s.heap.objs.size + 1) = some _
    rw [e', ← e]; exact st'
  · have := it_zero (h := s.heap) (o := rngObj 0 n 1 u tn v) (k := (n : Int)) (c := 1)
    simpa using this
  · rw [List.mem_singleton.mp hb]
    show s.heap.objs.size + 1 < ((s.heap.push _).push _).objs.size
    rw [e3]; exact Nat.lt_succ_self _
end
end Mine
end

section
-- SY
set_option maxHeartbeats 8000000
open PySem PySem.W PyProof.Rows PySem.Calls
set_option Elab.async false
set_option maxRecDepth 100000
namespace Mine
/-- one statement of the law's body -/
noncomputable def stm (k : Nat) : Option (List Stmt × Scope) := match prg.theDef "law" with
  | some (_, b, sc) => (match (b[k]? : Option Stmt) with
    | some x => some ([x], sc)
    | none => none)
  | none => none
/-- two statements of it -/
noncomputable def stm2 (k : Nat) : Option (List Stmt × Scope) := match prg.theDef "law" with
  | some (_, b, sc) => (match (b[k]? : Option Stmt) with
    | some x => (match (b[k + 1]? : Option Stmt) with
      | some y => some ([x, y], sc)
      | none => none)
    | none => none)
  | none => none
theorem stm_of {pp : Arguments} {body : List Stmt} {scope : Scope} (hsyn : prg.theDef "law" = some (pp, body, scope)) {k : Nat} (hk : k < body.length) : stm k = some ((body.drop k).take 1, scope) := by
  have e : (body.drop k).take 1 = [body[k]] := by rw [List.drop_eq_getElem_cons hk]; rfl
  unfold stm
  rw [hsyn, e]
  dsimp only
  rw [List.getElem?_eq_getElem hk]
theorem stm2_of {pp : Arguments} {body : List Stmt} {scope : Scope} (hsyn : prg.theDef "law" = some (pp, body, scope)) (hk : 1 < body.length) : stm2 0 = some (body.take 2, scope) := by
  have e : body.take 2 = [body[0], body[1]] := by
    match body, hk with
    | x :: y :: r, _ => rfl
  unfold stm2
  rw [hsyn, e]
  dsimp only
  rw [List.getElem?_eq_getElem (by (first | lia | omega)), List.getElem?_eq_getElem hk]
end Mine
end

open Mine in
local macro_rules | `(tactic| walk_at "execs cons") => `(tactic| apply Hold.out)

section
-- PA
set_option maxHeartbeats 8000000
theorem Mine.anew38 : True := by w_top off; trivial
open PySem PySem.W PyProof.Rows PySem.Calls
set_option Elab.async false
set_option maxRecDepth 100000
namespace Mine
section
variable {w : World} {p : Program} {loose : List Str} {mean : ExcName → Option Value} {mg mb : Str → Option Value} {hb : Heap}
variable {A : Around} {s : Shared} {R : Result → Shared → Prop} {E : Value → Shared → Prop} {name qual : Str} {params : Arguments} {body : List Stmt} {scope : Scope} {dV kV doc pm cdv ct oc : Value} {an od : Option Addr} {osl : Array (Option Value)} {f : Addr}
  {args : List Value}
theorem enterNC (hs : List (Addr × Obj)) (binds : List (Str × Value)) (G : Gnd w p loose mean mg mb hb) (SB : Sub hb s.heap)
    (ho : (hd.heap_39 w.params).lookup f = some ⟨oc, od, .func (fnOf name qual params body scope dV kV doc pm an cdv ct), osl⟩) (hcd : codeIn (hd.heap_39 w.params) cdv qual = true) (hroom : A.depth < recursionLimit)
    (hbind : bindArgs (fnOf name qual params body scope dV kV doc pm an cdv ct) ⟨args, []⟩ = pure binds)
    (hkind : (binds.all fun y => scope.names.lookup y.1 == some .local || scope.names.lookup y.1 == some .cell) = true)
    (hnd : ((cellsFrom 0 scope.names []).map (·.1)).Nodup)
    (hco : scope.isCoroutine = false) (hgen : scope.isGenerator = false) (hk : scope.kind = .function)
    (hs1 : ∀ q ∈ hs, s.heap.get? q.1 = some q.2) (hs2 : ∀ q ∈ hs, hb.get? q.1 = none)
    (h : ∀ h₀ h₁ L tk cells, Gb hb s hs h₀ → (hd.heap_39 w.params).In h₀ → Top p loose mean mg mb h₀ →
      Fr h₀ L h₁ (bindL (envOfC qual scope L f cdv).kindOf binds fun _ => none) → News h₀ L h₁ (cells ++ hs) →
      CellsAre (bindC (envOfC qual scope L f cdv).kindOf binds fun _ => none) (cellsFrom (L + 1) scope.names []) cells → s.heap.objs.size = L → (∀ q ∈ hs, q.1 < L) →
      wpN (model prg w) (A.deeper (envOfC qual scope L f cdv)) (execs body (envOfC qual scope L f cdv))
        (fun fl s' => R (.ok (.ret (match fl with | .ret v => v | _ => .none))) s') (fun _ _ => False) { s with heap := h₁, toks := tk }) : codeN (model prg w) A (.call (.ref f) ⟨args, []⟩) R s := by
  obtain ⟨X, T⟩ := G.keeps SB
  have gb := Gb.mk' (s := s) SB hs2
  obtain ⟨X', T'⟩ := G.keeps gb.sub
  refine codeN_call_fn hroom (X _ _ ho) rfl hco hgen rfl (codeRec_of X hcd) ((BindsTo.of_eq hbind) _ _ _ _ ?_)
  refine wpAny_newFunctionEnv_cells hk (kindsX hkind _) fun env' he s' x => ?_
  subst he
  refine ⟨T.nolimit.keeps x.toInCall.keep, codeN_func ?_⟩
  obtain ⟨h₁, tk, rfl, _⟩ := x.done
  have hk₁ := x.toInCall.keep
  obtain ⟨cells, NC, Y⟩ := Cl.news (h₀ := s.heap) (Nat.le_refl _) fun n c hm => ⟨x.cell n c (lookup_of_mem_nodup (cellsFrom_names scope.names 0 (s.heap.objs.size + 1) [] [] rfl ▸ hnd) hm), x.above n c hm⟩
  refine wpN_mono (h _ h₁ s.heap.objs.size tk cells gb X' T' ⟨x.toInCall.ns, fun b o e => hk₁ b o (of_hideAll _ e), Nat.le_of_eq (hideAll_size _ _)⟩ (fun q hq => ?_) Y rfl (fun q hq => Heap.lt_size (hs1 q hq))) (fun _ _ x => x) (fun _ _ x => x.elim)
  rcases List.mem_append.mp hq with hq | hq
  · refine ⟨(NC q hq).1, (NC q hq).2.1, ?_⟩
    cases e : (hideAll s.heap (hs.map (·.1))).get? q.1 with
    | none => rfl
    | some o => have := of_hideAll _ e; rw [(NC q hq).2.2] at this; cases this
  · exact ⟨hk₁ _ _ (hs1 q hq), Nat.ne_of_lt (Heap.lt_size (hs1 q hq)), hideAll_none _ (List.mem_map_of_mem hq)⟩
theorem wpN_execs_split {M : Model} {A : Around} {E : Value → Shared → Prop} {s : Shared} {env : Env} {b : List Stmt} {Q : Flow → Shared → Prop} (k : Nat)
    (h : wpAny M A (execs (b.take k) env) (fun f s' => match f with | .next => wpN M A (execs (b.drop k) env) Q E s' | f => Q f s') E s) : wpN M A (execs b env) Q E s := by
  have := wpN_execs_append h
  rw [List.take_append_drop] at this
  exact this
end
variable {w : World} {p : Program} {loose : List Str} {mean : ExcName → Option Value} {mg mb : Str → Option Value} {hb : Heap}

theorem frm {h₀ h : Heap} {L : Addr} {m : Str → Option Value} {l : List (Str × Value)} (F : Fr h₀ L h m) (hm : mpAll m l) : Fr h₀ L h (mp l m) := by
  rw [← mp_of hm]; exact F
/-- what stands behind line 118: the eight numbers -/
inductive StA (h₀ : Heap) (L : Addr) (h : Heap) : Prop
  | mk (Cd : Addr) (cv : List Value) (cs : List Int) (u : Str → Option Value) (oH oW oA oR oS : Obj)
    (p0 : Fr h₀ L h (mp [("cells", .ref Cd)] u)) (p1 : News h₀ L h [(Cd, listOf cv.toArray 0), (L + 1 + 1 + 1 + 1 + 1, oH), (L + 1 + 1 + 1 + 1, oW), (L + 1 + 1 + 1, oA), (L + 1 + 1, oR), (L + 1, oS), (86, tabObj #[]), (79, tabObj #[])]) (p2 : IntsAre cv cs) (p3 : cs.length = 8) (p4 : (∀ d ∈ cs, 0 ≤ d ∧ d < 1000000)) (p5 : oH.data = .cell none) (p6 : oW.data = .cell none) (p7 : oA.data = .cell none) (p8 : oR.data = .cell none) (p9 : oS.data = .cell none) (p10 : L + 1 + 1 + 1 + 1 + 1 < Cd) : StA h₀ L h
set_option maxHeartbeats 8000000 in
theorem law_a {st : List Stmt} {scope : Scope} (hsyn : stm2 0 = some (st, scope)) {hb h₀ h : Heap} {s : Shared} {L : Addr} {tk : Nat} {l : Addr} {vs : List Value} {ns : List Int} {u : Str → Option Value} {oH oW oA oR oS : Obj}
    (X' : (hd.heap_39 w.params).In h₀) (T' : Top p loose mean mg mb h₀)
    (F' : Fr h₀ L h (mp [("script", .ref l)] u)) (N' : News h₀ L h [(L + 1 + 1 + 1 + 1 + 1, oH), (L + 1 + 1 + 1 + 1, oW), (L + 1 + 1 + 1, oA), (L + 1 + 1, oR), (L + 1, oS), (86, tabObj #[]), (79, tabObj #[])])
    (dH : oH.data = .cell none) (dW : oW.data = .cell none) (dA : oA.data = .cell none) (dR : oR.data = .cell none) (dS : oS.data = .cell none) (hlt : 86 < L ∧ 79 < L)
    (hl : h₀.IsList l vs.toArray) (hi : IntsAre vs ns) (hlen : ns.length ≤ 63) :
    wpAny (model prg w) ((AN 301).deeper (envOfC "law" scope L 124 (.ref 123))) (execs st (envOfC "law" scope L 124 (.ref 123)))
      (fun f s' => f = .next ∧ ∃ h' tk', s' = { s with heap := h', toks := tk' } ∧ StA h₀ L h') (fun _ _ => False) { s with heap := h, toks := tk } := by
  cases (show some _ = some _ from hsyn)
  have KX : (hd.heap_39 w.params).In h₀ ∧ PySem.Challenge.rw_we0015_01 = PySem.Challenge.rw_we0015_01 := by k_fill; exact ⟨X', rfl⟩
  refine wpAny_execs_cons ?_
  k_unmd
  k_fold
  k_steps
  rename_i Ds ws hA1 F1 N1 hi8 hC8 hL8 l1 hk1 hk2 g1 hiy hly D hB tkB F N lD
  refine Hold.in ?_
  generalize hds : List.map (fun k' => k'.fmod (10 ^ Int.toNat 6)) (List.take 8 ns) = ds at hiy hly
  have hd8 : ds.length ≤ 8 := by rw [← hds, List.length_map, List.length_take]; exact Nat.min_le_left 8 _
  have hdr : ∀ d ∈ ds, 0 ≤ d ∧ d < 1000000 := fun d hd => by
    rw [← hds] at hd
    obtain ⟨k, _, rfl⟩ := List.mem_map.mp hd
    exact ⟨Int.fmod_nonneg_of_pos _ (by decide), Int.fmod_lt_of_pos _ (by decide)⟩
  have N2 : News h₀ L hB [(D, LCg.lst ys), (L + 1 + 1 + 1 + 1 + 1, oH), (L + 1 + 1 + 1 + 1, oW), (L + 1 + 1 + 1, oA), (L + 1 + 1, oR), (L + 1, oS), (86, tabObj #[]), (79, tabObj #[])] := fun q hq => by
    rcases List.mem_cons.mp hq with rfl | hq
    · exact N _ (.head _)
    · exact N _ (.tail _ (.tail _ hq))
  have lDL : L + 1 + 1 + 1 + 1 + 1 ≠ D := lD.2.1
  clear F1 N1 hi8 hC8 hL8 hk1 hk2 hds l1 N lD
  refine wpAny_execs_cons ?_
  k_steps
  rename_i l8 h8 l8L D1 w1 h2 hi1 hc1 hl1 l1 Cd cv h3 hic lC h4 F5 N5
  have edl : ((ds.length : Nat) : Int).toNat = ds.length := Int.toNat_natCast _
  rw [edl] at hic
  refine ⟨Cd, cv, _, _, oH, oW, oA, oR, oS, frm F5 ⟨rfl, trivial⟩, fun q hq => ?_, hic, ?_, fun d hd => ?_, dH, dW, dA, dR, dS, ?_⟩
  · rcases List.mem_cons.mp hq with rfl | hq
    · exact N5 _ (.head _)
    · exact N5 _ (.tail _ (.tail _ (.tail _ (.tail _ hq))))
  · rw [List.length_append, List.length_drop]
    exact Nat.add_sub_cancel' hd8
  · rcases List.mem_append.mp hd with hd | hd
    · exact hdr d hd
    · have := List.mem_of_mem_drop hd
      exact (by decide : ∀ d ∈ ([5251, 5576, 3601, 7167, 96, 5123, 8233, 2298] : List Int), 0 ≤ d ∧ d < 1000000) d this
  · first | exact lC.2.2.1 | exact lC.2.2.2.1 | exact lC.2.2.2.2.1 | exact ltN (by (first | lia | omega))
end Mine
end

section
-- PB
set_option maxHeartbeats 8000000
theorem Mine.anew39 : True := by w_top off; trivial
open PySem PySem.W PyProof.Rows PySem.Calls
set_option Elab.async false
set_option maxRecDepth 100000
namespace Mine
variable {w : World} {p : Program} {loose : List Str} {mean : ExcName → Option Value} {mg mb : Str → Option Value} {hb : Heap}

/-- what stands behind line 119: the size and the width too -/
inductive StB (h₀ : Heap) (L : Addr) (h : Heap) : Prop
  | mk (Cd : Addr) (cv : List Value) (cs : List Int) (N wd tw tn : Nat) (u : Str → Option Value) (oH oW oA oR oS : Obj)
    (p0 : Fr h₀ L h (mp [("cells", .ref Cd), ("width", .int (wd : Int) tw)] u)) (p1 : News h₀ L h [(Cd, listOf cv.toArray 0), (L + 1 + 1 + 1 + 1 + 1, oH), (L + 1 + 1 + 1 + 1, oW), (L + 1 + 1 + 1, oA), (L + 1 + 1, oR), (L + 1, oS), (86, tabObj #[]), (79, tabObj #[])]) (p2 : IntsAre cv cs) (p3 : cs.length = 8) (p4 : (∀ d ∈ cs, 0 ≤ d ∧ d < 1000000)) (p5 : oH.data = .cell none) (p6 : oW.data = .cell none) (p7 : oA.data = .cell none) (p8 : oR.data = .cell none) (p9 : oS.data = .cell (some (.int (N : Int) tn))) (p10 : @LT.lt Nat _ (L + 1 + 1 + 1 + 1 + 1) Cd) (p11 : (N = 4 ∨ N = 6 ∨ N = 8)) (p12 : 12 ≤ wd) (p13 : wd ≤ 41) : StB h₀ L h
theorem pb1 {c : Int} (h : 0 ≤ c) : 4 + 2 * (c % 3) = ((4 + 2 * (c.toNat % 3) : Nat) : Int) := by
  obtain ⟨n, rfl⟩ := Int.eq_ofNat_of_zero_le h
  rfl
theorem pb2 {c : Int} (h : 0 ≤ c) : 12 + c / 3 % 30 = ((12 + c.toNat / 3 % 30 : Nat) : Int) := by
  obtain ⟨n, rfl⟩ := Int.eq_ofNat_of_zero_le h
  rfl
theorem pb3 (n : Nat) : 4 + 2 * (n % 3) = 4 ∨ 4 + 2 * (n % 3) = 6 ∨ 4 + 2 * (n % 3) = 8 :=
  (by decide : ∀ m : Fin 3, 4 + 2 * m.1 = 4 ∨ 4 + 2 * m.1 = 6 ∨ 4 + 2 * m.1 = 8) ⟨n % 3, Nat.mod_lt _ (by decide)⟩
theorem pb5 (n : Nat) : 12 + n / 3 % 30 ≤ 41 := Nat.add_le_add_left (Nat.le_of_lt_succ (Nat.mod_lt _ (by decide))) 12
set_option maxHeartbeats 8000000 in
theorem law_b1 {st : List Stmt} {scope : Scope} (hsyn : stm 2 = some (st, scope)) {h₀ h : Heap} {s : Shared} {L : Addr} {tk : Nat}
    (X' : (hd.heap_39 w.params).In h₀) (T' : Top p loose mean mg mb h₀) (hlt : @LT.lt Nat _ 86 L ∧ @LT.lt Nat _ 79 L) {Cd : Addr} {cv : List Value} {cs : List Int} {u : Str → Option Value} {oH oW oA oR oS : Obj}
    (F' : Fr h₀ L h (mp [("cells", .ref Cd)] u)) (N' : News h₀ L h [(Cd, listOf cv.toArray 0), (L + 1 + 1 + 1 + 1 + 1, oH), (L + 1 + 1 + 1 + 1, oW), (L + 1 + 1 + 1, oA), (L + 1 + 1, oR), (L + 1, oS), (86, tabObj #[]), (79, tabObj #[])])
    (hi : IntsAre cv cs) (hlen : cs.length = 8) (hcs : ∀ d ∈ cs, 0 ≤ d ∧ d < 1000000)
    (dH : oH.data = .cell none) (dW : oW.data = .cell none) (dA : oA.data = .cell none) (dR : oR.data = .cell none) (dS : oS.data = .cell none) (lC : @LT.lt Nat _ (L + 1 + 1 + 1 + 1 + 1) Cd) :
    wpAny (model prg w) ((AN 301).deeper (envOfC "law" scope L 124 (.ref 123))) (execs st (envOfC "law" scope L 124 (.ref 123)))
      (fun f s' => f = .next ∧ ∃ h' tk', s' = { s with heap := h', toks := tk' } ∧ StB h₀ L h') (fun _ _ => False) { s with heap := h, toks := tk } := by
  cases (show some _ = some _ from hsyn)
  have KX : (hd.heap_39 w.params).In h₀ ∧ PySem.Challenge.rw_we0015_01 = PySem.Challenge.rw_we0015_01 := by k_fill; exact ⟨X', rfl⟩
  refine wpAny_execs_cons ?_
  k_unmd
  k_fold
  k_steps
  rename_i o1 o2 D2 h2 l2 h3 h4 o4 d4 h5 F N
  have hc0 : 0 ≤ cs.getD (Int.toNat 0) 0 ∧ cs.getD (Int.toNat 0) 0 < 1000000 := by
    refine hcs _ ?_
    rw [List.getD_eq_getElem?_getD, List.getElem?_eq_getElem (by rw [hlen]; decide)]
    exact List.getElem_mem _
  generalize cs.getD (Int.toNat 0) 0 = c0 at *
  have e1 : 4 + 2 * c0.fmod 3 = ((4 + 2 * (c0.toNat % 3) : Nat) : Int) := by rw [Int.fmod_eq_emod_of_nonneg _ (by decide)]; exact pb1 hc0.1
  have e2 : 12 + (c0.fdiv 3).fmod 30 = ((12 + c0.toNat / 3 % 30 : Nat) : Int) := by rw [Int.fmod_eq_emod_of_nonneg _ (by decide), Int.fdiv_eq_ediv_of_nonneg _ (by decide)]; exact pb2 hc0.1
  rw [e2] at F
  rw [e1] at d4
  refine ⟨Cd, cv, cs, _, _, _, _, _, oH, oW, oA, oR, o4, frm F ⟨rfl, rfl, trivial⟩, fun q hq => N _ (.tail _ hq), hi, hlen, hcs, dH, dW, dA, dR, d4, lC, pb3 _, Nat.le_add_right 12 _, pb5 _⟩
end Mine
end

section
-- PC
set_option maxHeartbeats 8000000
theorem Mine.anew40 : True := by w_top off; trivial
open PySem PySem.W PyProof.Rows PySem.Calls
set_option Elab.async false
set_option maxRecDepth 100000
namespace Mine
variable {w : World} {p : Program} {loose : List Str} {mean : ExcName → Option Value} {mg mb : Str → Option Value} {hb : Heap}
local macro_rules | `(tactic| k_ne) => `(tactic| with_reducible ((rename ((_ ≠ _ ∧ _ ≠ _ ∧ _ ≠ _) ∧ _) => hK); (repeat (first | exact hK.1.1 | exact hK.1.2.1 | exact hK.1.2.2 | replace hK := hK.2)); done))

/-- what stands behind line 120: the divisors too -/
inductive StC (h₀ : Heap) (L : Addr) (h : Heap) : Prop
  | mk (Cd Dd : Addr) (cv dv : List Value) (cs dl : List Int) (N wd tw tn : Nat) (u : Str → Option Value) (oH oW oA oR oS : Obj)
    (p0 : Fr h₀ L h (mp [("cells", .ref Cd), ("width", .int (wd : Int) tw), ("divisors", .ref Dd)] u)) (p1 : News h₀ L h [(Dd, LCg.lst dv), (Cd, listOf cv.toArray 0), (L + 1 + 1 + 1 + 1 + 1, oH), (L + 1 + 1 + 1 + 1, oW), (L + 1 + 1 + 1, oA), (L + 1 + 1, oR), (L + 1, oS), (86, tabObj #[]), (79, tabObj #[])]) (p2 : IntsAre cv cs) (p3 : cs.length = 8) (p4 : (∀ d ∈ cs, 0 ≤ d ∧ d < 1000000)) (p5 : IntsAre dv dl) (p6 : 0 < dl.length) (p7 : dl.length ≤ 4) (p8 : (∀ d ∈ dl, ∃ k : Nat, d = k ∧ 1 ≤ k ∧ k ≤ N ∧ N % k = 0)) (p9 : oH.data = .cell none) (p10 : oW.data = .cell none) (p11 : oA.data = .cell none) (p12 : oR.data = .cell none) (p13 : oS.data = .cell (some (.int (N : Int) tn))) (p14 : @LT.lt Nat _ (L + 1 + 1 + 1 + 1 + 1) Cd) (p15 : (Cd ≠ Dd ∧ L + 1 + 1 + 1 + 1 + 1 ≠ Dd ∧ L + 1 + 1 + 1 + 1 ≠ Dd ∧ L + 1 + 1 + 1 ≠ Dd ∧ L + 1 + 1 ≠ Dd ∧ L + 1 ≠ Dd ∧ 86 ≠ Dd ∧ 79 ≠ Dd)) (p16 : (N = 4 ∨ N = 6 ∨ N = 8)) (p17 : 12 ≤ wd) (p18 : wd ≤ 41) : StC h₀ L h
theorem divs_of {N : Nat} (hN : N = 4 ∨ N = 6 ∨ N = 8) : ∃ dl : List Int, List.foldl (fun l' k' => if (N : Int).fmod k' = 0 then l' ++ [k'] else l') [] (rangeKs 1 ((N : Int) + 1 - 1).toNat) = dl ∧ 0 < dl.length ∧ dl.length ≤ 4 ∧ ∀ d ∈ dl, ∃ k : Nat, d = k ∧ 1 ≤ k ∧ k ≤ N ∧ N % k = 0 := by
  rcases hN with rfl | rfl | rfl
  · refine ⟨[1, 2, 4], by decide +kernel, by decide, by decide, fun d hd => ⟨d.toNat, ?_⟩⟩
    simp only [List.mem_cons, List.not_mem_nil, or_false] at hd
    rcases hd with rfl | rfl | rfl <;> decide
  · refine ⟨[1, 2, 3, 6], by decide +kernel, by decide, by decide, fun d hd => ⟨d.toNat, ?_⟩⟩
    simp only [List.mem_cons, List.not_mem_nil, or_false] at hd
    rcases hd with rfl | rfl | rfl | rfl <;> decide
  · refine ⟨[1, 2, 4, 8], by decide +kernel, by decide, by decide, fun d hd => ⟨d.toNat, ?_⟩⟩
    simp only [List.mem_cons, List.not_mem_nil, or_false] at hd
    rcases hd with rfl | rfl | rfl | rfl <;> decide
set_option maxHeartbeats 8000000 in
theorem law_b2 {st : List Stmt} {scope : Scope} (hsyn : stm 3 = some (st, scope)) {h₀ h : Heap} {s : Shared} {L : Addr} {tk : Nat}
    (X' : (hd.heap_39 w.params).In h₀) (T' : Top p loose mean mg mb h₀) (hlt : @LT.lt Nat _ 86 L ∧ @LT.lt Nat _ 79 L) {Cd : Addr} {cv : List Value} {cs : List Int} {N wd tw tn : Nat} {u : Str → Option Value} {oH oW oA oR oS : Obj}
    (F' : Fr h₀ L h (mp [("cells", .ref Cd), ("width", .int (wd : Int) tw)] u)) (N' : News h₀ L h [(Cd, listOf cv.toArray 0), (L + 1 + 1 + 1 + 1 + 1, oH), (L + 1 + 1 + 1 + 1, oW), (L + 1 + 1 + 1, oA), (L + 1 + 1, oR), (L + 1, oS), (86, tabObj #[]), (79, tabObj #[])])
    (hi : IntsAre cv cs) (hlen : cs.length = 8) (hcs : ∀ d ∈ cs, 0 ≤ d ∧ d < 1000000)
    (dH : oH.data = .cell none) (dW : oW.data = .cell none) (dA : oA.data = .cell none) (dR : oR.data = .cell none) (dS : oS.data = .cell (some (.int (N : Int) tn))) (lC : @LT.lt Nat _ (L + 1 + 1 + 1 + 1 + 1) Cd)
    (hN : N = 4 ∨ N = 6 ∨ N = 8) (hw : 12 ≤ wd) (hw2 : wd ≤ 41) :
    wpAny (model prg w) ((AN 301).deeper (envOfC "law" scope L 124 (.ref 123))) (execs st (envOfC "law" scope L 124 (.ref 123)))
      (fun f s' => f = .next ∧ ∃ h' tk', s' = { s with heap := h', toks := tk' } ∧ StC h₀ L h') (fun _ _ => False) { s with heap := h, toks := tk } := by
  cases (show some _ = some _ from hsyn)
  have KX : (hd.heap_39 w.params).In h₀ ∧ PySem.Challenge.rw_we0015_01 = PySem.Challenge.rw_we0015_01 := by k_fill; exact ⟨X', rfl⟩
  have hN1 : 4 ≤ N := sz1 hN
  have hN2 : N ≤ 8 := sz2 hN
  obtain ⟨dl, edl, hd1, hd2, hd3⟩ := divs_of hN
  have hN' : Hold (N = 4 ∨ N = 6 ∨ N = 8) := hN
  clear hN
  refine wpAny_execs_cons ?_
  k_unmd
  k_fold
  k_steps
  rename_i gz hid hyl0 hyl D hB tkB F N1 lD
  rw [edl] at hid
  refine ⟨Cd, D, cv, _, cs, dl, N, wd, tw, tn, _, oH, oW, oA, oR, oS, frm F ⟨rfl, rfl, rfl, trivial⟩, N1, hi, hlen, hcs, hid, hd1, hd2, hd3, dH, dW, dA, dR, dS, lC, lD, hN', hw, hw2⟩
end Mine
end

section
-- PD
set_option maxHeartbeats 8000000
theorem Mine.anew41 : True := by w_top off; trivial
open PySem PySem.W PyProof.Rows PySem.Calls
set_option Elab.async false
set_option maxRecDepth 100000
namespace Mine
variable {w : World} {p : Program} {loose : List Str} {mean : ExcName → Option Value} {mg mb : Str → Option Value} {hb : Heap}

/-- what stands behind line 121: the row too -/
inductive StD (h₀ : Heap) (L : Addr) (h : Heap) : Prop
  | mk (Cd Dd : Addr) (cv dv : List Value) (cs dl : List Int) (b : Array UInt8) (wd tw tn tb : Nat) (u : Str → Option Value) (oH oW oA oR oS : Obj)
    (p0 : Fr h₀ L h (mp [("cells", .ref Cd), ("width", .int (wd : Int) tw), ("divisors", .ref Dd)] u)) (p1 : News h₀ L h [(Dd, LCg.lst dv), (Cd, listOf cv.toArray 0), (L + 1 + 1 + 1 + 1 + 1, oH), (L + 1 + 1 + 1 + 1, oW), (L + 1 + 1 + 1, oA), (L + 1 + 1, oR), (L + 1, oS), (86, tabObj #[]), (79, tabObj #[])]) (p2 : IntsAre cv cs) (p3 : cs.length = 8) (p4 : (∀ d ∈ cs, 0 ≤ d ∧ d < 1000000)) (p5 : IntsAre dv dl) (p6 : 0 < dl.length) (p7 : dl.length ≤ 4) (p8 : (∀ d ∈ dl, ∃ k : Nat, d = k ∧ 1 ≤ k ∧ k ≤ b.size ∧ b.size % k = 0)) (p9 : oH.data = .cell none) (p10 : oW.data = .cell none) (p11 : oA.data = .cell none) (p12 : oR.data = .cell (some (.bytes b tb))) (p13 : oS.data = .cell (some (.int (b.size : Int) tn))) (p14 : @LT.lt Nat _ (L + 1 + 1 + 1 + 1 + 1) Cd) (p15 : (@Ne Nat Cd Dd ∧ @Ne Nat (L + 1 + 1 + 1 + 1 + 1) Dd ∧ @Ne Nat (L + 1 + 1 + 1 + 1) Dd ∧ @Ne Nat (L + 1 + 1 + 1) Dd ∧ @Ne Nat (L + 1 + 1) Dd ∧ @Ne Nat (L + 1) Dd ∧ @Ne Nat 86 Dd ∧ @Ne Nat 79 Dd)) (p16 : (b.size = 4 ∨ b.size = 6 ∨ b.size = 8)) (p17 : 12 ≤ wd) (p18 : wd ≤ 41) : StD h₀ L h
set_option maxHeartbeats 8000000 in
theorem law_b3 {st : List Stmt} {scope : Scope} (hsyn : stm 4 = some (st, scope)) {h₀ h : Heap} {s : Shared} {L : Addr} {tk : Nat}
    (X' : (hd.heap_39 w.params).In h₀) (T' : Top p loose mean mg mb h₀) (hlt : @LT.lt Nat _ 86 L ∧ @LT.lt Nat _ 79 L) {Cd Dd : Addr} {cv dv : List Value} {cs dl : List Int} {N wd tw tn : Nat} {u : Str → Option Value} {oH oW oA oR oS : Obj}
    (F' : Fr h₀ L h (mp [("cells", .ref Cd), ("width", .int (wd : Int) tw), ("divisors", .ref Dd)] u)) (N' : News h₀ L h [(Dd, LCg.lst dv), (Cd, listOf cv.toArray 0), (L + 1 + 1 + 1 + 1 + 1, oH), (L + 1 + 1 + 1 + 1, oW), (L + 1 + 1 + 1, oA), (L + 1 + 1, oR), (L + 1, oS), (86, tabObj #[]), (79, tabObj #[])])
    (hi : IntsAre cv cs) (hlen : cs.length = 8) (hcs : ∀ d ∈ cs, 0 ≤ d ∧ d < 1000000)
    (dH : oH.data = .cell none) (dW : oW.data = .cell none) (dA : oA.data = .cell none) (dR : oR.data = .cell none) (dS : oS.data = .cell (some (.int (N : Int) tn))) (lC : @LT.lt Nat _ (L + 1 + 1 + 1 + 1 + 1) Cd)
    (lD : @Ne Nat Cd Dd ∧ @Ne Nat (L + 1 + 1 + 1 + 1 + 1) Dd ∧ @Ne Nat (L + 1 + 1 + 1 + 1) Dd ∧ @Ne Nat (L + 1 + 1 + 1) Dd ∧ @Ne Nat (L + 1 + 1) Dd ∧ @Ne Nat (L + 1) Dd ∧ @Ne Nat 86 Dd ∧ @Ne Nat 79 Dd)
    (hid : IntsAre dv dl) (hd1 : 0 < dl.length) (hd2 : dl.length ≤ 4) (hd3 : ∀ d ∈ dl, ∃ k : Nat, d = k ∧ 1 ≤ k ∧ k ≤ N ∧ N % k = 0)
    (hN1 : 4 ≤ N) (hN2 : N ≤ 8) (hN : Hold (N = 4 ∨ N = 6 ∨ N = 8)) (hw : 12 ≤ wd) (hw2 : wd ≤ 41) :
    wpAny (model prg w) ((AN 301).deeper (envOfC "law" scope L 124 (.ref 123))) (execs st (envOfC "law" scope L 124 (.ref 123)))
      (fun f s' => f = .next ∧ ∃ h' tk', s' = { s with heap := h', toks := tk' } ∧ StD h₀ L h') (fun _ _ => False) { s with heap := h, toks := tk } := by
  have lD0 : Hold (@Ne Nat Cd Dd ∧ _) := lD
  have ld2 : @Ne Nat (L + 1 + 1) Dd := lD.2.2.2.2.1
  clear lD
  cases (show some _ = some _ from hsyn)
  have KX : (hd.heap_39 w.params).In h₀ ∧ PySem.Challenge.rw_we0015_01 = PySem.Challenge.rw_we0015_01 := by k_fill; exact ⟨X', rfl⟩
  refine wpAny_execs_cons ?_
  k_unmd
  k_fold
  k_steps
  rename_i h5 o5 F N1 d5
  have hsz : (byteArr (List.map (fun k' => k'.fmod 256) (List.take ((N : Nat) : Int).toNat cs))).size = N := by
    rw [byteArr_size, List.length_map, List.length_take, hlen, Int.toNat_natCast]
    (first | lia | omega)
  revert hsz d5
  generalize byteArr (List.map (fun k' => k'.fmod 256) (List.take ((N : Nat) : Int).toNat cs)) = b
  intro d5 hsz
  subst hsz
  exact ⟨Cd, Dd, cv, dv, cs, dl, b, wd, tw, tn, _, u, oH, oW, oA, o5, oS, F, fun q hq => N1 _ (.tail _ (.tail _ hq)), hi, hlen, hcs, hid, hd1, hd2, hd3, dH, dW, dA, d5, dS, lC, lD0, hN, hw, hw2⟩
end Mine
end

section
-- PE
set_option maxHeartbeats 8000000
theorem Mine.anew42 : True := by w_top off; trivial
open PySem PySem.W PyProof.Rows PySem.Calls
set_option Elab.async false
set_option maxRecDepth 100000
namespace Mine
variable {w : World} {p : Program} {loose : List Str} {mean : ExcName → Option Value} {mg mb : Str → Option Value} {hb : Heap}

/-- ahead of and behind each turn of the loop of line 123: row b, turned c, places as -/
inductive StE (h₀ : Heap) (L : Addr) (b c : Array UInt8) (as : List Int) (h : Heap) : Prop
  | mk (Cd Dd Ad : Addr) (cv dv av : List Value) (cs dl : List Int) (ca wd tw tn tb tt : Nat) (u : Str → Option Value) (vW : Option Value) (oH oW oA oR oS : Obj)
    (p0 : Fr h₀ L h (mp [("cells", .ref Cd), ("width", .int (wd : Int) tw), ("divisors", .ref Dd), ("turned", .bytes c tt)] u)) (p1 : News h₀ L h [(Ad, listOf av.toArray ca), (Dd, LCg.lst dv), (Cd, listOf cv.toArray 0), (L + 1 + 1 + 1 + 1 + 1, oH), (L + 1 + 1 + 1 + 1, oW), (L + 1 + 1 + 1, oA), (L + 1 + 1, oR), (L + 1, oS), (86, tabObj #[]), (79, tabObj #[])]) (p2 : IntsAre cv cs) (p3 : cs.length = 8) (p4 : (∀ d ∈ cs, 0 ≤ d ∧ d < 1000000)) (p5 : IntsAre dv dl) (p6 : 0 < dl.length) (p7 : dl.length ≤ 4) (p8 : (∀ d ∈ dl, ∃ k : Nat, d = k ∧ 1 ≤ k ∧ k ≤ b.size ∧ b.size % k = 0)) (p9 : IntsAre av as) (p10 : oH.data = .cell none) (p11 : oW.data = .cell vW) (p12 : oA.data = .cell (some (.ref Ad))) (p13 : oR.data = .cell (some (.bytes b tb))) (p14 : oS.data = .cell (some (.int (b.size : Int) tn))) (p15 : @LT.lt Nat _ (L + 1 + 1 + 1 + 1 + 1) Cd) (p16 : (@Ne Nat Cd Dd ∧ @Ne Nat (L + 1 + 1 + 1 + 1 + 1) Dd ∧ @Ne Nat (L + 1 + 1 + 1 + 1) Dd ∧ @Ne Nat (L + 1 + 1 + 1) Dd ∧ @Ne Nat (L + 1 + 1) Dd ∧ @Ne Nat (L + 1) Dd ∧ @Ne Nat 86 Dd ∧ @Ne Nat 79 Dd)) (p17 : (@Ne Nat Dd Ad ∧ @Ne Nat Cd Ad ∧ @Ne Nat (L + 1 + 1 + 1 + 1 + 1) Ad ∧ @Ne Nat (L + 1 + 1 + 1 + 1) Ad ∧ @Ne Nat (L + 1 + 1 + 1) Ad ∧ @Ne Nat (L + 1 + 1) Ad ∧ @Ne Nat (L + 1) Ad ∧ @Ne Nat 86 Ad ∧ @Ne Nat 79 Ad)) (p18 : (b.size = 4 ∨ b.size = 6 ∨ b.size = 8)) (p19 : 12 ≤ wd) (p20 : wd ≤ 41) : StE h₀ L b c as h
set_option maxHeartbeats 8000000 in
theorem law_b4 {st : List Stmt} {scope : Scope} (hsyn : stm 5 = some (st, scope)) {h₀ h : Heap} {s : Shared} {L : Addr} {tk : Nat}
    (X' : (hd.heap_39 w.params).In h₀) (T' : Top p loose mean mg mb h₀) (hlt : @LT.lt Nat _ 86 L ∧ @LT.lt Nat _ 79 L) {Cd Dd : Addr} {cv dv : List Value} {cs dl : List Int} {b : Array UInt8} {wd tw tn tb : Nat} {u : Str → Option Value} {oH oW oA oR oS : Obj}
    (F' : Fr h₀ L h (mp [("cells", .ref Cd), ("width", .int (wd : Int) tw), ("divisors", .ref Dd)] u)) (N' : News h₀ L h [(Dd, LCg.lst dv), (Cd, listOf cv.toArray 0), (L + 1 + 1 + 1 + 1 + 1, oH), (L + 1 + 1 + 1 + 1, oW), (L + 1 + 1 + 1, oA), (L + 1 + 1, oR), (L + 1, oS), (86, tabObj #[]), (79, tabObj #[])])
    (hi : IntsAre cv cs) (hlen : cs.length = 8) (hcs : ∀ d ∈ cs, 0 ≤ d ∧ d < 1000000) (hid : IntsAre dv dl) (hd1 : 0 < dl.length) (hd2 : dl.length ≤ 4)
    (dH : oH.data = .cell none) (dW : oW.data = .cell none) (dA : oA.data = .cell none) (dR : oR.data = .cell (some (.bytes b tb))) (dS : oS.data = .cell (some (.int (b.size : Int) tn))) (lC : @LT.lt Nat _ (L + 1 + 1 + 1 + 1 + 1) Cd)
    (lD : @Ne Nat Cd Dd ∧ @Ne Nat (L + 1 + 1 + 1 + 1 + 1) Dd ∧ @Ne Nat (L + 1 + 1 + 1 + 1) Dd ∧ @Ne Nat (L + 1 + 1 + 1) Dd ∧ @Ne Nat (L + 1 + 1) Dd ∧ @Ne Nat (L + 1) Dd ∧ @Ne Nat 86 Dd ∧ @Ne Nat 79 Dd)
    (hd3 : ∀ d ∈ dl, ∃ k : Nat, d = k ∧ 1 ≤ k ∧ k ≤ b.size ∧ b.size % k = 0)
    (hN1 : 4 ≤ b.size) (hN2 : b.size ≤ 8) (hN : Hold (b.size = 4 ∨ b.size = 6 ∨ b.size = 8)) (hw : 12 ≤ wd) (hw2 : wd ≤ 41) :
    wpAny (model prg w) ((AN 301).deeper (envOfC "law" scope L 124 (.ref 123))) (execs st (envOfC "law" scope L 124 (.ref 123)))
      (fun f s' => f = .next ∧ ∃ h' tk', s' = { s with heap := h', toks := tk' } ∧ StE h₀ L b b (rangeKs 0 b.size) h') (fun _ _ => False) { s with heap := h, toks := tk } := by
  have lD0 : Hold (@Ne Nat Cd Dd ∧ _) := lD
  have ld3 : @Ne Nat (L + 1 + 1 + 1) Dd := lD.2.2.2.1
  clear lD
  cases (show some _ = some _ from hsyn)
  have KX : (hd.heap_39 w.params).In h₀ ∧ PySem.Challenge.rw_we0015_01 = PySem.Challenge.rw_we0015_01 := by k_fill; exact ⟨X', rfl⟩
  refine wpAny_execs_cons ?_
  k_unmd
  k_fold
  k_steps
  rename_i Ad av ca h2 tk2 hia lA D2 h3 l2 h4 h5 h6 o6 F N1 d6
  have er : ((b.size : Int) - 0).toNat = b.size := by (first | lia | omega)
  rw [er] at hia
  refine ⟨Cd, Dd, Ad, cv, dv, av, cs, dl, ca, wd, tw, tn, tb, tb, _, none, oH, oW, o6, oR, oS, frm F ⟨rfl, rfl, rfl, rfl, trivial⟩, fun q hq => N1 _ (.tail _ hq), hi, hlen, hcs, hid, hd1, hd2, hd3, hia, dH, dW, d6, dR, dS, lC, lD0, ?_, hN, hw, hw2⟩
  refine ⟨?_, ?_, ?_, ?_, ?_, ?_, ?_, ?_, ?_⟩ <;> (first | lia | omega)
end Mine
end

section
-- QA
set_option maxHeartbeats 8000000
theorem Mine.anew43 : True := by w_top off; trivial
open PySem PySem.W PyProof.Rows PySem.Calls
set_option Elab.async false
set_option maxRecDepth 100000
namespace Mine
variable {w : World} {p : Program} {loose : List Str} {mean : ExcName → Option Value} {mg mb : Str → Option Value} {hb : Heap}

/-- the loop's own body -/
noncomputable def forBody : Option (List Stmt × Scope) := match prg.theDef "law" with
  | some (_, b, sc) => (match (b[6]? : Option Stmt) with
    | some (Stmt.For _ _ fb _ _) => some (fb, sc)
    | _ => none)
  | none => none
set_option maxHeartbeats 8000000 in
theorem law_t1 {body : List Stmt} {scope : Scope} (hsyn : forBody = some (body, scope)) {h₀ h : Heap} {s : Shared} {L : Addr} {tk : Nat}
    (X' : (hd.heap_39 w.params).In h₀) (T' : Top p loose mean mg mb h₀) (hlt : @LT.lt Nat _ 86 L ∧ @LT.lt Nat _ 79 L) {Cd Dd Ad It Sl : Addr} {dv : List Value} {u : Str → Option Value} {oIt oSl oAd oCd oH oW oA oR oS : Obj} {dl : List Int} {x : Int} {tx wd tw tt : Nat} {c : Array UInt8} {vW : Option Value}
    (F' : Fr h₀ L h (mp [("cell", .int x tx), ("cells", .ref Cd), ("width", .int (wd : Int) tw), ("divisors", .ref Dd), ("turned", .bytes c tt)] u)) (N' : News h₀ L h [(It, oIt), (Sl, oSl), (Ad, oAd), (Dd, LCg.lst dv), (Cd, oCd), (L + 1 + 1 + 1 + 1 + 1, oH), (L + 1 + 1 + 1 + 1, oW), (L + 1 + 1 + 1, oA), (L + 1 + 1, oR), (L + 1, oS), (86, tabObj #[]), (79, tabObj #[])])
    (hid : IntsAre dv dl) (hd1 : 0 < dl.length) (hd2 : dl.length ≤ 4) (hx : 0 ≤ x ∧ x < 1000000) (dW : oW.data = .cell vW) (lX : @LT.lt Nat _ (L + 1 + 1 + 1 + 1 + 1) It ∧ @LT.lt Nat _ (L + 1 + 1 + 1 + 1 + 1) Sl ∧ (@Ne Nat (L + 1 + 1 + 1 + 1 + 1) Ad ∧ @Ne Nat (L + 1 + 1 + 1 + 1) Ad ∧ @Ne Nat (L + 1 + 1 + 1) Ad ∧ @Ne Nat (L + 1 + 1) Ad ∧ @Ne Nat (L + 1) Ad ∧ @Ne Nat (86) Ad ∧ @Ne Nat (79) Ad) ∧ (@Ne Nat (L + 1 + 1 + 1 + 1 + 1) Dd ∧ @Ne Nat (L + 1 + 1 + 1 + 1) Dd ∧ @Ne Nat (L + 1 + 1 + 1) Dd ∧ @Ne Nat (L + 1 + 1) Dd ∧ @Ne Nat (L + 1) Dd ∧ @Ne Nat (86) Dd ∧ @Ne Nat (79) Dd) ∧ @LT.lt Nat _ (L + 1 + 1 + 1 + 1 + 1) Cd) :
    wpAny (model prg w) ((AN 301).deeper (envOfC "law" scope L 124 (.ref 123))) (execs (body.take 1) (envOfC "law" scope L 124 (.ref 123)))
      (fun f s' => f = .next ∧ Hold (∃ h' tk' k tk2 oW', s' = { s with heap := h', toks := tk' } ∧ Fr h₀ L h' (mp [("cell", .int x tx), ("cells", .ref Cd), ("width", .int (wd : Int) tw), ("divisors", .ref Dd), ("turned", .bytes c tt)] u) ∧
        News h₀ L h' [(It, oIt), (Sl, oSl), (Ad, oAd), (Dd, LCg.lst dv), (Cd, oCd), (L + 1 + 1 + 1 + 1 + 1, oH), (L + 1 + 1 + 1 + 1, oW'), (L + 1 + 1 + 1, oA), (L + 1 + 1, oR), (L + 1, oS), (86, tabObj #[]), (79, tabObj #[])] ∧ oW'.data = .cell (some (.int k tk2)) ∧ k ∈ dl)) (fun _ _ => False) { s with heap := h, toks := tk } := by
  obtain ⟨x1, x2, ⟨-, a4, -⟩, ⟨-, d4, -⟩, x5⟩ := lX
  cases (show some _ = some _ from hsyn)
  have KX : (hd.heap_39 w.params).In h₀ ∧ PySem.Challenge.rw_we0015_01 = PySem.Challenge.rw_we0015_01 := by k_fill; exact ⟨X', rfl⟩
  dsimp only [List.take, List.drop]
  refine wpAny_execs_cons ?_
  k_unmd
  k_fold
  k_steps
  rename_i t h5 o5 F N d5
  refine ⟨h5, _, _, t, o5, rfl, F, N, d5, ?_⟩
  have hl : (0 : Int) < dl.length := by (first | lia | omega)
  have e0 := Int.fmod_nonneg_of_pos (x.fdiv 256) hl
  have e1 := Int.fmod_lt_of_pos (x.fdiv 256) hl
  rw [List.getD_eq_getElem?_getD, List.getElem?_eq_getElem (by (first | lia | omega))]
  exact List.getElem_mem _
end Mine
end

section
-- QB
set_option maxHeartbeats 8000000
theorem Mine.anew44 : True := by w_top off; trivial
open PySem PySem.W PyProof.Rows PySem.Calls
set_option Elab.async false
set_option maxRecDepth 100000
namespace Mine
variable {w : World} {p : Program} {loose : List Str} {mean : ExcName → Option Value} {mg mb : Str → Option Value} {hb : Heap}

theorem fn_at {h₀ : Heap} (X' : (hd.heap_39 w.params).In h₀) {f : Addr} {oc : Value} {od : Option Addr} {fd : FuncData} {osl : Array (Option Value)} (ho : (hd.heap_39 w.params).lookup f = some ⟨oc, od, .func fd, osl⟩) :
    ∃ o fd, h₀.get? f = some o ∧ o.data = .func fd := ⟨_, _, X' _ _ ho, rfl⟩
set_option maxHeartbeats 8000000 in
theorem law_t2 {body : List Stmt} {scope : Scope} (hsyn : forBody = some (body, scope)) {h₀ h : Heap} {s : Shared} {L : Addr} {tk : Nat} (G : Gnd w p loose mean mg mb hb) (SB : Sub hb h₀)
    (X' : (hd.heap_39 w.params).In h₀) (T' : Top p loose mean mg mb h₀) (hlt : @LT.lt Nat _ 86 L ∧ @LT.lt Nat _ 79 L) {Cd Dd Ad It Sl : Addr} {dv : List Value} {u : Str → Option Value} {oIt oSl oAd oCd oH oW oA oR oS : Obj} {x : Int} {tx wd tw tt k tk2 : Nat} {c : Array UInt8}
    (F' : Fr h₀ L h (mp [("cell", .int x tx), ("cells", .ref Cd), ("width", .int (wd : Int) tw), ("divisors", .ref Dd), ("turned", .bytes c tt)] u)) (N' : News h₀ L h [(It, oIt), (Sl, oSl), (Ad, oAd), (Dd, LCg.lst dv), (Cd, oCd), (L + 1 + 1 + 1 + 1 + 1, oH), (L + 1 + 1 + 1 + 1, oW), (L + 1 + 1 + 1, oA), (L + 1 + 1, oR), (L + 1, oS), (86, tabObj #[]), (79, tabObj #[])])
    (hk1 : 1 ≤ k) (hk2 : k ≤ 8) (hkd : c.size % k = 0) (hcz : c.size ≤ 8) (dW : oW.data = .cell (some (.int (k : Int) tk2))) (lX : @LT.lt Nat _ (L + 1 + 1 + 1 + 1 + 1) It ∧ @LT.lt Nat _ (L + 1 + 1 + 1 + 1 + 1) Sl ∧ (@Ne Nat (L + 1 + 1 + 1 + 1 + 1) Ad ∧ @Ne Nat (L + 1 + 1 + 1 + 1) Ad ∧ @Ne Nat (L + 1 + 1 + 1) Ad ∧ @Ne Nat (L + 1 + 1) Ad ∧ @Ne Nat (L + 1) Ad ∧ @Ne Nat (86) Ad ∧ @Ne Nat (79) Ad) ∧ (@Ne Nat (L + 1 + 1 + 1 + 1 + 1) Dd ∧ @Ne Nat (L + 1 + 1 + 1 + 1) Dd ∧ @Ne Nat (L + 1 + 1 + 1) Dd ∧ @Ne Nat (L + 1 + 1) Dd ∧ @Ne Nat (L + 1) Dd ∧ @Ne Nat (86) Dd ∧ @Ne Nat (79) Dd) ∧ @LT.lt Nat _ (L + 1 + 1 + 1 + 1 + 1) Cd) :
    wpN (model prg w) ((AN 301).deeper (envOfC "law" scope L 124 (.ref 123))) (execs ((body.drop 1).take 1) (envOfC "law" scope L 124 (.ref 123)))
      (fun f s' => f = .next ∧ Hold (∃ h' tk' tt' u', s' = { s with heap := h', toks := tk' } ∧ Fr h₀ L h' (mp [("cell", .int x tx), ("cells", .ref Cd), ("width", .int (wd : Int) tw), ("divisors", .ref Dd), ("turned", .bytes (swapA k c) tt')] u') ∧
        News h₀ L h' [(It, oIt), (Sl, oSl), (Ad, oAd), (Dd, LCg.lst dv), (Cd, oCd), (L + 1 + 1 + 1 + 1 + 1, oH), (L + 1 + 1 + 1 + 1, oW), (L + 1 + 1 + 1, oA), (L + 1 + 1, oR), (L + 1, oS), (86, tabObj #[]), (79, tabObj #[])])) (fun _ _ => False) { s with heap := h, toks := tk } := by
  cases (show some _ = some _ from hsyn)
  have KX : (hd.heap_39 w.params).In h₀ ∧ PySem.Challenge.rw_we0015_01 = PySem.Challenge.rw_we0015_01 := by k_fill; exact ⟨X', rfl⟩
  dsimp only [List.take, List.drop]
  obtain ⟨o112, fd112, e112, d112⟩ := fn_at X' (f := 112) (by k_is)
  refine wpN_execs_cons (wpN_Assign_Name (wpN_Call_Name ?_) (by rfl))
  k_unmd
  k_fold
  k_steps
  refine wpN_fn1 (o := o112) (fd := fd112) (hlen := by exact Nat.le_of_ble_eq_true rfl) ?_
  k_steps
  refine RetN.use (c_byteswap G (s := { heap := h, gens := s.gens, drawn := s.drawn, toks := _, os := s.os }) (fun x o e => F'.keep _ _ (SB x o e)) c k tt tk2 hk1 hkd hcz hk2) F' N' rfl (by exact Nat.le_of_ble_eq_true rfl) (by exact Nat.le_of_ble_eq_true rfl) ?_
  rintro v h' tk' ⟨tt', rfl⟩ hs' F2 N2
  clear F' N'
  k_steps
  rename_i h3 F N
  refine wpN_of (wpAny_execs_nil ⟨rfl, h3, _, tt', _, rfl, frm F ⟨rfl, rfl, rfl, rfl, rfl, trivial⟩, N⟩)
end Mine
end

section
-- QC
set_option maxHeartbeats 8000000
theorem Mine.anew45 : True := by w_top off; trivial
open PySem PySem.W PyProof.Rows PySem.Calls
set_option Elab.async false
set_option maxRecDepth 100000
namespace Mine
variable {w : World} {p : Program} {loose : List Str} {mean : ExcName → Option Value} {mg mb : Str → Option Value} {hb : Heap}

local macro_rules | `(tactic| walk_at "binaryOp Sub int int") => `(tactic| apply Hold.out)
/-- the mapped place -/
noncomputable def nxt (k : Nat) (d : Int) : Int := d - d.fmod k + k - 1 - d.fmod k
/-- items of a list made of late: tokens not nought, given out ahead of t -/
noncomputable def TokIn (vs : List Value) (t : Nat) : Prop := ∀ n u, Value.int n u ∈ vs → 1 ≤ u ∧ u < t
set_option maxHeartbeats 8000000 in
theorem law_t3 {body : List Stmt} {scope : Scope} (hsyn : forBody = some (body, scope)) {h₀ h : Heap} {s : Shared} {L : Addr} {tk : Nat}
    (X' : (hd.heap_39 w.params).In h₀) (T' : Top p loose mean mg mb h₀) (hlt : @LT.lt Nat _ 86 L ∧ @LT.lt Nat _ 79 L) {Cd Dd Ad It Sl : Addr} {dv : List Value} {u : Str → Option Value} {oIt oSl oAd oCd oH oW oA oR oS : Obj} {as : List Int} {av : List Value} {ca k tk2 : Nat}
    (F' : Fr h₀ L h u) (N' : News h₀ L h [(It, oIt), (Sl, oSl), (Ad, listOf av.toArray ca), (Dd, LCg.lst dv), (Cd, oCd), (L + 1 + 1 + 1 + 1 + 1, oH), (L + 1 + 1 + 1 + 1, oW), (L + 1 + 1 + 1, oA), (L + 1 + 1, oR), (L + 1, oS), (86, tabObj #[]), (79, tabObj #[])])
    (hia : IntsAre av as) (hal : as.length ≤ 8) (hk1 : 1 ≤ k) (hk2 : k ≤ 8) (dW : oW.data = .cell (some (.int (k : Int) tk2))) (dA : oA.data = .cell (some (.ref Ad))) (lX : @LT.lt Nat _ (L + 1 + 1 + 1 + 1 + 1) It ∧ @LT.lt Nat _ (L + 1 + 1 + 1 + 1 + 1) Sl ∧ (@Ne Nat (L + 1 + 1 + 1 + 1 + 1) Ad ∧ @Ne Nat (L + 1 + 1 + 1 + 1) Ad ∧ @Ne Nat (L + 1 + 1 + 1) Ad ∧ @Ne Nat (L + 1 + 1) Ad ∧ @Ne Nat (L + 1) Ad ∧ @Ne Nat (86) Ad ∧ @Ne Nat (79) Ad) ∧ (@Ne Nat (L + 1 + 1 + 1 + 1 + 1) Dd ∧ @Ne Nat (L + 1 + 1 + 1 + 1) Dd ∧ @Ne Nat (L + 1 + 1 + 1) Dd ∧ @Ne Nat (L + 1 + 1) Dd ∧ @Ne Nat (L + 1) Dd ∧ @Ne Nat (86) Dd ∧ @Ne Nat (79) Dd) ∧ @LT.lt Nat _ (L + 1 + 1 + 1 + 1 + 1) Cd) :
    wpAny (model prg w) ((AN 301).deeper (envOfC "law" scope L 124 (.ref 123))) (execs ((body.drop 2).take 1) (envOfC "law" scope L 124 (.ref 123)))
      (fun f s' => f = .next ∧ Hold (∃ h' tk' Ad' av' oA', s' = { s with heap := h', toks := tk' } ∧ Fr h₀ L h' u ∧ News h₀ L h' [(It, oIt), (Sl, oSl), (Ad', LCg.lst av'), (Dd, LCg.lst dv), (Cd, oCd), (L + 1 + 1 + 1 + 1 + 1, oH), (L + 1 + 1 + 1 + 1, oW), (L + 1 + 1 + 1, oA'), (L + 1 + 1, oR), (L + 1, oS), (86, tabObj #[]), (79, tabObj #[])] ∧ IntsAre av' (as.map (nxt k)) ∧ TokIn av' tk' ∧ oA'.data = .cell (some (.ref Ad')) ∧
        @LT.lt Nat _ (L + 1 + 1 + 1 + 1 + 1) Ad' ∧ (@Ne Nat It Ad' ∧ @Ne Nat Sl Ad'))) (fun _ _ => False) { s with heap := h, toks := tk } := by
  obtain ⟨x1, x2, ⟨-, -, a3, -⟩, ⟨-, -, d3, -⟩, x5⟩ := lX
  cases (show some _ = some _ from hsyn)
  have KX : (hd.heap_39 w.params).In h₀ ∧ PySem.Challenge.rw_we0015_01 = PySem.Challenge.rw_we0015_01 := by k_fill; exact ⟨X', rfl⟩
  dsimp only [List.take, List.drop]
  refine wpAny_execs_cons ?_
  k_unmd
  k_fold
  walk1
  rw [eval_ListComp]
  refine wpAny_comprehension_free (use := none) rfl (by intro _; rfl) (by with_unfolding_all rfl) (by rfl) (by decide) ?_
  dsimp only [firstIter]
  k_steps
  refine Hold.in ?_
  refine comp_list (T0 := 0) rfl F' N' (.tail _ (.tail _ (.head _))) (by size_fits) (by decide) rfl (by rfl) (Nat.zero_le _) (J := fun ys t => IntsAre ys ((as.take ys.length).map (nxt k)) ∧ TokIn ys t) ⟨.nil, fun _ _ h => nomatch h⟩
    (fun ys t t' ⟨h1, h2⟩ ht => ⟨h1, fun n u hm => ⟨(h2 n u hm).1, Nat.lt_of_lt_of_le (h2 n u hm).2 ht⟩⟩) ?_ ?_
  · rintro i v ys I oI C oC D m₂ h2 tk2 E' hv hyl hT ⟨hJ1, hJ2⟩ hC hx F N off ne
    obtain ⟨d, td, rfl, hd⟩ := IntsAre.at hia i v (by simpa using hv)
    have off' := off
    simp only [LCg.Off3, and_true] at off'
    k_steps
    refine Hold.in (sub_int ?_)
    k_steps
    refine Hold.in (sub_int ?_)
    k_steps
    refine Hold.in (sub_int ?_)
    refine ⟨h2, _, rfl, F, N, ?_, ?_⟩
    · rw [List.length_append, List.length_singleton, List.take_add_one, List.map_append, hyl, hd]
      exact IntsAre.append (hyl ▸ hJ1) (.cons _ _ .nil)
    · intro n u hm
      rcases List.mem_append.mp hm with hm | hm
      · have := hJ2 n u hm
        exact ⟨this.1, Nat.lt_of_lt_of_le this.2 (by dsimp only; (first | lia | omega))⟩
      · obtain ⟨rfl, rfl⟩ := Value.int.inj (List.mem_singleton.mp hm)
        exact ⟨Nat.succ_le_succ (Nat.zero_le _), Nat.lt_succ_self _⟩
  · intro D C h2 tk2 m' ys F N off hn hC₀ hCL hCD offC hyl ⟨hJ1, hJ2⟩ hT
    refine comp_end F N hn hC₀ hCL hCD offC fun h3 F N => ?_
    k_lt off
    k_steps
    rename_i h4 o4 F N d4
    have e : (as.take ys.length) = as := List.take_of_length_le (by rw [hyl, List.size_toArray, hia.length]; exact Nat.le_refl _)
    rw [e] at hJ1
    refine ⟨h4, _, D, ys, o4, rfl, F, fun q hq => ?_, hJ1, hJ2, d4, off.2.2.2.2.2.1, ⟨by k_ne, by k_ne⟩⟩
    rcases List.mem_cons.mp hq with rfl | hq
    · exact N _ (.tail _ (.head _))
    rcases List.mem_cons.mp hq with rfl | hq
    · exact N _ (.tail _ (.tail _ (.head _)))
    rcases List.mem_cons.mp hq with rfl | hq
    · exact N _ (.head _)
    · exact N _ (.tail _ (.tail _ (.tail _ (.tail _ hq))))
end Mine
end

section
-- M11
set_option maxHeartbeats 8000000
open PySem PySem.W PyProof.Rows PySem.Calls
set_option Elab.async false
set_option maxRecDepth 100000
namespace Mine
/-- c is b turned, as the places -/
noncomputable def Inv (b c : Array UInt8) (as : List Int) : Prop := as.length = b.size ∧ (∀ d ∈ as, 0 ≤ d) ∧ Led b c (fun i => (as.getD i 0).toNat) ∧ ∀ q, q < b.size → ∃ i, i < b.size ∧ (as.getD i 0).toNat = q
theorem nxt_swp {k : Nat} {d : Int} (hk : 1 ≤ k) (hd : 0 ≤ d) : nxt k d = (swp k d.toNat : Nat) := by
  obtain ⟨n, rfl⟩ := Int.eq_ofNat_of_zero_le hd
  unfold nxt swp
  rw [Int.fmod_eq_emod_of_nonneg _ (Int.natCast_nonneg _), Int.toNat_natCast]
  have h1 : n % k < k := Nat.mod_lt _ hk
  have h2 : n % k ≤ n := Nat.mod_le _ _
  have h3 : ((n : Int) % (k : Int)) = ((n % k : Nat) : Int) := (Int.natCast_emod _ _).symm
  rw [h3, Int.ofNat_sub (Nat.le_sub_of_add_le (Nat.le_trans h1 (Nat.le_add_left _ _))), Int.ofNat_sub (Nat.le_trans hk (Nat.le_add_left _ _)), Int.natCast_add, Int.ofNat_sub h2]
  rfl
theorem getD_map {as : List Int} {k i : Nat} (hi : i < as.length) : (as.map (nxt k)).getD i 0 = nxt k (as.getD i 0) := by
  rw [List.getD_eq_getElem?_getD, List.getD_eq_getElem?_getD, List.getElem?_map, List.getElem?_eq_getElem hi]
  rfl
theorem getD_nonneg {as : List Int} {i : Nat} (h : ∀ d ∈ as, 0 ≤ d) : 0 ≤ as.getD i 0 := by
  rw [List.getD_eq_getElem?_getD]
  cases e : as[i]? with
  | none => decide
  | some d => exact h d (List.mem_of_getElem? e)
theorem Inv.turn {b c : Array UInt8} {as : List Int} {k : Nat} (h : Inv b c as) (hk : 1 ≤ k) (hd : b.size % k = 0) : Inv b (swapA k c) (as.map (nxt k)) := by
  obtain ⟨h1, h2, h3, h4⟩ := h
  refine ⟨by rw [List.length_map, h1], fun d hd' => ?_, ?_⟩
  · obtain ⟨d', hm, rfl⟩ := List.mem_map.mp hd'
    rw [nxt_swp hk (h2 d' hm)]
    exact Int.natCast_nonneg _
  · have e : ∀ i, i < b.size → ((as.map (nxt k)).getD i 0).toNat = swp k (as.getD i 0).toNat := fun i hi => by
      rw [getD_map (by (first | lia | omega)), nxt_swp hk (getD_nonneg h2), Int.toNat_natCast]
    obtain ⟨g1, g2, g3⟩ := h3.turn hk hd
    refine ⟨⟨g1, fun i hi => ?_, fun i j hi hj q => g3 i j hi hj ?_⟩, fun q hq => ?_⟩
    · have := g2 i hi
      simp only [e i hi]
      exact this
    · simp only [e i hi, e j hj] at q
      exact q
    · obtain ⟨i, hi, ei⟩ := h4 _ (swp_lt hk hd hq)
      exact ⟨i, hi, by rw [e i hi, ei, swp_swp hk]⟩
theorem Inv.start (b : Array UInt8) : Inv b b (rangeKs 0 b.size) := by
  have e : rangeKs 0 b.size = (List.range b.size).map fun (i : Nat) => (i : Int) := by
    unfold rangeKs
    exact List.map_congr_left fun i _ => Int.zero_add _
  rw [e]
  refine ⟨by simp, fun d hd => ?_, ?_⟩
  · obtain ⟨i, _, rfl⟩ := List.mem_map.mp hd
    exact Int.natCast_nonneg _
  · have e : ∀ i, i < b.size → (((List.range b.size).map fun (i : Nat) => (i : Int)).getD i 0).toNat = i := fun i hi => by
      simp [List.getD_eq_getElem?_getD, hi]
    obtain ⟨g1, g2, g3⟩ := Led.start b
    refine ⟨⟨g1, fun i hi => ?_, fun i j hi hj q => ?_⟩, fun q hq => ⟨q, hq, e q hq⟩⟩
    · simp only [e i hi]
      exact ⟨hi, trivial⟩
    · simp only [e i hi, e j hj] at q
      exact q
theorem row_at (b : Array UInt8) (i : Nat) : (rowL b).getD i 0 = (b.getD i 0).toNat := by
  obtain ⟨l⟩ := b
  show (l.map UInt8.toNat).getD i 0 = (Array.getD ⟨l⟩ i 0).toNat
  rw [List.getD_eq_getElem?_getD, List.getElem?_map, Array.getD_eq_getD_getElem?, List.getElem?_toArray]
  cases l[i]? <;> rfl
theorem range_row (c : Array UInt8) : (List.range c.size).map (fun q => (rowL c).getD q 0) = rowL c := by
  apply List.ext_getElem?
  intro i
  by_cases h : i < c.size
  · have h' : i < (rowL c).length := by rw [rowL_length]; exact h
    rw [List.getElem?_map, List.getElem?_range h, Option.map_some, List.getElem?_eq_getElem h', List.getD_eq_getElem?_getD, List.getElem?_eq_getElem h']
    rfl
  · rw [List.getElem?_eq_none (by simp; (first | lia | omega)), List.getElem?_eq_none (by rw [rowL_length]; (first | lia | omega))]
/-- the places of a turned row lead to the turned row -/
theorem Inv.sums {b c : Array UInt8} {as : List Int} (h : Inv b c as) : sumsL b as = KBw.bInts c ++ [0] := by
  obtain ⟨h1, h2, ⟨g1, g2, g3⟩, h4⟩ := h
  unfold sumsL
  rw [sums_perm (out := fun q => (rowL c).getD q 0) g3 (fun i hi => (g2 i hi).1) (fun i hi => by rw [row_at, row_at, (g2 i hi).2]) h4, ← g1, range_row, List.map_append, bInts_row]
  rfl
theorem Inv.at {b c : Array UInt8} {as : List Int} (h : Inv b c as) : ∀ j, j < b.size → 0 ≤ as.getD j 0 ∧ as.getD j 0 ≤ b.size := fun j hj => by
  obtain ⟨h1, h2, ⟨g1, g2, g3⟩, h4⟩ := h
  have h0 : 0 ≤ as.getD j 0 := getD_nonneg h2
  have h5 : (as.getD j 0).toNat < b.size := (g2 j hj).1
  exact ⟨h0, by (first | lia | omega)⟩
end Mine
end

section
-- QD
set_option maxHeartbeats 8000000
open PySem PySem.W PyProof.Rows PySem.Calls
set_option Elab.async false
set_option maxRecDepth 100000
namespace Mine
variable {w : World} {p : Program} {loose : List Str} {mean : ExcName → Option Value} {mg mb : Str → Option Value} {hb : Heap}

section
variable {M : Model} {A : Around} {E : Value → Shared → Prop} {s : Shared} {env : Env}
/-- a first part, then the rest, both in the own logic -/
theorem wpN_execs_appendN {a b : List Stmt} {Q : Flow → Shared → Prop}
    (h : wpN M A (execs a env) (fun f s' => match f with | .next => wpN M A (execs b env) Q E s' | f => Q f s') E s) : wpN M A (execs (a ++ b) env) Q E s := by
  rw [execs_append]
  refine wpN_bind (wpN_mono h (fun f s' h' => ?_) fun _ _ x => x)
  cases f with
  | next => exact h'
  | cont => exact wpN_pure h'
  | brk => exact wpN_pure h'
  | ret v => exact wpN_pure h'
theorem wpN_execs_three {body : List Stmt} {Q : Flow → Shared → Prop} (h3 : body = body.take 1 ++ ((body.drop 1).take 1 ++ (body.drop 2).take 1))
    (h : wpAny M A (execs (body.take 1) env) (fun f s' => match f with | .next => wpN M A (execs ((body.drop 1).take 1) env) (fun f s' => match f with | .next => wpN M A (execs ((body.drop 2).take 1) env) Q E s' | f => Q f s') E s' | f => Q f s') E s) : wpN M A (execs body env) Q E s := by
  suffices H : wpN M A (execs (body.take 1 ++ ((body.drop 1).take 1 ++ (body.drop 2).take 1)) env) Q E s by rw [← h3] at H; exact H
  refine wpN_execs_append (wpAny_mono h (fun f s' h' => ?_) fun _ _ e => e)
  cases f with
  | next => exact wpN_execs_appendN h'
  | cont => exact h'
  | brk => exact h'
  | ret v => exact h'
end
/-- ahead of the turn i of the loop, and behind the last -/
inductive StF (h₀ : Heap) (L It Sl : Addr) (ws : List Value) (i : Nat) (h : Heap) (tk : Nat) : Prop
  | mk (Cd Dd Ad : Addr) (dv av cv : List Value) (dl as cs : List Int) (b c : Array UInt8) (ca wd tw tn tb tt : Nat) (u : Str → Option Value) (vW : Option Value) (oIt oH oW oA oR oS : Obj)
    (p0 : Fr h₀ L h (mp [("cells", .ref Cd), ("width", .int (wd : Int) tw), ("divisors", .ref Dd), ("turned", .bytes c tt)] u)) (p1 : News h₀ L h [(It, oIt), (Sl, listOf ws.toArray 0), (Ad, listOf av.toArray ca), (Dd, LCg.lst dv), (Cd, listOf cv.toArray 0), (L + 1 + 1 + 1 + 1 + 1, oH), (L + 1 + 1 + 1 + 1, oW), (L + 1 + 1 + 1, oA), (L + 1 + 1, oR), (L + 1, oS), (86, tabObj #[]), (79, tabObj #[])]) (p2 : (oIt.cls = .type "list_iterator" ∧ oIt.data = .fields #[.ref Sl, .int (i : Nat) 0])) (p3 : IntsAre cv cs) (p4 : cs.length = 8) (p5 : (∀ d ∈ cs, 0 ≤ d ∧ d < 1000000)) (p6 : IntsAre dv dl) (p7 : 0 < dl.length) (p8 : dl.length ≤ 4) (p9 : (∀ d ∈ dl, ∃ k : Nat, d = k ∧ 1 ≤ k ∧ k ≤ b.size ∧ b.size % k = 0)) (p10 : IntsAre av as) (p11 : oH.data = .cell none) (p12 : oW.data = .cell vW) (p13 : oA.data = .cell (some (.ref Ad))) (p14 : oR.data = .cell (some (.bytes b tb))) (p15 : oS.data = .cell (some (.int (b.size : Int) tn))) (p16 : (@LT.lt Nat _ (L + 1 + 1 + 1 + 1 + 1) It ∧ @LT.lt Nat _ (L + 1 + 1 + 1 + 1 + 1) Sl ∧ (@Ne Nat (L + 1 + 1 + 1 + 1 + 1) Ad ∧ @Ne Nat (L + 1 + 1 + 1 + 1) Ad ∧ @Ne Nat (L + 1 + 1 + 1) Ad ∧ @Ne Nat (L + 1 + 1) Ad ∧ @Ne Nat (L + 1) Ad ∧ @Ne Nat (86) Ad ∧ @Ne Nat (79) Ad) ∧ (@Ne Nat (L + 1 + 1 + 1 + 1 + 1) Dd ∧ @Ne Nat (L + 1 + 1 + 1 + 1) Dd ∧ @Ne Nat (L + 1 + 1 + 1) Dd ∧ @Ne Nat (L + 1 + 1) Dd ∧ @Ne Nat (L + 1) Dd ∧ @Ne Nat (86) Dd ∧ @Ne Nat (79) Dd) ∧ @LT.lt Nat _ (L + 1 + 1 + 1 + 1 + 1) Cd)) (p17 : (@Ne Nat Sl It ∧ @Ne Nat Ad It ∧ @Ne Nat Dd It ∧ @Ne Nat Cd It)) (p18 : (@Ne Nat Ad Sl ∧ @Ne Nat Dd Sl ∧ @Ne Nat Cd Sl)) (p19 : (b.size = 4 ∨ b.size = 6 ∨ b.size = 8)) (p20 : 12 ≤ wd) (p21 : wd ≤ 41) (p22 : Inv b c as) (p23 : (0 < i → TokIn av tk)) : StF h₀ L It Sl ws i h tk
set_option maxHeartbeats 8000000 in
theorem law_turn {body : List Stmt} {scope : Scope} (hsyn : forBody = some (body, scope)) {h₀ h : Heap} {s : Shared} {L : Addr} {tk : Nat} (G : Gnd w p loose mean mg mb hb) (SB : Sub hb h₀)
    (X' : (hd.heap_39 w.params).In h₀) (T' : Top p loose mean mg mb h₀) (hlt : @LT.lt Nat _ 86 L ∧ @LT.lt Nat _ 79 L) {It Sl : Addr} {ws : List Value} {i : Nat} {x : Int} {tx : Nat} {px : Pos} {R : Result → Shared → Prop}
    (S : StF h₀ L It Sl ws i h tk) (hw : ws[i]? = some (.int x tx)) (hx : 0 ≤ x ∧ x < 1000000)
    (next : ∀ h' tk', StF h₀ L It Sl ws (i + 1) h' tk' → codeN (model prg w) ((AN 301).deeper (envOfC "law" scope L 124 (.ref 123))) (.forLoop (.Name "cell" px) (.ref It) body [] (envOfC "law" scope L 124 (.ref 123))) R { s with heap := h', toks := tk' }) :
    codeN (model prg w) ((AN 301).deeper (envOfC "law" scope L 124 (.ref 123))) (.forLoop (.Name "cell" px) (.ref It) body [] (envOfC "law" scope L 124 (.ref 123))) R { s with heap := h, toks := tk } := by
  obtain ⟨Cd, Dd, Ad, dv, av, cv, dl, as, cs, b, c, ca, wd, tw, tn, tb, tt, u, vW, oIt, oH, oW, oA, oR, oS, F, N, ⟨hc1, hc2⟩, hi, hlen, hcs, hid, hd1, hd2, hd3, hia, dH, dW, dA, dR, dS, lX, lI, lS, hN, hw1, hw2, hInv, _⟩ := S
  refine codeN_turn ?_
  refine wpAny_pyNext_list_item (i := i) (items := ws.toArray) ⟨oIt, (N _ (.head _)).1, hc1, hc2⟩ (News.isList N (.tail _ (.head _))) (by simpa using hw) fun h1 hit hs => ?_
  obtain ⟨oIt', e1, hc1', hc2'⟩ := hit
  obtain ⟨F, N⟩ := set_L F N hs e1 (by
    refine List.forall_mem_cons.mpr ⟨lI.1, List.forall_mem_cons.mpr ⟨lI.2.1, List.forall_mem_cons.mpr ⟨lI.2.2.1, List.forall_mem_cons.mpr ⟨lI.2.2.2, ?_⟩⟩⟩⟩
    intro q hq
    simp only [List.mem_cons, List.not_mem_nil, or_false] at hq
    obtain ⟨g5, g4, g3, g2, g1, g86, g79⟩ := off7 lX.1 hlt
    rcases hq with rfl | rfl | rfl | rfl | rfl | rfl | rfl <;> assumption)
  clear hs e1
  dsimp only
  have hkc : (envOfC "law" scope L 124 (.ref 123)).kindOf "cell" = some .local := by cases (show some _ = some _ from hsyn); rfl
  have hb3 : body = body.take 1 ++ ((body.drop 1).take 1 ++ (body.drop 2).take 1) := by cases (show some _ = some _ from hsyn); rfl
  refine wpAny_storeName_local hkc F.ns (fun h2 hn2 hs2 => ?_) (by cases (show some _ = some _ from hsyn); rfl)
  replace hs2 : Heap.SameBut L h1 h2 := hs2
  have F := F.set hn2 hs2
  have N := N.set hs2
  have F := frm (l := [("cell", .int x tx), ("cells", .ref Cd), ("width", .int (wd : Int) tw), ("divisors", .ref Dd), ("turned", .bytes c tt)]) F ⟨rfl, rfl, rfl, rfl, rfl, trivial⟩
  refine wpN_execs_three hb3 ?_
  refine wpAny_mono (law_t1 (s := s) hsyn X' T' hlt F N hid hd1 hd2 hx dW lX) (fun f s' h' => ?_) fun _ _ e => e
  obtain ⟨rfl, h3, tk3, kz, tk2, oW', rfl, F3, N3, dW', hkm⟩ := h'
  obtain ⟨k, rfl, hk1, hk2, hkd⟩ := hd3 kz hkm
  dsimp only
  have hbz : b.size ≤ 8 := sz2 hN
  have hcz : c.size = b.size := hInv.2.2.1.1
  refine wpN_mono (law_t2 (s := s) hsyn G SB X' T' hlt F3 N3 hk1 (by first | exact Nat.le_trans hk2 hbz | (first | lia | omega)) (by rw [hcz]; exact hkd) (by first | exact Nat.le_trans (Nat.le_of_eq hcz) hbz | (first | lia | omega)) dW' lX) (fun f s' h' => ?_) fun _ _ e => e
  obtain ⟨rfl, h4, tk4, tt', u', rfl, F4, N4⟩ := h'
  dsimp only
  refine wpN_of (wpAny_mono (law_t3 (s := s) (oAd := oH) hsyn X' T' hlt F4 N4 hia (by rw [hInv.1]; exact hbz) hk1 (by first | exact Nat.le_trans hk2 hbz | (first | lia | omega)) dW' dA lX) (fun f s' h' => ?_) fun _ _ e => e)
  obtain ⟨rfl, h5, tk5, Ad', av', oA', rfl, F5, N5, hia', htok, dA', lA', lI', lS'⟩ := h'
  dsimp only
  refine next h5 tk5 ⟨Cd, Dd, Ad', dv, av', cv, dl, as.map (nxt k), cs, b, swapA k c, av'.length, wd, tw, tn, tb, tt', _, _, oIt', oH, oW', oA', oR, oS, frm F5 ⟨rfl, rfl, rfl, rfl, trivial⟩, N5, ⟨hc1', hc2'⟩, hi, hlen, hcs, hid, hd1, hd2, hd3, hia', dH, dW', dA', dR, dS,
    ⟨lX.1, lX.2.1, off7 lA' hlt, lX.2.2.2⟩, ⟨lI.1, Ne.symm lI', lI.2.2⟩, ⟨Ne.symm lS', lS.2⟩, hN, hw1, hw2, hInv.turn hk1 hkd, fun _ => htok⟩
end Mine
end

section
-- QE
set_option maxHeartbeats 8000000
theorem Mine.anew48 : True := by w_top off; trivial
open PySem PySem.W PyProof.Rows PySem.Calls
set_option Elab.async false
set_option maxRecDepth 100000
namespace Mine
variable {w : World} {p : Program} {loose : List Str} {mean : ExcName → Option Value} {mg mb : Str → Option Value} {hb : Heap}

/-- behind the loop -/
inductive StG (h₀ : Heap) (L : Addr) (h : Heap) (tk : Nat) : Prop
  | mk (Cd Ad : Addr) (av cv : List Value) (as cs : List Int) (b c : Array UInt8) (ca wd tw tn tb tt : Nat) (u : Str → Option Value) (vW : Option Value) (oH oW oA oR oS : Obj)
    (p0 : Fr h₀ L h (mp [("cells", .ref Cd), ("width", .int (wd : Int) tw), ("turned", .bytes c tt)] u)) (p1 : News h₀ L h [(Ad, listOf av.toArray ca), (Cd, listOf cv.toArray 0), (L + 1 + 1 + 1 + 1 + 1, oH), (L + 1 + 1 + 1 + 1, oW), (L + 1 + 1 + 1, oA), (L + 1 + 1, oR), (L + 1, oS), (86, tabObj #[]), (79, tabObj #[])]) (p2 : IntsAre cv cs) (p3 : cs.length = 8) (p4 : (∀ d ∈ cs, 0 ≤ d ∧ d < 1000000)) (p5 : IntsAre av as) (p6 : oH.data = .cell none) (p7 : oW.data = .cell vW) (p8 : oA.data = .cell (some (.ref Ad))) (p9 : oR.data = .cell (some (.bytes b tb))) (p10 : oS.data = .cell (some (.int (b.size : Int) tn))) (p11 : ((@Ne Nat (L + 1 + 1 + 1 + 1 + 1) Ad ∧ @Ne Nat (L + 1 + 1 + 1 + 1) Ad ∧ @Ne Nat (L + 1 + 1 + 1) Ad ∧ @Ne Nat (L + 1 + 1) Ad ∧ @Ne Nat (L + 1) Ad ∧ @Ne Nat (86) Ad ∧ @Ne Nat (79) Ad) ∧ @LT.lt Nat _ (L + 1 + 1 + 1 + 1 + 1) Cd)) (p12 : (b.size = 4 ∨ b.size = 6 ∨ b.size = 8)) (p13 : 12 ≤ wd) (p14 : wd ≤ 41) (p15 : Inv b c as) (p16 : TokIn av tk) : StG h₀ L h tk
theorem ints_get {ws : List Value} {xs : List Int} (h : IntsAre ws xs) {i : Nat} (hi : i < xs.length) : ∃ n t, ws[i]? = some (Value.int n t) ∧ n ∈ xs := by
  have hl : i < ws.length := by rw [h.length]; exact hi
  obtain ⟨n, t, e, hn⟩ := IntsAre.at h i _ (List.getElem?_eq_getElem hl)
  exact ⟨n, t, by rw [List.getElem?_eq_getElem hl, e], List.mem_of_getElem? hn⟩
set_option maxHeartbeats 8000000 in
theorem law_c {st : List Stmt} {scope : Scope} (hsyn : stm 6 = some (st, scope)) (G : Gnd w p loose mean mg mb hb) {h₀ h : Heap} (SB : Sub hb h₀) {s : Shared} {L : Addr} {tk : Nat}
    (X' : (hd.heap_39 w.params).In h₀) (T' : Top p loose mean mg mb h₀) (hlt : @LT.lt Nat _ 86 L ∧ @LT.lt Nat _ 79 L) {b : Array UInt8}
    (S : StE h₀ L b b (rangeKs 0 b.size) h) :
    wpN (model prg w) ((AN 301).deeper (envOfC "law" scope L 124 (.ref 123))) (execs st (envOfC "law" scope L 124 (.ref 123)))
      (fun f s' => f = .next ∧ Hold (∃ h' tk', s' = { s with heap := h', toks := tk' } ∧ StG h₀ L h' tk')) (fun _ _ => False) { s with heap := h, toks := tk } := by
  obtain ⟨Cd, Dd, Ad, cv, dv, av, cs, dl, ca, wd, tw, tn, tb, tt, u, vW, oH, oW, oA, oR, oS, F', N', hi, hlen, hcs, hid, hd1, hd2, hd3, hia, dH, dW, dA, dR, dS, lC, lD, lA, hN, hw1, hw2⟩ := S
  cases (show some _ = some _ from hsyn)
  have KX : (hd.heap_39 w.params).In h₀ ∧ PySem.Challenge.rw_we0015_01 = PySem.Challenge.rw_we0015_01 := by k_fill; exact ⟨X', rfl⟩
  have hN' : Hold (b.size = 4 ∨ b.size = 6 ∨ b.size = 8) := hN
  clear hN
  refine wpN_execs_cons (wpN_For ?_ (by intro _; rfl))
  k_unmd
  k_fold
  k_steps
  rename_i D ws h1 F N hI hC hL l1
  refine Hold.in ?_
  have hxl : (List.take (min 4 cs.length - 1) (List.drop 1 cs)).length = 3 := by rw [hC, hlen]; rfl
  have hxm : ∀ n ∈ List.take (min 4 cs.length - 1) (List.drop 1 cs), 0 ≤ n ∧ n < 1000000 := fun n hn => hcs n (List.mem_of_mem_drop (List.mem_of_mem_take hn))
  generalize List.take (min 4 cs.length - 1) (List.drop 1 cs) = xs at hI hxl hxm
  clear hC hL
  obtain ⟨x0, t0, e0, m0⟩ := ints_get hI (i := 0) (by omega)
  obtain ⟨x1, t1, e1, m1⟩ := ints_get hI (i := 1) (by omega)
  obtain ⟨x2, t2, e2, m2⟩ := ints_get hI (i := 2) (by omega)
  refine wpAny_pyIter_list (News.isList N (.head _)) ?_
  have up : ∀ a o, h1.get? a = some o → (h1.push { cls := .type "list_iterator", data := .fields #[.ref D, .int 0 0] }).get? a = some o := fun a o e => Heap.get?_push_of_some _ e
  have lI := fresh_lt N (Nat.le_refl h1.objs.size)
  have N2 := fresh_cons F (N.grown up) (Nat.le_refl _) (Heap.get?_push_size h1 (o := { cls := .type "list_iterator", data := .fields #[.ref D, .int 0 0] }) rfl)
  have F2 := F.keeps up
  k_lt lI
  clear F N up
  revert F2 N2 lI
  generalize h1.push { cls := .type "list_iterator", data := .fields #[.ref D, .int 0 0] } = h2
  generalize h1.objs.size = It
  intro N F lI
  dsimp only
  have hInv := Inv.start b
  generalize rangeKs 0 b.size = as at hia hInv
  refine law_turn (s := s) (by rfl) G SB X' T' hlt (i := 0) (x := x0) ⟨Cd, Dd, Ad, dv, av, cv, dl, as, cs, b, b, ca, wd, tw, tn, tb, tt, u, vW, _, oH, oW, oA, oR, oS, F, N, ⟨rfl, rfl⟩, hi, hlen, hcs, hid, hd1, hd2, hd3, hia, dH, dW, dA, dR, dS, ?_, ?_, ?_, hN', hw1, hw2, hInv, fun q => absurd q (Nat.lt_irrefl 0)⟩ e0 (hxm _ m0) fun h3 tk3 S3 => ?_
  · exact ⟨lI.2.2.2.2.1, l1.2.2.2.1, lA.2.2, lD.2, lC⟩
  · exact ⟨Nat.ne_of_lt lI.1, Nat.ne_of_lt lI.2.1, Nat.ne_of_lt lI.2.2.1, Nat.ne_of_lt lI.2.2.2.1⟩
  · exact ⟨Nat.ne_of_lt l1.1, Nat.ne_of_lt l1.2.1, Nat.ne_of_lt l1.2.2.1⟩
  refine law_turn (s := s) (by rfl) G SB X' T' hlt S3 e1 (hxm _ m1) fun h4 tk4 S4 => ?_
  refine law_turn (s := s) (by rfl) G SB X' T' hlt S4 e2 (hxm _ m2) fun h5 tk5 S5 => ?_
  clear S3 S4 F N hi hcs hid hd1 hd2 hd3 hia dH dW dA dR dS lC lD lA hw1 hw2 hInv hN' l1 lI hlen
  obtain ⟨Cd, Dd, Ad, dv, av, cv, dl, as, cs, b, c, ca, wd, tw, tn, tb, tt, u, vW, oIt, oH, oW, oA, oR, oS, F, N, ⟨hc1, hc2⟩, hi, hlen, hcs, hid, hd1, hd2, hd3, hia, dH, dW, dA, dR, dS, lX, lI, lS, hN, hw1, hw2, hInv, htok⟩ := S5
  refine codeN_turn ?_
  have hwl : ws.toArray[3]? = none := Array.getElem?_eq_none (by rw [List.size_toArray, hI.length, hxl]; exact Nat.le_refl _)
  refine wpAny_pyNext_list_end (i := 3) rfl ⟨oIt, (N _ (.head _)).1, hc1, hc2⟩ (News.isList N (.tail _ (.head _))) hwl fun h6 hs6 => ?_
  have zI := N _ (.head _)
  have hk6 : ∀ a o, a ∉ [It] → h5.get? a = some o → h6.get? a = some o := fun a o ha e => hs6 a o (fun q => ha (by rw [q]; exact .head _)) e
  have F6 := LCg.fr_but F hk6 (Ne.symm zI.2.1) zI.2.2
  have N6 : News h₀ L h6 [(Ad, listOf av.toArray ca), (Cd, listOf cv.toArray 0), (L + 1 + 1 + 1 + 1 + 1, oH), (L + 1 + 1 + 1 + 1, oW), (L + 1 + 1 + 1, oA), (L + 1 + 1, oR), (L + 1, oS), (86, tabObj #[]), (79, tabObj #[])] := by
    refine LCg.news_but (fun q hq => ?_) hk6 ?_
    · rcases List.mem_cons.mp hq with rfl | hq
      · exact N _ (.tail _ (.tail _ (.head _)))
      · exact N _ (.tail _ (.tail _ (.tail _ (.tail _ hq))))
    · refine List.forall_mem_cons.mpr ⟨lI.2.1, List.forall_mem_cons.mpr ⟨lI.2.2.2, ?_⟩⟩
      obtain ⟨g5, g4, g3, g2, g1, g86, g79⟩ := off7 lX.1 hlt
      intro q hq
      simp only [List.mem_cons, List.not_mem_nil, or_false] at hq
      rcases hq with rfl | rfl | rfl | rfl | rfl | rfl | rfl <;> assumption
  exact wpN_of (wpAny_execs_nil ⟨rfl, h6, _, rfl, Cd, Ad, av, cv, as, cs, b, c, ca, wd, tw, tn, tb, tt, _, vW, oH, oW, oA, oR, oS, frm F6 ⟨rfl, rfl, rfl, trivial⟩, N6, hi, hlen, hcs, hia, dH, dW, dA, dR, dS, ⟨lX.2.2.1, lX.2.2.2.2⟩, hN, hw1, hw2, hInv, htok (by decide)⟩)
end Mine
end

section
-- QF
set_option maxHeartbeats 8000000
theorem Mine.anew49 : True := by w_top off; trivial
open PySem PySem.W PyProof.Rows PySem.Calls
set_option Elab.async false
set_option maxRecDepth 100000
namespace Mine
variable {w : World} {p : Program} {loose : List Str} {mean : ExcName → Option Value} {mg mb : Str → Option Value} {hb : Heap}

noncomputable abbrev tf86 (c : Addr) : Obj := tabObj #[rawInt (66 : Nat), rawInt (4 : Nat), .ref c]
noncomputable abbrev tf79 (c : Addr) : Obj := tabObj #[rawInt (51 : Nat), rawInt (4 : Nat), .ref c]
/-- a code object of that name -/
noncomputable def CodeObj (o : Obj) (q : Str) : Prop := ∃ vs t, o.data = .fields vs ∧ vs[1]? = some (.str q t)
theorem divmod_all {wd n : Nat} (hw : 12 ≤ wd) (hn : 4 ≤ n) : ((2 : Int) ^ (wd * n * (n + 1)) - 1) / (2 ^ (wd * n) - 1) = ((geo (2 ^ (wd * n)) (n + 1) : Nat) : Int) ∧ ((2 : Int) ^ (wd * n * (n + 1)) - 1) % (2 ^ (wd * n) - 1) = 0 := by
  have hm : 1 ≤ wd * n := Nat.mul_pos (by (first | lia | omega)) (by (first | lia | omega))
  have hp := all_pos (m := wd * n) hm
  have hq : 1 ≤ 2 ^ (wd * n) := Nat.two_pow_pos _
  have e : ((2 : Int) ^ (wd * n * (n + 1)) - 1) = ((geo (2 ^ (wd * n)) (n + 1) : Nat) : Int) * (2 ^ (wd * n) - 1) := by
    have g := geo_mul hq (n + 1)
    rw [← Nat.pow_mul] at g
    have h1 : (1 : Nat) ≤ 2 ^ (wd * n * (n + 1)) := Nat.two_pow_pos _
    have g' := congrArg (fun (k : Nat) => (k : Int)) g
    simp only [Int.natCast_mul] at g'
    rw [Int.natCast_sub hq, Int.natCast_sub h1, ← pow_cast, ← pow_cast] at g'
    exact g'.symm
  rw [e]
  exact ⟨Int.mul_ediv_cancel _ (Int.ne_of_gt hp), Int.mul_emod_left _ _⟩
/-- the tokens given out grow -/
theorem with_tk {M : Model} {A : Around} {t : Sem Flow} {E : Value → Shared → Prop} {s : Shared} {h : Heap} {tk : Nat} {S : Heap → Nat → Prop} (H : wpAny M A t (fun f s' => f = .next ∧ Hold (∃ h' tk', s' = { s with heap := h', toks := tk' } ∧ (tk ≤ tk' → S h' tk'))) E { s with heap := h, toks := tk }) :
    wpAny M A t (fun f s' => f = .next ∧ Hold (∃ h' tk', s' = { s with heap := h', toks := tk' } ∧ S h' tk')) E { s with heap := h, toks := tk } := by
  refine wpAny_with_toks (n := tk) (Nat.le_refl _) (wpAny_mono H (fun f s' ⟨e, h', tk', e2, k⟩ ht => ⟨e, h', tk', e2, ?_⟩) fun _ _ e _ => e)
  subst e2
  exact k ht
/-- behind line 127 -/
inductive StH (h₀ : Heap) (L : Addr) (h : Heap) (tk : Nat) : Prop
  | mk (Cd Ad c86 c79 : Addr) (av cv : List Value) (as cs : List Int) (b c : Array UInt8) (ca wd tw tn tb tt tc to : Nat) (u : Str → Option Value) (vW : Option Value) (oH oW oA oR oS o86 o79 : Obj)
    (p0 : Fr h₀ L h (mp [("cells", .ref Cd), ("width", .int (wd : Int) tw), ("turned", .bytes c tt), ("copies", .int ((geo (2 ^ (wd * b.size)) (b.size + 1) : Nat) : Int) tc), ("over", .int 0 to)] u)) (p1 : News h₀ L h [(c86, o86), (c79, o79), (Ad, listOf av.toArray ca), (Cd, listOf cv.toArray 0), (L + 1 + 1 + 1 + 1 + 1, oH), (L + 1 + 1 + 1 + 1, oW), (L + 1 + 1 + 1, oA), (L + 1 + 1, oR), (L + 1, oS), (86, tf86 c86), (79, tf79 c79)]) (p2 : CodeObj o86 q86) (p3 : CodeObj o79 q79) (p4 : IntsAre cv cs) (p5 : cs.length = 8) (p6 : (∀ d ∈ cs, 0 ≤ d ∧ d < 1000000)) (p7 : IntsAre av as) (p8 : oH.data = .cell none) (p9 : oW.data = .cell vW) (p10 : oA.data = .cell (some (.ref Ad))) (p11 : oR.data = .cell (some (.bytes b tb))) (p12 : oS.data = .cell (some (.int (b.size : Int) tn))) (p13 : ((@Ne Nat (L + 1 + 1 + 1 + 1 + 1) Ad ∧ @Ne Nat (L + 1 + 1 + 1 + 1) Ad ∧ @Ne Nat (L + 1 + 1 + 1) Ad ∧ @Ne Nat (L + 1 + 1) Ad ∧ @Ne Nat (L + 1) Ad ∧ @Ne Nat (86) Ad ∧ @Ne Nat (79) Ad) ∧ @LT.lt Nat _ (L + 1 + 1 + 1 + 1 + 1) Cd ∧ @LT.lt Nat _ (L + 1 + 1 + 1 + 1 + 1) c86 ∧ @LT.lt Nat _ (L + 1 + 1 + 1 + 1 + 1) c79)) (p14 : (b.size = 4 ∨ b.size = 6 ∨ b.size = 8)) (p15 : 12 ≤ wd) (p16 : wd ≤ 41) (p17 : Inv b c as) (p18 : TokIn av tk) : StH h₀ L h tk
set_option maxHeartbeats 8000000 in
theorem law_d {st : List Stmt} {scope : Scope} (hsyn : stm 7 = some (st, scope)) (G : Gnd w p loose mean mg mb hb) {h₀ h : Heap} (SB : Sub hb h₀) {s : Shared} {L : Addr} {tk : Nat}
    (X' : (hd.heap_39 w.params).In h₀) (T' : Top p loose mean mg mb h₀) (hlt : @LT.lt Nat _ 86 L ∧ @LT.lt Nat _ 79 L) 
    (S : StG h₀ L h tk) :
    wpAny (model prg w) ((AN 301).deeper (envOfC "law" scope L 124 (.ref 123))) (execs st (envOfC "law" scope L 124 (.ref 123)))
      (fun f s' => f = .next ∧ Hold (∃ h' tk', s' = { s with heap := h', toks := tk' } ∧ (tk ≤ tk' → StH h₀ L h' tk'))) (fun _ _ => False) { s with heap := h, toks := tk } := by
  obtain ⟨Cd, Ad, av, cv, as, cs, b, c, ca, wd, tw, tn, tb, tt, u, vW, oH, oW, oA, oR, oS, F', N', hi, hlen, hcs, hia, dH, dW, dA, dR, dS, lX, hN, hw1, hw2, hInv, htok⟩ := S
  cases (show some _ = some _ from hsyn)
  have KX : (hd.heap_39 w.params).In h₀ ∧ PySem.Challenge.rw_we0015_01 = PySem.Challenge.rw_we0015_01 := by k_fill; exact ⟨X', rfl⟩
  have hz1 : 4 ≤ b.size := sz1 hN
  have hz2 : b.size ≤ 8 := sz2 hN
  have hN' : Hold (b.size = 4 ∨ b.size = 6 ∨ b.size = 8) := hN
  clear hN
  have hp0 : 0 ≤ (wd : Int) * b.size := Int.mul_nonneg (Int.natCast_nonneg _) (Int.natCast_nonneg _)
  have hp1 : (wd : Int) * b.size ≤ 41 * 8 := Int.mul_le_mul (Int.ofNat_le.mpr hw2) (Int.ofNat_le.mpr hz2) (Int.natCast_nonneg _) (by decide)
  have hq0 : 0 ≤ (wd : Int) * b.size * (b.size + 1) := Int.mul_nonneg hp0 (nn1 _)
  have hq1 : (wd : Int) * b.size * (b.size + 1) ≤ 41 * 8 * 9 := Int.mul_le_mul hp1 (le9 hz2) (nn1 _) (by decide)
  refine wpAny_execs_cons ?_
  k_unmd
  k_fold
  k_steps
  refine Hold.in ?_
  have hm1 : 12 * 4 ≤ wd * b.size := Nat.mul_le_mul hw1 hz1
  have hm2 : wd * b.size ≤ 41 * 8 := Nat.mul_le_mul hw2 hz2
  have hm3 : wd * b.size * (b.size + 1) ≤ 41 * 8 * 9 := Nat.mul_le_mul hm2 (Nat.succ_le_succ hz2)
  have hm4 : 0 < wd * b.size * (b.size + 1) := Nat.mul_pos (Nat.lt_of_lt_of_le (by decide) hm1) (Nat.succ_pos _)
  have en1 : ((wd : Int) * b.size).toNat = wd * b.size := by rw [← Int.natCast_mul, Int.toNat_natCast]
  have en2 : ((wd : Int) * b.size * (b.size + 1)).toNat = wd * b.size * (b.size + 1) := by
    have : (wd : Int) * b.size * (b.size + 1) = ((wd * b.size * (b.size + 1) : Nat) : Int) := by push_cast; rfl
    rw [this, Int.toNat_natCast]
  rw [en1, en2]
  have hbits := intBits_all (m := wd * b.size) (Nat.le_trans (by decide) hm1)
  have hpos := all_pos (m := wd * b.size) (Nat.le_trans (by decide) hm1)
  have hpa := all_pos (m := wd * b.size * (b.size + 1)) hm4
  obtain ⟨eq1, eq2⟩ := divmod_all hw1 hz1
  have n86 := N' (86, tabObj #[]) (by simp)
  have n79 := N' (79, tabObj #[]) (by simp)
  refine c_divmod_E G (s := { heap := h, gens := s.gens, drawn := s.drawn, toks := _, os := s.os }) (fun x o e => F'.keep _ _ (SB x o e)) (2 ^ (wd * b.size * (b.size + 1)) - 1) (2 ^ (wd * b.size) - 1) _ _ (Int.le_of_lt hpa) hpos (Nat.le_trans (Nat.le_of_eq hbits) (Nat.le_trans hm2 (by decide)))
    (by rw [hbits]; exact cnt_hundred (Nat.le_trans (by decide) hm1) (Int.le_of_lt hpa) (Int.lt_of_lt_of_le (Int.sub_lt_self _ (by decide)) (p2le (Nat.le_trans hm3 (by decide))))) n79.1 n86.1 _ _ _ rfl (by exact Nat.le_of_ble_eq_true rfl) (by exact Nat.le_of_ble_eq_true rfl) ?_
  rintro v h' tk' c79 c86 hs l79 l86 t79 t86 ⟨D, t, u2, rfl, hD, eD⟩
  rw [eq1, eq2] at eD
  dsimp only at hs l79 l86 hD
  have hk : ∀ a o, a ≠ 86 → a ≠ 79 → h.get? a = some o → h'.get? a = some o := hs
  have hkL : ∀ a o, @LE.le Nat _ L a → h.get? a = some o → h'.get? a = some o := fun a o ha => hk a o (Nat.ne_of_gt (Nat.lt_of_lt_of_le hlt.1 ha)) (Nat.ne_of_gt (Nat.lt_of_lt_of_le hlt.2 ha))
  have F2 : Fr h₀ L h' (mp [("cells", .ref Cd), ("width", .int (wd : Int) tw), ("turned", .bytes c tt)] u) :=
    ⟨F'.ns.at' fun o e => hk L o (Ne.symm n86.2.1) (Ne.symm n79.2.1) e, fun a o e => hk a o (fun q => by rw [q, n86.2.2] at e; cases e) (fun q => by rw [q, n79.2.2] at e; cases e) (F'.keep a o e), F'.above⟩
  have e86 := t86.1
  have e79 := t79.1
  obtain ⟨-, hc86, _, o86, vs86, tx86, q1, g86, d86, x86⟩ := t86
  cases q1
  obtain ⟨-, hc79, _, o79, vs79, tx79, q2, g79, d79, x79⟩ := t79
  cases q2
  have N2 : News h₀ L h' [(Ad, listOf av.toArray ca), (Cd, listOf cv.toArray 0), (L + 1 + 1 + 1 + 1 + 1, oH), (L + 1 + 1 + 1 + 1, oW), (L + 1 + 1 + 1, oA), (L + 1 + 1, oR), (L + 1, oS), (86, tf86 c86), (79, tf79 c79)] := by
    refine List.forall_mem_cons.mpr ⟨?_, List.forall_mem_cons.mpr ⟨?_, List.forall_mem_cons.mpr ⟨?_, List.forall_mem_cons.mpr ⟨?_, List.forall_mem_cons.mpr ⟨?_, List.forall_mem_cons.mpr ⟨?_, List.forall_mem_cons.mpr ⟨?_, List.forall_mem_cons.mpr ⟨⟨e86, n86.2⟩, List.forall_mem_cons.mpr ⟨⟨e79, n79.2⟩, fun _ q => nomatch q⟩⟩⟩⟩⟩⟩⟩⟩⟩
    · exact ⟨hk _ _ (Ne.symm lX.1.2.2.2.2.2.1) (Ne.symm lX.1.2.2.2.2.2.2) (N' _ (.head _)).1, (N' _ (.head _)).2⟩
    · exact ⟨hkL _ _ (Nat.le_trans (Nat.le_add_right L 5) (Nat.le_of_lt lX.2)) (N' _ (.tail _ (.head _))).1, (N' _ (.tail _ (.head _))).2⟩
    · exact ⟨hkL _ _ (Nat.le_add_right L 5) (N' _ (.tail _ (.tail _ (.head _)))).1, (N' _ (.tail _ (.tail _ (.head _)))).2⟩
    · exact ⟨hkL _ _ (Nat.le_add_right L 4) (N' _ (.tail _ (.tail _ (.tail _ (.head _))))).1, (N' _ (.tail _ (.tail _ (.tail _ (.head _))))).2⟩
    · exact ⟨hkL _ _ (Nat.le_add_right L 3) (N' _ (.tail _ (.tail _ (.tail _ (.tail _ (.head _)))))).1, (N' _ (.tail _ (.tail _ (.tail _ (.tail _ (.head _)))))).2⟩
    · exact ⟨hkL _ _ (Nat.le_add_right L 2) (N' _ (.tail _ (.tail _ (.tail _ (.tail _ (.tail _ (.head _))))))).1, (N' _ (.tail _ (.tail _ (.tail _ (.tail _ (.tail _ (.head _))))))).2⟩
    · exact ⟨hkL _ _ (Nat.le_add_right L 1) (N' _ (.tail _ (.tail _ (.tail _ (.tail _ (.tail _ (.tail _ (.head _)))))))).1, (N' _ (.tail _ (.tail _ (.tail _ (.tail _ (.tail _ (.tail _ (.head _)))))))).2⟩
  have hcl : @LT.lt Nat _ (L + 1 + 1 + 1 + 1 + 1) h.objs.size := Heap.lt_size (N' (L + 1 + 1 + 1 + 1 + 1, oH) (.tail _ (.tail _ (.head _)))).1
  have lt86 : @LT.lt Nat _ (L + 1 + 1 + 1 + 1 + 1) c86 := Nat.lt_of_lt_of_le hcl l86
  have lt79 : @LT.lt Nat _ (L + 1 + 1 + 1 + 1 + 1) c79 := Nat.lt_of_lt_of_le hcl l79
  replace N2 := fresh_cons F' N2 l79 g79
  replace N2 := fresh_cons F' N2 l86 g86
  replace N2 := fresh_cons F' N2 hD eD
  clear F' N' n86 n79 hs hk hkL
  k_steps
  rename_i h6 F N
  refine Hold.in ?_
  refine ⟨h6, _, rfl, fun ht => ⟨Cd, Ad, c86, c79, av, cv, as, cs, b, c, ca, wd, tw, tn, tb, tt, t, u2, _, vW, oH, oW, oA, oR, oS, o86, o79, frm F ⟨rfl, rfl, rfl, rfl, rfl, trivial⟩, fun q hq => N _ (.tail _ hq), ⟨_, _, d86, x86⟩, ⟨_, _, d79, x79⟩, hi, hlen, hcs, hia, dH, dW, dA, dR, dS, ⟨lX.1, lX.2, lt86, lt79⟩, hN', hw1, hw2, hInv, ?_⟩⟩
  exact fun n x hm => ⟨(htok n x hm).1, Nat.lt_of_lt_of_le (htok n x hm).2 ht⟩
end Mine
end

section
-- QG
set_option maxHeartbeats 8000000
theorem Mine.anew50 : True := by w_top off; trivial
open PySem PySem.W PyProof.Rows PySem.Calls
set_option Elab.async false
set_option maxRecDepth 100000
namespace Mine
variable {w : World} {p : Program} {loose : List Str} {mean : ExcName → Option Value} {mg mb : Str → Option Value} {hb : Heap}

local macro_rules | `(tactic| walk_at $k:str) => if ["call type:list", "binaryOp Add ref ref"].contains k.getString then `(tactic| apply Hold.out) else `(tactic| fail)
theorem tab86_of {h₀ h : Heap} {L c : Addr} {news : List (Addr × Obj)} {o : Obj} (N : News h₀ L h news) (hm : (86, tf86 c) ∈ news) (hm2 : (c, o) ∈ news) (cd : CodeObj o q86) (hne : c ≠ 86) : Tab86 h c := by
  obtain ⟨vs, t, d, x⟩ := cd
  exact ⟨(N _ hm).1, hne, c, o, vs, t, rfl, (N _ hm2).1, d, x⟩
theorem tab79_of {h₀ h : Heap} {L c : Addr} {news : List (Addr × Obj)} {o : Obj} (N : News h₀ L h news) (hm : (79, tf79 c) ∈ news) (hm2 : (c, o) ∈ news) (cd : CodeObj o q79) (hne : c ≠ 79) : Tab79 h c := by
  obtain ⟨vs, t, d, x⟩ := cd
  exact ⟨(N _ hm).1, hne, c, o, vs, t, rfl, (N _ hm2).1, d, x⟩
set_option maxHeartbeats 8000000 in
theorem law_e1 {st : List Stmt} {scope : Scope} (hsyn : stm 8 = some (st, scope)) {h₀ h : Heap} {s : Shared} {L : Addr} {tk : Nat}
    (X' : (hd.heap_39 w.params).In h₀) (T' : Top p loose mean mg mb h₀) (S : StH h₀ L h tk) :
    wpAny (model prg w) ((AN 301).deeper (envOfC "law" scope L 124 (.ref 123))) (execs st (envOfC "law" scope L 124 (.ref 123)))
      (fun f s' => f = .next ∧ Hold (∃ h' tk', s' = { s with heap := h', toks := tk' } ∧ (tk ≤ tk' → StH h₀ L h' tk'))) (fun _ _ => False) { s with heap := h, toks := tk } := by
  obtain ⟨Cd, Ad, c86, c79, av, cv, as, cs, b, c, ca, wd, tw, tn, tb, tt, tc, to, u, vW, oH, oW, oA, oR, oS, o86, o79, F', N', cd86, cd79, hi, hlen, hcs, hia, dH, dW, dA, dR, dS, lX, hN, hw1, hw2, hInv, htok⟩ := S
  cases (show some _ = some _ from hsyn)
  have KX : (hd.heap_39 w.params).In h₀ ∧ PySem.Challenge.rw_we0015_01 = PySem.Challenge.rw_we0015_01 := by k_fill; exact ⟨X', rfl⟩
  have hN' : Hold (b.size = 4 ∨ b.size = 6 ∨ b.size = 8) := hN
  clear hN
  refine wpAny_execs_cons ?_
  k_unmd
  k_fold
  k_steps
  refine Hold.in ?_
  refine ⟨_, _, rfl, fun ht => ⟨Cd, Ad, c86, c79, av, cv, as, cs, b, c, ca, wd, tw, tn, tb, tt, tc, to, _, vW, oH, oW, oA, oR, oS, o86, o79, F', N', cd86, cd79, hi, hlen, hcs, hia, dH, dW, dA, dR, dS, lX, hN', hw1, hw2, hInv, ?_⟩⟩
  exact fun n x hm => ⟨(htok n x hm).1, Nat.lt_of_lt_of_le (htok n x hm).2 ht⟩
set_option maxHeartbeats 8000000 in
theorem law_e2 {st : List Stmt} {scope : Scope} (hsyn : stm 9 = some (st, scope)) (G : Gnd w p loose mean mg mb hb) {h₀ h : Heap} (SB : Sub hb h₀) {s : Shared} {L : Addr} {tk : Nat}
    (X' : (hd.heap_39 w.params).In h₀) (T' : Top p loose mean mg mb h₀) (hlt : @LT.lt Nat _ 86 L ∧ @LT.lt Nat _ 79 L) (S : StH h₀ L h tk) :
    wpAny (model prg w) ((AN 301).deeper (envOfC "law" scope L 124 (.ref 123))) (execs st (envOfC "law" scope L 124 (.ref 123)))
      (fun f s' => f = .next ∧ Hold (∃ h' tk', s' = { s with heap := h', toks := tk' } ∧ (tk ≤ tk' → StH h₀ L h' tk'))) (fun _ _ => False) { s with heap := h, toks := tk } := by
  obtain ⟨Cd, Ad, c86, c79, av, cv, as, cs, b, c, ca, wd, tw, tn, tb, tt, tc, to, u, vW, oH, oW, oA, oR, oS, o86, o79, F', N', cd86, cd79, hi, hlen, hcs, hia, dH, dW, dA, dR, dS, lX, hN, hw1, hw2, hInv, htok⟩ := S
  cases (show some _ = some _ from hsyn)
  have KX : (hd.heap_39 w.params).In h₀ ∧ PySem.Challenge.rw_we0015_01 = PySem.Challenge.rw_we0015_01 := by k_fill; exact ⟨X', rfl⟩
  have hz1 : 4 ≤ b.size := sz1 hN
  have hz2 : b.size ≤ 8 := sz2 hN
  have hN' : Hold (b.size = 4 ∨ b.size = 6 ∨ b.size = 8) := hN
  clear hN
  refine wpAny_execs_cons ?_
  k_unmd
  k_fold
  k_steps
  refine Hold.in ?_
  obtain ⟨k0, k1, kC, kL⟩ := led_plain (b := b) (wd := wd) (ts := as) hw1 hw2 hz2 (by (first | lia | omega)) hInv.at rfl rfl
  refine Ret.use (c_led G (s := { heap := h, gens := s.gens, drawn := s.drawn, toks := tk, os := s.os }) (fun x o e => F'.keep _ _ (SB x o e)) b Ad av as _ wd tb tc tw (News.isList N' (.tail _ (.tail _ (.head _)))) hia hInv.1 hw1 hw2 hz2 (by (first | lia | omega)) kC _ rfl k0 k1
    (tab79_of N' (by simp) (.tail _ (.head _)) cd79 (ne79 lX.2.2.2 hlt)) (tab86_of N' (by simp) (.head _) cd86 (ne86 lX.2.2.1 hlt))) F' N' rfl (by exact Nat.le_of_ble_eq_true rfl) (by exact Nat.le_of_ble_eq_true rfl) ?_
  rintro v h' tk' ⟨D, vs, ep, rfl, hD, eD, hvs⟩ hs' F2 N2
  rw [kL, hInv.sums] at hvs
  replace N2 := fresh_cons F' N2 hD eD
  have lD := fresh_lt N' hD
  k_lt lD
  clear F' N' kL k0 k1 kC hs' hD eD
  k_steps
  refine Hold.in ?_
  refine list_bytes rfl (by have := hInv.2.2.1.1; (first | lia | omega)) fun h3 tk3 rv er hs3 eZ hrow => ?_
  have N3 := fresh_cons (h' := h3) F2 (N2.grown hs3) (Nat.le_refl _) eZ
  have lZ := fresh_lt N2 (Nat.le_refl _)
  have F3 := F2.keeps hs3
  k_lt lZ
  clear F2 N2 eZ hs3
  revert N3 lZ
  generalize h'.objs.size = Z
  intro N3 lZ
  k_steps
  rename_i l1 h4 F N lo
  refine Hold.in ?_
  have hcz := hInv.2.2.1.1
  refine kmk_add_ints F N (News.isList N (.tail _ (.head _))) (News.isList N (.head _)) hrow (.cons 0 tk3 .nil) (fun U us hU Fu Nu lU hiu => ?_) (by rw [KBw.ints_length, List.length_singleton, sizeLine_eq]; (first | lia | omega))
  k_lt lU
  clear F N
  k_steps
  refine Hold.in ?_
  refine ⟨hU, _, rfl, fun ht => ⟨Cd, Ad, c86, c79, av, cv, as, cs, b, c, ca, wd, tw, tn, tb, tt, tc, to, _, vW, oH, oW, oA, oR, oS, o86, o79, Fu, fun q hq => Nu _ (.tail _ (.tail _ (.tail _ (.tail _ hq)))), cd86, cd79, hi, hlen, hcs, hia, dH, dW, dA, dR, dS, lX, hN', hw1, hw2, hInv, ?_⟩⟩
  exact fun n x hm => ⟨(htok n x hm).1, Nat.lt_of_lt_of_le (htok n x hm).2 ht⟩
end Mine
end

section
-- QH
set_option maxHeartbeats 8000000
local macro_rules | `(tactic| walk_at $_) => `(tactic| fail)
theorem Mine.anew51 : True := by w_top off; trivial
open PySem PySem.W PyProof.Rows PySem.Calls
set_option Elab.async false
set_option maxRecDepth 100000
namespace Mine
variable {w : World} {p : Program} {loose : List Str} {mean : ExcName → Option Value} {mg mb : Str → Option Value} {hb : Heap}

local macro_rules | `(tactic| walk_at "call type:range") => `(tactic| apply Hold.out)
/-- where each place stands in as -/
noncomputable def behL (as : List Int) (n : Nat) : List Int := (List.range n).map fun (i : Nat) => ((as.findIdx (· == (i : Int)) : Nat) : Int)
theorem behL_length (as : List Int) (n : Nat) : (behL as n).length = n := by simp [behL]
theorem behL_getD {as : List Int} {n q : Nat} (h : q < n) : (behL as n).getD q 0 = ((as.findIdx (· == (q : Int)) : Nat) : Int) := by
  simp [behL, List.getD_eq_getElem?_getD, h]
theorem find_at {as : List Int} {q : Nat} (h : (q : Int) ∈ as) : as.findIdx (· == (q : Int)) < as.length ∧ as.getD (as.findIdx (· == (q : Int))) 0 = q := by
  have hl : as.findIdx (· == (q : Int)) < as.length := List.findIdx_lt_length_of_exists ⟨_, h, by simp⟩
  refine ⟨hl, ?_⟩
  have := List.findIdx_getElem (xs := as) (p := (· == (q : Int))) (w := hl)
  rw [List.getD_eq_getElem?_getD, List.getElem?_eq_getElem hl]
  simpa using this
theorem Inv.mem {b c : Array UInt8} {as : List Int} (h : Inv b c as) {q : Nat} (hq : q < b.size) : (q : Int) ∈ as := by
  obtain ⟨h1, h2, h3, h4⟩ := h
  obtain ⟨i, hi, e⟩ := h4 q hq
  have h0 := getD_nonneg (i := i) h2
  have e2 : as.getD i 0 = q := by (first | lia | omega)
  rw [← e2, List.getD_eq_getElem?_getD, List.getElem?_eq_getElem (by (first | lia | omega))]
  exact List.getElem_mem _
/-- turned back -/
theorem Inv.back {b c : Array UInt8} {as : List Int} (h : Inv b c as) : Inv c b (behL as b.size) := by
  have hm := fun q (hq : q < b.size) => find_at (h.mem hq)
  obtain ⟨h1, h2, ⟨g1, g2, g3⟩, h4⟩ := h
  have e : ∀ q, q < b.size → ((behL as b.size).getD q 0).toNat = as.findIdx (· == (q : Int)) := fun q hq => by rw [behL_getD hq, Int.toNat_natCast]
  refine ⟨by rw [behL_length, g1], fun d hd => ?_, ⟨g1.symm, fun q hq => ?_, fun q r hq hr hqr => ?_⟩, fun j hj => ?_⟩
  · obtain ⟨i, _, rfl⟩ := List.mem_map.mp hd
    exact Int.natCast_nonneg _
  · rw [g1] at hq
    obtain ⟨m1, m2⟩ := hm q hq
    simp only [e q hq]
    refine ⟨by (first | lia | omega), ?_⟩
    have := (g2 _ (h1 ▸ m1)).2
    simp only [m2, Int.toNat_natCast] at this
    exact this.symm
  · rw [g1] at hq hr
    simp only [e q hq, e r hr] at hqr
    have m1 := (hm q hq).2
    rw [hqr, (hm r hr).2] at m1
    (first | lia | omega)
  · rw [g1] at *
    obtain ⟨q, hq⟩ : ∃ q, (as.getD j 0).toNat = q := ⟨_, rfl⟩
    have hqb : q < b.size := hq ▸ (g2 j hj).1
    refine ⟨q, hqb, ?_⟩
    rw [e q hqb]
    obtain ⟨m1, m2⟩ := hm q hqb
    refine g3 _ _ (h1 ▸ m1) hj ?_
    simp only [m2, hq, Int.toNat_natCast]
/-- behind line 132 -/
inductive StI (h₀ : Heap) (L : Addr) (h : Heap) : Prop
  | mk (Cd Bd c86 c79 : Addr) (bv cv : List Value) (bs cs : List Int) (b c : Array UInt8) (wd tw tn tb tt tc : Nat) (u : Str → Option Value) (oH oW oA oR oS o86 o79 : Obj)
    (p0 : Fr h₀ L h (mp [("cells", .ref Cd), ("width", .int (wd : Int) tw), ("turned", .bytes c tt), ("copies", .int ((geo (2 ^ (wd * b.size)) (b.size + 1) : Nat) : Int) tc), ("behind", .ref Bd)] u)) (p1 : News h₀ L h [(Bd, LCg.lst bv), (c86, o86), (c79, o79), (Cd, listOf cv.toArray 0), (L + 1 + 1 + 1 + 1 + 1, oH), (L + 1 + 1 + 1 + 1, oW), (L + 1 + 1 + 1, oA), (L + 1 + 1, oR), (L + 1, oS), (86, tf86 c86), (79, tf79 c79)]) (p2 : CodeObj o86 q86) (p3 : CodeObj o79 q79) (p4 : IntsAre cv cs) (p5 : cs.length = 8) (p6 : (∀ d ∈ cs, 0 ≤ d ∧ d < 1000000)) (p7 : IntsAre bv bs) (p8 : oH.data = .cell none) (p9 : oR.data = .cell (some (.bytes b tb))) (p10 : oS.data = .cell (some (.int (b.size : Int) tn))) (p11 : (@LT.lt Nat _ (L + 1 + 1 + 1 + 1 + 1) Cd ∧ @LT.lt Nat _ (L + 1 + 1 + 1 + 1 + 1) c86 ∧ @LT.lt Nat _ (L + 1 + 1 + 1 + 1 + 1) c79)) (p12 : (b.size = 4 ∨ b.size = 6 ∨ b.size = 8)) (p13 : 12 ≤ wd) (p14 : wd ≤ 41) (p15 : Inv c b bs) : StI h₀ L h
section
variable {prog : Program} {w : World} {A : Around} {E : Value → Shared → Prop} {s : Shared} {env : Env}
theorem assign_comp {elt iter : PySem.Expr} {x y : Str} {px py : Pos} {scope : Scope} {cl : List (Str × Addr)} {pos spos : Pos} {Q : Flow → Shared → Prop}
    (hsw : swapsWith (.ListComp elt [⟨.Name x px, iter, [], 0⟩] scope pos) (some (.Name y py)) spos.line env = pure true)
    (hclos : closureFor scope env = pure cl) (hkind : scope.kind = .function) (hnames : ∀ z ∈ scope.names, z.2 = .local → scope.names.lookup z.1 = some .local)
    (h : wpAny (model prog w) A (eval iter env) (fun xv s₁ => wpAny (model prog w) A (pyIter xv) (fun it s₂ => wpAny (model prog w) A (newList []) (fun acc s₃ =>
      wpAny (model prog w) A (newFunctionEnv scope env.globals cl [] env.qual none .none (some env)) (fun cenv s₄ =>
        codeAny (model prog w) A (.compStart (.ListComp elt [⟨.Name x px, iter, [], 0⟩] scope pos) 0 it acc { cenv with scope := relabel scope env }) (compPost (model prog w) A E (some (assign (.Name y py) env)) (fun _ s' => Q .next s') acc cenv.locals) s₄) E s₃) E s₂) E s₁) E s)
    (hs : ∀ x, foldedSetIterable iter env x = pure x := by intro _; rfl) :
    wpAny (model prog w) A (exec (.Assign [.Name y py] (.ListComp elt [⟨.Name x px, iter, [], 0⟩] scope pos) spos) env) Q E s := by
  rw [exec_Assign_Name_used _ _ _ _ hsw]
  refine wpAny_bind (wpAny_standAt (wpAny_bind ?_))
  show wpAny _ A (do let _ ← comprehension (.ListComp elt [⟨.Name x px, iter, [], 0⟩] scope pos) scope env _ (newList []) false (eval iter env) (some (assign (.Name y py) env))) _ _ s
  exact wpAny_bind (wpAny_mono (wpAny_comprehension_free (use := some (assign (.Name y py) env)) (Q := fun _ s' => Q .next s') rfl hs hclos hkind hnames h) (fun _ s' hq => wpAny_pure (wpAny_pure hq)) fun _ _ e => e)
end
set_option maxHeartbeats 8000000 in
theorem law_f {st : List Stmt} {scope : Scope} (hsyn : stm 10 = some (st, scope)) (G : Gnd w p loose mean mg mb hb) {h₀ h : Heap} (SB : Sub hb h₀) {s : Shared} {L : Addr} {tk : Nat}
    (X' : (hd.heap_39 w.params).In h₀) (T' : Top p loose mean mg mb h₀) (hlt : @LT.lt Nat _ 86 L ∧ @LT.lt Nat _ 79 L) (S : StH h₀ L h tk) :
    wpAny (model prg w) ((AN 301).deeper (envOfC "law" scope L 124 (.ref 123))) (execs st (envOfC "law" scope L 124 (.ref 123)))
      (fun f s' => f = .next ∧ Hold (∃ h' tk', s' = { s with heap := h', toks := tk' } ∧ StI h₀ L h')) (fun _ _ => False) { s with heap := h, toks := tk } := by
  obtain ⟨Cd, Ad, c86, c79, av, cv, as, cs, b, c, ca, wd, tw, tn, tb, tt, tc, to, u, vW, oH, oW, oA, oR, oS, o86, o79, F', N', cd86, cd79, hi, hlen, hcs, hia, dH, dW, dA, dR, dS, lX, hN, hw1, hw2, hInv, htok⟩ := S
  cases (show some _ = some _ from hsyn)
  have KX : (hd.heap_39 w.params).In h₀ ∧ PySem.Challenge.rw_we0015_01 = PySem.Challenge.rw_we0015_01 := by k_fill; exact ⟨X', rfl⟩
  have hz1 : 4 ≤ b.size := sz1 hN
  have hz2 : b.size ≤ 8 := sz2 hN
  have hN' : Hold (b.size = 4 ∨ b.size = 6 ∨ b.size = 8) := hN
  clear hN
  refine wpAny_execs_cons ?_
  k_unmd
  k_fold
  refine assign_comp (by with_unfolding_all rfl) (by with_unfolding_all rfl) (by rfl) (by decide) ?_
  k_steps
  have hsm : ∀ n ∈ as, 0 ≤ n ∧ n < 100 := fun n hn => by
    obtain ⟨j, hj, rfl⟩ := List.getElem_of_mem hn
    have h1 := hInv.at j (by rw [← hInv.1]; exact hj)
    rw [List.getD_eq_getElem?_getD, List.getElem?_eq_getElem hj] at h1
    simp only [Option.getD_some] at h1
    (first | lia | omega)
  refine Hold.in (comp_range (T0 := tk) rfl F' N' (by (first | lia | omega)) (by decide) rfl (by rfl) (Nat.le_refl _) (J := fun ys _ => IntsAre ys (behL as ys.length)) .nil (fun _ _ _ h _ => h) ?_ ?_)
  · intro i t ys I oI C oC D m₂ h2 tk2 E' hib ht hyl hT hJ hC hx F N off ne
    have off' := off
    simp only [LCg.Off3, and_true] at off'
    k_steps
    refine Hold.in (Ret.use (c_indexOf G (s := { heap := h2, gens := s.gens, drawn := s.drawn, toks := tk2, os := s.os }) (fun x o e => F.keep _ _ (SB x o e)) Ad av as i t (News.isList N (.tail _ (.tail _ (.tail _ (.tail _ (.tail _ (.head _))))))) hia (by rw [hInv.1]; exact hz2) (hInv.mem hib) hsm
      (fun n u hm => ⟨neN (by have h1 : @LE.le Nat _ 1 u := (htok n u hm).1; (first | lia | omega)), neN (by have h1 : @LT.lt Nat _ u tk := (htok n u hm).2; (first | lia | omega))⟩) ?_) F N rfl (by exact Nat.le_of_ble_eq_true rfl) (by exact Nat.le_of_ble_eq_true rfl) ?_)
    · obtain ⟨n0, u0, e0, _⟩ := ints_get hia (i := 0) (by rw [hInv.1]; (first | lia | omega))
      have h1 : @LE.le Nat _ 1 u0 := (htok n0 u0 (List.mem_of_getElem? e0)).1
      have h2 : @LT.lt Nat _ u0 tk := (htok n0 u0 (List.mem_of_getElem? e0)).2
      have h3 : @LE.le Nat _ tk t := ht
      exact neN (by (first | lia | omega))
    · rintro v h' tk' ⟨t2, rfl⟩ hs' F2 N2
      refine ⟨h', tk', rfl, F2, N2, ?_⟩
      rw [List.length_append, List.length_singleton]
      unfold behL
      rw [List.range_succ, List.map_append]
      exact IntsAre.append hJ (hyl ▸ .cons _ _ .nil)
  · intro D C h2 tk2 m' ys F N off hn hC₀ hCL hCD offC hyl hJ hT
    refine comp_end_as (by rfl) (by rfl) rfl F N hn hC₀ hCL hCD offC fun h3 tk3 _ F N => ?_
    k_lt off
    rw [hyl] at hJ
    k_steps
    refine Hold.in ?_
    refine ⟨h3, _, rfl, Cd, D, c86, c79, ys, cv, _, cs, b, c, wd, tw, tn, tb, tt, tc, _, oH, oW, oA, oR, oS, o86, o79, frm F ⟨rfl, rfl, rfl, rfl, rfl, trivial⟩, fun q hq => ?_, cd86, cd79, hi, hlen, hcs, hJ, dH, dR, dS, ⟨lX.2.1, lX.2.2.1, lX.2.2.2⟩, hN', hw1, hw2, hInv.back⟩
    rcases List.mem_cons.mp hq with rfl | hq
    · exact N _ (.head _)
    rcases List.mem_cons.mp hq with rfl | hq
    · exact N _ (.tail _ (.head _))
    rcases List.mem_cons.mp hq with rfl | hq
    · exact N _ (.tail _ (.tail _ (.head _)))
    · exact N _ (.tail _ (.tail _ (.tail _ (.tail _ hq))))
end Mine
end

section
-- QI
set_option maxHeartbeats 8000000
theorem Mine.anew52 : True := by w_top off; trivial
open PySem PySem.W PyProof.Rows PySem.Calls
set_option Elab.async false
set_option maxRecDepth 100000
namespace Mine
variable {w : World} {p : Program} {loose : List Str} {mean : ExcName → Option Value} {mg mb : Str → Option Value} {hb : Heap}

/-- behind line 134 -/
inductive StJ (h₀ : Heap) (L : Addr) (h : Heap) : Prop
  | mk (Cd c86 c79 : Addr) (cv : List Value) (cs : List Int) (b : Array UInt8) (wd tw tn tb tc : Nat) (u : Str → Option Value) (oH oW oA oR oS o86 o79 : Obj)
    (p0 : Fr h₀ L h (mp [("cells", .ref Cd), ("width", .int (wd : Int) tw), ("copies", .int ((geo (2 ^ (wd * b.size)) (b.size + 1) : Nat) : Int) tc)] u)) (p1 : News h₀ L h [(c86, o86), (c79, o79), (Cd, listOf cv.toArray 0), (L + 1 + 1 + 1 + 1 + 1, oH), (L + 1 + 1 + 1 + 1, oW), (L + 1 + 1 + 1, oA), (L + 1 + 1, oR), (L + 1, oS), (86, tf86 c86), (79, tf79 c79)]) (p2 : CodeObj o86 q86) (p3 : CodeObj o79 q79) (p4 : IntsAre cv cs) (p5 : cs.length = 8) (p6 : (∀ d ∈ cs, 0 ≤ d ∧ d < 1000000)) (p7 : oH.data = .cell none) (p8 : oR.data = .cell (some (.bytes b tb))) (p9 : oS.data = .cell (some (.int (b.size : Int) tn))) (p10 : (@LT.lt Nat _ (L + 1 + 1 + 1 + 1 + 1) Cd ∧ @LT.lt Nat _ (L + 1 + 1 + 1 + 1 + 1) c86 ∧ @LT.lt Nat _ (L + 1 + 1 + 1 + 1 + 1) c79)) (p11 : (b.size = 4 ∨ b.size = 6 ∨ b.size = 8)) (p12 : 12 ≤ wd) (p13 : wd ≤ 41) : StJ h₀ L h
section
local macro_rules | `(tactic| walk_at $k:str) => if ["call type:list", "binaryOp Add ref ref"].contains k.getString then `(tactic| apply Hold.out) else `(tactic| fail)
set_option maxHeartbeats 8000000 in
theorem law_g {st : List Stmt} {scope : Scope} (hsyn : stm 11 = some (st, scope)) (G : Gnd w p loose mean mg mb hb) {h₀ h : Heap} (SB : Sub hb h₀) {s : Shared} {L : Addr} {tk : Nat}
    (X' : (hd.heap_39 w.params).In h₀) (T' : Top p loose mean mg mb h₀) (hlt : @LT.lt Nat _ 86 L ∧ @LT.lt Nat _ 79 L) (S : StI h₀ L h) :
    wpAny (model prg w) ((AN 301).deeper (envOfC "law" scope L 124 (.ref 123))) (execs st (envOfC "law" scope L 124 (.ref 123)))
      (fun f s' => f = .next ∧ Hold (∃ h' tk', s' = { s with heap := h', toks := tk' } ∧ StJ h₀ L h')) (fun _ _ => False) { s with heap := h, toks := tk } := by
  obtain ⟨Cd, Bd, c86, c79, bv, cv, bs, cs, b, c, wd, tw, tn, tb, tt, tc, u, oH, oW, oA, oR, oS, o86, o79, F', N', cd86, cd79, hi, hlen, hcs, hib, dH, dR, dS, lX, hN, hw1, hw2, hInv⟩ := S
  cases (show some _ = some _ from hsyn)
  have KX : (hd.heap_39 w.params).In h₀ ∧ PySem.Challenge.rw_we0015_01 = PySem.Challenge.rw_we0015_01 := by k_fill; exact ⟨X', rfl⟩
  have hz1 : 4 ≤ b.size := sz1 hN
  have hz2 : b.size ≤ 8 := sz2 hN
  have hcz : b.size = c.size := hInv.2.2.1.1
  have hN' : Hold (b.size = 4 ∨ b.size = 6 ∨ b.size = 8) := hN
  clear hN
  refine wpAny_execs_cons ?_
  k_unmd
  k_fold
  k_steps
  refine Hold.in ?_
  obtain ⟨k0, k1, kC, kL⟩ := led_plain (b := c) (wd := wd) (ts := bs) hw1 hw2 (by (first | lia | omega)) (by (first | lia | omega)) hInv.at rfl rfl
  rw [← hcz] at k0 k1 kC kL
  refine Ret.use (c_led G (s := { heap := h, gens := s.gens, drawn := s.drawn, toks := tk, os := s.os }) (fun x o e => F'.keep _ _ (SB x o e)) c Bd bv bs _ wd tt tc tw (News.isList N' (.head _)) hib hInv.1 hw1 hw2 (by (first | lia | omega)) (by (first | lia | omega)) kC _ (by rw [← hcz]) k0 k1
    (tab79_of N' (by simp) (.tail _ (.tail _ (.head _))) cd79 (ne79 lX.2.2 hlt)) (tab86_of N' (by simp) (.tail _ (.head _)) cd86 (ne86 lX.2.1 hlt))) F' N' rfl (by exact Nat.le_of_ble_eq_true rfl) (by exact Nat.le_of_ble_eq_true rfl) ?_
  rintro v h' tk' ⟨D, vs, ep, rfl, hD, eD, hvs⟩ hs' F2 N2
  rw [← hcz, kL, hInv.sums] at hvs
  replace N2 := fresh_cons F' N2 hD eD
  have lD := fresh_lt N' hD
  k_lt lD
  clear F' N' kL k0 k1 kC hs' hD eD
  k_steps
  refine Hold.in ?_
  refine list_bytes rfl (by (first | lia | omega)) fun h3 tk3 rv er hs3 eZ hrow => ?_
  have N3 := fresh_cons (h' := h3) F2 (N2.grown hs3) (Nat.le_refl _) eZ
  have lZ := fresh_lt N2 (Nat.le_refl _)
  have F3 := F2.keeps hs3
  k_lt lZ
  clear F2 N2 eZ hs3
  revert N3 lZ
  generalize h'.objs.size = Z
  intro N3 lZ
  k_steps
  rename_i l1 h4 F N lo
  refine Hold.in ?_
  refine kmk_add_ints F N (News.isList N (.tail _ (.head _))) (News.isList N (.head _)) hrow (.cons 0 tk3 .nil) (fun U us hU Fu Nu lU hiu => ?_) (by rw [KBw.ints_length, List.length_singleton, sizeLine_eq]; (first | lia | omega))
  k_lt lU
  clear F N
  k_steps
  refine Hold.in ?_
  refine ⟨hU, _, rfl, Cd, c86, c79, cv, cs, b, wd, tw, tn, tb, tc, _, oH, oW, oA, oR, oS, o86, o79, frm Fu ⟨rfl, rfl, rfl, trivial⟩, fun q hq => Nu _ (.tail _ (.tail _ (.tail _ (.tail _ (.tail _ hq))))), cd86, cd79, hi, hlen, hcs, dH, dR, dS, lX, hN', hw1, hw2⟩
end
/-- behind line 135 -/
inductive StK (h₀ : Heap) (L : Addr) (h : Heap) : Prop
  | mk (Hd c86 c79 : Addr) (hv : List Value) (hs : List Int) (b : Array UInt8) (wd tw tn tb tc : Nat) (u : Str → Option Value) (oH oW oA oR oS o86 o79 : Obj)
    (p0 : Fr h₀ L h (mp [("width", .int (wd : Int) tw), ("copies", .int ((geo (2 ^ (wd * b.size)) (b.size + 1) : Nat) : Int) tc)] u)) (p1 : News h₀ L h [(Hd, LCg.lst hv), (c86, o86), (c79, o79), (L + 1 + 1 + 1 + 1 + 1, oH), (L + 1 + 1 + 1 + 1, oW), (L + 1 + 1 + 1, oA), (L + 1 + 1, oR), (L + 1, oS), (86, tf86 c86), (79, tf79 c79)]) (p2 : CodeObj o86 q86) (p3 : CodeObj o79 q79) (p4 : IntsAre hv hs) (p5 : hs.length = b.size) (p6 : (∀ d ∈ hs, 0 ≤ d ∧ d ≤ b.size)) (p7 : oH.data = .cell (some (.ref Hd))) (p8 : oR.data = .cell (some (.bytes b tb))) (p9 : oS.data = .cell (some (.int (b.size : Int) tn))) (p10 : ((@Ne Nat (L + 1 + 1 + 1 + 1 + 1) Hd ∧ @Ne Nat (L + 1 + 1 + 1 + 1) Hd ∧ @Ne Nat (L + 1 + 1 + 1) Hd ∧ @Ne Nat (L + 1 + 1) Hd ∧ @Ne Nat (L + 1) Hd ∧ @Ne Nat (86) Hd ∧ @Ne Nat (79) Hd) ∧ @LT.lt Nat _ (L + 1 + 1 + 1 + 1 + 1) c86 ∧ @LT.lt Nat _ (L + 1 + 1 + 1 + 1 + 1) c79)) (p11 : (b.size = 4 ∨ b.size = 6 ∨ b.size = 8)) (p12 : 12 ≤ wd) (p13 : wd ≤ 41) : StK h₀ L h
set_option maxHeartbeats 8000000 in
theorem law_h {st : List Stmt} {scope : Scope} (hsyn : stm 12 = some (st, scope)) {h₀ h : Heap} {s : Shared} {L : Addr} {tk : Nat}
    (X' : (hd.heap_39 w.params).In h₀) (T' : Top p loose mean mg mb h₀) (hlt : @LT.lt Nat _ 86 L ∧ @LT.lt Nat _ 79 L) (S : StJ h₀ L h) :
    wpAny (model prg w) ((AN 301).deeper (envOfC "law" scope L 124 (.ref 123))) (execs st (envOfC "law" scope L 124 (.ref 123)))
      (fun f s' => f = .next ∧ Hold (∃ h' tk', s' = { s with heap := h', toks := tk' } ∧ StK h₀ L h')) (fun _ _ => False) { s with heap := h, toks := tk } := by
  obtain ⟨Cd, c86, c79, cv, cs, b, wd, tw, tn, tb, tc, u, oH, oW, oA, oR, oS, o86, o79, F', N', cd86, cd79, hi, hlen, hcs, dH, dR, dS, lX, hN, hw1, hw2⟩ := S
  cases (show some _ = some _ from hsyn)
  have KX : (hd.heap_39 w.params).In h₀ ∧ PySem.Challenge.rw_we0015_01 = PySem.Challenge.rw_we0015_01 := by k_fill; exact ⟨X', rfl⟩
  have hz1 : 4 ≤ b.size := sz1 hN
  have hz2 : b.size ≤ 8 := sz2 hN
  have hN' : Hold (b.size = 4 ∨ b.size = 6 ∨ b.size = 8) := hN
  clear hN
  refine wpAny_execs_cons ?_
  k_unmd
  k_fold
  k_steps
  rename_i hI8 hL8 D2 h2 tk2 o1 h3 o3 F N d3
  refine Hold.in ?_
  rw [Int.toNat_natCast] at hI8
  refine ⟨h3, _, rfl, D2, c86, c79, _, _, b, wd, tw, tn, tb, tc, _, o3, oW, oA, oR, oS, o86, o79, frm F ⟨rfl, rfl, trivial⟩, fun q hq => ?_, cd86, cd79, hI8, ?_, fun d hd => ?_, d3, dR, dS, ⟨?_, lX.2⟩, hN', hw1, hw2⟩
  · rcases List.mem_cons.mp hq with rfl | hq
    · exact N _ (.head _)
    rcases List.mem_cons.mp hq with rfl | hq
    · exact N _ (.tail _ (.tail _ (.head _)))
    rcases List.mem_cons.mp hq with rfl | hq
    · exact N _ (.tail _ (.tail _ (.tail _ (.head _))))
    · exact N _ (.tail _ (.tail _ (.tail _ (.tail _ (.tail _ hq)))))
  · rw [List.length_map, List.length_take, hlen]
    (first | lia | omega)
  · obtain ⟨k, _, rfl⟩ := List.mem_map.mp hd
    have hp : 0 < (b.size : Int) + 1 := Int.ofNat_lt.mpr (Nat.succ_pos b.size)
    exact ⟨Int.fmod_nonneg_of_pos (k.fdiv 1024) hp, Int.le_of_lt_add_one (Int.fmod_lt_of_pos (k.fdiv 1024) hp)⟩
  · exact o1.2.2.2.2
end Mine
end

section
-- ZA
set_option maxHeartbeats 8000000
open PySem PySem.W PyProof.Rows PySem.Calls
set_option Elab.async false
set_option maxRecDepth 100000
namespace Mine
section
variable {prog : Program} {w : World} {A : Around} {E : Value → Shared → Prop} {s : Shared} {b : Array UInt8} {t : Tok}
theorem nextOf_bytes_item {it : Addr} {i : Nat} {c : UInt8} {Q : Value → Shared → Prop} (hit : KBw.IsBytesIter s.heap it b t i) (hx : b[i]? = some c)
    (hQ : ∀ h', KBw.IsBytesIter h' it b t (i + 1) → Heap.SameBut it s.heap h' → Q (.int (c.toNat : Int) s.toks) { s with heap := h', toks := s.toks + 1 }) : wpAny (model prog w) A (Builtin.SmallTypes.nextOf (.ref it)) Q E s := by
  obtain ⟨o, ho, hc, hd⟩ := id hit
  unfold Builtin.SmallTypes.nextOf
  refine wpAny_bind (wpAny_callSpecial?_slot (name := PySem.Str.ofString "__next__") (KBw.iter_typeIs hit) KBw.slot_next
    (wpAny_call_entry KBw.slot_next (KBw.iter_typeIs hit) KBw.entry_next ?_ (KBw.args_next _)))
  show wpAny _ _ (field (.ref it) 0 >>= _) _ _ s
  refine wpAny_bind (wpAny_field ho hd (x := .bytes b t) rfl ?_)
  show wpAny _ _ (if (Value.bytes b t == Value.none) = true then _ else _) _ _ s
  rw [if_neg (show ¬ ((Value.bytes b t == Value.none) = true) from Bool.false_ne_true)]
  show wpAny _ _ (field (.ref it) 1 >>= _) _ _ s
  refine wpAny_bind (wpAny_field ho hd (x := .int i 0) rfl ?_)
  refine wpAny_bind (wpAny_of_eq (a := b) rfl ?_)
  simp only [Int.toNat_natCast, hx]
  refine wpAny_bind (wpAny_setField ho hd (by simp) (wpAny_bind (wpAny_mkInt (wpAny_pure ⟨_, rfl, wpAny_pure (hQ _ ?_ (Heap.SameBut.update ..))⟩))))
  exact ⟨_, Heap.get?_update_self _ ho (Obj.isFreed_of_fields (Obj.data_mapFields hd _)), (Obj.cls_mapFields ..).trans hc, by
    rw [Obj.data_mapFields hd]; simp [rawInt]⟩
theorem nextOf_bytes_end {it : Addr} {i : Nat} {Q : Value → Shared → Prop} (hh : A.handled = none) (hit : KBw.IsBytesIter s.heap it b t i) (hx : b[i]? = none)
    (hE : ∀ h' e, Heap.ExtBut it s.heap h' → (∃ o, h'.get? e = some o ∧ o.cls = .type "StopIteration") → E (.ref e) { s with heap := h' }) : wpAny (model prog w) A (Builtin.SmallTypes.nextOf (.ref it)) Q E s := by
  obtain ⟨o, ho, hc, hd⟩ := id hit
  unfold Builtin.SmallTypes.nextOf
  refine wpAny_bind (wpAny_callSpecial?_slot (name := PySem.Str.ofString "__next__") (KBw.iter_typeIs hit) KBw.slot_next
    (wpAny_call_entry KBw.slot_next (KBw.iter_typeIs hit) KBw.entry_next ?_ (KBw.args_next _)))
  show wpAny _ _ (field (.ref it) 0 >>= _) _ _ s
  refine wpAny_bind (wpAny_field ho hd (x := .bytes b t) rfl ?_)
  show wpAny _ _ (if (Value.bytes b t == Value.none) = true then _ else _) _ _ s
  rw [if_neg (show ¬ ((Value.bytes b t == Value.none) = true) from Bool.false_ne_true)]
  show wpAny _ _ (field (.ref it) 1 >>= _) _ _ s
  refine wpAny_bind (wpAny_field ho hd (x := .int i 0) rfl ?_)
  refine wpAny_bind (wpAny_of_eq (a := b) rfl ?_)
  simp only [Int.toNat_natCast, hx]
  refine wpAny_bind (wpAny_rule (wpAny_bind (wpAny_setField ho hd (by simp) ?_)))
  show wpAny _ _ (newExc (.type "StopIteration") [] >>= _) _ _ _
  refine wpAny_bind ?_
  simp only [newExc, newTuple]
  refine wpAny_bind (wpAny_newObj_type ?_ (by size_fits))
  refine wpAny_bind (m := firstArgMember _ _) (wpAny_of_eq (a := Value.none) (by first | rfl | (simp only [firstArgMember]; rfl)) ?_)
  refine wpAny_newObj_type ?_ (by size_fits)
  simp only [raiseNew]
  refine wpAny_bind (wpAny_handled ?_)
  rw [show A.in1.handled = none from hh]
  refine wpAny_bind (wpAny_pure (wpAny_throw ?_))
  exact hE _ _ (((Heap.SameBut.update ..).extBut.push _).push _) ⟨_, Heap.get?_push_size _ rfl, rfl⟩
theorem bi_ext {h h' : Heap} {a c : Addr} {i : Nat} (x : KBw.IsBytesIter h a b t i) (hs : Heap.ExtBut c h h') (hac : a ≠ c) : KBw.IsBytesIter h' a b t i := let ⟨o, e, r⟩ := x; ⟨o, hs a o hac e, r⟩

/-- a zip of bytes and a list, k items drawn -/
structure ZipS (b : Array UInt8) (t : Tok) (l : Addr) (z TI TO i1 i2 : Addr) (f0 : Value) (k : Nat) (h : Heap) : Prop where
  z : IsZip h z TI TO f0
  TI : IsPair h TI (.ref i1) (.ref i2)
  TO : ∃ a c, IsPair h TO a c
  i1 : KBw.IsBytesIter h i1 b t k
  i2 : h.IsListIter i2 l k
theorem ZipS.frame {l z TI TO i1 i2 : Addr} {f0 : Value} {k : Nat} {h h' : Heap} (x : ZipS b t l z TI TO i1 i2 f0 k h) (hk : ∀ a o, a ∈ [z, TI, TO, i1, i2] → h.get? a = some o → h'.get? a = some o) : ZipS b t l z TI TO i1 i2 f0 k h' := by
  obtain ⟨x1, x2, ⟨a, c, x3⟩, ⟨o4, e4, r4⟩, ⟨o5, e5, r5⟩⟩ := x
  exact ⟨hk _ _ (by simp) x1, hk _ _ (by simp) x2, ⟨a, c, hk _ _ (by simp) x3⟩, ⟨o4, hk _ _ (by simp) e4, r4⟩, ⟨o5, hk _ _ (by simp) e5, r5⟩⟩
theorem zipb_item {l z TI TO i1 i2 : Addr} {k : Nat} {ys : Array Value} {c : UInt8} {y : Value} {Q : Option Value → Shared → Prop} (D : ZipApart z TI TO i1 i2 l l)
    (Z : ZipS b t l z TI TO i1 i2 .none k s.heap) (hl : s.heap.IsList l ys) (hx : b[k]? = some c) (hy : ys[k]? = some y)
    (hQ : ∀ h' x, x = .int (c.toNat : Int) s.toks → ZipS b t l z TI TO i1 i2 (rawInt s.heap.objs.size) (k + 1) h' → IsPair h' s.heap.objs.size x y → h'.objs.size = s.heap.objs.size + 1 →
      (∀ c o, c ≠ z → c ≠ TO → c ≠ i1 → c ≠ i2 → s.heap.get? c = some o → h'.get? c = some o) → Q (some (.ref s.heap.objs.size)) { s with heap := h', toks := s.toks + 1 }) :
    wpAny (model prog w) A (pyNext (.ref z)) Q E s := by
  obtain ⟨hz, hTI, ⟨a, d, hTO⟩, h1, h2⟩ := Z
  have hT : s.TypeIs (.ref z) "zip" := ⟨_, hz, rfl⟩
  unfold pyNext
  refine wpAny_bind (wpAny_attempt (wpAny_callSpecial?_slot (name := Str.ofString "__next__") hT F.slot_zip_next
    (wpAny_call_entry F.slot_zip_next hT F.entry_zip_next ?_ (F.args_zip_next_1 _))))
  show wpAny _ _ (field (.ref z) 2 >>= _) _ _ _
  refine wpAny_bind (wpAny_field hz rfl (x := .bool false) rfl ?_)
  show wpAny _ _ (field (.ref z) 3 >>= _) _ _ _
  refine wpAny_bind (wpAny_field hz rfl (x := .ref TI) rfl ?_)
  refine wpAny_bind (wpAny_seqItems hTI rfl ?_)
  show wpAny _ _ (Builtin.SmallTypes.ownedTupleIsFree (.ref z) >>= _) _ _ _
  refine wpAny_bind ?_
  unfold Builtin.SmallTypes.ownedTupleIsFree
  refine wpAny_bind (wpAny_field hz rfl (x := .none) rfl (wpAny_pure ?_))
  simp only [if_true]
  refine wpAny_bind (wpAny_rule ?_)
  refine wpAny_bind (wpAny_field hz rfl (x := .ref TO) rfl ?_)
  refine wpAny_bind (wpAny_setField_rec hz (by simp) fun g1 hz1 hs1 => ?_)
  replace hz1 : IsZip g1 z TI TO .ellipsis := hz1
  refine wpAny_bind ?_
  simp only [List.zipIdx_cons, List.zipIdx_nil, List.forIn_cons, List.forIn_nil]
  -- the octet
  refine wpAny_bind (wpAny_bind (wpAny_onRaise ?_))
  show wpAny _ _ (Builtin.SmallTypes.nextOf (.ref i1) >>= _) _ _ _
  refine wpAny_bind (nextOf_bytes_item (bi_ext h1 hs1.extBut D.i1z) hx fun g2 h12 hs2 => wpAny_pure ?_)
  have hTO2 : IsPair g2 TO a d := hs2.extBut _ _ D.TOi1 (hs1.extBut _ _ D.TOz hTO)
  refine wpAny_bind (wpAny_seqItems hTO2 rfl ?_)
  refine wpAny_bind (wpAny_updateSeq_pair hTO2 fun g3 hTO3 hs3 => ?_)
  replace hTO3 : IsPair g3 TO (.int (c.toNat : Int) s.toks) d := hTO3
  refine wpAny_bind (wpAny_letGo (wpAny_pure ?_))
  -- the list's item
  refine wpAny_bind (wpAny_bind (wpAny_onRaise ?_))
  show wpAny _ _ (Builtin.SmallTypes.nextOf (.ref i2) >>= _) _ _ _
  refine wpAny_bind (wpAny_nextOf_list_item (((h2.extBut hs1.extBut D.i2z).extBut hs2.extBut D.i12.symm).extBut hs3.extBut D.TOi2.symm)
    (((hl.extBut hs1.extBut D.l1z).extBut hs2.extBut D.l1i1).extBut hs3.extBut D.l1TO) hy fun g4 h24 hs4 => wpAny_pure ?_)
  have hTO4 : IsPair g4 TO (.int (c.toNat : Int) s.toks) d := hs4.extBut _ _ D.TOi2 hTO3
  refine wpAny_bind (wpAny_seqItems hTO4 rfl ?_)
  refine wpAny_bind (wpAny_updateSeq_pair hTO4 fun g5 hTO5 hs5 => ?_)
  replace hTO5 : IsPair g5 TO (.int (c.toNat : Int) s.toks) y := hTO5
  refine wpAny_bind (wpAny_letGo (wpAny_pure (wpAny_pure ?_)))
  -- handed out
  refine wpAny_bind (wpAny_seqItems hTO5 rfl ?_)
  refine wpAny_bind (wpAny_newTuple ?_)
  have hsz : g5.objs.size = s.heap.objs.size := by rw [hs5.1, hs4.1, hs3.1, hs2.1, hs1.1]
  have hz5 : IsZip g5 z TI TO .ellipsis := hs5.extBut _ _ D.TOz.symm (hs4.extBut _ _ D.i2z.symm (hs3.extBut _ _ D.TOz.symm (hs2.extBut _ _ D.i1z.symm hz1)))
  have hk5 : ∀ a o, a ≠ z → a ≠ TO → a ≠ i1 → a ≠ i2 → s.heap.get? a = some o → g5.get? a = some o := fun a o c1 c2 c3 c4 e =>
    hs5.extBut _ _ c2 (hs4.extBut _ _ c4 (hs3.extBut _ _ c2 (hs2.extBut _ _ c3 (hs1.extBut _ _ c1 e))))
  have h15 : KBw.IsBytesIter g5 i1 b t (k + 1) := bi_ext (bi_ext (bi_ext h12 hs3.extBut D.TOi1.symm) hs4.extBut D.i12) hs5.extBut D.TOi1.symm
  have h25 : g5.IsListIter i2 l (k + 1) := h24.extBut hs5.extBut D.TOi2.symm
  have hzlt : z < g5.objs.size := Heap.lt_size hz5
  show wpAny _ _ (Builtin.SmallTypes.ownedTupleHandOut (.ref z) (.ref g5.objs.size) >>= _) _ _ _
  refine wpAny_bind ?_
  unfold Builtin.SmallTypes.ownedTupleHandOut
  have hz6 : IsZip (g5.push { cls := .type "tuple", data := .seq #[.int (c.toNat : Int) s.toks, y] }) z TI TO .ellipsis := Heap.get?_push_of_some _ hz5
  refine wpAny_bind (wpAny_setField_rec hz6 (by simp) fun g7 hz7 hs7 => ?_)
  replace hz7 : IsZip g7 z TI TO (rawInt g5.objs.size) := hz7
  refine wpAny_setField_rec hz7 (by simp) fun g8 hz8 hs8 => ?_
  replace hz8 : IsZip g8 z TI TO (rawInt g5.objs.size) := hz8
  have up : ∀ a o, a ≠ z → g5.get? a = some o → g8.get? a = some o := fun a o c1 e => hs8.extBut _ _ c1 (hs7.extBut _ _ c1 (Heap.get?_push_of_some _ e))
  have hT8 : IsPair g8 g5.objs.size (.int (c.toNat : Int) s.toks) y := hs8.extBut _ _ (Nat.ne_of_gt hzlt) (hs7.extBut _ _ (Nat.ne_of_gt hzlt) (Heap.get?_push_size _ rfl))
  have hz8' : g8.objs.size = g5.objs.size + 1 := by rw [hs8.1, hs7.1, Heap.size_push]
  rw [hsz] at hz8 hT8 hz8'
  refine wpAny_pure ⟨_, rfl, wpAny_pure ?_⟩
  show Q (some (.ref g5.objs.size)) _
  rw [hsz]
  exact hQ g8 _ rfl ⟨hz8, up _ _ D.TIz (hk5 _ _ D.TIz D.TITO D.TIi1 D.TIi2 hTI), ⟨_, _, up _ _ D.TOz hTO5⟩, (by obtain ⟨o, e, r⟩ := h15; exact ⟨o, up _ _ D.i1z e, r⟩), h25.at fun o e => up _ o D.i2z e⟩ hT8 hz8'
    fun a o c1 c2 c3 c4 e => up a o c1 (hk5 a o c1 c2 c3 c4 e)
theorem zipb_end {l z TI TO i1 i2 : Addr} {k : Nat} {Q : Option Value → Shared → Prop} (hh : A.handled = none) (D : ZipApart z TI TO i1 i2 l l)
    (Z : ZipS b t l z TI TO i1 i2 .none k s.heap) (hx : b[k]? = none)
    (hQ : ∀ h', (∀ c o, c ≠ z → c ≠ TO → c ≠ i1 → c ≠ i2 → s.heap.get? c = some o → h'.get? c = some o) → Q none { s with heap := h' }) : wpAny (model prog w) A (pyNext (.ref z)) Q E s := by
  obtain ⟨hz, hTI, ⟨a, d, hTO⟩, h1, h2⟩ := Z
  have hT : s.TypeIs (.ref z) "zip" := ⟨_, hz, rfl⟩
  unfold pyNext
  refine wpAny_bind (wpAny_attempt (wpAny_callSpecial?_slot (name := Str.ofString "__next__") hT F.slot_zip_next
    (wpAny_call_entry F.slot_zip_next hT F.entry_zip_next ?_ (F.args_zip_next_1 _))))
  show wpAny _ _ (field (.ref z) 2 >>= _) _ _ _
  refine wpAny_bind (wpAny_field hz rfl (x := .bool false) rfl ?_)
  show wpAny _ _ (field (.ref z) 3 >>= _) _ _ _
  refine wpAny_bind (wpAny_field hz rfl (x := .ref TI) rfl ?_)
  refine wpAny_bind (wpAny_seqItems hTI rfl ?_)
  show wpAny _ _ (Builtin.SmallTypes.ownedTupleIsFree (.ref z) >>= _) _ _ _
  refine wpAny_bind ?_
  unfold Builtin.SmallTypes.ownedTupleIsFree
  refine wpAny_bind (wpAny_field hz rfl (x := .none) rfl (wpAny_pure ?_))
  simp only [if_true]
  refine wpAny_bind (wpAny_rule ?_)
  refine wpAny_bind (wpAny_field hz rfl (x := .ref TO) rfl ?_)
  refine wpAny_bind (wpAny_setField_rec hz (by simp) fun g1 hz1 hs1 => ?_)
  replace hz1 : IsZip g1 z TI TO .ellipsis := hz1
  refine wpAny_bind ?_
  simp only [List.zipIdx_cons, List.zipIdx_nil, List.forIn_cons, List.forIn_nil]
  refine wpAny_bind (wpAny_bind (wpAny_onRaise ?_))
  show wpAny _ _ (Builtin.SmallTypes.nextOf (.ref i1) >>= _) _ _ _
  refine wpAny_bind (nextOf_bytes_end hh (bi_ext h1 hs1.extBut D.i1z) hx fun g2 e hs2 he => ?_)
  obtain ⟨oe, hoe, hce⟩ := he
  have hz2 : IsZip g2 z TI TO .ellipsis := hs2 _ _ D.i1z.symm hz1
  have hez : e ≠ z := fun x => by subst x; rw [hz2] at hoe; cases hoe; simp at hce
  refine wpAny_setField_rec hz2 (by simp) fun g3 _ hs3 => ?_
  refine wpAny_bind (wpAny_isInstance (T := "StopIteration") (b := true) ⟨oe, hs3.extBut _ _ hez hoe, hce⟩ isSubtype_stop ?_)
  exact wpAny_pure (hQ _ fun c o c1 _ c3 _ x => hs3.extBut _ _ c1 (hs2 _ _ c3 (hs1.extBut _ _ c1 x)))
end
end Mine
end

section
-- ZB
set_option maxHeartbeats 8000000
open PySem PySem.W PyProof.Rows PySem.Calls
set_option Elab.async false
set_option maxRecDepth 100000
namespace Mine
noncomputable abbrev zb1 (h : Heap) (b : Array UInt8) (t : Tok) : Heap := h.push { cls := .type "bytes_iterator", data := .fields #[.bytes b t, .int 0 0] }
noncomputable abbrev zb2 (h : Heap) (b : Array UInt8) (t : Tok) (l : Addr) : Heap := (zb1 h b t).push { cls := .type "list_iterator", data := .fields #[.ref l, .int 0 0] }
noncomputable abbrev zb3 (h : Heap) (b : Array UInt8) (t : Tok) (l : Addr) : Heap := (zb2 h b t l).push { cls := .type "tuple", data := .seq #[.ref h.objs.size, .ref (zb1 h b t).objs.size] }
noncomputable abbrev zb4 (h : Heap) (b : Array UInt8) (t : Tok) (l : Addr) : Heap := (zb3 h b t l).push { cls := .type "tuple", data := .seq #[.none, .none] }
noncomputable abbrev zb5 (h : Heap) (b : Array UInt8) (t : Tok) (l : Addr) : Heap := (zb4 h b t l).push { cls := .type "zip", data := .fields #[.none, .bool false, .bool false, .ref (zb2 h b t l).objs.size, .ref (zb3 h b t l).objs.size] }
set_option maxHeartbeats 1000000 in
theorem meets_zipb (b : Array UInt8) (t : Tok) (l : Addr) (ys : Array Value) :
    Meets (Builtin.«zip.__new__» ⟨[.type "zip", .bytes b t, .ref l], []⟩) (fun _ R s => s.heap.IsList l ys ∧
      R (.ok (.ret (.ref (zb4 s.heap b t l).objs.size))) { s with heap := zb5 s.heap b t l }) :=
  .of_wp fun prog w A R s h => by
    obtain ⟨hp, g, d, tk, os⟩ := s; obtain ⟨hl, h⟩ := h
    have hsub := sub_zip
    have hL2 : Heap.IsList (Shared.heap ⟨hp.push { cls := .type "bytes_iterator", data := .fields #[.bytes b t, .int 0 0] }, g, d, tk, os⟩) l ys := Heap.IsList.push hl _
    wp_walk using KBw.pyIter_bytes (prog := prog) (w := w) (s := ⟨hp, g, d, tk, os⟩) (b := b) (t := t), wpAny_pyIter_list hL2
    exact ⟨_, rfl, h⟩
section
variable {prog : Program} {w : World} {A : Around} {E : Value → Shared → Prop} {s : Shared} {b : Array UInt8} {t : Tok}
theorem call_zipb {l : Addr} {ys : Array Value} {Q : Value → Shared → Prop} (hl : s.heap.IsList l ys)
    (h : ∀ h', ZipS b t l (s.heap.objs.size + 4) (s.heap.objs.size + 2) (s.heap.objs.size + 3) s.heap.objs.size (s.heap.objs.size + 1) .none 0 h' → h'.objs.size = s.heap.objs.size + 5 → (∀ c o, s.heap.get? c = some o → h'.get? c = some o) →
      Q (.ref (s.heap.objs.size + 4)) { s with heap := h' }) :
    wpAny (model prog w) A (call (.type "zip") [.bytes b t, .ref l]) Q E s := by
  refine callType_new F.called_zip (by decide) (F.typeCall_zip_2 _ _) (F.newCall_zip_2 _ _) (fun obj => F.args_object_init_3 obj _ _) F.entry_zip_new
    (meets_zipb b t l ys) ⟨hl, ?_⟩
  have z1 : (zb1 s.heap b t).objs.size = s.heap.objs.size + 1 := Heap.size_push ..
  have z2 : (zb2 s.heap b t l).objs.size = s.heap.objs.size + 2 := by rw [Heap.size_push, z1]
  have z3 : (zb3 s.heap b t l).objs.size = s.heap.objs.size + 3 := by rw [Heap.size_push, z2]
  have z4 : (zb4 s.heap b t l).objs.size = s.heap.objs.size + 4 := by rw [Heap.size_push, z3]
  have z5 : (zb5 s.heap b t l).objs.size = s.heap.objs.size + 5 := by rw [Heap.size_push, z4]
  have g5 : (zb5 s.heap b t l).get? (zb4 s.heap b t l).objs.size = some _ := Heap.get?_push_size _ rfl
  have g4 : (zb5 s.heap b t l).get? (zb3 s.heap b t l).objs.size = some _ := Heap.get?_push_of_some _ (Heap.get?_push_size _ rfl)
  have g3 : (zb5 s.heap b t l).get? (zb2 s.heap b t l).objs.size = some _ := Heap.get?_push_of_some _ (Heap.get?_push_of_some _ (Heap.get?_push_size _ rfl))
  have g2 : (zb5 s.heap b t l).get? (zb1 s.heap b t).objs.size = some _ := Heap.get?_push_of_some _ (Heap.get?_push_of_some _ (Heap.get?_push_of_some _ (Heap.get?_push_size _ rfl)))
  have g1 : (zb5 s.heap b t l).get? s.heap.objs.size = some _ := Heap.get?_push_of_some _ (Heap.get?_push_of_some _ (Heap.get?_push_of_some _ (Heap.get?_push_of_some _ (Heap.get?_push_size _ rfl))))
  show _ ∧ _
  rw [z2, z3, z4] at g5
  rw [z1, z2] at g3
  rw [z3] at g4
  rw [z1] at g2
  rw [z4]
  exact ⟨⟨_, g5, rfl⟩, h _ ⟨g5, g3, ⟨_, _, g4⟩, ⟨_, g1, rfl, rfl⟩, ⟨_, g2, rfl, rfl⟩⟩ z5 fun c o x =>
    Heap.get?_push_of_some _ (Heap.get?_push_of_some _ (Heap.get?_push_of_some _ (Heap.get?_push_of_some _ (Heap.get?_push_of_some _ x))))⟩
theorem zip_apart {l Z : Nat} (h : l < Z) : ZipApart (Z + 4) (Z + 2) (Z + 3) Z (Z + 1) l l := by
  constructor <;> exact neN (by (first | lia | omega))
end
end Mine
end

section
-- ZC
set_option maxHeartbeats 8000000
open PySem PySem.W PyProof.Rows PySem.Calls
set_option Elab.async false
set_option maxRecDepth 100000
namespace Mine
section
variable {prog : Program} {w : World} {A : Around} {E : Value → Shared → Prop} {h₀ : Heap} {L : Addr} {m : Str → Option Value} {env : Env}
/-- between the turns -/
inductive ZInv (s : Shared) (b : Array UInt8) (tb : Tok) (Hd : Addr) (Z : Nat) (h₀ : Heap) (L : Addr) (m : Str → Option Value) (news : List (Addr × Obj)) (J : Nat → List Value → Prop) (k : Nat) (s' : Shared) : Prop
  | mk (h : Heap) (tk i : Nat) (ys : List Value) (m' : Str → Option Value) (e : s' = { s with heap := h, toks := tk }) (hi : i ≤ b.size) (hk : k = b.size + 1 - i) (hy : ys.length ≤ i) (hJ : J i ys)
    (hz : ZipS b tb Hd (Z + 4) (Z + 2) (Z + 3) Z (Z + 1) .none i h) (hF : Fr h₀ L h m) (hn : h.Ns (Z + 6) m') (hN : News h₀ L h ((Z + 5, LCg.lst ys) :: news)) : ZInv s b tb Hd Z h₀ L m news J k s'
/-- [elt for a, c in zip(bytes, list) if cnd] -/
theorem comp_zip {elt iter cnd : PySem.Expr} {a c : Str} {pa pc tp : Pos} {kk : Nat} {scope : Scope} {cl : List (Str × Addr)} {pos : Pos} {s : Shared} {Hd : Addr} {hv : Array Value} {ke : Nat} {b : Array UInt8} {tb : Tok} {news : List (Addr × Obj)}
    {J : Nat → List Value → Prop} {RR : Value → Addr → Result → Shared → Prop}
    (hh : A.handled = none) (F : Fr h₀ L s.heap m) (N : News h₀ L s.heap news) (hm : (Hd, ({ cls := .type "list", data := .seq hv ke } : Obj)) ∈ news) (hlen : hv.size = b.size) (hz : b.size ≤ 1000)
    (hcell : ∀ y ∈ scope.names, y.2 ≠ .cell) (hkind : scope.kind = .function) (hxa : scope.names.lookup a = some .local) (hxc : scope.names.lookup c = some .local) (hac : ¬ a = c) (hJ : J 0 [])
    (step : ∀ i (o : UInt8) x t ys C oC D m₂ h tk (E' : Value → Shared → Prop), b[i]? = some o → hv[i]? = some x → J i ys → LCg.NsObj oC m₂ → m₂ a = some (.int (o.toNat : Int) t) → m₂ c = some x → Fr h₀ L h m → News h₀ L h ((C, oC) :: (D, LCg.lst ys) :: news) →
      wpAny (model prog w) A (isTrue cnd (compEnvC scope cl C env) (eval cnd (compEnvC scope cl C env))) (fun ok s₃ => ∃ tk3, s₃ = { s with heap := h, toks := tk3 } ∧ (if ok = true then
        ∀ E2 : Value → Shared → Prop, wpAny (model prog w) A (eval elt (compEnvC scope cl C env)) (fun y s₄ => ∃ tk4, s₄ = { s with heap := h, toks := tk4 } ∧ J (i + 1) (ys ++ [y])) E2 s₃ else J (i + 1) ys)) E' { s with heap := h, toks := tk })
    (hRR : ∀ D C h tk m' ys, Fr h₀ L h m → News h₀ L h ((D, LCg.lst ys) :: news) → (∀ p ∈ news, p.1 < D) → h.Ns C m' → h₀.get? C = none → C ≠ L → C ≠ D → (∀ p ∈ news, p.1 ≠ C) → J b.size ys → RR (.ref D) C (.ok .next) { s with heap := h, toks := tk }) :
    wpAny (model prog w) A (call (.type "zip") [.bytes b tb, .ref Hd]) (fun xv s₁ => wpAny (model prog w) A (pyIter xv) (fun it s₂ => wpAny (model prog w) A (newList []) (fun acc s₃ => wpAny (model prog w) A (newFunctionEnv scope env.globals cl [] env.qual none .none (some env)) (fun cenv s₄ =>
      codeAny (model prog w) A (.compStart (.ListComp elt [⟨.Tuple [.Name a pa, .Name c pc] kk tp, iter, [cnd], 0⟩] scope pos) 0 it acc { cenv with scope := relabel scope env }) (RR acc cenv.locals) s₄) E s₃) E s₂) E s₁) E s := by
  have hl : s.heap.IsList Hd hv := ⟨_, (N _ hm).1, rfl, _, rfl⟩
  refine call_zipb hl fun h1 hZ hsz1 hk1 => ?_
  refine wpAny_pyIter_zip hZ.z ?_
  obtain ⟨Z, eZ⟩ : ∃ Z : Nat, s.heap.objs.size = Z := ⟨_, rfl⟩
  rw [eZ] at hZ hsz1 ⊢
  have hLZ : @LT.lt Nat _ L Z := eZ ▸ F.ns.lt
  have hHZ : @LT.lt Nat _ Hd Z := eZ ▸ Heap.lt_size (N _ hm).1
  have hnZ : ∀ p ∈ news, @LT.lt Nat _ p.1 Z := fun p hp => eZ ▸ Heap.lt_size (N p hp).1
  have above : ∀ x : Nat, Z ≤ x → h₀.get? x = none := fun x hx => Heap.get?_none_of_le (Nat.le_trans F.above (Nat.le_trans (Nat.le_of_lt hLZ) hx))
  have hap := zip_apart (l := Hd) hHZ
  refine wpAny_newObj_type (wpAny_newFunctionEnv hcell (by intro y hy; simp at hy) (fun h2 hns2 hsb2 => ?_) hkind)
  dsimp only at hns2 hsb2 ⊢
  generalize hH2 : h1.push { cls := .type "list", dict := none, data := .seq ([] : List Value).toArray } = H2 at hns2 hsb2 ⊢
  have eC : H2.objs.size = Z + 6 := by rw [← hH2, Heap.size_push, hsz1]
  rw [eC] at hns2 hsb2 ⊢
  rw [hsz1]
  have old : ∀ b o, h1.get? b = some o → h2.get? b = some o := fun b o e => hsb2.extBut b o (neN (by have hb : @LT.lt Nat _ b (Z + 5) := hsz1 ▸ Heap.lt_size e; (first | lia | omega))) (Heap.get?_push_of_some _ (hH2 ▸ Heap.get?_push_of_some _ e))
  have hacc : h2.get? (Z + 5) = some (LCg.lst []) := hsb2.extBut _ _ (neN (by (first | lia | omega))) (Heap.get?_push_of_some _ (by rw [← hH2, ← hsz1]; exact Heap.get?_push_size _ rfl))
  have hZ2 := hZ.frame (h' := h2) fun x o _ e => old x o e
  have loop : ∀ s₃ : Shared, s₃ = { s with heap := h2, toks := s.toks + ([] : List (Str × Value)).length } →
      codeAny (model prog w) A (.compLoop (.ListComp elt [⟨.Tuple [.Name a pa, .Name c pc] kk tp, iter, [cnd], 0⟩] scope pos) 0 (.ref (Z + 4)) (.ref (Z + 5)) (compEnvC scope cl (Z + 6) env)) (RR (.ref (Z + 5)) (Z + 6)) s₃ := by
    rintro s₃ rfl
    refine kct_loop
      (ZInv s b tb Hd Z h₀ L m news J) ?_ (b.size + 1)
      ⟨h2, _, 0, [], _, rfl, Nat.zero_le _, rfl, Nat.le_refl _, hJ, hZ2, F.keeps fun x o e => old x o (hk1 x o e), hns2, fun p hp => ?_⟩
    · rintro k s' ⟨h, tk, i, ys, m', rfl, hi, rfl, hyl, hJ', hZi, F', hn', N'⟩
      have hCs : @LT.lt Nat _ (Z + 6) h.objs.size := hn'.lt
      have hlh : h.IsList Hd hv := ⟨_, (N' _ (.tail _ hm)).1, rfl, _, rfl⟩
      by_cases hlt : i < b.size
      · have hiv : i < hv.size := by (first | lia | omega)
        refine zipb_item hap hZi hlh (Array.getElem?_eq_getElem hlt) (Array.getElem?_eq_getElem hiv) fun h3 x0 ex hZ3 hT3 hs3 hk3 => ?_
        subst ex
        refine wpAny_letOwnedTupleGo_zip hZ3.z fun h4 hz4 hs4 => ?_
        have hT4 : h4.IsTuple h.objs.size #[.int ((b[i]).toNat : Int) tk, hv[i]] := ⟨_, hs4.extBut _ _ (neN (by (first | lia | omega))) hT3, rfl, _, rfl⟩
        have hs4s : @Eq Nat h4.objs.size (h.objs.size + 1) := by rw [hs4.1]; exact hs3
        refine wpAny_assign_Tuple hh hT4 rfl rfl fun h5 hx5 => ?_
        replace hx5 : Heap.ExtBut h4.objs.size h4 h5 := hx5
        have up5 : ∀ x o, h4.get? x = some o → h5.get? x = some o := fun x o e => hx5 x o (Nat.ne_of_lt (Heap.lt_size e)) e
        have hk5 : ∀ x o, x ≠ Z + 4 → x ≠ Z + 3 → x ≠ Z → x ≠ Z + 1 → h.get? x = some o → h5.get? x = some o := fun x o c1 c2 c3 c4 e => up5 x o (hs4.extBut _ _ c1 (hk3 x o c1 c2 c3 c4 e))
        have hn5 : h5.Ns (Z + 6) m' := hn'.at' fun o e => hk5 _ o (neN (by (first | lia | omega))) (neN (by (first | lia | omega))) (neN (by (first | lia | omega))) (neN (by (first | lia | omega))) e
        have hZ4 : ZipS b tb Hd (Z + 4) (Z + 2) (Z + 3) Z (Z + 1) .none (i + 1) h4 := by
          obtain ⟨_, q2, ⟨a3, c3, q3⟩, ⟨o4, q4, r4⟩, ⟨o5, q5, r5⟩⟩ := hZ3
          exact ⟨hz4, hs4.extBut _ _ hap.TIz q2, ⟨a3, c3, hs4.extBut _ _ hap.TOz q3⟩, ⟨o4, hs4.extBut _ _ hap.i1z q4, r4⟩, ⟨o5, hs4.extBut _ _ hap.i2z q5, r5⟩⟩
        show wpAny _ A (do holding [hv[i]] (assign (.Name a pa) (compEnvC scope cl (Z + 6) env) (.int ((b[i]).toNat : Int) tk)); do holding [] (assign (.Name c pc) (compEnvC scope cl (Z + 6) env) hv[i]); pure ()) _ _ _
        refine wpAny_bind (wpAny_holding (wpAny_assign_Name (wpAny_storeName_local (lookup_relabel_local hxa) hn5 (fun h6 hn6 hs6 => ?_) (by simp [compEnvC, relabel, hkind]))))
        replace hs6 : Heap.SameBut (Z + 6) h5 h6 := hs6
        refine wpAny_bind (wpAny_holding (wpAny_assign_Name (wpAny_storeName_local (lookup_relabel_local hxc) hn6 (fun h7 hn7 hs7 => wpAny_pure ?_) (by simp [compEnvC, relabel, hkind]))))
        replace hs7 : Heap.SameBut (Z + 6) h6 h7 := hs7
        have up7 : ∀ x o, x ≠ Z + 6 → h5.get? x = some o → h7.get? x = some o := fun x o c1 e => hs7.extBut _ _ c1 (hs6.extBut _ _ c1 e)
        have hk7 : ∀ x o, x ≠ Z + 4 → x ≠ Z + 3 → x ≠ Z → x ≠ Z + 1 → x ≠ Z + 6 → h.get? x = some o → h7.get? x = some o := fun x o c1 c2 c3 c4 c5 e => up7 x o c5 (hk5 x o c1 c2 c3 c4 e)
        have hZ7 : ZipS b tb Hd (Z + 4) (Z + 2) (Z + 3) Z (Z + 1) .none (i + 1) h7 := hZ4.frame fun x o hx e => up7 x o (by
          simp only [List.mem_cons, List.not_mem_nil, or_false] at hx
          rcases hx with rfl | rfl | rfl | rfl | rfl <;> exact neN (by (first | lia | omega))) (up5 x o e)
        have N7 : News h₀ L h7 ((Z + 5, LCg.lst ys) :: news) := fun p hp => by
          refine ⟨?_, (N' p hp).2⟩
          rcases List.mem_cons.mp hp with rfl | hp'
          · exact hk7 _ _ (neN (by (first | lia | omega))) (neN (by (first | lia | omega))) (neN (by (first | lia | omega))) (neN (by (first | lia | omega))) (neN (by (first | lia | omega))) (N' _ hp).1
          · have := hnZ p hp'
            exact hk7 _ _ (neN (by (first | lia | omega))) (neN (by (first | lia | omega))) (neN (by (first | lia | omega))) (neN (by (first | lia | omega))) (neN (by (first | lia | omega))) (N' _ hp).1
        have n0 : ∀ x : Nat, Z ≤ x → ∀ y o, h₀.get? y = some o → y ≠ x := fun x hx y o e q => by rw [q, above x hx] at e; cases e
        have F7 : Fr h₀ L h7 m := ⟨F'.ns.at' fun o e => hk7 _ o (neN (by (first | lia | omega))) (neN (by (first | lia | omega))) (neN (by (first | lia | omega))) (neN (by (first | lia | omega))) (neN (by (first | lia | omega))) e,
          fun x o e => hk7 x o (n0 _ (by (first | lia | omega)) x o e) (n0 _ (by (first | lia | omega)) x o e) (n0 _ (by (first | lia | omega)) x o e) (n0 _ (by (first | lia | omega)) x o e) (n0 _ (by (first | lia | omega)) x o e) (F'.keep x o e), F'.above⟩
        obtain ⟨oC, heC, hoC⟩ := LCg.ns_obj hn7
        have N7' : News h₀ L h7 ((Z + 6, oC) :: (Z + 5, LCg.lst ys) :: news) := fun p hp => by
          rcases List.mem_cons.mp hp with rfl | hp
          · exact ⟨heC, neN (by (first | lia | omega)), above _ (by (first | lia | omega))⟩
          · exact N7 p hp
        refine wpAny_mono (step i (b[i]) (hv[i]) tk ys (Z + 6) oC (Z + 5) _ h7 _ _ (Array.getElem?_eq_getElem hlt) (Array.getElem?_eq_getElem hiv) hJ' hoC (by simp [hac]) (by simp) F7 N7') (fun ok s₃ h₃ => ?_) fun _ _ e => e
        obtain ⟨tk3, rfl, h₃⟩ := h₃
        cases ok with
        | false =>
          exact ⟨b.size + 1 - (i + 1), by (first | lia | omega), h7, tk3, i + 1, ys, _, rfl, hlt, rfl, Nat.le_succ_of_le hyl, h₃, hZ7, F7, hn7, N7⟩
        | true =>
          simp only [if_true] at h₃ ⊢
          refine wpAny_mono (h₃ _) (fun y s₄ h₄ => ?_) fun _ _ e => e
          obtain ⟨tk4, rfl, hJ4⟩ := h₄
          refine append_at (hsz := by show ys.toArray.size ≤ sizeLine; rw [List.size_toArray, sizeLine_eq]; (first | lia | omega)) (show h7.get? (Z + 5) = some { cls := .type "list", data := .seq ys.toArray ys.length } from (N7 _ (.head _)).1) fun h8 hs8 hD8 => ?_
          refine ⟨b.size + 1 - (i + 1), by (first | lia | omega), h8, tk4, i + 1, ys ++ [y], _, rfl, hlt, rfl, by rw [List.length_append, List.length_singleton]; (first | lia | omega), hJ4, hZ7.frame fun x o hx e => hs8.extBut x o (by
            simp only [List.mem_cons, List.not_mem_nil, or_false] at hx
            rcases hx with rfl | rfl | rfl | rfl | rfl <;> exact neN (by (first | lia | omega))) e, F7.change hs8 (neN (by (first | lia | omega))) (above _ (by (first | lia | omega))), Heap.Ns.sameBut (a := Z + 6) hn7 hs8 (neN (by (first | lia | omega))), fun p hp => ?_⟩
          rcases List.mem_cons.mp hp with rfl | hp
          · exact ⟨hD8.trans (congrArg some (LCg.lst_snoc ys y)), neN (by (first | lia | omega)), above _ (by (first | lia | omega))⟩
          · have := hnZ p hp
            exact ⟨hs8.extBut _ _ (neN (by (first | lia | omega))) (N7 p (.tail _ hp)).1, (N7 p (.tail _ hp)).2⟩
      · obtain rfl : i = b.size := Nat.le_antisymm hi (Nat.not_lt.mp hlt)
        refine zipb_end hh hap hZi (Array.getElem?_eq_none (Nat.le_refl _)) fun h3 hk3 => ?_
        have n0 : ∀ x : Nat, Z ≤ x → ∀ y o, h₀.get? y = some o → y ≠ x := fun x hx y o e q => by rw [q, above x hx] at e; cases e
        refine hRR (Z + 5) (Z + 6) h3 tk _ ys ⟨F'.ns.at' fun o e => hk3 _ o (neN (by (first | lia | omega))) (neN (by (first | lia | omega))) (neN (by (first | lia | omega))) (neN (by (first | lia | omega))) e,
          fun x o e => hk3 x o (n0 _ (by (first | lia | omega)) x o e) (n0 _ (by (first | lia | omega)) x o e) (n0 _ (by (first | lia | omega)) x o e) (n0 _ (by (first | lia | omega)) x o e) (F'.keep x o e), F'.above⟩ (fun p hp => ?_) (fun p hp => ltN (by have := hnZ p hp; (first | lia | omega)))
          (hn'.at' fun o e => hk3 _ o (neN (by (first | lia | omega))) (neN (by (first | lia | omega))) (neN (by (first | lia | omega))) (neN (by (first | lia | omega))) e) (above _ (by (first | lia | omega))) (neN (by (first | lia | omega))) (neN (by (first | lia | omega))) (fun p hp => neN (by have := hnZ p hp; (first | lia | omega))) hJ'
        refine ⟨?_, (N' p hp).2⟩
        rcases List.mem_cons.mp hp with rfl | hp'
        · exact hk3 _ _ (neN (by (first | lia | omega))) (neN (by (first | lia | omega))) (neN (by (first | lia | omega))) (neN (by (first | lia | omega))) (N' _ hp).1
        · have := hnZ p hp'
          exact hk3 _ _ (neN (by (first | lia | omega))) (neN (by (first | lia | omega))) (neN (by (first | lia | omega))) (neN (by (first | lia | omega))) (N' _ hp).1
    · rcases List.mem_cons.mp hp with rfl | hp
      · exact ⟨hacc, neN (by (first | lia | omega)), above _ (by (first | lia | omega))⟩
      · exact ⟨old _ _ (hk1 _ _ (N p hp).1), (N p hp).2⟩
  exact codeAny_compStart_list (loop _ rfl) (wpAny_pyIter_zip hZ2.z (loop _ rfl))
end
end Mine
end

section
-- ZD
set_option maxHeartbeats 8000000
open PySem PySem.W PyProof.Rows PySem.Calls
set_option Elab.async false
set_option maxRecDepth 100000
namespace Mine
section
variable {M : Model} {A : Around} {E : Value → Shared → Prop} {s : Shared}
theorem newEnv_cl {scope : Scope} {cl : List (Str × Addr)} {env : Env} {g : Addr} {q : Str} {Q : Env → Shared → Prop}
    (h : Q { scope := scope, locals := s.heap.objs.size, globals := g, cells := cellsFrom (s.heap.objs.size + 1) scope.names cl, qual := q, func := none, code := env.code, frame := env.frame, builtins := env.builtins }
      { s with heap := pushCells (s.heap.push { cls := .type "dict", data := .dict #[] }) scope.names }) : wpAny M A (newFunctionEnv scope g cl [] q none .none (some env)) Q E s := by
  simp only [newFunctionEnv, Option.isSome_some, if_true]
  refine wpAny_bind (wpAny_alloc ?_)
  refine wpAny_bind (wpAny_layCells _ (fun name kind cells => by cases kind == NameKind.cell <;> simp) _ _ _ _ ?_)
  rw [show ({ s with heap := s.heap.push { cls := .type "dict", data := .dict #[] } } : Shared).heap.objs.size = s.heap.objs.size + 1 from Heap.size_push ..]
  simp only [List.forIn_nil]
  exact wpAny_bind (wpAny_pure (wpAny_pure h))
end
section
variable {w : World} {A : Around} {E : Value → Shared → Prop} {h₀ : Heap} {L : Addr} {m : Str → Option Value} {env : Env}
/-- between the turns -/
inductive CInv (s : Shared) (n : Nat) (Z : Nat) (h₀ : Heap) (L : Addr) (m : Str → Option Value) (news : List (Addr × Obj)) (J : List Value → Prop) (k : Nat) (s' : Shared) : Prop
  | mk (h : Heap) (tk i : Nat) (ys : List Value) (m' : Str → Option Value) (oC oT : Obj) (vT : Option Value) (e : s' = { s with heap := h, toks := tk }) (hi : i ≤ n) (hk : k = n + 1 - i) (hy : ys.length = i) (hJ : J ys)
    (hr : IsRangeIter h (Z + 1) (i : Nat) ((n : Int) - (i : Nat)) 1) (hC : LCg.NsObj oC m') (dT : oT.data = .cell vT) (hF : Fr h₀ L h m)
    (hN : News h₀ L h ((Z + 1, itObj (i : Nat) ((n : Int) - (i : Nat)) 1) :: (Z + 4, oT) :: (Z + 3, oC) :: (Z + 2, LCg.lst ys) :: news)) : CInv s n Z h₀ L m news J k s'
/-- over range(n), the name being a cell -/
theorem comp_cell {elt iter : PySem.Expr} {x : Str} {px : Pos} {scope : Scope} {cl : List (Str × Addr)} {pos : Pos} {s : Shared} {n : Nat} {tn : Tok} {news : List (Addr × Obj)} {J : List Value → Prop} {RR : Value → Addr → Result → Shared → Prop}
    (hh : A.handled = none) (F : Fr h₀ L s.heap m) (N : News h₀ L s.heap news) (hn : n ≤ 1000)
    (hkind : scope.kind = .function) (hx : ∀ T C, (compEnvC scope ((x, T) :: cl) C env).kindOf x = some .cell) (hcells : ∀ k, cellsFrom k scope.names cl = (x, k) :: cl) (hpush : ∀ h : Heap, pushCells h scope.names = h.push { cls := .type "cell", data := .cell none }) (hJ : J [])
    (step : ∀ i t ys I oI C oC T oT D h tk (E' : Value → Shared → Prop), i < n → ys.length = i → J ys → oT.data = .cell (some (.int (i : Nat) t)) → Fr h₀ L h m → News h₀ L h ((I, oI) :: (T, oT) :: (C, oC) :: (D, LCg.lst ys) :: news) →
      wpAny (model prg w) A (eval elt (compEnvC scope ((x, T) :: cl) C env)) (fun y s' => ∃ h' tk', s' = { s with heap := h', toks := tk' } ∧ Fr h₀ L h' m ∧ News h₀ L h' ((I, oI) :: (T, oT) :: (C, oC) :: (D, LCg.lst ys) :: news) ∧ J (ys ++ [y])) E' { s with heap := h, toks := tk })
    (hRR : ∀ D C h tk m' ys, Fr h₀ L h m → News h₀ L h ((D, LCg.lst ys) :: news) → (∀ p ∈ news, p.1 < D) → h.Ns C m' → h₀.get? C = none → C ≠ L → C ≠ D → (∀ p ∈ news, p.1 ≠ C) → ys.length = n → J ys → RR (.ref D) C (.ok .next) { s with heap := h, toks := tk }) :
    wpAny (model prg w) A (call (.type "range") [.int n tn]) (fun xv s₁ => wpAny (model prg w) A (pyIter xv) (fun it s₂ => wpAny (model prg w) A (newList []) (fun acc s₃ => wpAny (model prg w) A (newFunctionEnv scope env.globals cl [] env.qual none .none (some env)) (fun cenv s₄ =>
      codeAny (model prg w) A (.compStart (.ListComp elt [⟨.Name x px, iter, [], 0⟩] scope pos) 0 it acc { cenv with scope := relabel scope env }) (RR acc cenv.locals) s₄) E s₃) E s₂) E s₁) E s := by
  refine iter_range1 hn fun u v => ?_
  obtain ⟨Z, eZ⟩ : ∃ Z : Nat, s.heap.objs.size = Z := ⟨_, rfl⟩
  have hLZ : @LT.lt Nat _ L Z := eZ ▸ F.ns.lt
  have hnZ : ∀ p ∈ news, @LT.lt Nat _ p.1 Z := fun p hp => eZ ▸ Heap.lt_size (N p hp).1
  have above : ∀ x : Nat, Z ≤ x → h₀.get? x = none := fun x hx => Heap.get?_none_of_le (Nat.le_trans F.above (Nat.le_trans (Nat.le_of_lt hLZ) hx))
  have st0 := it_zero (h := s.heap) (o := rngObj 0 n 1 u tn v) (k := (n : Int)) (c := 1)
  have up1 : ∀ b o, s.heap.get? b = some o → ((s.heap.push (rngObj 0 n 1 u tn v)).push (itObj 0 n 1)).get? b = some o := fun b o e => Heap.get?_push_of_some _ (Heap.get?_push_of_some _ e)
  have e1 : ((s.heap.push (rngObj 0 n 1 u tn v)).push (itObj 0 n 1)).objs.size = Z + 2 := by rw [Heap.size_push, Heap.size_push, eZ]
  rw [eZ] at st0 ⊢
  generalize (s.heap.push (rngObj 0 n 1 u tn v)).push (itObj 0 n 1) = h1 at st0 up1 e1 ⊢
  refine wpAny_newObj_type ?_
  refine newEnv_cl ?_
  dsimp only
  have eC : (h1.push { cls := .type "list", data := .seq ([] : List Value).toArray }).objs.size = Z + 3 := by rw [Heap.size_push, e1]
  rw [hpush, hcells, eC, e1]
  have eT : ((h1.push { cls := .type "list", data := .seq ([] : List Value).toArray }).push { cls := .type "dict", data := .dict #[] }).objs.size = Z + 4 := by rw [Heap.size_push, eC]
  have gD : (((h1.push { cls := .type "list", data := .seq ([] : List Value).toArray }).push { cls := .type "dict", data := .dict #[] }).push { cls := .type "cell", data := .cell none }).get? (Z + 2) = some (LCg.lst []) :=
    Heap.get?_push_of_some _ (Heap.get?_push_of_some _ (e1 ▸ Heap.get?_push_size _ rfl))
  have gC : (((h1.push { cls := .type "list", data := .seq ([] : List Value).toArray }).push { cls := .type "dict", data := .dict #[] }).push { cls := .type "cell", data := .cell none }).Ns (Z + 3) (fun _ => none) := by
    have := Heap.Ns.new (h1.push { cls := .type "list", data := .seq ([] : List Value).toArray }) (.type "dict")
    rw [eC] at this
    exact this.keeps fun b o e => Heap.get?_push_of_some _ e
  have gT : (((h1.push { cls := .type "list", data := .seq ([] : List Value).toArray }).push { cls := .type "dict", data := .dict #[] }).push { cls := .type "cell", data := .cell none }).get? (Z + 4) = some { cls := .type "cell", data := .cell none } := eT ▸ Heap.get?_push_size _ rfl
  have up2 : ∀ b o, h1.get? b = some o → (((h1.push { cls := .type "list", data := .seq ([] : List Value).toArray }).push { cls := .type "dict", data := .dict #[] }).push { cls := .type "cell", data := .cell none }).get? b = some o :=
    fun b o e => Heap.get?_push_of_some _ (Heap.get?_push_of_some _ (Heap.get?_push_of_some _ e))
  generalize ((h1.push { cls := .type "list", data := .seq ([] : List Value).toArray }).push { cls := .type "dict", data := .dict #[] }).push { cls := .type "cell", data := .cell none } = h2 at gD gC gT up2 ⊢
  obtain ⟨oC, geC, hoC⟩ := LCg.ns_obj gC
  have stI : IsRangeIter h2 (Z + 1) ((0 : Nat) : Int) ((n : Int) - ((0 : Nat) : Int)) 1 := by
    have := up2 _ _ st0
    simpa using this
  have news_ne : ∀ {I' T' C' D' : Nat} {oI' oT' oC' oD' : Obj} {h h' : Heap} {a : Nat}, News h₀ L h ((I', oI') :: (T', oT') :: (C', oC') :: (D', oD') :: news) → Heap.SameBut a h h' → ∀ p ∈ (I', oI') :: (T', oT') :: (C', oC') :: (D', oD') :: news, p.1 ≠ a → h'.get? p.1 = some p.2 ∧ p.1 ≠ L ∧ h₀.get? p.1 = none :=
    fun N hs p hp hne => ⟨hs.extBut _ _ hne (N p hp).1, (N p hp).2⟩
  have loop : ∀ s₃ : Shared, s₃ = { s with heap := h2, toks := s.toks + 1 + 1 } →
      codeAny (model prg w) A (.compLoop (.ListComp elt [⟨.Name x px, iter, [], 0⟩] scope pos) 0 (.ref (Z + 1)) (.ref (Z + 2)) (compEnvC scope ((x, Z + 4) :: cl) (Z + 3) env)) (RR (.ref (Z + 2)) (Z + 3)) s₃ := by
    rintro s₃ rfl
    refine codeAny_compLoop_tests
      (CInv s n Z h₀ L m news J) ?_ (n + 1)
      ⟨h2, _, 0, [], _, oC, { cls := .type "cell", data := .cell none }, none, rfl, Nat.zero_le _, rfl, rfl, hJ, stI, hoC, rfl, F.keeps fun b o e => up2 b o (up1 b o e), fun p hp => ?_⟩
    · rintro k s' ⟨h, tk, i, ys, m', oC, oT, vT, rfl, hi, rfl, hyl, hJ', st, hoC, dT, F', N'⟩
      by_cases hlt : i < n
      · refine wpAny_pyNext_range_item st (by (first | lia | omega)) fun h3 hit hs3 => ?_
        replace hs3 : Heap.SameBut (Z + 1) h h3 := hs3
        have F3 := F'.change hs3 (neN (by (first | lia | omega))) (above _ (by (first | lia | omega)))
        have gT3 := news_ne N' hs3 (Z + 4, oT) (.tail _ (.head _)) (neN (by (first | lia | omega)))
        refine wpAny_assign_Name (wpAny_storeName_cell (c := Z + 4) (v₀ := vT) hkind (hx _ _) (by simp [compEnvC]) ⟨oT, gT3.1, dT⟩ fun h4 hc4 hs4 => ?_)
        replace hs4 : Heap.SameBut (Z + 4) h3 h4 := hs4
        obtain ⟨oT', gT4, dT'⟩ := hc4
        refine wpAny_tests_nil ?_
        simp only [if_true]
        have F4 := F3.change hs4 (neN (by (first | lia | omega))) (above _ (by (first | lia | omega)))
        have stN : IsRangeIter h4 (Z + 1) ((i + 1 : Nat) : Int) ((n : Int) - ((i + 1 : Nat) : Int)) 1 := by
          have e2 : (n : Int) - ((i + 1 : Nat) : Int) = (n : Int) - (i : Int) - 1 := by push_cast; (first | lia | omega)
          rw [e2]; push_cast
          exact hs4.extBut _ _ (neN (by (first | lia | omega))) hit
        have N4 : News h₀ L h4 ((Z + 1, itObj ((i + 1 : Nat) : Int) ((n : Int) - ((i + 1 : Nat) : Int)) 1) :: (Z + 4, oT') :: (Z + 3, oC) :: (Z + 2, LCg.lst ys) :: news) := fun p hp => by
          rcases List.mem_cons.mp hp with rfl | hp
          · exact ⟨stN, (N' _ (.head _)).2⟩
          rcases List.mem_cons.mp hp with rfl | hp
          · exact ⟨gT4, (N' (Z + 4, oT) (.tail _ (.head _))).2⟩
          have hp' := List.mem_cons_of_mem (Z + 1, itObj (i : Nat) ((n : Int) - (i : Nat)) 1) (List.mem_cons_of_mem (Z + 4, oT) hp)
          have hb : p.1 ≠ Z + 1 ∧ p.1 ≠ Z + 4 := by
            rcases List.mem_cons.mp hp with rfl | hp
            · exact ⟨neN (by (first | lia | omega)), neN (by (first | lia | omega))⟩
            rcases List.mem_cons.mp hp with rfl | hp
            · exact ⟨neN (by (first | lia | omega)), neN (by (first | lia | omega))⟩
            have := hnZ p hp
            exact ⟨neN (by (first | lia | omega)), neN (by (first | lia | omega))⟩
          exact ⟨hs4.extBut _ _ hb.2 (hs3.extBut _ _ hb.1 (N' p hp').1), (N' p hp').2⟩
        refine wpAny_mono (step i tk ys (Z + 1) _ (Z + 3) oC (Z + 4) oT' (Z + 2) h4 _ _ hlt hyl hJ' dT' F4 N4) (fun y s₄ h₄ => ?_) fun _ _ e => e
        obtain ⟨h5, tk5, rfl, F5, N5, hJ5⟩ := h₄
        refine append_at (hsz := by show ys.toArray.size ≤ sizeLine; rw [List.size_toArray, hyl, sizeLine_eq]; (first | lia | omega)) (show h5.get? (Z + 2) = some { cls := .type "list", data := .seq ys.toArray ys.length } from (N5 (Z + 2, LCg.lst ys) (.tail _ (.tail _ (.tail _ (.head _))))).1) fun h6 hs6 hD6 => ?_
        refine ⟨n + 1 - (i + 1), by (first | lia | omega), h6, tk5, i + 1, ys ++ [y], _, oC, oT', _, rfl, hlt, rfl, by rw [List.length_append, List.length_singleton, hyl], hJ5, hs6.extBut _ _ (neN (by (first | lia | omega))) (N5 _ (.head _)).1, hoC, dT', F5.change hs6 (neN (by (first | lia | omega))) (above _ (by (first | lia | omega))), fun p hp => ?_⟩
        rcases List.mem_cons.mp hp with rfl | hp
        · exact news_ne N5 hs6 _ (.head _) (neN (by (first | lia | omega)))
        rcases List.mem_cons.mp hp with rfl | hp
        · exact news_ne N5 hs6 _ (.tail _ (.head _)) (neN (by (first | lia | omega)))
        rcases List.mem_cons.mp hp with rfl | hp
        · exact news_ne N5 hs6 (Z + 3, oC) (.tail _ (.tail _ (.head _))) (neN (by (first | lia | omega)))
        rcases List.mem_cons.mp hp with rfl | hp
        · exact ⟨hD6.trans (congrArg some (LCg.lst_snoc ys y)), (N5 (Z + 2, LCg.lst ys) (.tail _ (.tail _ (.tail _ (.head _))))).2⟩
        · exact news_ne N5 hs6 p (.tail _ (.tail _ (.tail _ (.tail _ hp)))) (neN (by have := hnZ p hp; (first | lia | omega)))
      · obtain rfl : i = n := Nat.le_antisymm hi (Nat.not_lt.mp hlt)
        refine wpAny_pyNext_range_end hh st (by (first | lia | omega)) fun h3 he3 => ?_
        have hk3 : ∀ b o, b ∉ [(Z + 1 : Nat)] → h.get? b = some o → h3.get? b = some o := fun b o hb e => he3 b o (fun q => hb (by simp [q])) e
        have N3 : News h₀ L h3 ((Z + 2, LCg.lst ys) :: news) := LCg.news_but (I := Z + 1) (fun p hp => N' p (.tail _ (.tail _ (.tail _ hp)))) hk3 fun p hp => by
          rcases List.mem_cons.mp hp with rfl | hp
          · exact neN (by (first | lia | omega))
          · have := hnZ p hp; exact neN (by (first | lia | omega))
        exact hRR (Z + 2) (Z + 3) h3 _ _ ys (LCg.fr_but F' hk3 (neN (by (first | lia | omega))) (above _ (by (first | lia | omega)))) N3 (fun p hp => ltN (by have := hnZ p hp; (first | lia | omega))) (hoC.ns (hk3 _ _ (by simp) (N' (Z + 3, oC) (.tail _ (.tail _ (.head _)))).1)) (above _ (by (first | lia | omega))) (neN (by (first | lia | omega))) (neN (by (first | lia | omega)))
          (fun p hp => neN (by have := hnZ p hp; (first | lia | omega))) hyl hJ'
    · rcases List.mem_cons.mp hp with rfl | hp
      · exact ⟨stI, neN (by (first | lia | omega)), above _ (by (first | lia | omega))⟩
      rcases List.mem_cons.mp hp with rfl | hp
      · exact ⟨gT, neN (by (first | lia | omega)), above _ (by (first | lia | omega))⟩
      rcases List.mem_cons.mp hp with rfl | hp
      · exact ⟨geC, neN (by (first | lia | omega)), above _ (by (first | lia | omega))⟩
      rcases List.mem_cons.mp hp with rfl | hp
      · exact ⟨gD, neN (by (first | lia | omega)), above _ (by (first | lia | omega))⟩
      · exact ⟨up2 _ _ (up1 _ _ (N p hp).1), (N p hp).2⟩
  exact codeAny_compStart_list (loop _ rfl) (wpAny_pyIter_rangeiter stI (loop _ rfl))
end
end Mine
end

section
-- QJ
set_option maxHeartbeats 8000000
local macro_rules | `(tactic| walk_at $_) => `(tactic| fail)
theorem Mine.anew57 : True := by w_top off; trivial
open PySem PySem.W PyProof.Rows PySem.Calls
set_option Elab.async false
set_option maxRecDepth 100000
namespace Mine
variable {w : World} {p : Program} {loose : List Str} {mean : ExcName → Option Value} {mg mb : Str → Option Value} {hb : Heap}

local macro_rules | `(tactic| walk_at $k:str) => if ["call type:range", "eval ListComp"].contains k.getString then `(tactic| apply Hold.out) else `(tactic| fail)
/-- the octets ahead of i whose heap is q -/
noncomputable def flt (b : Array UInt8) (hs : List Int) (q i : Nat) : List Int := ((List.range i).filter fun j => hs.getD j 0 == (q : Int)).map fun j => ((b.getD j 0).toNat : Int)
theorem flt_hit {b : Array UInt8} {hs : List Int} {q i : Nat} {o : UInt8} (ho : b[i]? = some o) (h : hs[i]? = some (q : Int)) : flt b hs q (i + 1) = flt b hs q i ++ [(o.toNat : Int)] := by
  unfold flt
  have e1 : hs.getD i 0 = (q : Int) := by rw [List.getD_eq_getElem?_getD, h]; rfl
  have e2 : b.getD i 0 = o := by rw [Array.getD_eq_getD_getElem?, ho]; rfl
  have e3 : [i].filter (fun j => hs.getD j 0 == (q : Int)) = [i] := by rw [List.filter_cons_of_pos (by rw [e1]; exact beq_self_eq_true _), List.filter_nil]
  rw [List.range_succ, List.filter_append, List.map_append, e3, List.map_singleton, e2]
theorem flt_miss {b : Array UInt8} {hs : List Int} {q i : Nat} {d : Int} (h : hs[i]? = some d) (hd : d ≠ (q : Int)) : flt b hs q (i + 1) = flt b hs q i := by
  unfold flt
  have e1 : hs.getD i 0 = d := by rw [List.getD_eq_getElem?_getD, h]; rfl
  have e3 : [i].filter (fun j => hs.getD j 0 == (q : Int)) = [] := by rw [List.filter_cons_of_neg (by rw [e1]; simpa using hd), List.filter_nil]
  rw [List.range_succ, List.filter_append, List.map_append, e3, List.map_nil, List.append_nil]
/-- the sums of the heaps ahead of k -/
noncomputable def sumsZ (b : Array UInt8) (hs : List Int) (k : Nat) : List Int := (List.range k).map fun q => (flt b hs q b.size).sum
/-- behind line 136 -/
inductive StL (h₀ : Heap) (L : Addr) (h : Heap) : Prop
  | mk (Sd Hd c86 c79 : Addr) (sv hv : List Value) (hs : List Int) (b : Array UInt8) (wd tw tn tb tc : Nat) (u : Str → Option Value) (oH oW oA oR oS o86 o79 : Obj)
    (p0 : Fr h₀ L h (mp [("width", .int (wd : Int) tw), ("copies", .int ((geo (2 ^ (wd * b.size)) (b.size + 1) : Nat) : Int) tc), ("sums", .ref Sd)] u)) (p1 : News h₀ L h [(Sd, LCg.lst sv), (Hd, LCg.lst hv), (c86, o86), (c79, o79), (L + 1 + 1 + 1 + 1 + 1, oH), (L + 1 + 1 + 1 + 1, oW), (L + 1 + 1 + 1, oA), (L + 1 + 1, oR), (L + 1, oS), (86, tf86 c86), (79, tf79 c79)]) (p2 : CodeObj o86 q86) (p3 : CodeObj o79 q79) (p4 : IntsAre hv hs) (p5 : hs.length = b.size) (p6 : (∀ d ∈ hs, 0 ≤ d ∧ d ≤ b.size)) (p7 : IntsAre sv (sumsZ b hs (b.size + 1))) (p8 : oH.data = .cell (some (.ref Hd))) (p9 : oR.data = .cell (some (.bytes b tb))) (p10 : oS.data = .cell (some (.int (b.size : Int) tn))) (p11 : (@LT.lt Nat _ (L + 1 + 1 + 1 + 1 + 1) c86 ∧ @LT.lt Nat _ (L + 1 + 1 + 1 + 1 + 1) c79)) (p12 : (b.size = 4 ∨ b.size = 6 ∨ b.size = 8)) (p13 : 12 ≤ wd) (p14 : wd ≤ 41) : StL h₀ L h
set_option maxHeartbeats 8000000 in
theorem law_i {st : List Stmt} {scope : Scope} (hsyn : stm 13 = some (st, scope)) {h₀ h : Heap} {s : Shared} {L : Addr} {tk : Nat}
    (X' : (hd.heap_39 w.params).In h₀) (T' : Top p loose mean mg mb h₀) (hlt : @LT.lt Nat _ 86 L ∧ @LT.lt Nat _ 79 L) (S : StK h₀ L h) :
    wpAny (model prg w) ((AN 301).deeper (envOfC "law" scope L 124 (.ref 123))) (execs st (envOfC "law" scope L 124 (.ref 123)))
      (fun f s' => f = .next ∧ Hold (∃ h' tk', s' = { s with heap := h', toks := tk' } ∧ StL h₀ L h')) (fun _ _ => False) { s with heap := h, toks := tk } := by
  obtain ⟨Hd, c86, c79, hv, hs, b, wd, tw, tn, tb, tc, u, oH, oW, oA, oR, oS, o86, o79, F', N', cd86, cd79, hi, hlen, hhs, dH, dR, dS, lX, hN, hw1, hw2⟩ := S
  cases (show some _ = some _ from hsyn)
  have KX : (hd.heap_39 w.params).In h₀ ∧ PySem.Challenge.rw_we0015_01 = PySem.Challenge.rw_we0015_01 := by k_fill; exact ⟨X', rfl⟩
  have hz1 : 4 ≤ b.size := sz1 hN
  have hz2 : b.size ≤ 8 := sz2 hN
  have hN' : Hold (b.size = 4 ∨ b.size = 6 ∨ b.size = 8) := hN
  clear hN
  refine wpAny_execs_cons ?_
  k_unmd
  k_fold
  refine assign_comp (by with_unfolding_all rfl) (by with_unfolding_all rfl) (by rfl) (by decide) ?_
  k_steps
  refine Hold.in ?_
  have e1 : (b.size : Int) + 1 = ((b.size + 1 : Nat) : Int) := by push_cast; rfl
  rw [e1]
  refine comp_cell (n := b.size + 1) rfl F' N' (by (first | lia | omega)) (by rfl) (fun _ _ => rfl) (fun _ => rfl) (fun _ => rfl) (J := fun ys => IntsAre ys (sumsZ b hs ys.length)) .nil ?_ ?_
  · intro q tq ys I oI C oC T oT D h2 tk2 E' hq hyl hJ dT F N
    k_steps
    refine Hold.in ?_
    rw [eval_ListComp]
    refine wpAny_comprehension_free (use := none) rfl (by intro _; rfl) (by with_unfolding_all rfl) (by rfl) (by decide) ?_
    dsimp only [firstIter]
    k_steps
    refine Hold.in ?_
    refine comp_zip (hv := hv.toArray) (b := b) rfl F N (.tail _ (.tail _ (.tail _ (.tail _ (.head _))))) (by rw [List.size_toArray, hi.length, hlen]) (by (first | lia | omega)) (by decide) rfl (by rfl) (by rfl) (by decide) (J := fun i xs => IntsAre xs (flt b hs q i)) .nil ?_ ?_
    · intro i o x t xs C2 oC2 D2 m2 h3 tk3 E2 ho hx hJ2 hoC2 ha hc F3 N3
      obtain ⟨d, td, rfl, hdi⟩ := IntsAre.at hi i x (by simpa using hx)
      k_steps
      · have heq : d = (q : Int) := by first | assumption | (first | lia | omega)
        rw [flt_hit ho (heq ▸ hdi)]
        exact IntsAre.append hJ2 (.cons _ _ .nil)
      · rename_i hne
        rw [flt_miss hdi hne]
        exact hJ2
    · intro D2 C2 h3 tk3 m' xs F3 N3 off hn hC₀ hCL hCD offC hJ2
      refine comp_end F3 N3 hn hC₀ hCL hCD offC fun h4 F4 N4 => ?_
      k_lt off
      clear F3 N3 F N
      k_steps
      · assumption
      · rename_i F5 N5
        exact fun p hp => N5 p (.tail _ hp)
      · rw [List.length_append, List.length_singleton]
        unfold sumsZ
        rw [List.range_succ, List.map_append]
        exact IntsAre.append hJ (hyl ▸ .cons _ _ .nil)
  · intro D C h3 tk3 m' ys F3 N3 off hn hC₀ hCL hCD offC hyl hJ
    refine comp_end_as (by rfl) (by rfl) rfl F3 N3 hn hC₀ hCL hCD offC fun h4 tk4 _ F N => ?_
    k_lt off
    rw [hyl] at hJ
    k_steps
    refine Hold.in ?_
    exact ⟨h4, _, rfl, D, Hd, c86, c79, ys, hv, hs, b, wd, tw, tn, tb, tc, _, oH, oW, oA, oR, oS, o86, o79, frm F ⟨rfl, rfl, rfl, trivial⟩, N, cd86, cd79, hi, hlen, hhs, hJ, dH, dR, dS, ⟨lX.2.1, lX.2.2⟩, hN', hw1, hw2⟩
end Mine
end

section
-- QK
set_option maxHeartbeats 8000000
theorem Mine.anew58 : True := by w_top off; trivial
open PySem PySem.W PyProof.Rows PySem.Calls
set_option Elab.async false
set_option maxRecDepth 100000
namespace Mine
variable {w : World} {p : Program} {loose : List Str} {mean : ExcName → Option Value} {mg mb : Str → Option Value} {hb : Heap}

theorem hit_flt {b : Array UInt8} {hs : List Int} {q : Nat} (hh : ∀ d ∈ hs, 0 ≤ d) : ∀ k, k ≤ b.size → k ≤ hs.length → ((hit (fun j => (rowL b).getD j 0) (fun j => (hs.getD j 0).toNat) q k : Nat) : Int) = (flt b hs q k).sum
  | 0, _, _ => rfl
  | k + 1, h1, h2 => by
    have ih := hit_flt (b := b) (q := q) hh k (Nat.le_of_succ_le h1) (Nat.le_of_succ_le h2)
    have h0 := getD_nonneg (i := k) hh
    have hk : hs[k]? = some (hs.getD k 0) := by rw [List.getD_eq_getElem?_getD, List.getElem?_eq_getElem (by (first | lia | omega))]; rfl
    have hb : b[k]? = some (b.getD k 0) := by rw [Array.getD_eq_getD_getElem?, Array.getElem?_eq_getElem (by (first | lia | omega))]; rfl
    rw [hit]
    by_cases e : hs.getD k 0 = (q : Int)
    · have e2 : (hs.getD k 0).toNat = q := by (first | lia | omega)
      rw [if_pos e2, flt_hit hb (e ▸ hk), List.sum_append, ← ih, row_at]
      simp
    · have e2 : ¬ (hs.getD k 0).toNat = q := by (first | lia | omega)
      rw [if_neg e2, flt_miss hk e, ← ih, Nat.add_zero]
theorem sums_heaps {b : Array UInt8} {hs : List Int} (hh : ∀ d ∈ hs, 0 ≤ d) (hl : hs.length = b.size) : sumsL b hs = sumsZ b hs (b.size + 1) := by
  apply List.ext_getElem?
  intro q
  unfold sumsL sumsZ
  by_cases hq : q < b.size + 1
  · have h1 := sumsI_getD (row := fun j => (rowL b).getD j 0) (t := fun j => (hs.getD j 0).toNat) hq b.size
    have hlen : q < (sumsI (fun j => (rowL b).getD j 0) (fun j => (hs.getD j 0).toNat) (b.size + 1) b.size).length := by rw [sumsI_length]; exact hq
    rw [List.getD_eq_getElem?_getD, List.getElem?_eq_getElem hlen] at h1
    simp only [Option.getD_some] at h1
    rw [List.getElem?_map, List.getElem?_map, List.getElem?_eq_getElem hlen, h1, List.getElem?_range hq, Option.map_some, Option.map_some, hit_flt hh _ (Nat.le_refl _) (by (first | lia | omega))]
  · rw [List.getElem?_eq_none (by rw [List.length_map, sumsI_length]; (first | lia | omega)), List.getElem?_eq_none (by simp; (first | lia | omega))]
set_option maxHeartbeats 8000000 in
theorem law_j {st : List Stmt} {scope : Scope} (hsyn : stm 14 = some (st, scope)) (G : Gnd w p loose mean mg mb hb) {h₀ h : Heap} (SB : Sub hb h₀) {s : Shared} {L : Addr} {tk : Nat}
    (X' : (hd.heap_39 w.params).In h₀) (T' : Top p loose mean mg mb h₀) (hlt : @LT.lt Nat _ 86 L ∧ @LT.lt Nat _ 79 L) (S : StL h₀ L h) :
    wpAny (model prg w) ((AN 301).deeper (envOfC "law" scope L 124 (.ref 123))) (execs st (envOfC "law" scope L 124 (.ref 123)))
      (fun f s' => f = .ret (.bool true) ∧ Hold (∃ h' tk' c79 c86, s' = { s with heap := h', toks := tk' } ∧ Sub h₀ h' ∧ Tab79 h' c79 ∧ Tab86 h' c86)) (fun _ _ => False) { s with heap := h, toks := tk } := by
  obtain ⟨Sd, Hd, c86, c79, sv, hv, hs, b, wd, tw, tn, tb, tc, u, oH, oW, oA, oR, oS, o86, o79, F', N', cd86, cd79, hi, hlen, hhs, hsv, dH, dR, dS, lX, hN, hw1, hw2⟩ := S
  cases (show some _ = some _ from hsyn)
  have KX : (hd.heap_39 w.params).In h₀ ∧ PySem.Challenge.rw_we0015_01 = PySem.Challenge.rw_we0015_01 := by k_fill; exact ⟨X', rfl⟩
  have hz1 : 4 ≤ b.size := sz1 hN
  have hz2 : b.size ≤ 8 := sz2 hN
  clear hN
  refine wpAny_execs_cons ?_
  k_unmd
  k_fold
  k_steps
  refine Hold.in ?_
  have h0 : ∀ d ∈ hs, 0 ≤ d := fun d hd => (hhs d hd).1
  have hat : ∀ j, j < b.size → 0 ≤ hs.getD j 0 ∧ hs.getD j 0 ≤ b.size := fun j hj => by
    rw [List.getD_eq_getElem?_getD, List.getElem?_eq_getElem (by (first | lia | omega))]
    exact hhs _ (List.getElem_mem _)
  obtain ⟨k0, k1, kC, kL⟩ := led_plain (b := b) (wd := wd) (ts := hs) hw1 hw2 hz2 (by (first | lia | omega)) hat rfl rfl
  refine Ret.use (c_led G (s := { heap := h, gens := s.gens, drawn := s.drawn, toks := tk, os := s.os }) (fun x o e => F'.keep _ _ (SB x o e)) b Hd hv hs _ wd tb tc tw (News.isList N' (.tail _ (.head _))) hi hlen hw1 hw2 hz2 (by (first | lia | omega)) kC _ rfl k0 k1
    (tab79_of N' (by simp) (.tail _ (.tail _ (.tail _ (.head _)))) cd79 (ne79 lX.2 hlt)) (tab86_of N' (by simp) (.tail _ (.tail _ (.head _))) cd86 (ne86 lX.1 hlt))) F' N' rfl (by exact Nat.le_of_ble_eq_true rfl) (by exact Nat.le_of_ble_eq_true rfl) ?_
  rintro v h' tk' ⟨D, vs, ep, rfl, hD, eD, hvs⟩ hs' F2 N2
  rw [kL, sums_heaps h0 hlen] at hvs
  replace N2 := fresh_cons F' N2 hD eD
  have lD := fresh_lt N' hD
  k_lt lD
  clear F' N' kL k0 k1 kC hs' hD eD
  k_steps
  exact Hold.in ⟨h', _, c79, c86, rfl, F2.keep, tab79_of N2 (by simp) (.tail _ (.tail _ (.tail _ (.tail _ (.head _))))) cd79 (ne79 lX.2 hlt), tab86_of N2 (by simp) (.tail _ (.tail _ (.tail _ (.head _)))) cd86 (ne86 lX.1 hlt)⟩
end Mine
end

section
-- PZ
set_option maxHeartbeats 8000000
open PySem PySem.W PyProof.Rows PySem.Calls
set_option Elab.async false
set_option maxRecDepth 100000
namespace Mine
/-- what the law's walk is to show -/
noncomputable def LawC : Prop := ∀ (w : World) (p : Program) (loose : List Str) (mean : ExcName → Option Value) (mg mb : Str → Option Value) (hb : Heap), Gnd w p loose mean mg mb hb → ∀ (s : Shared), Sub hb s.heap → ∀ (l : Addr) (vs : List Value) (ns : List Int), s.heap.IsList l vs.toArray → IntsAre vs ns → ns.length ≤ 63 →
    s.heap.get? 79 = some (tabObj #[]) → s.heap.get? 86 = some (tabObj #[]) →
    codeN (model prg w) (AN 301) (.call (.ref 124) ⟨[.ref l], []⟩) (fun r s' => ∃ h' tk c79 c86, r = .ok (.ret (.bool true)) ∧ s' = { s with heap := h', toks := tk } ∧
      (∀ b o, b ≠ 86 → b ≠ 79 → s.heap.get? b = some o → h'.get? b = some o) ∧ Tab79 h' c79 ∧ Tab86 h' c86) s
set_option maxHeartbeats 4000000 in
theorem join (hlaw : LawC) : PySem.Challenge.rw_we0015_01.Holds := by
  refine hd ?_
  k_fill
  intro w s₀ s₁ mg mb G Y a o pm cd doc dV kV ho hdat hcd hD hmg hg args vals as hpre hlay hrd hwl hlo
  have X0 := km_in_of Y
  have Tb := km_tabs_of Y
  have T := G.T
  have ha : mg "law" = some (.ref 124) := mg_of X0 T.g (by k_is)
  have e124 : a = 124 := by
    have h2 : mg (Str.ofString "law") = some (.ref a) := hmg
    rw [show mg (Str.ofString "law") = some (.ref 124) from ha] at h2
    cases h2; rfl
  subst e124
  wrow_args hpre hlay hrd hwl hlo
  rename_i ns hs hlay0 hLay hr hl2 a1 a2 l vs a3 hL ra w1 r0 hI hr2 hc1 hc2
  have hTabs : TabsAt [(90, 86), (83, 79)] s₁.heap := fun q hq => by
    rcases List.mem_cons.mp hq with rfl | hq
    · exact ⟨codeHd_of_K X0 (by first | rfl | kernel_rfl | k_is), Tb 86 (.head _)⟩
    · rw [List.mem_singleton.mp hq]
      exact ⟨codeHd_of_K X0 (by first | rfl | kernel_rfl | k_is), Tb 79 (.tail _ (.head _))⟩
  have good : ∀ h' tk, OldK s₁.heap h' → GoodWG PySem.Challenge.rw_we0015_01.row.claim (classAt s₀.heap) (ExcName.means s₀.heap) [ofPy (PyData.list (List.map PyData.int ns))] s₁ (.ok (.ret (.bool true))) { s₁ with heap := h', toks := tk } := fun h' tk hk =>
    ⟨.inl ⟨.bool true, .bool true, [], rfl, fun _ => rfl, .bool true, by first | rfl | kernel_rfl | with_unfolding_all rfl | trace_state, fun _ => ⟨List.nodup_nil, fun _ h => nomatch h⟩⟩, hk, rfl, .of_eq hg⟩
  have CA := ghost_code hTabs
  have GG : Gnd w topProg _ _ mg mb (ghostOf s₁.heap [(90, 86), (83, 79)]) := ⟨ghost_K hTabs X0 (by first | rfl | kernel_rfl), ghost_top hTabs T, hideAll_none _ (.head _), hideAll_none _ (.tail _ (.head _)), CA.1, CA.2.1⟩
  refine ⟨good s₁.heap s₁.toks ?_, weakN (A := AN 301) (wpN_call (codeN_mono (hlaw w _ _ _ mg mb _ GG s₁ (fun b o e => of_hideAll _ e) l vs ns hL hI (by (first | lia | omega)) (Tb 79 (.tail _ (.head _))) (Tb 86 (.head _))) fun r s' hr => ?_)) rfl (by decide +kernel) (by decide +kernel) rfl rfl⟩
  · exact ⟨fun b o e => .inl e, fun b o e => ⟨o, e⟩⟩
  · obtain ⟨h', tk, c79, c86, rfl, rfl, hk, t79, t86⟩ := hr
    refine good h' tk ⟨fun b o e => ?_, fun b o e => ?_⟩
    · by_cases h1 : b = 86
      · subst h1
        have e2 := Tb 86 (.head _)
        rw [e] at e2
        obtain rfl := Option.some.inj e2
        exact .inr (.inl ⟨((hTabs (90, 86) (.head _)).1.tab (hTabs (90, 86) (.head _)).2).isCodeTable, rfl, #[], _, rfl, by rw [Array.empty_append]; exact t86.1⟩)
      · by_cases h2 : b = 79
        · subst h2
          have e2 := Tb 79 (.tail _ (.head _))
          rw [e] at e2
          obtain rfl := Option.some.inj e2
          exact .inr (.inl ⟨((hTabs (83, 79) (.tail _ (.head _))).1.tab (hTabs (83, 79) (.tail _ (.head _))).2).isCodeTable, rfl, #[], _, rfl, by rw [Array.empty_append]; exact t79.1⟩)
        · exact .inl (hk b o h1 h2 e)
    · by_cases h1 : b = 86
      · subst h1; exact ⟨_, t86.1⟩
      · by_cases h2 : b = 79
        · subst h2; exact ⟨_, t79.1⟩
        · exact ⟨o, hk b o h1 h2 e⟩
end Mine
end

section
-- QL
set_option maxHeartbeats 8000000
open PySem PySem.W PyProof.Rows PySem.Calls
set_option Elab.async false
set_option maxRecDepth 100000
namespace Mine
variable {w : World} {p : Program} {loose : List Str} {mean : ExcName → Option Value} {mg mb : Str → Option Value} {hb : Heap}

section
variable {M : Model} {A : Around} {E : Value → Shared → Prop} {s : Shared} {env : Env} {body : List Stmt} {Q : Flow → Shared → Prop}
theorem drop_one (k : Nat) : body.drop k = (body.drop k).take 1 ++ body.drop (k + 1) := by
  have := (List.take_append_drop 1 (body.drop k)).symm
  rwa [List.drop_drop] at this
/-- one statement, then the rest -/
theorem stepN (k : Nat) {h : Heap} {tk : Nat} {St : Heap → Nat → Prop}
    (h1 : wpN M A (execs ((body.drop k).take 1) env) (fun f s' => f = .next ∧ ∃ h' tk', s' = { s with heap := h', toks := tk' } ∧ St h' tk') E { s with heap := h, toks := tk })
    (h2 : ∀ h' tk', St h' tk' → wpN M A (execs (body.drop (k + 1)) env) Q E { s with heap := h', toks := tk' }) : wpN M A (execs (body.drop k) env) Q E { s with heap := h, toks := tk } := by
  rw [drop_one k]
  refine wpN_execs_appendN (wpN_mono h1 (fun f s' h' => ?_) fun _ _ e => e)
  obtain ⟨rfl, h', tk', rfl, hs⟩ := h'
  exact h2 h' tk' hs
theorem stepA (k : Nat) {h : Heap} {tk : Nat} {St : Heap → Nat → Prop}
    (h1 : wpAny M A (execs ((body.drop k).take 1) env) (fun f s' => f = .next ∧ ∃ h' tk', s' = { s with heap := h', toks := tk' } ∧ St h' tk') E { s with heap := h, toks := tk })
    (h2 : ∀ h' tk', St h' tk' → wpN M A (execs (body.drop (k + 1)) env) Q E { s with heap := h', toks := tk' }) : wpN M A (execs (body.drop k) env) Q E { s with heap := h, toks := tk } := stepN k (wpN_of h1) h2
end
theorem law_body {pp : Arguments} {body : List Stmt} {scope : Scope} (hsyn : prg.theDef "law" = some (pp, body, scope)) (G : Gnd w p loose mean mg mb hb) {h₀ h : Heap} (SB : Sub hb h₀) {s : Shared} {L : Addr} {tk : Nat} {l : Addr} {vs : List Value} {ns : List Int} {u : Str → Option Value} {oH oW oA oR oS : Obj}
    (X' : (hd.heap_39 w.params).In h₀) (T' : Top p loose mean mg mb h₀)
    (F' : Fr h₀ L h (mp [("script", .ref l)] u)) (N' : News h₀ L h [(L + 1 + 1 + 1 + 1 + 1, oH), (L + 1 + 1 + 1 + 1, oW), (L + 1 + 1 + 1, oA), (L + 1 + 1, oR), (L + 1, oS), (86, tabObj #[]), (79, tabObj #[])])
    (dH : oH.data = .cell none) (dW : oW.data = .cell none) (dA : oA.data = .cell none) (dR : oR.data = .cell none) (dS : oS.data = .cell none) (hlt : 86 < L ∧ 79 < L)
    (hl : h₀.IsList l vs.toArray) (hi : IntsAre vs ns) (hlen : ns.length ≤ 63) :
    wpN (model prg w) ((AN 301).deeper (envOfC "law" scope L 124 (.ref 123))) (execs body (envOfC "law" scope L 124 (.ref 123)))
      (fun f s' => f = .ret (.bool true) ∧ ∃ h' tk' c79 c86, s' = { s with heap := h', toks := tk' } ∧ Sub h₀ h' ∧ Tab79 h' c79 ∧ Tab86 h' c86) (fun _ _ => False) { s with heap := h, toks := tk } := by
  have hbl : body.length = 15 := by cases (show some _ = some _ from hsyn); rfl
  have hl15 : body.drop 15 = [] := List.drop_of_length_le (Nat.le_of_eq hbl)
  refine wpN_execs_split 2 (wpAny_mono (law_a (hb := hb) (stm2_of hsyn (by (first | lia | omega))) X' T' F' N' dH dW dA dR dS hlt hl hi hlen) (fun f s' hr => ?_) fun _ _ e => e)
  obtain ⟨rfl, h2, tk2, rfl, Cd, cv, cs, u2, oH2, oW2, oA2, oR2, oS2, F2, N2, hi2, hlen2, hcs2, dH2, dW2, dA2, dR2, dS2, lC2⟩ := hr
  dsimp only
  clear F' N' dH dW dA dR dS hl hi hlen
  refine stepA 2 (St := fun h' _ => StB h₀ L h') (law_b1 (stm_of hsyn (by (first | lia | omega))) X' T' hlt F2 N2 hi2 hlen2 hcs2 dH2 dW2 dA2 dR2 dS2 lC2) fun h3 tk3 S3 => ?_
  obtain ⟨Cd, cv, cs, N, wd, tw, tn, u, oH, oW, oA, oR, oS, F, Ns, hi, hlen, hcs, dH, dW, dA, dR, dS, lC, hN, hw1, hw2⟩ := S3
  refine stepA 3 (St := fun h' _ => StC h₀ L h') (law_b2 (stm_of hsyn (by (first | lia | omega))) X' T' hlt F Ns hi hlen hcs dH dW dA dR dS lC hN hw1 hw2) fun h4 tk4 S4 => ?_
  obtain ⟨Cd, Dd, cv, dv, cs, dl, N, wd, tw, tn, u, oH, oW, oA, oR, oS, F, Ns, hi, hlen, hcs, hid, hd1, hd2, hd3, dH, dW, dA, dR, dS, lC, lD, hN, hw1, hw2⟩ := S4
  refine stepA 4 (St := fun h' _ => StD h₀ L h') (law_b3 (stm_of hsyn (by (first | lia | omega))) X' T' hlt F Ns hi hlen hcs dH dW dA dR dS lC lD hid hd1 hd2 hd3 (by (first | lia | omega)) (by (first | lia | omega)) hN hw1 hw2) fun h5 tk5 S5 => ?_
  obtain ⟨Cd, Dd, cv, dv, cs, dl, b, wd, tw, tn, tb, u, oH, oW, oA, oR, oS, F, Ns, hi, hlen, hcs, hid, hd1, hd2, hd3, dH, dW, dA, dR, dS, lC, lD, hN, hw1, hw2⟩ := S5
  refine stepA 5 (St := fun h' _ => StE h₀ L b b (rangeKs 0 b.size) h') (law_b4 (stm_of hsyn (by (first | lia | omega))) X' T' hlt F Ns hi hlen hcs hid hd1 hd2 dH dW dA dR dS lC lD hd3 (by (first | lia | omega)) (by (first | lia | omega)) hN hw1 hw2) fun h6 tk6 S6 => ?_
  refine stepN 6 (St := fun h' tk' => StG h₀ L h' tk') (law_c (stm_of hsyn (by (first | lia | omega))) G SB X' T' hlt S6) fun h7 tk7 S7 => ?_
  refine stepA 7 (St := fun h' tk' => StH h₀ L h' tk') (with_tk (law_d (stm_of hsyn (by (first | lia | omega))) G SB X' T' hlt S7)) fun h8 tk8 S8 => ?_
  refine stepA 8 (St := fun h' tk' => StH h₀ L h' tk') (with_tk (law_e1 (stm_of hsyn (by (first | lia | omega))) X' T' S8)) fun h9 tk9 S9 => ?_
  refine stepA 9 (St := fun h' tk' => StH h₀ L h' tk') (with_tk (law_e2 (stm_of hsyn (by (first | lia | omega))) G SB X' T' hlt S9)) fun h10 tk10 S10 => ?_
  refine stepA 10 (St := fun h' _ => StI h₀ L h') (law_f (stm_of hsyn (by (first | lia | omega))) G SB X' T' hlt S10) fun h11 tk11 S11 => ?_
  refine stepA 11 (St := fun h' _ => StJ h₀ L h') (law_g (stm_of hsyn (by (first | lia | omega))) G SB X' T' hlt S11) fun h12 tk12 S12 => ?_
  refine stepA 12 (St := fun h' _ => StK h₀ L h') (law_h (stm_of hsyn (by (first | lia | omega))) X' T' hlt S12) fun h13 tk13 S13 => ?_
  refine stepA 13 (St := fun h' _ => StL h₀ L h') (law_i (stm_of hsyn (by (first | lia | omega))) X' T' hlt S13) fun h14 tk14 S14 => ?_
  rw [drop_one 14, hl15, List.append_nil]
  exact wpN_of (law_j (stm_of hsyn (by (first | lia | omega))) G SB X' T' hlt S14)
set_option maxHeartbeats 8000000 in
theorem c_law : LawC := by
  intro w p loose mean mg mb hb G s SB l vs ns hl hi hlen h79 h86
  have KX : (hd.heap_39 w.params).In hb ∧ PySem.Challenge.rw_we0015_01 = PySem.Challenge.rw_we0015_01 := by k_fill; exact ⟨G.K, rfl⟩
  refine enterNC [(86, tabObj #[]), (79, tabObj #[])] [("script", .ref l)] G SB (by k_is) (by k_is) (by decide) rfl (by rfl) (by decide) rfl rfl rfl
    (fun q hq => by rcases List.mem_cons.mp hq with rfl | hq; exact h86; rw [List.mem_singleton.mp hq]; exact h79) (fun q hq => by rcases List.mem_cons.mp hq with rfl | hq; exact G.n86; rw [List.mem_singleton.mp hq]; exact G.n79) ?_
  intro h₀ h₁ L tk cells gb X' T' F' N' Y hL hlt
  k_cells Y
  simp only [List.cons_append, List.nil_append] at N'
  k_lt hlt
  have hl0 : h₀.IsList l vs.toArray := gb.list hl fun q hq => by
    rcases List.mem_cons.mp hq with rfl | hq
    · exact tab_ne hl h86
    · rw [List.mem_singleton.mp hq]; exact tab_ne hl h79
  rename_i o1 o2 o3 o4 o5 d1 d2 d3 d4 d5
  refine wpN_mono (law_body (s := s) rfl G gb.sub X' T' (frm (l := [("script", .ref l)]) F' ⟨rfl, trivial⟩) N' d1 d2 d3 d4 d5 hlt hl0 hi hlen) (fun f s' hr => ?_) fun _ _ e => e
  obtain ⟨rfl, h', tk', c79, c86, rfl, hk, t79, t86⟩ := hr
  refine ⟨h', tk', c79, c86, rfl, rfl, fun b o n86 n79 e => hk b o (gb.new b o e fun q hq => ?_), t79, t86⟩
  rcases List.mem_cons.mp hq with rfl | hq
  · exact n86
  · rw [List.mem_singleton.mp hq]; exact n79
theorem all_holds : PySem.Challenge.rw_we0015_01.Holds := join c_law
end Mine
end

theorem PySem.Challenge.cw_we0015_01_holds : PySem.Challenge.rw_we0015_01.Holds :=
  Mine.join Mine.c_law
