import PyProof.Rows.All
import Wide.All
import OpenK.AllK
import Wide.FinOn
import Lean
import PySem.Challenge.RW_fe0370_01
set_option Elab.async false
set_option linter.all false

section
open PySem PySem.W PyProof.Rows PySem.Calls
set_option maxRecDepth 100000
namespace Mine
/-- what a quoter is made of -/
structure Par where
  may : List Nat
  kept : List Nat
  query : Bool
  again : Bool
def hexD (up : Bool) (d : Nat) : Nat := if d < 10 then 48 + d else (if up then 55 else 87) + d
def hexUp (n : Nat) : List Nat := [37, hexD true (n / 16), hexD true (n % 16)]
def isHex (c : Nat) : Bool := (48 ≤ c && c ≤ 57) || (97 ≤ c && c ≤ 102) || (65 ≤ c && c ≤ 70)
def hexVal (c : Nat) : Nat := if c ≤ 57 then c - 48 else if c ≤ 70 then c - 55 else c - 87
def upHex (c : Nat) : Nat := if 97 ≤ c then c - 32 else c
def octets (c : Nat) : List Nat :=
  if c < 128 then [c]
  else if c < 2048 then [192 + c / 64, 128 + c % 64]
  else if c < 65536 then [224 + c / 4096, 128 + c / 64 % 64, 128 + c % 64]
  else [240 + c / 262144, 128 + c / 4096 % 64, 128 + c / 64 % 64, 128 + c % 64]
def dec (p : Par) (a b : Nat) : List Nat :=
  if p.may.contains (16 * hexVal a + hexVal b) && !p.kept.contains (16 * hexVal a + hexVal b) then [16 * hexVal a + hexVal b] else [37, upHex a, upHex b]
def oneW (p : Par) (c : Nat) : List Nat :=
  if c = 32 ∧ p.query = true then [43] else if p.may.contains c then [c] else (octets c).flatMap hexUp
/-- the plain reading, sign by sign -/
def W (p : Par) : List Nat → List Nat
  | [] => []
  | c :: r =>
    if c = 37 ∧ p.again = true then
      match r with
      | a :: b :: r' => if isHex a && isHex b then dec p a b ++ W p r' else [37, 50, 53] ++ W p (a :: b :: r')
      | [a] => [37, 50, 53] ++ W p [a]
      | [] => [37, 50, 53]
    else oneW p c ++ W p r
termination_by l => l.length
abbrev scalar (c : Nat) : Prop := c < 1114112 ∧ ¬ (55296 ≤ c ∧ c ≤ 57343)
end Mine
end

section
open PySem PySem.W PyProof.Rows PySem.Calls
open Sem (wp)
set_option maxRecDepth 100000
namespace Mine
/-- the codes under which a bytearray counts as lent -/
def isExp : Code → Bool
  | .builtin id _ => Builtin.Bytes.decodersThatHold.contains id || (["bytearray.__contains__", "bytearray.__mod__", "bytearray.__rmod__", "_struct.pack_into.held", "bytearray.find.held"] : List String).contains id
  | _ => false
theorem isExp_builtin (id : String) (args : Args) : isExp (.builtin id args) = (Builtin.Bytes.decodersThatHold.contains id || (["bytearray.__contains__", "bytearray.__mod__", "bytearray.__rmod__", "_struct.pack_into.held", "bytearray.find.held"] : List String).contains id) := rfl
def clean (l : List (Code × Pos)) : Bool := l.all fun x => !isExp x.1
/-- as wpAny, but under stacks that hold no lending code -/
def wpS {α : Type} (M : Model) (A : Around) (t : Sem α) (Q : α → Shared → Prop) (E : Value → Shared → Prop) (s : Shared) : Prop :=
  ∀ Γ p, Γ.In A → isExp Γ.code = false → clean Γ.below = true → wp M Γ t (fun a _ s' => Q a s') (fun e _ s' => E e s') p s
def codeS (M : Model) (A : Around) (c : Code) (R : Result → Shared → Prop) (s : Shared) : Prop :=
  ∀ Γ p, Γ.code = c → Γ.Below A → clean Γ.below = true → wpCode M Γ R p s
section
variable {α β : Type} {M : Model} {A : Around} {E : Value → Shared → Prop} {s : Shared}
theorem S_any {t : Sem α} {Q : α → Shared → Prop} (h : wpAny M A t Q E s) : wpS M A t Q E s := fun Γ p hΓ _ _ => h Γ p hΓ
theorem S_mono {t : Sem α} {Q Q' : α → Shared → Prop} {E' : Value → Shared → Prop} (h : wpS M A t Q E s) (hQ : ∀ a s, Q a s → Q' a s) (hE : ∀ e s, E e s → E' e s) : wpS M A t Q' E' s :=
  fun Γ p h1 h2 h3 => Sem.wp_mono M Γ t (fun a _ s => hQ a s) (fun e _ s => hE e s) p s (h Γ p h1 h2 h3)
theorem S_bind {m : Sem α} {f : α → Sem β} {Q : β → Shared → Prop} (h : wpS M A m (fun a s' => wpS M A (f a) Q E s') E s) : wpS M A (m >>= f) Q E s := fun Γ p h1 h2 h3 => by
  rw [Sem.wp_bind']
  exact Sem.wp_mono M Γ m (fun a p' s' h' => h' Γ p' h1 h2 h3) (fun _ _ _ h' => h') p s (h Γ p h1 h2 h3)
theorem S_bindA {m : Sem α} {f : α → Sem β} {Q : β → Shared → Prop} (h : wpAny M A m (fun a s' => wpS M A (f a) Q E s') E s) : wpS M A (m >>= f) Q E s := S_bind (S_any h)
theorem S_pure {a : α} {Q : α → Shared → Prop} (h : Q a s) : wpS M A (pure a) Q E s := fun _ _ _ _ _ => h
theorem S_holding {vs : List Value} {m : Sem α} {Q : α → Shared → Prop} (h : wpS M A m Q E s) : wpS M A (holding vs m) Q E s := fun Γ p h1 h2 h3 => by
  rw [Sem.wp_holding]; exact h Γ p h1 h2 h3
theorem S_onRaise {m : Sem α} {k : Value → Sem Unit} {Q : α → Shared → Prop} (h : wpS M A m Q (fun e s' => wpAny M A (k e) (fun _ s'' => E e s'') E s') s) : wpS M A (m.onRaise k) Q E s := fun Γ p h1 h2 h3 => by
  rw [Sem.wp_onRaise]
  exact Sem.wp_mono M Γ m (fun _ _ _ h' => h') (fun e p' s' h' => h' Γ p' h1) p s (h Γ p h1 h2 h3)
theorem S_run {c : Code} {h : Option Value} {Q : Flow → Shared → Prop} (hc : codeS M (A.mark h) c (fun r s' => match r with | .ok f => Q f s' | .error e => E e s') s) (hnb : h ≠ some byPass := by intro x; cases x) : wpS M A (run c h) Q E s :=
  fun Γ p h1 h2 h3 => by
    rw [Sem.wp_run]
    refine hc _ p rfl (h1.enter c h p hnb) ?_
    show (((Γ.code, p) :: Γ.below).all fun x => !isExp x.1) = true
    rw [List.all_cons, h2]
    exact h3
theorem S_runValue {c : Code} {Q : Value → Shared → Prop} (hc : codeS M A c (fun r s' => match r with | .ok (.ret v) => Q v s' | .ok _ => False | .error e => E e s') s) : wpS M A (runValue c) Q E s :=
  fun Γ p h1 h2 h3 => by
    rw [Sem.wp_runValue]
    refine hc _ p rfl (h1.enter c none p (by intro x; cases x)) ?_
    show (((Γ.code, p) :: Γ.below).all fun x => !isExp x.1) = true
    rw [List.all_cons, h2]
    exact h3
theorem S_call {f : Value} {pos : List Value} {kw : List (Str × Value)} {Q : Value → Shared → Prop} (hc : codeS M A (.call f ⟨pos, kw⟩) (fun r s' => match r with | .ok (.ret v) => Q v s' | .ok _ => False | .error e => E e s') s) : wpS M A (call f pos kw) Q E s := S_runValue hc
theorem codeS_any {c : Code} {R : Result → Shared → Prop} (h : codeAny M A c R s) : codeS M A c R s := fun Γ p h1 h2 _ => h Γ p h1 h2
theorem codeS_mono {c : Code} {R R' : Result → Shared → Prop} (h : codeS M A c R s) (hR : ∀ r s, R r s → R' r s) : codeS M A c R' s := fun Γ p h1 h2 h3 => wpCode_mono hR (h Γ p h1 h2 h3)
theorem codeS_tree {c : Code} {R : Result → Shared → Prop} (hx : isExp c = false)
    (h : wpS M (A.under c) (M.den c) (fun fin s' => match fin with | .done f => R (.ok f) s' | .again c' => c'.quiet = true ∧ codeS M A c' R s') (fun e s' => R (.error e) s') s) : codeS M A c R s := fun Γ p hc hΓ hcl => by
  rw [wpCode_iff_wp, hc]
  refine Sem.wp_mono M Γ _ (fun fin p' s' h' => ?_) (fun _ _ _ h' => h') p s (h Γ p (hc ▸ hΓ.in) (by rw [hc]; exact hx) hcl)
  cases fin with
  | done f => exact h'
  | again c' => exact ⟨h'.1, h'.2 (Γ.goto c') p' rfl (hΓ.goto c') hcl⟩
theorem codeS_loop {c : Code} {R : Result → Shared → Prop} (hx : isExp c = false) (hq : c.quiet = true) (I : Nat → Shared → Prop)
    (turn : ∀ n s, I n s → wpS M (A.under c) (M.den c) (fun fin s' => match fin with | .done f => R (.ok f) s' | .again c' => c' = c ∧ ∃ m, m < n ∧ I m s') (fun e s' => R (.error e) s') s) (n : Nat) (h : I n s) : codeS M A c R s := by
  induction n using Nat.strongRecOn generalizing s with
  | ind n ih =>
    refine codeS_tree hx (S_mono (turn n s h) (fun fin s' hf => ?_) fun _ _ h' => h')
    cases fin with
    | done f => exact hf
    | again c' => obtain ⟨rfl, m, hm, hI⟩ := hf; exact ⟨hq, ih m hm hI⟩
theorem isExp_spec {v : Value} {c : Code} (h : isExp c = false) (p : Pos) : (match (c, p) with
    | (.builtin "bytearray.__contains__" ⟨v' :: _, _⟩, _) | (.builtin "bytearray.__mod__" ⟨v' :: _, _⟩, _)
    | (.builtin "bytearray.__rmod__" ⟨_ :: v' :: _, _⟩, _) | (.builtin "_struct.pack_into.held" ⟨v' :: _, _⟩, _) => Builtin.Bytes.sameRef v' v
    | (.builtin "bytearray.find.held" ⟨_ :: _ :: held, _⟩, _) => held.any (Builtin.Bytes.sameRef v)
    | (.builtin id ⟨v' :: _, _⟩, _) => Builtin.Bytes.sameRef v' v && Builtin.Bytes.decodersThatHold.contains id
    | _ => false) = false := by
  split
  · rename_i heq
    injection heq with h1 h2
    subst h1
    rw [isExp_builtin] at h
    have h9 := (Bool.or_eq_false_iff.mp h).2
    exact absurd h9 (by decide)
  · rename_i heq
    injection heq with h1 h2
    subst h1
    rw [isExp_builtin] at h
    have h9 := (Bool.or_eq_false_iff.mp h).2
    exact absurd h9 (by decide)
  · rename_i heq
    injection heq with h1 h2
    subst h1
    rw [isExp_builtin] at h
    have h9 := (Bool.or_eq_false_iff.mp h).2
    exact absurd h9 (by decide)
  · rename_i heq
    injection heq with h1 h2
    subst h1
    rw [isExp_builtin] at h
    have h9 := (Bool.or_eq_false_iff.mp h).2
    exact absurd h9 (by decide)
  · rename_i heq
    injection heq with h1 h2
    subst h1
    rw [isExp_builtin] at h
    have h9 := (Bool.or_eq_false_iff.mp h).2
    exact absurd h9 (by decide)
  · rename_i heq
    injection heq with h1 h2
    subst h1
    rw [isExp_builtin] at h
    have h' := (Bool.or_eq_false_iff.mp h).1
    rw [h', Bool.and_false]
  · rfl
theorem S_exported {v : Value} {Q : Bool → Shared → Prop} (h : Q false s) : wpS M A (Builtin.Bytes.exported v) Q E s := fun Γ p h1 h2 h3 => by
  have key : ∀ l : List (Code × Pos), clean l = true → (l.any fun
      | (.builtin "bytearray.__contains__" ⟨v' :: _, _⟩, _) | (.builtin "bytearray.__mod__" ⟨v' :: _, _⟩, _)
      | (.builtin "bytearray.__rmod__" ⟨_ :: v' :: _, _⟩, _) | (.builtin "_struct.pack_into.held" ⟨v' :: _, _⟩, _) => Builtin.Bytes.sameRef v' v
      | (.builtin "bytearray.find.held" ⟨_ :: _ :: held, _⟩, _) => held.any (Builtin.Bytes.sameRef v)
      | (.builtin id ⟨v' :: _, _⟩, _) => Builtin.Bytes.sameRef v' v && Builtin.Bytes.decodersThatHold.contains id
      | _ => false) = false := by
    intro l hl
    induction l with
    | nil => rfl
    | cons x l ih =>
      obtain ⟨c, q⟩ := x
      unfold clean at hl
      rw [List.all_cons, Bool.and_eq_true, Bool.not_eq_true'] at hl
      rw [List.any_cons, ih hl.2, Bool.or_false]
      exact isExp_spec hl.1 q
  have hall : clean ((Γ.code, p) :: Γ.below) = true := by
    unfold clean
    rw [List.all_cons, h2]
    exact h3
  show Q (((Γ.code, p) :: Γ.below).any _) s
  have e := key _ hall
  exact (congrArg (fun b => Q b s) e).mpr h
theorem S_exportsOf {a : Addr} {o : Obj} {b : Array UInt8} {Q : Nat → Shared → Prop} (ho : s.heap.get? a = some o) (hd : o.data = .bytearray b) (h : Q 0 s) : wpAny M A (Builtin.Bytes.exportsOf (.ref a)) Q E s := by
  unfold Builtin.Bytes.exportsOf
  refine wpAny_bind (wpAny_load ho ?_)
  rw [hd]
  exact wpAny_pure h
theorem S_checkResize {a : Addr} {o : Obj} {b : Array UInt8} {Q : Unit → Shared → Prop} (ho : s.heap.get? a = some o) (hd : o.data = .bytearray b) (h : Q () s) : wpS M A (Builtin.Bytes.checkResize (.ref a)) Q E s := by
  unfold Builtin.Bytes.checkResize
  refine S_bind ?_
  show wpS M A (Builtin.Bytes.exported (.ref a) >>= _) _ E s
  refine S_bind (S_exported ?_)
  show wpS M A (Builtin.Bytes.exportsOf (.ref a) >>= _) _ E s
  refine S_bindA (S_exportsOf ho hd ?_)
  exact S_pure (S_pure h)
end
end Mine
end

section
open PySem PySem.W PyProof.Rows PySem.Calls
open Sem (wp)
set_option maxRecDepth 100000
namespace Mine
/-- a thread's run from the caller's own stack -/
theorem thread_endsS {prog : Program} {w : World} {t : Sem Fin} {s : Shared} {R : Result → Shared → Prop} (hreg : s.asleep)
    (h : wpS (model prog w) callerA t (fun fin s' => ∃ f, fin = .done f ∧ (R (.ok f) s' ∧ leftWithCleanup s'.gens = false)) (fun e s' => R (.error e) s' ∧ leftWithCleanup s'.gens = false) s) :
    ∃ n r s' s'', runN (denote table) prog w n s ⟨t, .builtin "claim.caller" {}, default, []⟩ = .halted (outcomeOf r) s' ∧
      schedN (denote table) prog w n (.single s ⟨t, .builtin "claim.caller" {}, default, []⟩) = .halted (outcomeOf r) s' ∧ s'.forget = s''.forget ∧ R r s'' := by
  have h1 := h ⟨.builtin "claim.caller" {}, none, none, [], none⟩ default caller_in (by decide) rfl
  have h2 : wp (model prog w) ⟨.builtin "claim.caller" {}, none, none, [], none⟩ t
      (Sem.finPost (model prog w) ⟨.builtin "claim.caller" {}, none, none, [], none⟩ fun r s' => R r s' ∧ leftWithCleanup s'.gens = false)
      (fun e _ s' => R (.error e) s' ∧ leftWithCleanup s'.gens = false) default s :=
    Sem.wp_mono _ _ t (fun fin p' s' q => by obtain ⟨f, rfl, q⟩ := q; exact q) (fun _ _ _ q => q) _ _ h1
  obtain ⟨n, r, s₁, s₂, hs, hn, hfo, hR⟩ := wp_halts_full (M := model prog w) (R := R) hreg h2
  exact ⟨n, r, s₂, s₁, hn, hs, hfo, hR⟩

abbrev WalkS (q : Program) (loose : List Str) (XP : (Str → Option Value) → Heap → Prop) (YP : World → Heap → Prop) (r : RowW) (d : DefRec) (kwd : List (Str × Expr)) : Prop :=
  ∀ (w : World) (s₀ s₁ : Shared) (mg mb : Str → Option Value), Ground q loose r.records XP w s₀ mg mb s₁.heap → YP w s₁.heap → ∀ (a : Addr) (o : Obj) (pm cd doc dV kV : Value), s₁.heap.get? a = some o →
    o.data = .func { docDef d.name d.params d.body d.scope pm cd doc with defaults := dV, kwdefaults := kV } → s₁.heap.CodeRec cd d.name → Dflts mg s₁.heap d.params kwd dV kV → mg d.name = some (.ref a) → s₁.gens = #[] →
    ∀ (args : List WData) (vals : List Value) (as : List Addr), r.claim.pre args = true → WData.layableAll args = true → ReadsAllW r.records (classAt s₀.heap) s₁.heap vals args as → WellAll w.params s₁.heap vals args → (∀ a ∈ as, (a == sysModules) = false) →
      wpS (model r.prog w) callerA (call (.ref a) vals) (fun v s' => GoodWG r.claim (classAt s₀.heap) (ExcName.means s₀.heap) args s₁ (.ok (.ret v)) s')
        (fun e s' => GoodWG r.claim (classAt s₀.heap) (ExcName.means s₀.heap) args s₁ (.error e) s') s₁

theorem callS_from {c : ClaimW} {tree : List Value → Sem Fin} {w : World} {s : Shared} {gens : Prop} {kept : Heap → Prop} {args : List WData} {vs : List Value} {s₁ : Shared} {ord : List DictEntry → List DictEntry}
    (hz : s.asleep) (hgens : s.gens = #[]) (hlaid : layAllW c.records (classAt s.heap) w.params ord args s = some (vs, s₁))
    (h : wpS (model c.prog w) callerA (tree vs) (fun fin s' => ∃ f, fin = .done f ∧ (c.Ends s args vs s₁ (.ok f) s' ∧ s'.os = s.os ∧ AllBare s'.gens) ∧ kept s'.heap)
      (fun e s' => (c.Ends s args vs s₁ (.error e) s' ∧ s'.os = s.os ∧ AllBare s'.gens) ∧ kept s'.heap) s₁) :
    ∃ vs s₁, layAllW c.records (classAt s.heap) w.params ord args s = some (vs, s₁) ∧ ∃ n o s', schedN (denote table) c.prog w n (.single s₁ ⟨tree vs, .builtin "claim.caller" {}, default, []⟩) = .halted o s' ∧
      (∃ r, o = outcomeOf r ∧ c.Ends s args vs s₁ r s') ∧ (gens → ∀ (i : Nat) (x : GenState), s.gens[i]? = some x → s'.gens[i]? = some x) ∧ kept s'.heap ∧ s'.heap.life.seen = s.heap.life.seen ∧ s'.rest = s.rest := by
  have hal := layAllW_rest _ _ _ hlaid
  obtain ⟨k, r, s', s'', hrun, hsched, hfo, ⟨he, hos⟩, hkp⟩ := thread_endsS (R := fun r s' => (c.Ends s args vs s₁ r s' ∧ s'.os = s.os) ∧ kept s'.heap) (Shared.asleep_of_life hal.2.2.2 hz)
    (S_mono h (fun fin s' q => by obtain ⟨f, e, ⟨h1, h2, h3⟩, h4⟩ := q; exact ⟨f, e, ⟨⟨h1, h2⟩, h4⟩, leftWithCleanup_false_of_bare h3⟩)
      (fun e s' q => by obtain ⟨⟨h1, h2, h3⟩, h4⟩ := q; exact ⟨⟨⟨h1, h2⟩, h4⟩, leftWithCleanup_false_of_bare h3⟩))
  obtain ⟨eh, _, _, eo, _⟩ := Shared.forget_eq hfo
  refine ⟨vs, s₁, hlaid, k, _, s', hsched, ⟨r, rfl, he.congr eh⟩, fun _ i x hx => ?_, ?_, ?_, ?_⟩
  · rw [hgens] at hx
    simp at hx
  · rw [eh]
    exact hkp
  · rw [(runN_life _ _ _ hrun).trans hal.2.2.2]
  · exact Shared.rest_eq (eo.trans hos)

theorem PySem.W.holds_open {r : OpenRow} {q : Program} {loose : List Str} {Xt : Shared → Bool} {XP : (Str → Option Value) → Heap → Prop} {α : Type} {Yf : Shared → α} {Ya : World → α} {YP : World → Heap → Prop} {d : DefRec} {kwd : List (Str × Expr)} {N : Nat}
    (left : LeftO r.prog q loose Xt Yf Ya N) (hY : ∀ w s, Yf s = Ya w → YP w s.heap) (hYk : ∀ w h h', YP w h → (∀ b o, h.get? b = some o → h'.get? b = some o) → YP w h')
    (hX : ∀ s, Xt s = true → XP (s.heap.nsMap mainGlobals) s.heap) (hXk : ∀ mg h h', XP mg h → (∀ b o, h.get? b = some o → h'.get? b = some o) → XP mg h')
    (hdef : defOf q r.name = some (d, kwd)) (hp : r.prog.theDef r.name = some (d.params, d.body, d.scope)) (hk : kwWritten? d.params.kwonlyargs d.params.kw_defaults = some kwd) (hRf : ∀ s, Xt s = true → RecFacts r.records s.heap) (hwr : (!r.writes || r.records.isEmpty) = true)
    (k1 : r.wellSaid = true) (ok : (chainsOk q && opensWell r.prog && (frees r.toRowW && r.within.isEmpty)) = true) (hb : r.prog.bare) (hw : r.toRowW.promised)
    (call : WalkS q loose XP YP r.toRowW d kwd) : r.Holds := by
  simp only [Bool.and_eq_true] at ok
  obtain ⟨⟨hch, o1⟩, k5, k6⟩ := ok
  obtain ⟨hsame, hu, ha, hap, hm⟩ := frees_parts k5
  have hwi : r.toRowW.claim.within = [] := List.isEmpty_iff.mp k6
  refine ⟨k1, hw, ⟨hb, o1, by show r.makers.map _ = []; rw [hm]; rfl⟩, hw.witness, fun w => ?_⟩
  have beh := left.behind (XP := fun mg h => XP mg h ∧ RecFacts r.records h) (fun s hs => ⟨hX s hs, hRf s hs⟩) hch w
  refine ⟨beh.1, fun s' hs' => ?_⟩
  obtain ⟨s₀, hf, hg0, s, hT, hz, hgens, hg, G00, y⟩ := beh.2 s' hs'
  have G0 : Ground q loose [] XP w s (s.heap.nsMap mainGlobals) (s.heap.nsMap builtinsNs) s.heap := ⟨G00.T, G00.B, G00.D, G00.TE, G00.TD, G00.W, G00.X.1, G00.cls, G00.has, G00.apart, G00.once, G00.K⟩
  have RF := G00.X.2
  refine ⟨s₀, hf, hg0, s, hT, fun n hn => ?_, RF.1, RF.2.1, fun args hpre hlay ord hord => ?_⟩
  · have hn' : n = r.name := by
      cases hpin : r.pinned with
      | true => rw [hpin] at hn; exact List.mem_singleton.mp hn
      | false => rw [hpin] at hn; exact nomatch hn
    rw [hn']
    exact pinned_of_view hg G0 hdef hp hk
  · have hgens : s.gens = #[] := Array.eq_empty_of_size_eq_zero (beq_iff_eq.mp hgens)
    have G : Ground q loose r.records XP w s _ _ s.heap := RF.ground G0
    obtain ⟨⟨vs, s₁⟩, hlaid⟩ := Option.isSome_iff_exists.mp (layAllW_isSome (P := w.params) (ord := ord) G.has args r.args s (pre_splitW hpre).1)
    have keeps := layAllW_keeps _ _ _ hlaid
    have hal := layAllW_rest _ _ _ hlaid
    obtain ⟨as, hrd, hin, hold⟩ := reads_layAllW hord _ _ _ hlaid hlay s₁.heap (fun _ _ e => e)
    have L : Laid r.records w s s₁ args vs as := ⟨⟨ord, hord, hlaid⟩, hrd, hin, hold, keeps, hal.1.trans hgens, hal.2.2.1⟩
    have G₁ := G.keeps hXk keeps
    obtain ⟨a, o, pm, cd, doc, dV, kV, h1, h2, h3, h4, h5⟩ := G₁.fn hdef
    have main := call w s s₁ _ _ G₁ (hYk _ _ _ (hY w s y) keeps) a o pm cd doc dV kV h2 h3 h4 h5 (defOf_name hdef ▸ h1) L.gens args vs as hpre hlay L.reads L.well (L.low G.low)
    have fin : ∀ res s', GoodWG r.toRowW.claim (classAt s.heap) (ExcName.means s.heap) args s₁ res s' → (r.toRowW.claim.Ends s args vs s₁ res s' ∧ s'.os = s.os ∧ AllBare s'.gens) ∧
        (r.writes = true → namesKept r.prog r.keeps s.heap s'.heap ∧ ∀ x ∈ r.toRowW.claim.records, ∀ a, classAt s.heap x.1 = some a → recordClass s'.heap a x.1 (x.2.map (·.1)) = true) := fun res s' g =>
      ⟨g.laid (c := r.toRowW.claim) hsame hwi (ident_freeW hu ha hap) L, fun hq => ⟨namesKept_of hT hg r.keeps keeps g.2.1.old, noTable hwr hq⟩⟩
    obtain ⟨vs', s₁', e1, n, o', s'', e2, ⟨res, rfl, e3⟩, e4, e5, e6, e7⟩ := callS_from (c := r.toRowW.claim) (tree := fun vs => do match ← nsGet mainNs r.name with
        | some f => do ret (← PySem.call f vs)
        | none => unsupported "claim.caller:no-such-global") (gens := r.writes = false) (kept := fun h' => r.writes = true → namesKept r.prog r.keeps s.heap h' ∧ ∀ x ∈ r.toRowW.claim.records, ∀ a, classAt s.heap x.1 = some a → recordClass h' a x.1 (x.2.map (·.1)) = true) hz hgens hlaid
      (S_bindA (wpAny_nsGet G₁.T.g (by
        rw [h1]
        exact S_bind (S_mono main (fun v s' g => S_pure ⟨_, rfl, fin _ _ g⟩) fun e s' g => fin _ _ g))))
    refine ⟨vs', s₁', e1, n, _, s'', e2, ?_, e4, e5, e6, e7⟩
    rcases e3 with ⟨v, rfl, d1, d2, d3, d4, d5⟩ | ⟨e, ob, cls, rfl, d1, d2, d3, d4, d5⟩
    · exact .inl ⟨v, rfl, d1, d2, d3, fun b o y _ => d4 b o y, d5⟩
    · exact .inr ⟨e, ob, cls, rfl, d1, d2, d3, d4, fun b o y _ => d5 b o y⟩
end Mine
end

section
open PySem PySem.W PyProof.Rows
set_option maxRecDepth 100000
set_option maxHeartbeats 100000000
namespace Mine
open_top hd for PySem.Challenge.rw_fe0370_01
end Mine
end

theorem Mine.top_off : True := by
  w_top off
  trivial

section
open PySem PySem.W PyProof.Rows PySem.Calls
set_option profiler true
set_option profiler.threshold 300
set_option maxRecDepth 100000
namespace Mine.BA
theorem owner_bytearray : Manifest.owners.lookup (String.ofList ['y', 'a', 'r', 'r', 'a', 'e', 't', 'y', 'b'].reverse) = some Manifest.sig_bytearray := by kernel_rfl
theorem slot_bytearray_append : Slot "bytearray" "append" "bytearray.append" :=
  .of (owner := "bytearray") (n := "append") (by rw [typeLookup_type, builtinLookup_eq_fast]; kernel_rfl) (by decide +kernel) (by decide +kernel) (by decide +kernel)
    (by first | exact .inl (by decide +kernel) | exact .inr (by decide +kernel)) (by rw [isSubtype_type]; kernel_rfl)
theorem entry_bytearray_append : entryFor table "bytearray.append" = some Builtin.«bytearray.append» := by first | exact entryFor_of_tree (by kernel_rfl) | exact entryFor_of_fast (by kernel_rfl)
theorem args_bytearray_append_2 (a b : Value) : argsOk "bytearray.append" ⟨[a, b], []⟩ := by
  unfold argsOk; rw [signature?_of (id := "bytearray.append") (n := ['d', 'n', 'e', 'p', 'p', 'a']) (o := ['y', 'a', 'r', 'r', 'a', 'e', 't', 'y', 'b']) (by kernel_rfl) owner_bytearray]; kernel_rfl
theorem type_bytearray_append : typeOf (.builtin "bytearray.append") = pure (.type "method_descriptor") := by show builtinType _ = _; rw [builtinType_eq_fast]; kernel_rfl
theorem slot_bytearray_extend : Slot "bytearray" "extend" "bytearray.extend" :=
  .of (owner := "bytearray") (n := "extend") (by rw [typeLookup_type, builtinLookup_eq_fast]; kernel_rfl) (by decide +kernel) (by decide +kernel) (by decide +kernel)
    (by first | exact .inl (by decide +kernel) | exact .inr (by decide +kernel)) (by rw [isSubtype_type]; kernel_rfl)
theorem entry_bytearray_extend : entryFor table "bytearray.extend" = some Builtin.«bytearray.extend» := by first | exact entryFor_of_tree (by kernel_rfl) | exact entryFor_of_fast (by kernel_rfl)
theorem args_bytearray_extend_2 (a b : Value) : argsOk "bytearray.extend" ⟨[a, b], []⟩ := by
  unfold argsOk; rw [signature?_of (id := "bytearray.extend") (n := ['d', 'n', 'e', 't', 'x', 'e']) (o := ['y', 'a', 'r', 'r', 'a', 'e', 't', 'y', 'b']) (by kernel_rfl) owner_bytearray]; kernel_rfl
theorem type_bytearray_extend : typeOf (.builtin "bytearray.extend") = pure (.type "method_descriptor") := by show builtinType _ = _; rw [builtinType_eq_fast]; kernel_rfl
theorem slot_bytearray_clear : Slot "bytearray" "clear" "bytearray.clear" :=
  .of (owner := "bytearray") (n := "clear") (by rw [typeLookup_type, builtinLookup_eq_fast]; kernel_rfl) (by decide +kernel) (by decide +kernel) (by decide +kernel)
    (by first | exact .inl (by decide +kernel) | exact .inr (by decide +kernel)) (by rw [isSubtype_type]; kernel_rfl)
theorem entry_bytearray_clear : entryFor table "bytearray.clear" = some Builtin.«bytearray.clear» := by first | exact entryFor_of_tree (by kernel_rfl) | exact entryFor_of_fast (by kernel_rfl)
theorem args_bytearray_clear_1 (a : Value) : argsOk "bytearray.clear" ⟨[a], []⟩ := by
  unfold argsOk; rw [signature?_of (id := "bytearray.clear") (n := ['r', 'a', 'e', 'l', 'c']) (o := ['y', 'a', 'r', 'r', 'a', 'e', 't', 'y', 'b']) (by kernel_rfl) owner_bytearray]; kernel_rfl
theorem type_bytearray_clear : typeOf (.builtin "bytearray.clear") = pure (.type "method_descriptor") := by show builtinType _ = _; rw [builtinType_eq_fast]; kernel_rfl
theorem slot_bytearray_decode : Slot "bytearray" "decode" "bytearray.decode" :=
  .of (owner := "bytearray") (n := "decode") (by rw [typeLookup_type, builtinLookup_eq_fast]; kernel_rfl) (by decide +kernel) (by decide +kernel) (by decide +kernel)
    (by first | exact .inl (by decide +kernel) | exact .inr (by decide +kernel)) (by rw [isSubtype_type]; kernel_rfl)
theorem entry_bytearray_decode : entryFor table "bytearray.decode" = some Builtin.«bytearray.decode» := by first | exact entryFor_of_tree (by kernel_rfl) | exact entryFor_of_fast (by kernel_rfl)
theorem args_bytearray_decode_2 (a b : Value) : argsOk "bytearray.decode" ⟨[a, b], []⟩ := by
  unfold argsOk; rw [signature?_of (id := "bytearray.decode") (n := ['e', 'd', 'o', 'c', 'e', 'd']) (o := ['y', 'a', 'r', 'r', 'a', 'e', 't', 'y', 'b']) (by kernel_rfl) owner_bytearray]; kernel_rfl
theorem type_bytearray_decode : typeOf (.builtin "bytearray.decode") = pure (.type "method_descriptor") := by show builtinType _ = _; rw [builtinType_eq_fast]; kernel_rfl
theorem slot_bytearray_len : Slot "bytearray" "__len__" "bytearray.__len__" :=
  .of (owner := "bytearray") (n := "__len__") (by rw [typeLookup_type, builtinLookup_eq_fast]; kernel_rfl) (by decide +kernel) (by decide +kernel) (by decide +kernel)
    (by first | exact .inl (by decide +kernel) | exact .inr (by decide +kernel)) (by rw [isSubtype_type]; kernel_rfl)
theorem entry_bytearray_len : entryFor table "bytearray.__len__" = some Builtin.«bytearray.__len__» := by first | exact entryFor_of_tree (by kernel_rfl) | exact entryFor_of_fast (by kernel_rfl)
theorem args_bytearray_len_1 (a : Value) : argsOk "bytearray.__len__" ⟨[a], []⟩ := by
  unfold argsOk; rw [signature?_of (id := "bytearray.__len__") (n := ['_', '_', 'n', 'e', 'l', '_', '_']) (o := ['y', 'a', 'r', 'r', 'a', 'e', 't', 'y', 'b']) (by kernel_rfl) owner_bytearray]; kernel_rfl
theorem slot_bytearray_getitem : Slot "bytearray" "__getitem__" "bytearray.__getitem__" :=
  .of (owner := "bytearray") (n := "__getitem__") (by rw [typeLookup_type, builtinLookup_eq_fast]; kernel_rfl) (by decide +kernel) (by decide +kernel) (by decide +kernel)
    (by first | exact .inl (by decide +kernel) | exact .inr (by decide +kernel)) (by rw [isSubtype_type]; kernel_rfl)
theorem entry_bytearray_getitem : entryFor table "bytearray.__getitem__" = some Builtin.«bytearray.__getitem__» := by first | exact entryFor_of_tree (by kernel_rfl) | exact entryFor_of_fast (by kernel_rfl)
theorem args_bytearray_getitem_2 (a b : Value) : argsOk "bytearray.__getitem__" ⟨[a, b], []⟩ := by
  unfold argsOk; rw [signature?_of (id := "bytearray.__getitem__") (n := ['_', '_', 'm', 'e', 't', 'i', 't', 'e', 'g', '_', '_']) (o := ['y', 'a', 'r', 'r', 'a', 'e', 't', 'y', 'b']) (by kernel_rfl) owner_bytearray]; kernel_rfl
theorem plainAttrs : PlainAttrs "bytearray" :=
  ⟨⟨"bytearray.__getattribute__", by rw [typeLookup_type, builtinLookup_eq_fast]; kernel_rfl, by decide +kernel⟩, by rw [typeLookup_type, builtinLookup_eq_fast]; kernel_rfl⟩
theorem look_bytearray_bool : typeLookup (.type "bytearray") "__bool__" = pure none := by rw [typeLookup_type, builtinLookup_eq_fast]; kernel_rfl
theorem look_bytearray_buffer : typeLookup (.type "bytearray") "__buffer__" = pure (some (.builtin "bytearray.__buffer__")) := by rw [typeLookup_type, builtinLookup_eq_fast]; kernel_rfl
theorem look_bytes_buffer : typeLookup (.type "bytes") "__buffer__" = pure (some (.builtin "bytes.__buffer__")) := by rw [typeLookup_type, builtinLookup_eq_fast]; kernel_rfl
theorem look_bytearray_release_buffer : typeLookup (.type "bytearray") "__release_buffer__" = pure (some (.builtin "bytearray.__release_buffer__")) := by rw [typeLookup_type, builtinLookup_eq_fast]; kernel_rfl
theorem look_bytes_release_buffer : typeLookup (.type "bytes") "__release_buffer__" = pure none := by rw [typeLookup_type, builtinLookup_eq_fast]; kernel_rfl
end Mine.BA
end

section
open PySem PySem.W PyProof.Rows PySem.Calls
open Sem (wp)
set_option maxRecDepth 100000
namespace Mine
abbrev baObj (b : Array UInt8) : Obj := { cls := .type "bytearray", data := .bytearray b }
theorem typeIs_ba {s : Shared} {a : Addr} {b : Array UInt8} (ho : s.heap.get? a = some (baObj b)) : s.TypeIs (.ref a) "bytearray" := ⟨_, ho, rfl⟩
section
variable {prog : Program} {w : World} {A : Around} {E : Value → Shared → Prop} {s : Shared} {env : Env}
/-- a built-in called under a clean stack -/
theorem S_call_builtin {T : String} {name : Str} {id : String} {B : Builtin} {self : Value} {rest : List Value} {Q : Value → Shared → Prop} (slot : Slot T name id) (hT : s.TypeIs self T)
    (entry : entryFor table id = some B) (hargs : argsOk id ⟨self :: rest, []⟩) (hx : isExp (.builtin id ⟨self :: rest, []⟩) = false)
    (h : wpS (model prog w) A.in1 (B ⟨self :: rest, []⟩) (fun fin s' => ∃ v, fin = .done (.ret v) ∧ Q v s') E s) : wpS (model prog w) A (call (.builtin id) (self :: rest)) Q E s := by
  refine S_call (codeS_tree rfl ?_)
  show wpS _ A.in1 (do checkBuiltinCall id ⟨self :: rest, []⟩; again (.builtin id ⟨self :: rest, []⟩)) _ _ s
  refine S_bindA (slot.check _ _ _ _ _ _ _ _ hT hargs ?_)
  refine S_pure ⟨plainId_quiet slot.plain _, codeS_tree hx ?_⟩
  rw [Around.under_plainId slot.plain _]
  show wpS _ _ (match entryFor table id with | some b => b ⟨self :: rest, []⟩ | none => unsupported ((withoutEnding? id "#data").getD id)) _ _ s
  rw [entry]
  exact S_mono h (fun fin s' q => by obtain ⟨v, rfl, q⟩ := q; exact q) fun _ _ q => q
theorem S_callWith {id : String} {pos : Pos} {first : List Value} {args : List (Bool × Sem Value)} {Q : Value → Shared → Prop} (hplain : args.any (·.1) = false)
    (h : wpAny (model prog w) A (evalArgs (.builtin id) true args []) (fun a s₁ => wpS (model prog w) A (call (.builtin id) (first ++ a.pos) a.kw) Q E s₁) E s) : wpS (model prog w) A (callWith pos (.builtin id) first args []) Q E s := by
  unfold callWith
  refine S_bindA (wpAny_holding (wpAny_mono h (fun a s₁ h₁ => S_bindA (wpAny_standAt ?_)) fun _ _ x => x))
  simp only [hplain, List.any_nil, Bool.or_false]
  refine S_bindA (wpAny_pure ?_)
  exact S_bind (S_mono h₁ (fun r s₂ hr => S_any (wpAny_bind (wpAny_holding (wpAny_point (wpAny_pure hr))))) fun _ _ x => x)
theorem S_method {o : Expr} {name : Str} {apos pos : Pos} {args : List Expr} {T id : String} {Q : Value → Shared → Prop}
    (hbase : attributeBase o name env (eval o env) = eval o env)
    (hfew : methodCallForm (args.length + ([] : List Keyword).length) (backTo pos (starEach args env)) (backToKw pos (keywordEach [] env)) = true)
    (hline : (apos.endLine == pos.line) = true)
    (pa : PlainAttrs T) (slot : Slot T name id) (hty : typeOf (.builtin id) = pure (.type "method_descriptor"))
    (h : wpAny (model prog w) A (eval o env) (fun ov s₁ => s₁.TypeIs ov T ∧ (∀ a, ov = .ref a → ∃ ob, s₁.heap.get? a = some ob ∧ ob.dict = none) ∧
      wpS (model prog w) A (callWith pos (.builtin id) [ov] (backTo pos (starEach args env)) []) Q E s₁) E s) :
    wpS (model prog w) A (eval (.Call (.Attribute o name apos) args [] pos) env) Q E s := by
  rw [arm_eval_Call, hbase]
  refine S_bindA (wpAny_mono h (fun ov s₁ h₁ => ?_) fun _ _ e => e)
  obtain ⟨hT, hd, hc⟩ := h₁
  refine S_bindA (wpAny_standAt ?_)
  have hpos : methodCallPos true o env apos pos = pure pos := by unfold methodCallPos; simp [hline]
  unfold methodCall
  rw [hfew]
  refine S_bindA (wpAny_holding (getMethod_builtin hT pa slot hty hd ?_))
  exact S_bindA (wpAny_of_eq hpos hc)
theorem S_execs_cons {st : Stmt} {rest : List Stmt} {Q : Flow → Shared → Prop} (h : wpS (model prog w) A (exec st env) (fun f s' => match f with | .next => wpS (model prog w) A (execs rest env) Q E s' | f => Q f s') E s) : wpS (model prog w) A (execs (st :: rest) env) Q E s := by
  rw [execs_cons]
  refine S_bind (S_mono h (fun f s' q => ?_) fun _ _ q => q)
  cases f with
  | next => exact q
  | brk => exact S_pure q
  | cont => exact S_pure q
  | ret v => exact S_pure q
theorem S_execs_consA {st : Stmt} {rest : List Stmt} {Q : Flow → Shared → Prop} (h : wpAny (model prog w) A (exec st env) (fun f s' => match f with | .next => wpS (model prog w) A (execs rest env) Q E s' | f => Q f s') E s) : wpS (model prog w) A (execs (st :: rest) env) Q E s := S_execs_cons (S_any h)
theorem S_execs_nil {Q : Flow → Shared → Prop} (h : Q .next s) : wpS (model prog w) A (execs [] env) Q E s := S_any (wpAny_execs_nil h)
theorem S_If {test : Expr} {body orelse : List Stmt} {pos : Pos} {Q : Flow → Shared → Prop} (h : wpAny (model prog w) A (isTrue test env (eval test env)) (fun b s' => if b = true then wpS (model prog w) A (execs body env) Q E s' else wpS (model prog w) A (execs orelse env) Q E s') E s) :
    wpS (model prog w) A (exec (.If test body orelse pos) env) Q E s := by
  rw [exec_If]
  refine S_bindA (wpAny_standAt (S_bindA (wpAny_mono h (fun b s' q => ?_) fun _ _ q => q)))
  cases b with
  | true => exact q
  | false => exact q
theorem S_Expr {e : Expr} {pos : Pos} {Q : Flow → Shared → Prop} (h : wpS (model prog w) A (eval e env) (fun v s' => v = .none ∧ Q .next s') E s)
    (hi : interactive env = false := by rfl) (hs : swapsWith e none pos.line env = pure false := by rfl) : wpS (model prog w) A (exec (.Expr e pos) env) Q E s := by
  rw [exec_Expr env e pos hi hs]
  refine S_bindA (wpAny_standAt (S_bind (S_mono h (fun v s' q => ?_) fun _ _ q => q)))
  obtain ⟨rfl, q⟩ := q
  rw [dropValue_plain (by intro a e; cases e)]
  exact S_pure q
/-- `x.meth(arg)` on a bytearray, as a statement -/
theorem S_stmt1 {o argE : Expr} {name : Str} {apos pos p4 : Pos} {id : String} {Q : Flow → Shared → Prop}
    (slot : Slot "bytearray" name id) (hty : typeOf (.builtin id) = pure (.type "method_descriptor"))
    (h : wpAny (model prog w) A (eval o env) (fun ov s₁ => ∃ a b, ov = .ref a ∧ s₁.heap.get? a = some (baObj b) ∧
      wpAny (model prog w) A (eval argE env) (fun v s₂ => wpS (model prog w) A (call (.builtin id) [.ref a, v]) (fun r s' => r = .none ∧ Q .next s') E s₂) E s₁) E s)
    (hi : interactive env = false := by rfl)
    (hbase : attributeBase o name env (eval o env) = eval o env := by rfl)
    (hst : starEach [argE] env = [(false, eval argE env)] := by rfl)
    (hline : (apos.endLine == pos.line) = true := by rfl) :
    wpS (model prog w) A (exec (.Expr (.Call (.Attribute o name apos) [argE] [] pos) p4) env) Q E s := by
  refine S_Expr (S_method hbase (by rw [hst]; rfl) hline BA.plainAttrs slot hty (wpAny_mono h (fun ov s₁ q => ?_) fun _ _ q => q)) hi rfl
  obtain ⟨a, b, rfl, ho, q⟩ := q
  refine ⟨typeIs_ba ho, (fun a' e => by cases e; exact ⟨_, ho, rfl⟩), ?_⟩
  rw [hst]
  exact S_callWith rfl (evalArgs_plain (spliced_cons (wpAny_mono q (fun v s₂ q₂ => spliced_nil q₂) fun _ _ q => q)))
theorem S_stmt0 {o : Expr} {name : Str} {apos pos p4 : Pos} {id : String} {Q : Flow → Shared → Prop}
    (slot : Slot "bytearray" name id) (hty : typeOf (.builtin id) = pure (.type "method_descriptor"))
    (h : wpAny (model prog w) A (eval o env) (fun ov s₁ => ∃ a b, ov = .ref a ∧ s₁.heap.get? a = some (baObj b) ∧
      wpS (model prog w) A (call (.builtin id) [.ref a]) (fun r s' => r = .none ∧ Q .next s') E s₁) E s)
    (hi : interactive env = false := by rfl)
    (hbase : attributeBase o name env (eval o env) = eval o env := by rfl)
    (hline : (apos.endLine == pos.line) = true := by rfl) :
    wpS (model prog w) A (exec (.Expr (.Call (.Attribute o name apos) [] [] pos) p4) env) Q E s := by
  refine S_Expr (S_method hbase rfl hline BA.plainAttrs slot hty (wpAny_mono h (fun ov s₁ q => ?_) fun _ _ q => q)) hi rfl
  obtain ⟨a, b, rfl, ho, q⟩ := q
  refine ⟨typeIs_ba ho, (fun a' e => by cases e; exact ⟨_, ho, rfl⟩), ?_⟩
  exact S_callWith rfl (_root_.PySem.evalArgs_none q)
theorem pastLine_ba {b : Array UInt8} (h : b.size ≤ sizeLine) : (Data.bytearray b).pastItsLine = none := by
  show (if b.size > sizeLine then some "bytearray:memory" else none) = none
  rw [if_neg (by omega)]
theorem ba_write {M : Model} {a : Addr} {b : Array UInt8} {f : Array UInt8 → Array UInt8} {Q : Unit → Shared → Prop} (ho : s.heap.get? a = some (baObj b)) (hz : (f b).size ≤ sizeLine)
    (h : ∀ h', Heap.SameBut a s.heap h' → h'.get? a = some (baObj (f b)) → Q () { s with heap := h' }) : wpAny M A (Builtin.Bytes.write (.ref a) f) Q E s := by
  unfold Builtin.Bytes.write updateBytearray
  refine wpAny_bind (wpAny_load ho ?_)
  show wpAny _ _ (update a (Obj.mapBytearray f) >>= fun _ => lookBehind a) _ _ _
  refine wpAny_bind (wpAny_update ho ?_)
  have h2 : (s.heap.update a (Obj.mapBytearray f)).get? a = some (baObj (f b)) := Heap.get?_update_self (Obj.mapBytearray f) ho rfl
  exact wpAny_lookBehind h2 (pastLine_ba hz) (h _ (Heap.SameBut.update ..) h2)
theorem S_append {a : Addr} {b : Array UInt8} {n : Int} {t : Tok} {Q : Value → Shared → Prop} (ho : s.heap.get? a = some (baObj b)) (h0 : 0 ≤ n) (h1 : n < 256) (hz : b.size < sizeLine)
    (h : ∀ h', Heap.SameBut a s.heap h' → h'.get? a = some (baObj (b.push n.toNat.toUInt8)) → Q .none { s with heap := h' }) :
    wpS (model prog w) A (call (.builtin "bytearray.append") [.ref a, .int n t]) Q E s := by
  refine S_call_builtin BA.slot_bytearray_append (typeIs_ba ho) BA.entry_bytearray_append (BA.args_bytearray_append_2 _ _) (by rw [isExp_builtin]; decide) ?_
  unfold Builtin.«bytearray.append»
  refine S_bindA (wpAny_of_eq (a := (.ref a, .int n t)) rfl ?_)
  refine S_bindA ?_
  · unfold Builtin.Bytes.byteValue
    refine wpAny_bind (wpAny_of_eq (a := n) rfl ?_)
    refine bm_if_false (by simp only [Bool.or_eq_false_iff, decide_eq_false_iff_not]; omega) ?_
    refine wpAny_pure ?_
    refine S_bind (S_checkResize ho rfl ?_)
    refine S_bindA (ba_write ho (by rw [Array.size_push]; omega) fun h' hs hg => ?_)
    exact S_pure ⟨_, rfl, h h' hs hg⟩
theorem S_clear {a : Addr} {b : Array UInt8} {Q : Value → Shared → Prop} (ho : s.heap.get? a = some (baObj b))
    (h : ∀ h', Heap.SameBut a s.heap h' → h'.get? a = some (baObj #[]) → Q .none { s with heap := h' }) :
    wpS (model prog w) A (call (.builtin "bytearray.clear") [.ref a]) Q E s := by
  refine S_call_builtin BA.slot_bytearray_clear (typeIs_ba ho) BA.entry_bytearray_clear (BA.args_bytearray_clear_1 _) (by rw [isExp_builtin]; decide) ?_
  unfold Builtin.«bytearray.clear»
  refine S_bindA (wpAny_of_eq (a := .ref a) rfl ?_)
  have hp : ∀ {Q : Array UInt8 → Shared → Prop}, Q b s → wpAny (model prog w) A.in1 (Builtin.Bytes.payload (.ref a)) Q E s := fun q => by
    unfold Builtin.Bytes.payload Builtin.Bytes.payload?
    exact wpAny_bind (wpAny_bind (wpAny_load ho (wpAny_pure (wpAny_pure q))))
  refine S_bindA (hp ?_)
  have fin : wpS (model prog w) A.in1 (do Builtin.Bytes.write (.ref a) fun _ => #[]; ret .none) (fun fin s' => ∃ v, fin = .done (.ret v) ∧ Q v s') E s := by
    refine S_bindA (ba_write ho (by show (0 : Nat) ≤ _; exact Nat.zero_le _) fun h' hs hg => ?_)
    exact S_pure ⟨_, rfl, h h' hs hg⟩
  cases hb : b.isEmpty with
  | true => exact fin
  | false => exact S_bind (S_checkResize ho rfl fin)
end
end Mine
end

section
open PySem PySem.W PyProof.Rows PySem.Calls
open Sem (wp)
set_option maxRecDepth 100000
namespace Mine
section
variable {prog : Program} {w : World} {A : Around} {E : Value → Shared → Prop} {s : Shared} {env : Env}
theorem S_While {test : Expr} {body : List Stmt} {pos : Pos} {Q : Flow → Shared → Prop} (I : Nat → Shared → Prop)
    (turn : ∀ n s, I n s → wpAny (model prog w) A (isTrue test env (eval test env)) (fun b s₂ =>
        if b = true then wpS (model prog w) A (execs body env) (fun f s₃ => match f with
            | .next | .cont => ∃ m, m < n ∧ I m s₃
            | .brk => Q .next s₃
            | .ret v => Q (.ret v) s₃) (fun _ _ => False) s₂
        else Q .next s₂) (fun _ _ => False) s)
    (n : Nat) (h : I n s) : wpS (model prog w) A (exec (.While test body [] pos) env) Q E s := by
  rw [exec_While]
  refine S_bindA (wpAny_standAt ?_)
  unfold runOwn
  refine S_onRaise (S_run ?_)
  refine codeS_loop (c := .whileLoop test body [] env) rfl rfl I (fun n s hI => ?_) n h
  show wpS _ A ((whileTurn test body [] env).onRaise (fun x => do noteFrame x env; theTreesLotGoes x)) _ _ s
  refine S_mono (E := fun _ s' => False) (S_onRaise ?_) (fun _ _ q => q) fun _ _ q => q.elim
  refine S_mono (E := fun _ _ => False) ?_ (fun _ _ q => q) fun _ _ q => q.elim
  simp only [whileTurn]
  refine S_bindA (wpAny_mono (turn n s hI) (fun b s₂ h₂ => ?_) fun _ _ q => q)
  cases b with
  | false =>
    simp only [Bool.false_eq_true, if_false] at h₂ ⊢
    exact S_bindA (wpAny_execs_nil (S_pure h₂))
  | true =>
    simp only [if_true] at h₂ ⊢
    refine S_bind (S_mono h₂ (fun f s₃ h₃ => ?_) fun _ _ q => q)
    cases f with
    | next => exact S_pure ⟨rfl, h₃⟩
    | cont => exact S_pure ⟨rfl, h₃⟩
    | brk => exact S_pure h₃
    | ret v => exact S_pure h₃
theorem codeS_func {body : List Stmt} {R : Result → Shared → Prop} (h : wpS (model prog w) (A.deeper env) (execs body env) (fun f s' => R (.ok (.ret (match f with | .ret v => v | _ => .none))) s') (fun _ _ => False) s) :
    codeS (model prog w) A (.func body env) R s := by
  refine codeS_tree rfl ?_
  show wpS _ (A.deeper env) (do point; match ← (execs body env).onRaise (leaving env) with | .ret v => ret v | _ => ret .none) _ _ s
  refine S_bindA (wpAny_point (S_bind (S_onRaise (S_mono h (fun f s' h' => ?_) fun _ _ q => q.elim))))
  cases f <;> exact S_pure h'
theorem callAny_fn {a : Addr} {args : Args} {o : Obj} {fd : FuncData} {body : List Stmt} {Q : Fin → Shared → Prop} (hroom : A.depth < recursionLimit) (ho : s.heap.get? a = some o)
    (hd : o.data = .func fd) (hco : fd.scope.isCoroutine = false) (hgen : fd.scope.isGenerator = false) (hbody : fd.body = .stmts body) (hcd : s.heap.CodeRec fd.code fd.qualname)
    (h : wpAny (model prog w) A.in1 (bindArgs fd args) (fun binds s₁ => wpAny (model prog w) A.in1 (newFunctionEnv fd.scope fd.globals fd.closure binds (fd.qualname ++ ".<locals>.") (some a) fd.code none fd.builtins)
        (fun env s₂ => s₂.heap.NoLimit ∧ Q (.again (.func body env)) s₂) E s₁) E s) : wpAny (model prog w) A.in1 (callAny (.ref a) args) Q E s := by
  simp only [callAny]
  refine wpAny_bind (wpAny_load ho ?_)
  obtain ⟨c, oc, vs, tq, hc, hoc, hdc, hq⟩ := hcd
  simp only [hd, callFunction, hco, hgen, hbody, hc]
  rw [hc] at h
  refine wpAny_bind (m := field (.ref c) 1) (wpAny_field hoc hdc hq (wpAny_bind (wpAny_pure ?_)))
  exact wpAny_bind (wpAny_mono h (fun binds s₁ h₁ => wpAny_bind (wpAny_mono h₁ (fun env s₂ h₂ => wpAny_bind (wpAny_enterFrame h₂.1 hroom (wpAny_pure h₂.2))) fun _ _ h' => h')) fun _ _ h' => h')
end
section
variable {prog : Program} {w : World} {A₀ A : Around} {s : Shared} {base h₀ : Heap} {outer : List Env} {L : Addr} {m : Str → Option Value} {env : Env} {news : List (Addr × Obj)} {K : Frag} {p : Program} {loose : List Str} {mean : ExcName → Option Value} {mg mb : Str → Option Value}
  {R : Result → Shared → Prop} {name qual : Str} {params : Arguments} {body : List Stmt} {scope : Scope} {dV kV doc pm cdv ct oc : Value} {an od : Option Addr} {osl : Array (Option Value)} {f : Addr} {args : Args} {binds : List (Str × Value)}
/-- a def of the text's (no cells) called under a clean stack -/
theorem S_code_def (B : Below A₀ base outer h₀) (F : Fr h₀ L s.heap m) (X₀ : K.In h₀) (N : News h₀ L s.heap news) (T : Top p loose mean mg mb h₀) (hA : A.frames = some (env :: outer)) (hf : env.frame = some L) (hke : env.scope.kind = .function)
    (ho : K.lookup f = some ⟨oc, od, .func (fnOf name qual params body scope dV kV doc pm an cdv ct), osl⟩) (hcd : codeIn K cdv qual = true) (hroom : A.depth < recursionLimit)
    (hbind : BindsTo s (fnOf name qual params body scope dV kV doc pm an cdv ct) args binds) (hloc : ∀ y ∈ binds, scope.names.lookup y.1 = some .local)
    (h : ∀ g L' h₁, Fr h₀ L g m → Fr g L' h₁ (fun y => binds.reverse.lookup y) → News g L' h₁ news → Below A base (env :: outer) g → K.In g → Top p loose mean mg mb g →
      wpS (model prog w) (A.deeper (envOf qual scope L' f cdv)) (execs body (envOf qual scope L' f cdv))
        (fun fl s' => LeaveK h₀ L m g R (match fl with | .ret v => v | _ => .none) s') (fun _ _ => False)
        { s with heap := h₁, toks := s.toks + binds.length })
    (hco : scope.isCoroutine = false) (hgen : scope.isGenerator = false) (hk : scope.kind = .function)
    (hcell : ∀ x ∈ scope.names, x.2 ≠ .cell) : codeS (model prog w) A (.call (.ref f) args) R s := by
  obtain ⟨FG, BG, st, lv⟩ := groundX (R := R) B F N hA hf hke
  have hsf := (X₀.keeps F.keep) _ _ ho
  refine codeS_tree rfl (S_any ?_)
  show wpAny _ A.in1 (callAny (.ref f) args) _ _ s
  refine callAny_fn hroom hsf rfl hco hgen rfl (codeRec_of (X₀.keeps F.keep) hcd) (hbind _ _ _ _ ?_)
  refine wpAny_newFunctionEnv hcell hloc (fun h₁ hns hsb => ⟨(T.nolimit.keeps F.keep).fresh _ hsb, rfl, codeS_func ?_⟩) hk
  have hk₁ : ∀ b o, s.heap.get? b = some o → h₁.get? b = some o := fun b o e => hsb.extBut b o (Nat.ne_of_lt (Heap.lt_size e)) (Heap.get?_push_of_some _ e)
  exact S_mono (h _ s.heap.objs.size h₁ FG ⟨hns, fun b o e => hk₁ b o (of_hideAll _ e), Nat.le_of_eq (hideAll_size _ _)⟩
    (fun p hp => ⟨hk₁ _ _ (N p hp).1, Nat.ne_of_lt (Heap.lt_size (N p hp).1), hideAll_none _ (List.mem_map_of_mem hp)⟩) BG (X₀.keeps st) (T.keeps st)) (fun fl s' hl => lv _ _ hl) fun _ _ y => y
end
end Mine
end

section
open PySem PySem.W PyProof.Rows PySem.Calls
open Sem (wp)
set_option maxRecDepth 100000
namespace Mine
section
variable {prog : Program} {w : World} {M : Model} {A : Around} {E : Value → Shared → Prop} {s : Shared} {env : Env}
theorem ba_payload {a : Addr} {b : Array UInt8} {Q : Array UInt8 → Shared → Prop} (ho : s.heap.get? a = some (baObj b)) (h : Q b s) : wpAny M A (Builtin.Bytes.payload (.ref a)) Q E s := by
  unfold Builtin.Bytes.payload Builtin.Bytes.payload?
  exact wpAny_bind (wpAny_bind (wpAny_load ho (wpAny_pure (wpAny_pure h))))
theorem ba_slotIsOwn {a : Addr} {b : Array UInt8} {name id : String} {Q : Bool → Shared → Prop} (ho : s.heap.get? a = some (baObj b)) (hl : typeLookup (.type "bytearray") (name : Str) = pure (some (.builtin id)))
    (h1 : id.endsWith ("." ++ name) = true) (h2 : id.dropRight (name.length + 1) = "bytearray") (h : Q true s) : wpAny M A (Builtin.Bytes.slotIsOwn (.ref a) name) Q E s := by
  unfold Builtin.Bytes.slotIsOwn
  refine wpAny_bind (wpAny_specialOf (typeIs_ba ho) hl ?_)
  show wpAny _ _ (if (!id.endsWith ("." ++ name)) = true then _ else _) _ _ _
  rw [h1]
  show wpAny _ _ (isInstance (.ref a) (.type (id.dropRight (name.length + 1)))) _ _ _
  rw [h2]
  exact wpAny_isInstance (typeIs_ba ho) (by rw [isSubtype_type]; kernel_rfl) h
theorem ba_own_buffer {a : Addr} {b : Array UInt8} {Q : Bool → Shared → Prop} (ho : s.heap.get? a = some (baObj b)) (h : Q true s) : wpAny M A (Builtin.Bytes.slotIsOwn (.ref a) "__buffer__") Q E s :=
  ba_slotIsOwn ho BA.look_bytearray_buffer (by decide +kernel) (by decide +kernel) h
theorem ba_own_release {a : Addr} {b : Array UInt8} {Q : Bool → Shared → Prop} (ho : s.heap.get? a = some (baObj b)) (h : Q false s) : wpAny M A (Builtin.Bytes.ownRelease (.ref a)) Q E s := by
  unfold Builtin.Bytes.ownRelease
  exact wpAny_bind (ba_slotIsOwn ho BA.look_bytearray_release_buffer (by decide +kernel) (by decide +kernel) (wpAny_pure h))
theorem ba_buffer {a : Addr} {b : Array UInt8} {id : String} {full : Bool} {Q : Option (Array UInt8) → Shared → Prop} (ho : s.heap.get? a = some (baObj b)) (h : Q (some b) s) : wpAny M A (Builtin.Bytes.buffer? id (.ref a) full) Q E s := by
  unfold Builtin.Bytes.buffer?
  refine wpAny_bind (wpAny_specialOf (typeIs_ba ho) BA.look_bytearray_buffer ?_)
  refine wpAny_bind (ba_own_buffer ho ?_)
  refine bm_if_false rfl ?_
  refine wpAny_bind (wpAny_specialOf (typeIs_ba ho) BA.look_bytearray_buffer ?_)
  refine wpAny_bind (ba_own_release ho ?_)
  refine bm_if_false rfl ?_
  exact wpAny_bind (ba_payload ho (wpAny_pure h))
theorem ba_takeQuiet {a : Addr} {b : Array UInt8} {id : String} {Q : Option (Array UInt8 × Option Value) → Shared → Prop} (ho : s.heap.get? a = some (baObj b)) (h : Q (some (b, none)) s) : wpAny M A (Builtin.Bytes.takeBufferQuiet? id (.ref a) 0) Q E s := by
  unfold Builtin.Bytes.takeBufferQuiet?
  refine wpAny_bind (wpAny_attempt ?_)
  unfold Builtin.Bytes.takeBuffer?
  refine wpAny_bind (wpAny_specialOf (typeIs_ba ho) BA.look_bytearray_buffer ?_)
  refine wpAny_bind (ba_own_buffer ho ?_)
  refine bm_if_false rfl ?_
  refine wpAny_bind (wpAny_specialOf (typeIs_ba ho) BA.look_bytearray_buffer ?_)
  exact wpAny_bind (ba_buffer ho (wpAny_pure (wpAny_pure h)))
theorem bytes_takeQuiet {b : Array UInt8} {t : Tok} {id : String} {Q : Option (Array UInt8 × Option Value) → Shared → Prop} (h : Q (some (b, none)) s) : wpAny M A (Builtin.Bytes.takeBufferQuiet? id (.bytes b t) 0) Q E s := by
  unfold Builtin.Bytes.takeBufferQuiet?
  refine wpAny_bind (wpAny_attempt ?_)
  unfold Builtin.Bytes.takeBuffer?
  refine wpAny_bind (wpAny_of_eq (KBy.special_eq KBy.look_buffer) ?_)
  refine wpAny_bind (wpAny_of_eq KBy.own_buffer ?_)
  refine bm_if_false rfl ?_
  refine wpAny_bind (wpAny_of_eq (KBy.special_eq KBy.look_buffer) ?_)
  have e : ∀ full, Builtin.Bytes.buffer? id (.bytes b t) full = pure (some b) := by
    intro full
    unfold Builtin.Bytes.buffer?
    rw [KBy.special_eq KBy.look_buffer, KBy.own_buffer, KBy.own_release]
    kernel_rfl
  exact wpAny_bind (wpAny_of_eq (e _) (wpAny_pure (wpAny_pure h)))
theorem addAtEnd_S {a : Addr} {b c : Array UInt8} {Q : Fin → Shared → Prop} (ho : s.heap.get? a = some (baObj b)) (hz : b.size + c.size ≤ sizeLine)
    (h : ∀ h', Heap.SameBut a s.heap h' → h'.get? a = some (baObj (b ++ c)) → Q (.done (.ret .none)) { s with heap := h' }) :
    wpS M A (do
      if !c.isEmpty then Builtin.Bytes.checkResize (.ref a)
      Builtin.Bytes.write (.ref a) (· ++ c)
      ret .none) Q E s := by
  have fin : wpS M A (do Builtin.Bytes.write (.ref a) (· ++ c); ret .none) Q E s :=
    S_bindA (ba_write ho (by rw [Array.size_append]; exact hz) fun h' hs hg => S_pure (h h' hs hg))
  cases hb : c.isEmpty with
  | true => exact fin
  | false => exact S_bind (S_checkResize ho rfl fin)
theorem S_extend_bytes {a : Addr} {b c : Array UInt8} {t : Tok} {Q : Value → Shared → Prop} (ho : s.heap.get? a = some (baObj b)) (hz : b.size + c.size ≤ sizeLine)
    (h : ∀ h', Heap.SameBut a s.heap h' → h'.get? a = some (baObj (b ++ c)) → Q .none { s with heap := h' }) :
    wpS (model prog w) A (call (.builtin "bytearray.extend") [.ref a, .bytes c t]) Q E s := by
  refine S_call_builtin BA.slot_bytearray_extend (typeIs_ba ho) BA.entry_bytearray_extend (BA.args_bytearray_extend_2 _ _) (by rw [isExp_builtin]; decide) ?_
  unfold Builtin.«bytearray.extend»
  refine S_bindA (wpAny_of_eq (a := (.ref a, .bytes c t)) rfl ?_)
  refine S_bindA (wpAny_of_eq (KBy.special_eq KBy.look_buffer) ?_)
  refine S_bindA (wpAny_rule ?_)
  refine S_bindA (ba_payload ho ?_)
  refine S_bindA (bytes_takeQuiet ?_)
  exact addAtEnd_S ho hz fun h' hs hg => ⟨_, rfl, h h' hs hg⟩
theorem S_extend_ba {a p : Addr} {b c : Array UInt8} {Q : Value → Shared → Prop} (ho : s.heap.get? a = some (baObj b)) (hp : s.heap.get? p = some (baObj c)) (hz : b.size + c.size ≤ sizeLine)
    (h : ∀ h', Heap.SameBut a s.heap h' → h'.get? a = some (baObj (b ++ c)) → Q .none { s with heap := h' }) :
    wpS (model prog w) A (call (.builtin "bytearray.extend") [.ref a, .ref p]) Q E s := by
  refine S_call_builtin BA.slot_bytearray_extend (typeIs_ba ho) BA.entry_bytearray_extend (BA.args_bytearray_extend_2 _ _) (by rw [isExp_builtin]; decide) ?_
  unfold Builtin.«bytearray.extend»
  refine S_bindA (wpAny_of_eq (a := (.ref a, .ref p)) rfl ?_)
  refine S_bindA (wpAny_specialOf (typeIs_ba hp) BA.look_bytearray_buffer ?_)
  refine S_bindA (wpAny_rule ?_)
  refine S_bindA (ba_payload ho ?_)
  refine S_bindA (ba_takeQuiet hp ?_)
  exact addAtEnd_S ho hz fun h' hs hg => ⟨_, rfl, h h' hs hg⟩
end
end Mine
end

section
open PySem PySem.W PyProof.Rows PySem.Calls
open Sem (wp)
set_option maxRecDepth 100000
namespace Mine
section
open Builtin Builtin._codecs
variable {prog : Program} {w : World} {M : Model} {A : Around} {E : Value → Shared → Prop} {s : Shared}
theorem range'_cons (k n : Nat) : List.range' k (n + 1) 1 = k :: List.range' (k + 1) n 1 := rfl
theorem turn0 {β : Type} {x : Nat} {l : List Nat} {b : β} {f : Nat → β → Sem (ForInStep β)} {Q : β → Shared → Prop} (h : wpAny M A (f x b) (fun r s' => match r with | .done b' => Q b' s' | .yield b' => wpAny M A (forIn l b' f) Q E s') E s) : wpAny M A (forIn (x :: l) b f) Q E s := KPc.turn h
theorem enc_narrow {id : String} {c : TextCodec} {errors : Option Str} {self : Value} {x : Str} {Q : Array UInt8 → Shared → Prop} (hg : ∀ y ∈ x.cps.toList, c.bad y = false)
    (hz : (x.cps.foldl (fun acc y => acc ++ (c.bytesOf y).toArray) #[]).size ≤ sizeLine)
    (h : Q (x.cps.foldl (fun acc y => acc ++ (c.bytesOf y).toArray) #[]) s) : wpAny M A (encodeNarrow id c errors self x) Q E s := by
  unfold encodeNarrow
  refine wpAny_bind ?_
  rw [KPc.range_list]
  have hfind : x.cps.findIdx? c.bad = none := by
    rw [Array.findIdx?_eq_none_iff]
    intro y hy
    exact hg y (by simpa using hy)
  cases hl : x.length with
  | zero =>
    have he : x.cps = #[] := Array.size_eq_zero_iff.mp (by simpa [Str.length] using hl)
    rw [he] at h
    exact wpAny_pure (wpAny_pure h)
  | succ n =>
    have hpos : 0 < x.cps.size := by have : x.cps.size = n + 1 := hl; omega
    rw [range'_cons]
    refine turn0 ?_
    dsimp only
    refine wpAny_ite (KBy.ite_no (by show ¬ (0 > sizeLine); omega) ?_)
    have h0 : x.cps[0]? = some x.cps[0] := by simp [hpos]
    rw [h0]
    dsimp only
    have hb : c.bad x.cps[0] = false := hg _ (by simp)
    refine bm_if_true (by rw [hb]; rfl) ?_
    refine wpAny_pure ?_
    have hex : x.cps.extract 0 x.cps.size = x.cps := by simp
    dsimp only
    rw [hex, hfind]
    dsimp only [Option.getD]
    rw [hex]
    cases n with
    | zero => exact wpAny_pure (wpAny_pure h)
    | succ n =>
      rw [range'_cons]
      refine turn0 ?_
      dsimp only
      refine wpAny_ite (KBy.ite_no (by omega) ?_)
      have h1 : x.cps[0 + x.cps.size]? = none := by simp
      rw [h1]
      dsimp only
      exact wpAny_pure (wpAny_pure h)

theorem for_inv {β : Type} {f : Nat → β → Sem (ForInStep β)} {Q : β → Shared → Prop} (I : Nat → β → Prop) (n k : Nat) (b : β) (hI : I k b)
    (hs : ∀ j b, k ≤ j → j < k + n → I j b → wpAny M A (f j b) (fun r s' => s' = s ∧ ∃ b', r = .yield b' ∧ I (j + 1) b') E s) (hQ : ∀ b', I (k + n) b' → Q b' s) : wpAny M A (forIn (List.range' k n 1) b f) Q E s := by
  induction n generalizing k b with
  | zero => exact wpAny_pure (hQ b hI)
  | succ n ih =>
    rw [range'_cons]
    refine turn0 (wpAny_mono (hs k b (Nat.le_refl _) (by omega) hI) (fun r s' q => ?_) fun _ _ q => q)
    obtain ⟨rfl, b', rfl, hI'⟩ := q
    exact ih (k + 1) b' hI' (fun j b h1 h2 h3 => hs j b (by omega) (by omega) h3) fun b' hb => hQ b' (by rw [show k + (n + 1) = k + 1 + n from by omega]; exact hb)
theorem dec_ascii {id : String} {b : Array UInt8} {held : List Value} {Q : Array Nat × Nat → Shared → Prop} (hb : ∀ c ∈ b.toList, c.toNat < 128) (hz : b.size ≤ sizeLine)
    (h : Q (b.map (·.toNat), b.size) s) : wpAny M A (runDecoder id asciiDecoder none true b 0 held) Q E s := by
  unfold runDecoder
  refine wpAny_bind ?_
  rw [KPc.range_list]
  refine for_inv (fun k x => x.1 = k ∧ x.2.1 = ((b.toList.take k).map (·.toNat)).toArray) b.size 0 _ ⟨rfl, rfl⟩ ?_ ?_
  · rintro j ⟨p, out, st⟩ - h2 ⟨h3, h4⟩
    dsimp only at h3 h4
    subst h3 h4
    have hlt : p < b.size := by omega
    have hc : b[p].toNat < 128 := hb _ (by simp)
    dsimp only
    refine wpAny_ite (KBy.ite_no ?_ ?_)
    · have : ((b.toList.take p).map (·.toNat)).toArray.size ≤ p := by simp [Nat.min_le_left]
      omega
    · refine wpAny_ite (KBy.ite_no (by omega) ?_)
      have hf : asciiDecoder.find true b p = .char b[p].toNat (p + 1) := by
        show (if (b.getD p 0).toNat < 128 then _ else _) = _
        have e : b.getD p 0 = b[p] := by simp [Array.getD, hlt]
        rw [e, if_pos hc]
      rw [hf]
      refine wpAny_pure ⟨rfl, _, rfl, rfl, ?_⟩
      show ((b.toList.take p).map (·.toNat)).toArray ++ [b[p].toNat].toArray = ((b.toList.take (p + 1)).map (·.toNat)).toArray
      rw [List.take_add_one]
      simp [hlt]
  · rintro ⟨p, out, st⟩ ⟨h3, h4⟩
    dsimp only at h3 h4
    refine wpAny_pure ?_
    dsimp only
    have e : out = b.map (·.toNat) := by
      rw [h4, Nat.zero_add]
      have : b.toList.take b.size = b.toList := List.take_of_length_le (by rw [Array.length_toList]; exact Nat.le_refl _)
      rw [this]
      apply Array.ext'
      simp
    rw [e, h3, Nat.zero_add]
    exact h
end
end Mine
end

section
open PySem PySem.W PyProof.Rows PySem.Calls
open Sem (wp)
set_option maxRecDepth 100000
namespace Mine
section
open Builtin Builtin._codecs
variable {prog : Program} {w : World} {M : Model} {A : Around} {E : Value → Shared → Prop} {s : Shared}
theorem road8 {id : String} {self : Value} {x : Str} : encodeRoad id self x (Str.ofString "utf-8") none = (encodeNarrow id utf8Codec none self x >>= fun b => mkBytes b) := by kernel_rfl
theorem roadA {id : String} {self : Value} {x : Str} : encodeRoad id self x (Str.ofString "ascii") none = (encodeNarrow id asciiCodec none self x >>= fun b => mkBytes b) := by kernel_rfl
theorem enc_entry8 (x : Str) (t u : Tok) : «str.encode» ⟨[.str x t, .str (Str.ofString "utf-8") u], []⟩ = (encodeRoad "str.encode" (.str x t) x (Str.ofString "utf-8") none >>= fun v => ret v) := by kernel_rfl
theorem enc_entryA (x : Str) (t u : Tok) : «str.encode» ⟨[.str x t, .str (Str.ofString "ascii") u], []⟩ = (encodeRoad "str.encode" (.str x t) x (Str.ofString "ascii") none >>= fun v => ret v) := by kernel_rfl
def utf8B (x : Str) : Array UInt8 := x.cps.foldl (fun acc y => acc ++ (Str.utf8Of y).toArray) #[]
def asciiB (x : Str) : Array UInt8 := x.cps.foldl (fun acc y => acc ++ [y.toUInt8].toArray) #[]
theorem str_encode8 {x : Str} {t u : Tok} {Q : Value → Shared → Prop} (hg : ∀ y ∈ x.cps.toList, Str.isSurrogate y = false) (hz : (utf8B x).size ≤ sizeLine) (h : ∀ t k, Q (.bytes (utf8B x) t) { s with toks := k }) :
    wpAny (model prog w) A (call (.builtin "str.encode") [.str x t, .str (Str.ofString "utf-8") u]) Q E s := by
  refine wpAny_call_entry F.slot_str_encode (typeIs_str s x t) F.entry_str_encode ?_ (F.args_str_encode_2 _ _)
  rw [enc_entry8, road8]
  refine wpAny_bind (wpAny_bind (enc_narrow (c := utf8Codec) hg hz ?_))
  exact wpAny_mkBytes (wpAny_pure ⟨_, rfl, h _ _⟩) hz
theorem str_encodeA {x : Str} {t u : Tok} {Q : Value → Shared → Prop} (hg : ∀ y ∈ x.cps.toList, y < 128) (hz : (asciiB x).size ≤ sizeLine) (h : ∀ t k, Q (.bytes (asciiB x) t) { s with toks := k }) :
    wpAny (model prog w) A (call (.builtin "str.encode") [.str x t, .str (Str.ofString "ascii") u]) Q E s := by
  refine wpAny_call_entry F.slot_str_encode (typeIs_str s x t) F.entry_str_encode ?_ (F.args_str_encode_2 _ _)
  rw [enc_entryA, roadA]
  refine wpAny_bind (wpAny_bind (enc_narrow (c := asciiCodec) (fun y hy => decide_eq_false (by have := hg y hy; omega)) hz ?_))
  exact wpAny_mkBytes (wpAny_pure ⟨_, rfl, h _ _⟩) hz
theorem roadD {id : String} {b : Array UInt8} {held : List Value} : decodeRoad id b (Str.ofString "ascii") none held = (runDecoder id asciiDecoder none true b 0 held >>= fun r => mkStr ⟨r.1⟩) := by kernel_rfl
theorem dec_text_ba {a : Addr} {b : Array UInt8} {t1 t2 : Tok} {d : Str} {Q : Value → Shared → Prop} (ho : s.heap.get? a = some (baObj b)) (hb : ∀ c ∈ b.toList, c.toNat < 128) (hz : b.size ≤ sizeLine)
    (h : ∀ t k, Q (.str ⟨b.map (·.toNat)⟩ t) { s with toks := k }) :
    wpAny (model prog w) A (call (.builtin "_codecs.decode.text") [.ref a, .str (Str.ofString "ascii") t1, .none, .str d t2]) Q E s := by
  refine Calls.call_function_entry KBd.kind_text KBd.plain_text KBd.entry_text (KBd.args_text _ _ _ _) ?_
  have like : ∀ {id : String} {Q : Array UInt8 → Shared → Prop}, Q b s → wpAny (model prog w) A.in1 (Bytes.bytesLike id (.ref a)) Q E s := fun q => by
    unfold Bytes.bytesLike
    exact wpAny_bind (ba_buffer ho (wpAny_pure q))
  show wpAny _ _ (Bytes.bytesLike _ (.ref a) >>= fun r => _) _ _ s
  refine wpAny_bind (like ?_)
  refine wpAny_bind ?_
  unfold dataHeld
  refine wpAny_bind (like (wpAny_pure ?_))
  show wpAny _ _ (decodeRoad _ b (Str.ofString "ascii") none [.ref a] >>= fun v => _) _ _ s
  rw [roadD]
  refine wpAny_bind (wpAny_bind (dec_ascii hb hz ?_))
  exact wpAny_mkStr (wpAny_pure ⟨_, rfl, h _ _⟩) (by show (b.map (·.toNat)).size ≤ _; rw [Array.size_map]; exact hz)
theorem ba_decode {a : Addr} {b : Array UInt8} {u : Tok} {Q : Value → Shared → Prop} (ho : s.heap.get? a = some (baObj b)) (hb : ∀ c ∈ b.toList, c.toNat < 128) (hz : b.size ≤ sizeLine)
    (h : ∀ t k, Q (.str ⟨b.map (·.toNat)⟩ t) { s with toks := k }) :
    wpAny (model prog w) A (call (.builtin "bytearray.decode") [.ref a, .str (Str.ofString "ascii") u]) Q E s := by
  refine wpAny_call_entry BA.slot_bytearray_decode (typeIs_ba ho) BA.entry_bytearray_decode ?_ (BA.args_bytearray_decode_2 _ _)
  unfold Builtin.«bytearray.decode» Bytes.decodeM
  refine wpAny_bind (wpAny_of_eq (a := [some (.str (Str.ofString "ascii") u), none]) (by kernel_rfl) ?_)
  refine wpAny_bind (wpAny_of_eq (a := ()) (by kernel_rfl) ?_)
  refine wpAny_bind (wpAny_of_eq (a := ()) rfl ?_)
  refine bm_if_true (by decide) ?_
  refine wpAny_bind (ba_own_release ho ?_)
  refine bm_if_false rfl ?_
  refine wpAny_bind (wpAny_specialOf (typeIs_ba ho) BA.look_bytearray_buffer ?_)
  refine wpAny_bind (ba_own_buffer ho ?_)
  refine bm_if_false rfl ?_
  show wpAny _ _ (Bytes.payload (.ref a) >>= fun r => _) _ _ s
  refine wpAny_bind (ba_payload ho ?_)
  cases he : b.isEmpty with
  | true =>
    refine bm_if_true rfl ?_
    have hb0 : b = #[] := Array.isEmpty_iff.mp he
    refine wpAny_bind (wpAny_rule ?_)
    refine wpAny_bind (wpAny_mkStr (wpAny_pure ⟨_, rfl, ?_⟩) (by decide))
    have := h s.toks (s.toks + 1)
    rw [hb0, show (⟨Array.map (fun x : UInt8 => x.toNat) #[]⟩ : Str) = Str.empty from by simp [Str.empty]] at this
    exact this
  | false =>
    refine bm_if_false rfl ?_
    refine wpAny_bind (wpAny_mkStr ?_ (by decide))
    refine wpAny_bind (wpAny_bind (wpAny_of_eq (a := some (Str.ofString "ascii")) rfl (wpAny_mkStr ?_ (by decide))))
    refine wpAny_bind (wpAny_pure ?_)
    refine wpAny_bind (wpAny_mkStr ?_ (by decide))
    exact wpAny_bind (dec_text_ba ho hb hz fun t k => wpAny_pure ⟨_, rfl, h t k⟩)
end
end Mine
end

section
open PySem PySem.W PyProof.Rows PySem.Calls
open Sem (wp)
set_option profiler true
set_option profiler.threshold 1000
set_option maxRecDepth 100000
namespace Mine
namespace BA
theorem mro_ba : mroOf (.type "bytearray") = pure [.type "bytearray", .type "object"] := by rw [mroOf_type]; kernel_rfl
theorem lookup_ba_new : typeLookup (.type "bytearray") "__new__" = pure (some (.builtin "bytearray.__new__")) := by rw [typeLookup_type, builtinLookup_eq_fast]; kernel_rfl
theorem slot_ba_init : Slot "bytearray" "__init__" "bytearray.__init__" :=
  .of (owner := "bytearray") (n := "__init__") (by rw [typeLookup_type, builtinLookup_eq_fast]; kernel_rfl) (by decide +kernel) (by decide +kernel) (by decide +kernel)
    (by first | exact .inl (by decide +kernel) | exact .inr (by decide +kernel)) (by rw [isSubtype_type]; kernel_rfl)
theorem sub_ba : isSubtype (.type "bytearray") (.type "bytearray") = pure true := by rw [isSubtype_type]; kernel_rfl
theorem called_ba : TypeCalled "bytearray" "bytearray.__new__" "bytearray.__init__" :=
  ⟨by decide +kernel, by decide +kernel, ⟨_, _, mro_ba⟩, madeBy_type mro_ba lookup_ba_new (by decide +kernel), by decide +kernel, sub_ba, slot_ba_init⟩
theorem typeCall_ba : checkTypeCall "bytearray" ⟨[], []⟩ = pure () := by kernel_rfl
theorem newCall_ba : checkBuiltinCall "bytearray.__new__" ⟨[.type "bytearray"], []⟩ = pure () := by kernel_rfl
theorem entry_ba_new : entryFor table "bytearray.__new__" = some Builtin.«list.__new__» := entryFor_alias (id' := "list.__new__") (by kernel_rfl) rfl (by decide +kernel) (by kernel_rfl)
theorem plain_ba_new : plainId "bytearray.__new__" = true := by decide +kernel
theorem entry_ba_init : entryFor table "bytearray.__init__" = some Builtin.«bytearray.__init__» := by first | exact entryFor_of_tree (by kernel_rfl) | exact entryFor_of_fast (by kernel_rfl)
theorem args_ba_init (a : Value) : argsOk "bytearray.__init__" ⟨[a], []⟩ := by
  unfold argsOk; rw [signature?_of (id := "bytearray.__init__") (n := ['_', '_', 't', 'i', 'n', 'i', '_', '_']) (o := ['y', 'a', 'r', 'r', 'a', 'e', 't', 'y', 'b']) (by kernel_rfl) owner_bytearray]; kernel_rfl
end BA
set_option maxRecDepth 1000000 in
set_option maxHeartbeats 4000000 in
theorem owner_ba_new : ("bytearray.__new__".splitOn ".__new__").headD "" = "bytearray" := by simp +decide [String.splitOn, String.splitOnAux]
section
variable {prog : Program} {w : World} {A : Around} {E : Value → Shared → Prop} {s : Shared}
theorem code_ba_new {Q₁ : Value → Shared → Prop} (h : Q₁ (.ref s.heap.objs.size) { s with heap := s.heap.push (baObj #[]) }) :
    codeAny (model prog w) A (.call (.builtin "bytearray.__new__") ⟨[.type "bytearray"], []⟩) (wants Q₁ E) s := by
  refine codeAny_of_tree ?_
  show wpAny _ A.in1 (do checkBuiltinCall "bytearray.__new__" ⟨[.type "bytearray"], []⟩; again (.builtin "bytearray.__new__" ⟨[.type "bytearray"], []⟩)) _ _ s
  refine wpAny_bind (wpAny_of_eq BA.newCall_ba (wpAny_pure ⟨plainId_quiet BA.plain_ba_new _, codeAny_builtin_stack BA.entry_ba_new rfl fun p st => ?_⟩))
  rw [Around.under_plainId BA.plain_ba_new _]
  have hsub := BA.sub_ba
  have hown := owner_ba_new
  obtain ⟨hp, g, d, tk, os⟩ := s
  simp only [hown]
  wp_walk
  exact h
theorem bm_S_false {α : Type} {M : Model} {c : Bool} {a b : Sem α} {Q : α → Shared → Prop} (hc : c = false) (h : wpS M A b Q E s) : wpS M A (if c = true then a else b) Q E s := by
  subst hc
  exact h
theorem S_callSpecial {M : Model} {self : Value} {T : String} {name : Str} {id : String} {args : List Value} {kw : List (Str × Value)} {Q : Option Value → Shared → Prop} (hT : s.TypeIs self T) (h : Slot T name id)
    (hc : wpS M A (call (.builtin id) (self :: args) kw) (fun v => Q (some v)) E s) : wpS M A (callSpecial? self name args kw) Q E s := by
  simp only [callSpecial?]
  refine S_bindA (wpAny_specialOf hT h.lookup ?_)
  simp only [h.bind]
  refine S_holding ?_
  refine S_bind ?_
  exact S_pure (S_bind (S_mono hc (fun v s' q => S_pure q) fun _ _ q => q))
theorem S_init {a : Addr} {b : Array UInt8} {Q : Value → Shared → Prop} (ho : s.heap.get? a = some (baObj b)) (h : ∀ h', Heap.SameBut a s.heap h' → h'.get? a = some (baObj #[]) → Q .none { s with heap := h' }) :
    wpS (model prog w) A (call (.builtin "bytearray.__init__") [.ref a]) Q E s := by
  refine S_call_builtin BA.slot_ba_init (typeIs_ba ho) BA.entry_ba_init (BA.args_ba_init _) (by rw [isExp_builtin]; decide) ?_
  unfold Builtin.«bytearray.__init__»
  refine S_bindA (ba_own_release ho ?_)
  show wpS _ _ (Builtin.Bytes.bindOptional _ _ _ [] [] >>= fun r => _) _ _ _
  refine S_bindA (wpAny_of_eq (a := [none, none, none]) (by kernel_rfl) ?_)
  refine S_bindA (wpAny_of_eq (a := ()) rfl ?_)
  refine S_bindA (wpAny_of_eq (a := ()) rfl ?_)
  refine S_bind ?_
  show wpS _ _ (Builtin.Bytes.exported (.ref a) >>= fun r => _) _ _ _
  refine S_bind (S_exported ?_)
  show wpS _ _ (Builtin.Bytes.exportsOf (.ref a) >>= fun r => _) _ _ _
  refine S_bindA (S_exportsOf ho rfl ?_)
  refine S_pure ?_
  show wpS _ _ (Builtin.Bytes.write (.ref a) (fun _ => #[]) >>= fun r => _) _ _ _
  refine S_bindA (ba_write ho (by show (0 : Nat) ≤ _; exact Nat.zero_le _) fun h' hs hg => ?_)
  exact S_bind (S_pure (S_pure ⟨_, rfl, h h' hs hg⟩))
theorem codeS_builtin {id : String} {args : Args} {b : Builtin} {R : Result → Shared → Prop} (hb : entryFor table id = some b) (hx : isExp (.builtin id args) = false)
    (h : wpS (model prog w) (A.under (.builtin id args)) (b args) (fun fin s' => match fin with | .done f => R (.ok f) s' | .again c' => c'.quiet = true ∧ codeS (model prog w) A c' R s') (fun e s' => R (.error e) s') s) :
    codeS (model prog w) A (.builtin id args) R s := by
  refine codeS_tree hx ?_
  show wpS _ _ (match entryFor table id with | some b => b args | none => unsupported ((withoutEnding? id "#data").getD id)) _ _ s
  rw [hb]
  exact h
theorem S_new {Q : Value → Shared → Prop} (h : ∀ h', h'.get? s.heap.objs.size = some (baObj #[]) → (∀ b o, s.heap.get? b = some o → h'.get? b = some o) → Q (.ref s.heap.objs.size) { s with heap := h' }) :
    wpS (model prog w) A (call (.type "bytearray") []) Q E s := by
  have ft := BA.called_ba
  have hmade := ft.made
  have hx : isExp (.builtin "type.__call__" ⟨[.type "bytearray"], []⟩) = false := by rw [isExp_builtin]; decide
  refine S_call (codeS_tree rfl ?_)
  show wpS _ _ (again (.builtin "type.__call__" ⟨[.type "bytearray"], []⟩)) _ _ _
  refine S_pure ⟨Code.quiet_builtin _ (by decide +kernel), codeS_builtin F.entry_type_call hx ?_⟩
  rw [Around.under_plain (weight_type_call_type "bytearray" [] []) (units_type_call_type "bytearray" [] [])]
  unfold Builtin.«type.__call__»
  refine bm_S_false (by decide) ?_
  dsimp only
  refine bm_S_false ft.canCreate ?_
  refine S_bindA (wpAny_of_eq BA.typeCall_ba ?_)
  refine S_bindA (wpAny_of_eq BA.mro_ba ?_)
  refine bm_S_false rfl ?_
  refine S_bindA (wpAny_of_eq hmade ?_)
  refine S_bindA (wpAny_pure ?_)
  have hnew := code_ba_new (prog := prog) (w := w) (A := A.in1) (E := fun _ _ => False) (s := s) (Q₁ := fun v s' => v = .ref s.heap.objs.size ∧ s' = { s with heap := s.heap.push (baObj #[]) }) ⟨rfl, rfl⟩
  refine S_bindA (wpAny_holding (wpAny_call (codeAny_mono hnew ?_)))
  intro r s₁ hr
  cases r with
  | error e => exact hr.elim
  | ok fl =>
    cases fl with
    | ret obj =>
      obtain ⟨rfl, rfl⟩ := hr
      have ho : (s.heap.push (baObj #[])).get? s.heap.objs.size = some (baObj #[]) := Heap.get?_push_size _ rfl
      refine S_bindA (wpAny_isInstance (T := "bytearray") (typeIs_ba ho) ft.sub ?_)
      refine bm_S_false rfl ?_
      refine S_bind (S_holding (S_callSpecial (typeIs_ba ho) BA.slot_ba_init (S_init ho fun h' hs hg => ?_)))
      refine bm_S_false rfl ?_
      refine S_pure ?_
      exact h h' hg fun b o e => (hs.2 b (Nat.ne_of_lt (Heap.lt_size e))).trans (Heap.get?_push_of_some _ e)
    | _ => exact hr.elim
end
end Mine
end

section
open PySem PySem.W PyProof.Rows PySem.Calls
open Sem (wp)
set_option maxRecDepth 100000
namespace Mine
section
variable {prog : Program} {w : World} {M : Model} {A : Around} {E : Value → Shared → Prop} {s : Shared} {value slice : PySem.Expr}
theorem ba_len_slot {a : Addr} {b : Array UInt8} {Q : Value → Shared → Prop} (ho : s.heap.get? a = some (baObj b)) (h : Q (.int (b.size : Nat) s.toks) { s with toks := s.toks + 1 }) :
    wpAny (model prog w) A (call (.builtin "bytearray.__len__") [.ref a]) Q E s := by
  refine wpAny_call_entry BA.slot_bytearray_len (typeIs_ba ho) BA.entry_bytearray_len ?_ (BA.args_bytearray_len_1 _)
  unfold Builtin.«bytearray.__len__»
  refine wpAny_bind (wpAny_of_eq (a := (.ref a, [])) rfl ?_)
  exact wpAny_bind (ba_payload ho (wpAny_bind (wpAny_mkInt (wpAny_pure ⟨_, rfl, h⟩))))
theorem ba_len {a : Addr} {b : Array UInt8} {Q : Value → Shared → Prop} (ho : s.heap.get? a = some (baObj b)) (hz : b.size ≤ 1099511627776) (h : ∀ t k, Q (.int (b.size : Nat) t) { s with toks := k }) : wpAny (model prog w) A (call (.builtin "len") [.ref a]) Q E s :=
  PyProof.Rows.call_len_slot (n := (b.size : Nat)) (typeIs_ba ho) BA.slot_bytearray_len (fun _ hq => ba_len_slot ho hq) (by omega) (by omega) (h _ _)
theorem ba_truthy {a : Addr} {b : Array UInt8} {Q : Bool → Shared → Prop} (ho : s.heap.get? a = some (baObj b)) (hz : b.size ≤ 1099511627776) (h : ∀ k, Q (!b.isEmpty) { s with toks := k }) : wpAny (model prog w) A (truthy (.ref a)) Q E s := by
  have hne : ((b.size : Int) != 0) = !b.isEmpty := by
    cases hb : b.isEmpty with
    | true => rw [Array.isEmpty_iff.mp hb]; rfl
    | false =>
      have : b.size ≠ 0 := fun e => by rw [Array.size_eq_zero_iff.mp e] at hb; cases hb
      simp [this]
  have key : wpAny (model prog w) A (runValue (.builtin "len" ⟨[.ref a], []⟩)) (fun r s' => (∃ t, r = .int (b.size : Nat) t) ∧ ∃ k, s' = { s with toks := k }) E s := by
    refine wpAny_runValue (codeAny_builtin entry_len ?_)
    rw [Around.under_plainId plain_len _]
    unfold Builtin.«len»
    refine wpAny_bind (m := oneArg "len" _) (wpAny_pure ?_)
    refine wpAny_bind (m := callSpecial? (.ref a) (Str.ofString "__len__")) (wpAny_callSpecial?_slot (name := Str.ofString "__len__") (typeIs_ba ho) BA.slot_bytearray_len (ba_len_slot ho ?_))
    refine wpAny_bind (wpAny_holding (wpAny_pure ?_))
    refine wpAny_bind (wpAny_letGo ?_)
    show wpAny _ _ (if ((b.size : Nat) : Int) < 0 then _ else _) _ _ _
    rw [if_neg (by omega)]
    show wpAny _ _ (if ((b.size : Nat) : Int) ≥ 2 ^ 63 then _ else _) _ _ _
    rw [if_neg (by omega)]
    exact wpAny_bind (wpAny_mkInt (wpAny_pure ⟨⟨_, rfl⟩, _, rfl⟩))
  unfold truthy
  refine wpAny_bind (wpAny_callSpecial?_none (name := Str.ofString "__bool__") (typeIs_ba ho) BA.look_bytearray_bool ?_)
  refine wpAny_bind (wpAny_specialOf (name := Str.ofString "__len__") (typeIs_ba ho) BA.slot_bytearray_len.lookup ?_)
  refine wpAny_bind (wpAny_mono key (fun r s' h' => ?_) fun _ _ e => e)
  obtain ⟨⟨t, rfl⟩, k, rfl⟩ := h'
  exact wpAny_pure (hne ▸ h k)
theorem ba_getItem {a : Addr} {b : Array UInt8} {i : Int} {u : Tok} {x : UInt8} {Q : Value → Shared → Prop} (ho : s.heap.get? a = some (baObj b)) (h0 : 0 ≤ i) (h1 : i < 1099511627776) (hx : b[i.toNat]? = some x)
    (h : ∀ t k, Q (.int (x.toNat : Nat) t) { s with toks := k }) : wpAny (model prog w) A (getItem (.ref a) (.int i u)) Q E s := by
  refine PyProof.Rows.getItem_slot (typeIs_ba ho) (by decide) BA.slot_bytearray_getitem ?_
  refine wpAny_call_entry BA.slot_bytearray_getitem (typeIs_ba ho) BA.entry_bytearray_getitem ?_ (BA.args_bytearray_getitem_2 _ _)
  unfold Builtin.«bytearray.__getitem__»
  refine wpAny_bind (wpAny_of_eq (a := (.ref a, [.int i u])) rfl ?_)
  refine wpAny_bind ?_
  unfold Builtin.Bytes.subscript?
  refine wpAny_bind (wpAny_specialOf (T := "int") (typeIs_int _ _ _) F.slot_int_index.lookup ?_)
  refine bm_if_false rfl ?_
  refine wpAny_bind (wpAny_of_eq (a := i) rfl ?_)
  have hfit : Builtin.Bytes.fitsIndex i = true := by
    unfold Builtin.Bytes.fitsIndex
    simp only [Bool.and_eq_true, decide_eq_true_eq]
    omega
  rw [hfit]
  refine bm_if_false rfl ?_
  refine wpAny_pure ?_
  refine wpAny_bind (ba_payload ho ?_)
  have hlt : i.toNat < b.size := by
    by_cases hh : i.toNat < b.size
    · exact hh
    · rw [Array.getElem?_eq_none (by omega)] at hx
      cases hx
  have hi : (seqIndex? i b.size).bind (b[·]?) = some x := by
    have : seqIndex? i b.size = some i.toNat := by
      unfold seqIndex?
      simp only
      first
        | (rw [if_neg (by omega)]; rw [if_pos (by omega)])
        | (split <;> split <;> first | rfl | omega | (simp; omega))
        | (simp; omega)
    rw [this]
    exact hx
  rw [hi]
  exact wpAny_bind (wpAny_mkInt (wpAny_pure ⟨_, rfl, h _ _⟩))
/-- `p[1:]` of three octets -/
theorem ba_slice1 {a sl : Addr} {x y z : UInt8} {u : Tok} {Q : Value → Shared → Prop} (ho : s.heap.get? a = some (baObj #[x, y, z])) (hsl : s.heap.IsSliceOf sl (.int 1 u) .none .none)
    (h : Q (.ref s.heap.objs.size) { s with heap := s.heap.push (baObj #[y, z]) }) : wpAny (model prog w) A (getItem (.ref a) (.ref sl)) Q E s := by
  obtain ⟨o, hos, hoc, hod⟩ := hsl
  have hT : s.TypeIs (.ref sl) "slice" := ⟨o, hos, hoc⟩
  refine PyProof.Rows.getItem_slot (typeIs_ba ho) (by decide) BA.slot_bytearray_getitem ?_
  refine wpAny_call_entry BA.slot_bytearray_getitem (typeIs_ba ho) BA.entry_bytearray_getitem ?_ (BA.args_bytearray_getitem_2 _ _)
  unfold Builtin.«bytearray.__getitem__»
  refine wpAny_bind (wpAny_of_eq (a := (.ref a, [.ref sl])) rfl ?_)
  refine wpAny_bind ?_
  unfold Builtin.Bytes.subscript?
  refine wpAny_bind (wpAny_specialOf hT slice_no_index (wpAny_pure ?_))
  refine wpAny_bind (wpAny_typeOf hT ?_)
  refine bm_if_false (by decide) ?_
  refine wpAny_bind ?_
  unfold Builtin.Bytes.sliceParts
  refine wpAny_bind (wpAny_field (x := .none) hos hod rfl ?_)
  kby_none
  refine wpAny_ite (KBy.ite_no (show ¬ ((Value.none == rawInt 0) = true) from Bool.false_ne_true) ?_)
  refine wpAny_bind (wpAny_field (x := .int 1 u) hos hod rfl ?_)
  kby_int
  refine wpAny_bind (wpAny_field (x := .none) hos hod rfl ?_)
  kby_none
  refine wpAny_pure ?_
  refine wpAny_bind (ba_payload ho ?_)
  refine wpAny_bind (wpAny_of_eq (sliceIndices_raw (some 1) none none 3 (fun e => nomatch e)) ?_)
  refine wpAny_bind ?_
  unfold Builtin.Bytes.newBytearray
  refine wpAny_newObj_type (wpAny_pure ⟨_, rfl, ?_⟩) ?_
  · exact h
  · exact Nat.le_trans (show (2 : Nat) ≤ 3 by omega) (by rw [sizeLine_eq]; decide)
end
end Mine
end

section
open PySem PySem.W PyProof.Rows PySem.Calls
open Sem (wp)
set_option maxRecDepth 100000
namespace Mine
abbrev Kp (h h' : Heap) : Prop := ∀ b o, h.get? b = some o → h'.get? b = some o
section
variable {prog : Program} {w : World} {A : Around} {s : Shared} {E : Value → Shared → Prop} {K : Frag} {p : Program} {loose : List Str} {mean : ExcName → Option Value} {mg mb : Str → Option Value}
  {R : Result → Shared → Prop} {name qual : Str} {params : Arguments} {body : List Stmt} {scope : Scope} {dV kV doc pm cdv ct oc : Value} {an od : Option Addr} {osl : Array (Option Value)} {f : Addr} {args : Args} {binds : List (Str × Value)}
theorem enter_any (X : K.In s.heap) (T : Top p loose mean mg mb s.heap) (ho : K.lookup f = some ⟨oc, od, .func (fnOf name qual params body scope dV kV doc pm an cdv ct), osl⟩) (hcd : codeIn K cdv qual = true) (hroom : A.depth < recursionLimit)
    (hbind : BindsTo s (fnOf name qual params body scope dV kV doc pm an cdv ct) args binds) (hloc : ∀ y ∈ binds, scope.names.lookup y.1 = some .local)
    (h : ∀ h₁, Fr s.heap s.heap.objs.size h₁ (fun y => binds.reverse.lookup y) →
      wpAny (model prog w) (A.deeper (envOf qual scope s.heap.objs.size f cdv)) (execs body (envOf qual scope s.heap.objs.size f cdv))
        (fun fl s' => R (.ok (.ret (match fl with | .ret v => v | _ => .none))) s') (fun _ _ => False) { s with heap := h₁, toks := s.toks + binds.length })
    (hco : scope.isCoroutine = false) (hgen : scope.isGenerator = false) (hk : scope.kind = .function) (hcell : ∀ x ∈ scope.names, x.2 ≠ .cell) : codeAny (model prog w) A (.call (.ref f) args) R s := by
  refine codeAny_call_def (fd := fnX name qual params body scope [] dV kV doc pm an cdv ct) (body := body) (binds := binds) hroom (X _ _ ho) rfl T.nolimit (codeRec_of X hcd) rfl hbind hcell hloc (fun h₁ hns hk₁ => ?_) hco hgen hk
  exact wpAny_mono (h h₁ ⟨hns, hk₁, Nat.le_refl _⟩) (fun _ _ q => q) fun _ _ q => q.elim
theorem enter_S (X : K.In s.heap) (T : Top p loose mean mg mb s.heap) (ho : K.lookup f = some ⟨oc, od, .func (fnOf name qual params body scope dV kV doc pm an cdv ct), osl⟩) (hcd : codeIn K cdv qual = true) (hroom : A.depth < recursionLimit)
    (hbind : BindsTo s (fnOf name qual params body scope dV kV doc pm an cdv ct) args binds) (hloc : ∀ y ∈ binds, scope.names.lookup y.1 = some .local)
    (h : ∀ h₁, Fr s.heap s.heap.objs.size h₁ (fun y => binds.reverse.lookup y) →
      wpS (model prog w) (A.deeper (envOf qual scope s.heap.objs.size f cdv)) (execs body (envOf qual scope s.heap.objs.size f cdv))
        (fun fl s' => R (.ok (.ret (match fl with | .ret v => v | _ => .none))) s') (fun _ _ => False) { s with heap := h₁, toks := s.toks + binds.length })
    (hco : scope.isCoroutine = false) (hgen : scope.isGenerator = false) (hk : scope.kind = .function) (hcell : ∀ x ∈ scope.names, x.2 ≠ .cell) : codeS (model prog w) A (.call (.ref f) args) R s := by
  refine codeS_tree rfl (S_any ?_)
  show wpAny _ A.in1 (callAny (.ref f) args) _ _ s
  refine callAny_fn hroom (X _ _ ho) rfl hco hgen rfl (codeRec_of X hcd) (hbind _ _ _ _ ?_)
  refine wpAny_newFunctionEnv hcell hloc (fun h₁ hns hsb => ⟨T.nolimit.fresh _ hsb, rfl, codeS_func ?_⟩) hk
  exact S_mono (h h₁ ⟨hns, (fun b o e => hsb.extBut b o (Nat.ne_of_lt (Heap.lt_size e)) (Heap.get?_push_of_some _ e)), Nat.le_refl _⟩) (fun _ _ q => q) fun _ _ y => y
theorem S_inst {x C g : Addr} {ox : Obj} {od : Option Obj} {a : Args} (X : K.In s.heap) (I : InstAt s.heap x ox C od) (hd : ox.data = .plain) (hs : findIn K (.ref C) "__call__" = some (some (.ref g))) (hf : isFn K (.ref g) = true) (hfn : fnIn K g = true)
    (hq : codeS (model prog w) A (.call (.ref g) { a with pos := .ref x :: a.pos }) R s) : codeS (model prog w) A (.call (.ref x) a) R s := by
  unfold fnIn at hfn
  split at hfn
  · rename_i e
    refine codeS_tree rfl (S_any ?_)
    show wpAny _ A.in1 (callAny (.ref x) a) _ _ _
    unfold callAny
    refine wpAny_bind (wpAny_load I.at_ ?_)
    simp only [hd]
    unfold callAny.viaDunder
    refine wpAny_bind (wpAny_bind (I.type.here ((looks_findIn X hs).here ?_)))
    dsimp only
    refine wpAny_bind ((bind_fn X (.ref x) (beq_iff_eq.mp hf)).here ?_)
    refine wpAny_bind ?_
    unfold callAny.plainCallee
    refine wpAny_bind (wpAny_load (X _ _ e) (wpAny_pure ?_))
    simp only [if_true]
    exact wpAny_pure ⟨rfl, hq⟩
  · cases hfn
end
end Mine
end

section
open PySem PySem.W PyProof.Rows PySem.Calls
open Sem (wp)
set_option maxRecDepth 100000
namespace Mine
section
variable {prog : Program} {w : World} {A : Around} {E : Value → Shared → Prop} {s : Shared} {h₀ : Heap} {L a p : Addr} {m : Str → Option Value} {news news' : List (Addr × Obj)} {b c : Array UInt8} {env : Env} {value slice : PySem.Expr}
theorem ledger_ba {o o' : Obj} (F : Fr h₀ L s.heap m) (N : News h₀ L s.heap news) (U : Upd a o o' news news') : s.heap.get? a = some o ∧ ∀ h', Heap.SameBut a s.heap h' → h'.get? a = some o' → Fr h₀ L h' m ∧ News h₀ L h' news' := by
  obtain ⟨pre, post, rfl, rfl, x, y⟩ := U.split
  have z := N (a, o) (List.mem_append.mpr (.inr (.head _)))
  exact ⟨z.1, fun h' hs ho' => ⟨F.change hs z.2.1 z.2.2, news_set N x y hs ho'⟩⟩
theorem S_append_N {n : Int} {t : Tok} {Q : Value → Shared → Prop} (F : Fr h₀ L s.heap m) (N : News h₀ L s.heap news) (U : Upd a (baObj b) (baObj (b.push n.toNat.toUInt8)) news news') (h0 : 0 ≤ n) (h1 : n < 256) (hz : b.size < sizeLine)
    (h : ∀ h', Fr h₀ L h' m → News h₀ L h' news' → Q .none { s with heap := h' }) : wpS (model prog w) A (call (.builtin "bytearray.append") [.ref a, .int n t]) Q E s := by
  obtain ⟨ho, k⟩ := ledger_ba F N U
  exact S_append ho h0 h1 hz fun h' hs hg => h h' (k h' hs hg).1 (k h' hs hg).2
theorem S_clear_N {Q : Value → Shared → Prop} (F : Fr h₀ L s.heap m) (N : News h₀ L s.heap news) (U : Upd a (baObj b) (baObj #[]) news news')
    (h : ∀ h', Fr h₀ L h' m → News h₀ L h' news' → Q .none { s with heap := h' }) : wpS (model prog w) A (call (.builtin "bytearray.clear") [.ref a]) Q E s := by
  obtain ⟨ho, k⟩ := ledger_ba F N U
  exact S_clear ho fun h' hs hg => h h' (k h' hs hg).1 (k h' hs hg).2
theorem S_extend_bytes_N {t : Tok} {Q : Value → Shared → Prop} (F : Fr h₀ L s.heap m) (N : News h₀ L s.heap news) (U : Upd a (baObj b) (baObj (b ++ c)) news news') (hz : b.size + c.size ≤ sizeLine)
    (h : ∀ h', Fr h₀ L h' m → News h₀ L h' news' → Q .none { s with heap := h' }) : wpS (model prog w) A (call (.builtin "bytearray.extend") [.ref a, .bytes c t]) Q E s := by
  obtain ⟨ho, k⟩ := ledger_ba F N U
  exact S_extend_bytes ho hz fun h' hs hg => h h' (k h' hs hg).1 (k h' hs hg).2
theorem S_extend_ba_N {Q : Value → Shared → Prop} (F : Fr h₀ L s.heap m) (N : News h₀ L s.heap news) (U : Upd a (baObj b) (baObj (b ++ c)) news news') (hm : (p, baObj c) ∈ news) (hz : b.size + c.size ≤ sizeLine)
    (h : ∀ h', Fr h₀ L h' m → News h₀ L h' news' → Q .none { s with heap := h' }) : wpS (model prog w) A (call (.builtin "bytearray.extend") [.ref a, .ref p]) Q E s := by
  obtain ⟨ho, k⟩ := ledger_ba F N U
  exact S_extend_ba ho (N _ hm).1 hz fun h' hs hg => h h' (k h' hs hg).1 (k h' hs hg).2
theorem ba_len_N {Q : Value → Shared → Prop} (N : News h₀ L s.heap news) (hm : (a, baObj b) ∈ news) (hz : b.size ≤ 1099511627776) (h : ∀ t k, Q (.int (b.size : Nat) t) { s with toks := k }) : wpAny (model prog w) A (call (.builtin "len") [.ref a]) Q E s := ba_len (N _ hm).1 hz h
theorem ba_truthy_N {Q : Bool → Shared → Prop} (N : News h₀ L s.heap news) (hm : (a, baObj b) ∈ news) (hz : b.size ≤ 1099511627776) (h : ∀ k, Q (!b.isEmpty) { s with toks := k }) : wpAny (model prog w) A (truthy (.ref a)) Q E s := ba_truthy (N _ hm).1 hz h
theorem ba_item_N {i : Int} {u : Tok} {x : UInt8} {Q : Value → Shared → Prop} (N : News h₀ L s.heap news) (hm : (a, baObj b) ∈ news) (h0 : 0 ≤ i) (h1 : i < 1099511627776) (hx : b[i.toNat]? = some x) (h : ∀ t k, Q (.int (x.toNat : Nat) t) { s with toks := k })
    (hs : subscripted slice false (.ref a) (.int i u) = operate [.ref a, .int i u] (getItem (.ref a) (.int i u)) := by with_unfolding_all rfl) :
    wpAny (model prog w) A (subscriptTail value slice (.ref a) (.int i u)) Q E s :=
  tail_any (typeIs_ba (N _ hm).1) BA.slot_bytearray_getitem.lookup (ba_getItem (N _ hm).1 h0 h1 hx h) hs
theorem ba_slice_N {x y z : UInt8} {u : Tok} {Q : Value → Shared → Prop} (F : Fr h₀ L s.heap m) (N : News h₀ L s.heap news) (hm : (a, baObj #[x, y, z]) ∈ news)
    (h : ∀ h' o, Fr h₀ L h' m → News h₀ L h' ((o, baObj #[y, z]) :: news) → (∀ q ∈ news, q.1 < o) → Q (.ref o) { s with heap := h' })
    (hs : subscripted slice false (.ref a) (.ref s.heap.objs.size) = operate [.ref s.heap.objs.size, .ref a] (getItem (.ref a) (.ref s.heap.objs.size)) := by with_unfolding_all rfl) :
    wpAny (model prog w) A (subscriptTail value slice (.ref a) (.ref s.heap.objs.size)) Q E { s with heap := s.heap.push { cls := .type "slice", data := .fields #[.int 1 u, .none, .none] } } := by
  have N1 : News h₀ L (s.heap.push { cls := .type "slice", data := .fields #[.int 1 u, .none, .none] }) news := News.pushKeep N _
  have F1 : Fr h₀ L (s.heap.push { cls := .type "slice", data := .fields #[.int 1 u, .none, .none] }) m := F.push _
  refine tail_any (typeIs_ba (N1 _ hm).1) BA.slot_bytearray_getitem.lookup (ba_slice1 (N1 _ hm).1 (Heap.IsSliceOf.new _ _ _ _) ?_) hs
  exact h _ _ (F1.push _) (N1.push F1 _) fun q hq => Heap.lt_size (N1 q hq).1
theorem S_new_N {Q : Value → Shared → Prop} (F : Fr h₀ L s.heap m) (N : News h₀ L s.heap news)
    (h : ∀ h' o, Fr h₀ L h' m → News h₀ L h' ((o, baObj #[]) :: news) → (∀ q ∈ news, q.1 < o) → Q (.ref o) { s with heap := h' }) : wpS (model prog w) A (call (.type "bytearray") []) Q E s := by
  refine S_new fun h' ho kp => h h' s.heap.objs.size (F.keeps kp) ?_ fun q hq => Heap.lt_size (N q hq).1
  intro q hq
  rcases List.mem_cons.mp hq with rfl | hq
  · refine ⟨ho, fun e => ?_, ?_⟩
    · obtain ⟨oL, _, _, hL, _⟩ := F.ns
      exact absurd (e ▸ Heap.lt_size hL) (Nat.lt_irrefl _)
    · cases hq' : h₀.get? s.heap.objs.size with
      | none => rfl
      | some o' => exact absurd (Heap.lt_size (F.keep _ _ hq')) (Nat.lt_irrefl _)
  · exact ⟨kp _ _ (N q hq).1, (N q hq).2⟩
/-- `x = bytearray()` -/
theorem S_assign_new {x : Str} {p1 p2 p3 p4 : Pos} {Q : Flow → Shared → Prop} (F : Fr h₀ L s.heap m) (N : News h₀ L s.heap news)
    (hn : ∀ {Q' : Value → Shared → Prop}, Q' (.type "bytearray") s → wpAny (model prog w) A (eval (.Name "bytearray" p1) env) Q' E s)
    (h : ∀ h' o, Fr h₀ L h' m → News h₀ L h' ((o, baObj #[]) :: news) → (∀ q ∈ news, q.1 < o) → wpAny (model prog w) A (storeName env x (.ref o)) (fun _ s' => Q .next s') E { s with heap := h' })
    (hsw : swapsWith (.Call (.Name "bytearray" p1) [] [] p2) (some (.Name x p3)) p4.line env = pure false := by rfl) :
    wpS (model prog w) A (exec (.Assign [.Name x p3] (.Call (.Name "bytearray" p1) [] [] p2) p4) env) Q E s := by
  rw [exec_Assign_Name env x p3 _ p4 hsw]
  refine S_bindA (wpAny_standAt ?_)
  refine S_bind ?_
  rw [show eval (.Call (.Name "bytearray" p1) [] [] p2) env = (eval (.Name "bytearray" p1) env >>= fun f => callWith p2 f [] (backTo p2 (starEach [] env)) (backToKw p2 (keywordEach [] env))) from rfl]
  refine S_bindA (hn ?_)
  show wpS _ _ (callWith p2 (.type "bytearray") [] [] []) _ _ _
  unfold callWith
  refine S_bindA (wpAny_holding (_root_.PySem.evalArgs_none ?_))
  refine S_bindA (wpAny_standAt ?_)
  refine S_bindA (wpAny_pure ?_)
  refine S_bind ?_
  show wpS _ _ (call (.type "bytearray") [] []) _ _ _
  refine S_new_N F N fun h' o F' N' l1 => ?_
  refine S_bindA (wpAny_holding (wpAny_point (S_pure ?_)))
  refine S_bindA (wpAny_standAt (S_bindA ?_))
  unfold bindName
  refine wpAny_bind (wpAny_holding (wpAny_point (wpAny_bind (wpAny_mono (h h' o F' N' l1) (fun _ s' q => wpAny_point (S_pure q)) fun _ _ q => q))))
end
end Mine
end

section
open PySem PySem.W PyProof.Rows PySem.Calls
open Sem (wp)
set_option maxRecDepth 100000
namespace Mine
theorem execs_app {env : Env} : ∀ (a b : List Stmt), execs (a ++ b) env = (execs a env >>= fun f => match f with | .next => execs b env | f => pure f)
  | [], b => by rw [execs_nil]; rfl
  | st :: a, b => by
    rw [List.cons_append, execs_cons, execs_cons, bind_assoc]
    congr 1
    funext f
    cases f with
    | next => exact execs_app a b
    | brk => rfl
    | cont => rfl
    | ret v => rfl
section
variable {prog : Program} {w : World} {A : Around} {E : Value → Shared → Prop} {s : Shared} {env : Env}
theorem S_cut (n : Nat) {body : List Stmt} {Q : Flow → Shared → Prop} (J : Shared → Prop)
    (h1 : wpS (model prog w) A (execs (body.take n) env) (fun f s' => match f with | .next => J s' | f => Q f s') E s)
    (h2 : ∀ s', J s' → wpS (model prog w) A (execs (body.drop n) env) Q E s') : wpS (model prog w) A (execs body env) Q E s := by
  rw [← List.take_append_drop n body, execs_app]
  refine S_bind (S_mono h1 (fun f s' q => ?_) fun _ _ q => q)
  cases f with
  | next => exact h2 s' q
  | brk => exact S_pure q
  | cont => exact S_pure q
  | ret v => exact S_pure q
/-- the same at a stack of every kind -/
theorem A_cut (n : Nat) {body : List Stmt} {Q : Flow → Shared → Prop} (J : Shared → Prop)
    (h1 : wpAny (model prog w) A (execs (body.take n) env) (fun f s' => match f with | .next => J s' | f => Q f s') E s)
    (h2 : ∀ s', J s' → wpAny (model prog w) A (execs (body.drop n) env) Q E s') : wpAny (model prog w) A (execs body env) Q E s := by
  rw [← List.take_append_drop n body, execs_app]
  refine wpAny_bind (wpAny_mono h1 (fun f s' q => ?_) fun _ _ q => q)
  cases f with
  | next => exact h2 s' q
  | brk => exact wpAny_pure q
  | cont => exact wpAny_pure q
  | ret v => exact wpAny_pure q
end
/-- a frame, what is new beside it, and what the frame's names hold -/
structure At (base : Heap) (L : Addr) (led : List (Addr × Obj)) (ps : List (Str × Value)) (s s' : Shared) : Prop where
  eq : ∃ h' tk m, s' = { s with heap := h', toks := tk } ∧ Fr base L h' m ∧ News base L h' led ∧ ∀ p ∈ ps, m p.1 = some p.2
theorem At.get {base : Heap} {L : Addr} {led : List (Addr × Obj)} {ps : List (Str × Value)} {s s' : Shared} (a : At base L led ps s s') :
    ∃ h' tk m, s' = { s with heap := h', toks := tk } ∧ Fr base L h' (kstB m ps) ∧ News base L h' led := by
  obtain ⟨h', tk, m, e, F, N, hp⟩ := a.eq
  have em : kstB m ps = m := by
    funext y
    exact kstB_eq hp fun _ => rfl
  exact ⟨h', tk, m, e, by rw [em]; exact F, N⟩
end Mine
end

section
open PySem PySem.W PyProof.Rows PySem.Calls
open Sem (wp)
set_option maxRecDepth 100000
namespace Mine
structure Less (I : Nat → Shared → Prop) (n : Nat) (s : Shared) : Prop where
  out : ∃ m, m < n ∧ I m s
section
variable {prog : Program} {w : World} {A : Around} {E : Value → Shared → Prop} {s : Shared} {env : Env}
theorem S_WhileL {test : Expr} {body : List Stmt} {pos : Pos} {Q : Flow → Shared → Prop} (I : Nat → Shared → Prop)
    (turn : ∀ n s, I n s → wpAny (model prog w) A (isTrue test env (eval test env)) (fun b s₂ =>
        if b = true then wpS (model prog w) A (execs body env) (fun f s₃ => match f with
            | .next | .cont => Less I n s₃
            | .brk => Q .next s₃
            | .ret v => Q (.ret v) s₃) (fun _ _ => False) s₂
        else Q .next s₂) (fun _ _ => False) s)
    (n : Nat) (h : I n s) : wpS (model prog w) A (exec (.While test body [] pos) env) Q E s := by
  refine S_While I (fun n s hI => wpAny_mono (turn n s hI) (fun b s₂ h₂ => ?_) fun _ _ q => q) n h
  cases b with
  | false => simpa using h₂
  | true =>
    simp only [if_true] at h₂ ⊢
    refine S_mono h₂ (fun f s₃ h₃ => ?_) fun _ _ q => q
    cases f with
    | next => exact h₃.out
    | cont => exact h₃.out
    | brk => exact h₃
    | ret v => exact h₃
end
theorem At.intro {base h' : Heap} {L : Addr} {led led' : List (Addr × Obj)} {ps : List (Str × Value)} {s : Shared} {tk : Nat} {m : Str → Option Value} (F : Fr base L h' m) (N : News base L h' led') (hl : ∀ p ∈ led, p ∈ led') (hp : ∀ p ∈ ps, m p.1 = some p.2) :
    At base L led ps s { s with heap := h', toks := tk } := ⟨h', tk, m, rfl, F, fun q hq => N q (hl q hq), hp⟩
end Mine
end

section
open PySem PySem.W PyProof.Rows PySem.Calls
open Sem (wp)
set_option maxRecDepth 100000
namespace Mine
section
variable {prog : Program} {w : World} {A : Around} {E : Value → Shared → Prop} {s : Shared} {env : Env}
theorem A_WhileL {test : Expr} {body : List Stmt} {pos : Pos} {Q : Flow → Shared → Prop} (I : Nat → Shared → Prop)
    (turn : ∀ n s, I n s → wpAny (model prog w) A (isTrue test env (eval test env)) (fun b s₂ =>
        if b = true then wpAny (model prog w) A (execs body env) (fun f s₃ => match f with
            | .next | .cont => Less I n s₃
            | .brk => Q .next s₃
            | .ret v => Q (.ret v) s₃) (fun _ _ => False) s₂
        else Q .next s₂) (fun _ _ => False) s)
    (n : Nat) (h : I n s) : wpAny (model prog w) A (exec (.While test body [] pos) env) Q E s := by
  refine wpAny_While (codeAny_whileLoop I (fun n s hI => wpAny_mono (turn n s hI) (fun b s₂ h₂ => ?_) fun _ _ q => q.elim) n h)
  cases b with
  | false =>
    simp only [Bool.false_eq_true, if_false] at h₂ ⊢
    exact wpAny_execs_nil h₂
  | true =>
    simp only [if_true] at h₂ ⊢
    refine wpAny_mono h₂ (fun f s₃ h₃ => ?_) fun _ _ q => q.elim
    cases f with
    | next => exact h₃.out
    | cont => exact h₃.out
    | brk => exact h₃
    | ret v => exact h₃
end
end Mine
end

section
open PySem PySem.W PyProof.Rows PySem.Calls
open Sem (wp)
open Builtin Builtin.Str Builtin.Int Builtin.Float
set_option maxRecDepth 100000
set_option maxHeartbeats 100000000
namespace Mine
theorem gives_bytes_in (b : Array UInt8) (n : Int) (t u : Tok) (h0 : 0 ≤ n) (h1 : n < 256) : Gives («bytes.__contains__» ⟨[.bytes b t, .int n u], []⟩) (.val (.bool (b.contains n.toNat.toUInt8))) := by
  refine .of_wp fun M A E s Q h => ?_
  show wpAny M A (Bytes.containsIn "bytes.__contains__" (.bytes b t) (.int n u) >>= fun r => ret (.bool r)) _ _ _
  have e1 : (asIndex (.int n u)).attempt = pure (.ok n) := rfl
  refine wpAny_bind ?_
  unfold Bytes.containsIn
  refine wpAny_bind (wpAny_of_eq e1 ?_)
  refine wpAny_bind (wpAny_of_eq KBy.buffer_eq ?_)
  dsimp only
  rw [if_neg (show ¬ ((decide (n < 0) || decide (n ≥ 256)) = true) by simp; omega)]
  exact wpAny_pure (wpAny_pure ⟨_, rfl, h⟩)
section
variable {prog : Program} {w : World} {A : Around} {E : Value → Shared → Prop} {s : Shared}
theorem in_bytes {b : Array UInt8} {n : Int} {t u : Tok} {Q : Value → Shared → Prop} (h0 : 0 ≤ n) (h1 : n < 256) (h : Q (.bool (b.contains n.toNat.toUInt8)) s) : wpAny (model prog w) A (compareOp .In (.int n u) (.bytes b t)) Q E s :=
  in_gives (typeIs_bytes _ _ _) FB.slot_bytes_contains FB.entry_bytes_contains (FB.args_bytes_contains_2 _ _) (gives_bytes_in b n t u h0 h1) h
theorem in_one {x : Str} {c : Nat} {t u : Tok} {Q : Value → Shared → Prop} (h : Q (.bool (decide (c ∈ x.cps.toList))) s) : wpAny (model prog w) A (compareOp .In (.str ⟨#[c]⟩ u) (.str x t)) Q E s := by
  refine PySem.P.in_str ?_
  rw [PySem.StrLaws.found_one]
  exact h
theorem notin_one {x : Str} {c : Nat} {t u : Tok} {Q : Value → Shared → Prop} (h : Q (.bool (!decide (c ∈ x.cps.toList))) s) : wpAny (model prog w) A (compareOp .NotIn (.str ⟨#[c]⟩ u) (.str x t)) Q E s := by
  refine PySem.P.notIn_str ?_
  rw [PySem.StrLaws.found_one]
  exact h
end
theorem typeCall_int_2 (a b : Value) : checkTypeCall "int" ⟨[a, b], []⟩ = pure () := by kernel_rfl
theorem newCall_int_2 (a b : Value) : checkBuiltinCall "int.__new__" ⟨[.type "int", a, b], []⟩ = pure () := by kernel_rfl
theorem args_init_3 (o a b : Value) : argsOk "object.__init__" ⟨[o, a, b], []⟩ := by
  unfold argsOk; kernel_rfl
def hexSigns : List Nat := [48,49,50,51,52,53,54,55,56,57,97,98,99,100,101,102,65,66,67,68,69,70]
theorem hex_mem {a : Nat} (h : isHex a = true) : a ∈ hexSigns := by
  have : a < 103 := by unfold isHex at h; simp at h; omega
  have H : ∀ a : Fin 103, isHex a.val = true → a.val ∈ hexSigns := by decide
  exact H ⟨a, this⟩ h
open NumText in
theorem read16 (a b : Nat) (ha : isHex a = true) (hb : isHex b = true) : (int_private% "readNumeral") 0 16 [a, b] = (int_private% "Numeral.value") ((16 * hexVal a + hexVal b : Nat) : Int) := by
  have H : ∀ a ∈ hexSigns, ∀ b ∈ hexSigns, sign (([a, b] : List Nat).dropWhile blank) = (false, [a, b]) ∧ based 16 [a, b] = (16, false, [a, b]) ∧ (([a, b] : List Nat).reverse.dropWhile blank).reverse = [a, b] ∧ digits? 16 [a, b] = some #[hexVal a, hexVal b] := by decide +kernel
  obtain ⟨h1, h2, h3, h4⟩ := H a (hex_mem ha) b (hex_mem hb)
  refine (readNumeral_eq 0 16 [a, b]).trans ?_
  rw [h1]
  dsimp only
  rw [h2]
  dsimp only
  rw [h3, h4]
  have e : ((0 * 16 + hexVal a) * 16 + hexVal b : Nat) = 16 * hexVal a + hexVal b := by omega
  show (int_private% "Numeral.value") (((0 * 16 + hexVal a) * 16 + hexVal b : Nat) : Int) = _
  rw [e]
def fX : FormatSpec := match parseFormatSpec [48, 50, 88] "int" 62 with | .ok f => f | .error _ => { align := 0 }
theorem fX_ok : parseFormatSpec [48, 50, 88] "int" 62 = .ok fX := by rfl
theorem textX (n : Nat) (h : n < 256) : intField' fX (decide ((n : Int) < 0)) [] ((Nat.toDigits 16 (n : Int).natAbs).map fun c => (if (88 : Nat) == 88 then c.toUpper else c).toNat) [] 4 = ⟨#[hexD true (n / 16), hexD true (n % 16)]⟩ := by
  rw [show decide ((n : Int) < 0) = false from decide_eq_false (by omega), show (n : Int).natAbs = n from rfl]
  have H : ∀ n : Fin 256, intField' fX false [] ((Nat.toDigits 16 n.val).map fun c => (if (88 : Nat) == 88 then c.toUpper else c).toNat) [] 4 = ⟨#[hexD true (n.val / 16), hexD true (n.val % 16)]⟩ := by decide +kernel
  exact H ⟨n, h⟩
section
variable {prog : Program} {w : World} {A : Around} {E : Value → Shared → Prop} {s : Shared}
theorem retStr_cong {M : Model} {x y : Str} {Q : Fin → Shared → Prop} (e : x = y) (h : wpAny M A (retStr y) Q E s) : wpAny M A (retStr x) Q E s := e ▸ h
theorem field_X {n : Nat} {t : Tok} {Q : Value → Shared → Prop} (hn : n < 256) (h : ∀ t k, Q (.str ⟨#[hexD true (n / 16), hexD true (n % 16)]⟩ t) { s with toks := k }) :
    wpAny (model prog w) A (formatField (.int (n : Int) t) (Str.ofString "02X")) Q E s := by
  obtain ⟨f, hp, hty, hpr, hz, hw, hal, htx⟩ : ∃ f, parseFormatSpec [48, 50, 88] "int" 62 = .ok f ∧ f.type = some 88 ∧ f.precision = none ∧ f.noNeg0 = false ∧ f.width = some 2 ∧ f.alt = false ∧
    intField' f (decide ((n : Int) < 0)) [] ((Nat.toDigits 16 (n : Int).natAbs).map fun c => (if (88 : Nat) == 88 then c.toUpper else c).toNat) [] 4 = ⟨#[hexD true (n / 16), hexD true (n % 16)]⟩ := ⟨fX, fX_ok, rfl, rfl, rfl, rfl, rfl, textX n hn⟩
  show wpAny _ _ (holding [.int (n : Int) t] (pyFormat (.int (n : Int) t) (Str.ofString "02X"))) Q E s
  refine wpAny_holding ?_
  unfold pyFormat
  refine wpAny_bind (wpAny_mkStr ?_ (by decide))
  refine wpAny_bind (m := callSpecial? (.int (n : Int) t) (Str.ofString "__format__") [.str (Str.ofString "02X") s.toks]) (wpAny_callSpecial?_slot (name := Str.ofString "__format__") (typeIs_int _ _ t) slot_int_format ?_)
  refine wpAny_call (codeAny_call_builtin slot_int_format.plain entry_int_format (slot_int_format.check _ _ _ _ _ _ _ _ (typeIs_int _ _ t) (args_int_format _ _) ?_))
  unfold Builtin.«int.__format__»
  simp only [selfAndOne, noKeywords, Int.intOfSelf, asInt?, asStr?, List.isEmpty_nil, if_true, pure_bind, bind_pure, bind_assoc, Bool.false_eq_true, if_false,
    show (Value.str (Str.ofString "02X") s.toks == Value.none) = false from rfl, show ((Str.ofString "02X").length == 0) = false from by decide,
    show (((Str.ofString "02X").cps.toList.drop 1).any (fun x => decide (x ≥ 128)) || (decide ((Str.ofString "02X").cps.getD 0 0 ≥ 128) && !([60, 62, 61, 94] : List Nat).contains ((Str.ofString "02X").cps.getD 1 0))) = false from by decide]
  refine wpAny_bind (wpAny_typeNameOf (T := "str") (typeIs_str _ _ _) (by decide) fun _ => ?_)
  refine wpAny_bind (wpAny_typeNameOfCut_int ?_)
  simp only [show (Str.ofString "02X").cps.toList = [48, 50, 88] from by decide, hp, hty, Option.getD_some]
  refine wpAny_ite_true (by decide +kernel) ?_
  show wpAny _ _ (if _ then _ else _) _ _ _
  rw [if_neg (by simp [hpr])]
  show wpAny _ _ (if _ then _ else _) _ _ _
  rw [if_neg (by simp [hz])]
  show wpAny _ _ (if _ then _ else _) _ _ _
  rw [if_neg (by decide)]
  show wpAny _ _ (if _ then _ else _) _ _ _
  rw [if_neg (by decide)]
  show wpAny _ _ (if _ then _ else _) _ _ _
  rw [if_neg (by simp [hw])]
  show wpAny _ _ (retStr _) _ _ _
  simp only [hal, Bool.false_eq_true, if_false, show ((16 : Nat) == 10) = false from rfl]
  refine retStr_cong (y := ⟨#[hexD true (n / 16), hexD true (n % 16)]⟩) (Eq.trans ?_ htx) ?_
  · kernel_rfl
  unfold retStr
  refine wpAny_bind (wpAny_mkStr (wpAny_pure ?_) (by show 2 ≤ sizeLine; decide))
  dsimp only
  exact wpAny_bind (wpAny_isInstance (typeIs_str _ _ _) isSubtype_str_str (wpAny_pure (h _ _)))
end
end Mine
end

section
open PySem PySem.W PyProof.Rows PySem.Calls
open Sem (wp)
open PySem.NumText
set_option maxRecDepth 100000
set_option maxHeartbeats 100000000
namespace Mine
theorem wp_text16 {M : Model} {A : Around} {E : Value → Shared → Prop} {s : Shared} {Q : Value → Shared → Prop} {v : Value} {text : List Nat} {n : Int}
    (hs : (text.takeWhile (· != 0)).length ≤ 640) (hr : (int_private% "readNumeral") 0 16 (text.takeWhile (· != 0)) = (int_private% "Numeral.value") n)
    (ha : ((text.takeWhile (· != 0)).length == text.length) = true) (h : Q (.int n s.toks) { s with toks := s.toks + 1 }) :
    wpAny M A ((int_private% "intFromText") v text 16) Q E s := by
  obtain ⟨hp, g, d, tk, os⟩ := s
  repeat (any_goals (first
    | assumption
    | (with_reducible refine wpAny_ite_true (decide_eq_true hs) ?_)
    | (with_reducible refine wpAny_ite_true (decide_eq_true ha) ?_)
    | wp_step))
  all_goals (try rw [hr])
  all_goals (try dsimp only)
  repeat (any_goals (first
    | assumption
    | (with_reducible refine wpAny_ite_true (decide_eq_true hs) ?_)
    | (with_reducible refine wpAny_ite_true (decide_eq_true ha) ?_)
    | wp_step))
structure Hid (p : Prop) : Prop where
  out : p
theorem gives16 {x : Str} {u v : Tok} {n : Int} (hs : (numSeenOf x).length ≤ 640) (hr : (int_private% "readNumeral") 0 16 (numSeenOf x) = (int_private% "Numeral.value") n) (ha : ((numSeenOf x).length == (numTextOf x).length) = true) :
    Gives (Builtin.«int.__new__» ⟨[.type "int", .str x u, .int 16 v], []⟩) (.int n) :=
  .of_wp fun M A E s Q h => by
    obtain ⟨hp, g, d, tk, os⟩ := s
    have f1 := F.conv_sub_int
    have f2 := F.madeHere_int
    have f6 : typeOf (.str x u) = pure (.type "str") := rfl
    have hk := Hid.mk (And.intro hs (And.intro hr ha))
    clear hs hr ha
    repeat (any_goals (first
      | assumption
      | ((with_reducible show wpAny _ _ ((int_private% "intFromText") _ _ _) _ _ _); refine wp_text16 hk.out.1 hk.out.2.1 hk.out.2.2 ?_)
      | wp_step))
    all_goals first | exact ⟨_, rfl, h⟩ | skip
theorem seen_hex {a b : Nat} (ha : isHex a = true) (hb : isHex b = true) : numTextOf ⟨#[a, b]⟩ = [a, b] ∧ numSeenOf ⟨#[a, b]⟩ = [a, b] := by
  have la : a < 128 := by unfold isHex at ha; simp at ha; omega
  have lb : b < 128 := by unfold isHex at hb; simp at hb; omega
  have na : a ≠ 0 := by intro e; subst e; revert ha; decide
  have nb : b ≠ 0 := by intro e; subst e; revert hb; decide
  have e1 : numTextOf ⟨#[a, b]⟩ = [a, b] := by
    unfold numTextOf
    simp [la, lb]
  refine ⟨e1, ?_⟩
  unfold numSeenOf
  rw [e1]
  simp [na, nb]
section
variable {prog : Program} {w : World} {A : Around} {E : Value → Shared → Prop} {s : Shared}
theorem int_hex {a b : Nat} {t u : Tok} {Q : Value → Shared → Prop} (ha : isHex a = true) (hb : isHex b = true) (h : ∀ t k, Q (.int ((16 * hexVal a + hexVal b : Nat) : Int) t) { s with toks := k }) :
    wpAny (model prog w) A (call (.type "int") [.str ⟨#[a, b]⟩ t, .int 16 u]) Q E s := by
  obtain ⟨e1, e2⟩ := seen_hex ha hb
  exact callType_new F.called_int F.newNe_int (typeCall_int_2 _ _) (newCall_int_2 _ _) (fun obj => args_init_3 obj _ _) F.entry_int_new
    (gives16 (by rw [e2]; exact (by decide : 2 ≤ 640)) (by rw [e2]; exact read16 a b ha hb) (by rw [e1, e2]; rfl)).meets (show (Made.int _).post _ s from ⟨rfl, h _ _⟩)
end
end Mine
end

section
open PySem PySem.W PyProof.Rows PySem.Calls
open Sem (wp)
set_option maxRecDepth 100000
set_option maxHeartbeats 100000000
namespace Mine
abbrev lowB : Array UInt8 := #[97, 98, 99, 100, 101, 102, 103, 104, 105, 106, 107, 108, 109, 110, 111, 112, 113, 114, 115, 116, 117, 118, 119, 120, 121, 122]
theorem u8_back (c : UInt8) : (((c.toNat : Nat) : Int).toNat).toUInt8 = c := by
  rw [Int.toNat_natCast]
  exact UInt8.ofNat_toNat
theorem u8_down (c : UInt8) (h : 97 ≤ c.toNat) : ((((c.toNat : Nat) : Int) - 32).toNat).toUInt8 = c - 32 := by
  have hc := c.toNat_lt
  have e : (((c.toNat : Nat) : Int) - 32).toNat = c.toNat - 32 := by omega
  rw [e]
  apply UInt8.toNat_inj.mp
  rw [UInt8.toNat_sub_of_le c 32 (by rw [UInt8.le_iff_toNat_le]; show 32 ≤ c.toNat; omega)]
  show (c.toNat - 32) % 256 = c.toNat - 32
  omega
theorem low_in (c : UInt8) : lowB.contains c = decide (97 ≤ c.toNat ∧ c.toNat ≤ 122) := by
  have H : ∀ n : Fin 256, lowB.contains (UInt8.ofNat n.val) = decide (97 ≤ n.val ∧ n.val ≤ 122) := by decide +kernel
  have := H ⟨c.toNat, c.toNat_lt⟩
  rwa [UInt8.ofNat_toNat] at this
section
variable {prog : Program} {w : World} {A : Around} {E : Value → Shared → Prop} {s : Shared} {value slice : PySem.Expr}
theorem in_u8 {b : Array UInt8} {c : UInt8} {t u : Tok} {Q : Value → Shared → Prop} (h : Q (.bool (b.contains c)) s) : wpAny (model prog w) A (compareOp .In (.int ((c.toNat : Nat) : Int) u) (.bytes b t)) Q E s := by
  have hc := c.toNat_lt
  refine in_bytes (by omega) (by omega) ?_
  rw [u8_back]
  exact h
theorem in_low {c : UInt8} {t u : Tok} {Q : Value → Shared → Prop} (h : Q (.bool (decide (97 ≤ c.toNat ∧ c.toNat ≤ 122))) s) : wpAny (model prog w) A (compareOp .In (.int ((c.toNat : Nat) : Int) u) (.bytes lowB t)) Q E s := by
  refine in_u8 ?_
  rw [low_in]
  exact h
theorem chr_u8 {c : UInt8} {t : Tok} {Q : Value → Shared → Prop} (h : ∀ t k, Q (.str ⟨#[c.toNat]⟩ t) { s with toks := k }) : wpAny (model prog w) A (call (.builtin "chr") [.int ((c.toNat : Nat) : Int) t]) Q E s := by
  have hc := c.toNat_lt
  refine chr_of_range (by omega) (by omega) ?_
  rw [Int.toNat_natCast]
  exact h _ _
theorem chr_nat {n : Nat} {t : Tok} {Q : Value → Shared → Prop} (hn : n < 1114112) (h : ∀ t k, Q (.str ⟨#[n]⟩ t) { s with toks := k }) : wpAny (model prog w) A (call (.builtin "chr") [.int ((n : Nat) : Int) t]) Q E s := by
  refine chr_of_range (by omega) (by omega) ?_
  rw [Int.toNat_natCast]
  exact h _ _
theorem item_B {b : Array UInt8} {k : Nat} {c : UInt8} {t ui : Tok} {Q : Value → Shared → Prop} (hz : b.size ≤ 1099511627776) (hc : b[k]? = some c) (h : ∀ t' kk, Q (.int ((c.toNat : Nat) : Int) t') { s with toks := kk })
    (hs : subscripted slice false (.bytes b t) (.int (k : Int) ui) = operate [.bytes b t, .int (k : Int) ui] (getItem (.bytes b t) (.int (k : Int) ui)) := by with_unfolding_all rfl)
    (ht : ∀ r, letTemporaryGo value (.bytes b t) r = pure () := by intro _; with_unfolding_all rfl) : wpAny (model prog w) A (subscriptTail value slice (.bytes b t) (.int (k : Int) ui)) Q E s := by
  obtain ⟨hlt, hce⟩ := Array.getElem?_eq_some_iff.mp hc
  refine KBw.item_K (ks := KBw.bInts b) rfl (by rw [KBw.ints_length]; exact hz) (by omega) (by rw [KBw.ints_length]; omega) ?_ hs ht
  intro t' kk _ _
  rw [Int.toNat_natCast, List.getD_eq_getElem?_getD, KBw.ints_get hc]
  exact h _ _
theorem len_B {b : Array UInt8} {t : Tok} {Q : Value → Shared → Prop} (hz : b.size ≤ 1099511627776) (h : ∀ t k, Q (.int (b.size : Nat) t) { s with toks := k }) : wpAny (model prog w) A (call (.builtin "len") [.bytes b t]) Q E s := by
  refine KBw.len_K (ks := KBw.bInts b) rfl (by rw [KBw.ints_length]; exact hz) ?_
  rw [KBw.ints_length]
  exact h _ _
theorem joined_X {env : Env} {v : Expr} {p1 p2 p3 p4 p5 : Pos} {K1 K2 : Nat} {Q : Value → Shared → Prop}
    (h : wpAny (model prog w) A (eval v env) (fun r s₁ => ∃ (n : Nat) (t : Tok), r = .int (n : Int) t ∧ n < 256 ∧ ∀ t' k, Q (.str ⟨#[37, hexD true (n / 16), hexD true (n % 16)]⟩ t') { s₁ with toks := k }) E { s with toks := s.toks + 1 }) :
    wpAny (model prog w) A (eval (.JoinedStr [.Constant (.str (Str.ofString "%")) K1 p1, .FormattedValue v (-1) (some (.JoinedStr [.Constant (.str (Str.ofString "02X")) K2 p2] p3)) p4] p5) env) Q E s := by
  refine wpAny_JoinedStr ?_
  refine wpAny_Constant_str ⟨_, _, rfl, by decide, ?_⟩
  refine wpAny_FormattedValue_spec (wpAny_mono h (fun r s₁ q => ?_) fun _ _ q => q)
  obtain ⟨n, t, rfl, hn, q⟩ := q
  refine wpAny_JoinedStr_one (wpAny_Constant_str ⟨_, _, rfl, ?_⟩)
  refine field_X hn fun t' k => ?_
  refine ⟨_, _, rfl, by show 3 ≤ sizeLine; decide, ?_⟩
  refine ⟨by show 3 ≤ sizeLine; decide, ?_⟩
  exact q _ _
theorem getMethod_encode {x : Str} {t : Tok} {pl : Sem Bool} {Q : Value × List Value → Shared → Prop} (h : Q (.builtin "str.encode", [.str x t]) s) : wpAny (model prog w) A (getMethod (.str x t) (Str.ofString "encode") pl) Q E s :=
  getMethod_builtin (typeIs_str _ _ _) PySem.F.plainAttrs_str PySem.F.slot_str_encode PySem.F.type_str_encode (fun _ e => nomatch e) h
theorem encode_X {n : Nat} {t u : Tok} {Q : Value → Shared → Prop} (hn : n < 256) (h : ∀ t k, Q (.bytes #[37, (hexD true (n / 16)).toUInt8, (hexD true (n % 16)).toUInt8] t) { s with toks := k }) :
    wpAny (model prog w) A (call (.builtin "str.encode") [.str ⟨#[37, hexD true (n / 16), hexD true (n % 16)]⟩ t, .str (Str.ofString "ascii") u]) Q E s := by
  have h1 : ∀ d, d < 16 → hexD true d < 128 := by decide
  have a1 := h1 (n / 16) (by omega)
  have a2 := h1 (n % 16) (by omega)
  refine str_encodeA (fun y hy => ?_) (by show 3 ≤ sizeLine; decide) h
  simp only [List.mem_cons, List.not_mem_nil, or_false] at hy
  omega
theorem getMethod_decode {h₀ : Heap} {L a : Addr} {news : List (Addr × Obj)} {b : Array UInt8} {pl : Sem Bool} {Q : Value × List Value → Shared → Prop} (N : News h₀ L s.heap news) (hm : (a, baObj b) ∈ news) (h : Q (.builtin "bytearray.decode", [.ref a]) s) : wpAny (model prog w) A (getMethod (.ref a) (Str.ofString "decode") pl) Q E s :=
  getMethod_builtin (typeIs_ba (N _ hm).1) BA.plainAttrs BA.slot_bytearray_decode BA.type_bytearray_decode (fun a' e => by cases e; exact ⟨_, (N _ hm).1, rfl⟩) h
theorem hexT {n : Nat} (h : ¬ isHex n = false) : isHex n = true := by cases e : isHex n <;> simp_all
theorem hex_small {n : Nat} (h : isHex n = true) : n < 128 := by unfold isHex at h; simp at h; omega
theorem hexV_lt {c : Nat} (h : isHex c = true) : hexVal c < 16 := by
  unfold isHex at h
  simp at h
  unfold hexVal
  split
  · omega
  · split <;> omega
theorem hexN_lt {a b : Nat} (ha : isHex a = true) (hb : isHex b = true) : 16 * hexVal a + hexVal b < 256 := by
  have := hexV_lt ha
  have := hexV_lt hb
  omega
theorem notin_hex {n : Nat} {t u : Tok} {Q : Value → Shared → Prop} (h : Q (.bool (decide (isHex n = false))) s) : wpAny (model prog w) A (compareOp .NotIn (.str ⟨#[n]⟩ u) (.str (Str.ofString "0123456789abcdefABCDEF") t)) Q E s := by
  refine notin_one ?_
  have e : (Str.ofString "0123456789abcdefABCDEF").cps.toList = [48,49,50,51,52,53,54,55,56,57,97,98,99,100,101,102,65,66,67,68,69,70] := by decide
  have e2 : (!decide (n ∈ (Str.ofString "0123456789abcdefABCDEF").cps.toList)) = decide (isHex n = false) := by
    rw [e]
    cases hx : isHex n with
    | true =>
      have := hex_mem hx
      unfold hexSigns at this
      rw [decide_eq_true this]
      rfl
    | false =>
      have hn : ¬ n ∈ [48,49,50,51,52,53,54,55,56,57,97,98,99,100,101,102,65,66,67,68,69,70] := by
        intro hm
        have H : ∀ n ∈ [48,49,50,51,52,53,54,55,56,57,97,98,99,100,101,102,65,66,67,68,69,70], isHex n = true := by decide
        rw [H n hm] at hx
        cases hx
      rw [decide_eq_false hn]
      rfl
  rw [e2]
  exact h
theorem decode_hex {h₀ : Heap} {L a : Addr} {news : List (Addr × Obj)} {x y : UInt8} {u : Tok} {Q : Value → Shared → Prop} (N : News h₀ L s.heap news) (hm : (a, baObj #[x, y]) ∈ news) (hx : isHex x.toNat = true) (hy : isHex y.toNat = true)
    (h : ∀ t k, Q (.str ⟨#[x.toNat, y.toNat]⟩ t) { s with toks := k }) : wpAny (model prog w) A (call (.builtin "bytearray.decode") [.ref a, .str (Str.ofString "ascii") u]) Q E s := by
  have e : Array.map (fun z : UInt8 => z.toNat) #[x, y] = #[x.toNat, y.toNat] := by simp
  refine ba_decode (N _ hm).1 (fun c hc => ?_) (by show 2 ≤ sizeLine; decide) (by rw [e]; exact h)
  have h1 := hex_small hx
  have h2 := hex_small hy
  simp only [List.mem_cons, List.not_mem_nil, or_false] at hc
  rcases hc with rfl | rfl <;> assumption
theorem ord_one' {n : Nat} {t : Tok} {Q : Value → Shared → Prop} (h : ∀ t k, Q (.int (n : Nat) t) { s with toks := k }) : wpAny (model prog w) A (call (.builtin "ord") [.str ⟨#[n]⟩ t]) Q E s := by
  refine ord_of_one rfl ?_
  exact h _ _
theorem ba_decode_N {h₀ : Heap} {L a : Addr} {news : List (Addr × Obj)} {b : Array UInt8} {u : Tok} {Q : Value → Shared → Prop} (N : News h₀ L s.heap news) (hm : (a, baObj b) ∈ news) (hb : ∀ c ∈ b.toList, c.toNat < 128) (hz : b.size ≤ sizeLine)
    (h : ∀ t k, Q (.str ⟨b.map (·.toNat)⟩ t) { s with toks := k }) : wpAny (model prog w) A (call (.builtin "bytearray.decode") [.ref a, .str (Str.ofString "ascii") u]) Q E s := ba_decode (N _ hm).1 hb hz h
end
end Mine
end

section
open PySem PySem.W PyProof.Rows PySem.Calls PySem.W.KPc Builtin Builtin.Str
set_option maxRecDepth 100000
set_option maxHeartbeats 100000000
namespace Mine
def hex2 (up : Bool) (n : Nat) : PySem.Str := ⟨#[37, hexD up (n / 16), hexD up (n % 16)]⟩
abbrev hexF (up : Bool) : Percent := { zero := true, width := some 2, type := if up then 88 else 120 }
theorem hex_field (up : Bool) (n : Nat) (h : n < 256) : percentField (hexF up) true (percentInt (hexF up) (decide ((n : Int) < 0)) ((Nat.toDigits 16 (n : Int).natAbs).map Char.toNat)) = if n < 16 then some [48, hexD up n] else none := by
  rw [show decide ((n : Int) < 0) = false from decide_eq_false (by omega), show (n : Int).natAbs = n from rfl]
  have H : ∀ up : Bool, ∀ n : Fin 256, percentField (hexF up) true (percentInt (hexF up) false ((Nat.toDigits 16 n.val).map Char.toNat)) = if n.val < 16 then some [48, hexD up n.val] else none := by decide +kernel
  exact H up ⟨n, h⟩
theorem hex_int (up : Bool) (n : Nat) (h : n < 256) (h' : ¬ n < 16) : percentInt (hexF up) (decide ((n : Int) < 0)) ((Nat.toDigits 16 (n : Int).natAbs).map Char.toNat) = [hexD up (n / 16), hexD up (n % 16)] := by
  rw [show decide ((n : Int) < 0) = false from decide_eq_false (by omega), show (n : Int).natAbs = n from rfl]
  have H : ∀ up : Bool, ∀ n : Fin 256, ¬ n.val < 16 → percentInt (hexF up) false ((Nat.toDigits 16 n.val).map Char.toNat) = [hexD up (n.val / 16), hexD up (n.val % 16)] := by decide +kernel
  exact H up ⟨n, h⟩ h'
theorem small_log (n : Nat) (hn : n < 256) : ((n : Nat) : Int).natAbs.log2 < 1920 := by
  rw [show ((n : Nat) : Int).natAbs = n from rfl]
  rcases Nat.eq_zero_or_pos n with rfl | h
  · decide
  · exact (Nat.log2_lt (by omega)).mpr (Nat.lt_of_lt_of_le hn (Nat.pow_le_pow_right (n := 2) (by decide) (show 8 ≤ 1920 by decide)))
theorem hex_meets (n : Nat) (hn : n < 256) (t u : Tok) : Meets («str.__mod__» ⟨[.str (PySem.Str.mk #[37,37,37,48,50,120]) t, .int (n : Int) u], []⟩) (fun _ R s => ∀ t' k, R (.ok (.ret (.str (hex2 false n) t'))) { s with toks := k }) := by
  apply KPc.meets_of
  intro prog w A s Q E hQ
  rw [KPc.entry_is]
  unfold Builtin.Str.percentFormat
  refine wpAny_bind (wpAny_isInstance (typeIs_int _ _ _) F.sub_int_tuple ?_)
  refine wpAny_bind (wpAny_of_eq (a := none) rfl ?_)
  refine wpAny_bind (wpAny_of_eq (KPc.fills _ _) ?_)
  kpc_if
  refine wpAny_bind (wpAny_pure ?_)
  refine wpAny_bind ?_
  rw [KPc.range_list]
  refine KPc.start ?_
  intro w1 g1
  refine KPc.turn ?_
  kpc_check
  repeat kpc_if
  refine wpAny_pure ?_
  (refine KPc.after_add0 (by kpc_g) (by kpc_text) (by kpc_obj) ?_; intro w2 g1')
  refine KPc.turn ?_
  kpc_check
  repeat kpc_if
  refine wpAny_bind ?_; refine wpAny_holding ?_; (repeat kpc_if)
  refine wpAny_bind (wpAny_of_eq (a := (n : Int)) rfl ?_)
  (repeat kpc_if)
  refine wpAny_bind (wpAny_of_eq (a := _) rfl ?_)
  (repeat kpc_if)
  refine wpAny_pure ?_
  dsimp only
  split
  · rename_i hf
    have hf' := (hex_field false n hn).symm.trans hf
    have hge : ¬ n < 16 := by
      intro hlt
      rw [if_pos hlt] at hf'
      exact nomatch hf'
    refine wpAny_pure ?_
    have ht := hex_int false n hn hge
    refine KPc.after_add g1' (y := ⟨#[hexD false (n / 16), hexD false (n % 16)]⟩) (congrArg (fun l => PySem.Str.mk (List.toArray l)) ht) (KPc.obj_none (ite_self _)) ?_
    intro w3 g3
    replace g3 := KPc.good_mono g3 (K := 3) (by rw [show (PySem.Str.ofString "%").length = 1 from by decide +kernel]; exact Nat.le_refl 3)
    kpc_turns
  · rename_i laid hf
    have hf' := (hex_field false n hn).symm.trans hf
    have hlt : n < 16 := by
      by_cases h : n < 16
      · exact h
      · rw [if_neg h] at hf'
        exact nomatch hf'
    rw [if_pos hlt] at hf'
    have hl := Option.some.inj hf'
    refine wpAny_pure ?_
    have h16 : n / 16 = 0 := by omega
    refine KPc.after_add g1' (y := ⟨#[hexD false (n / 16), hexD false (n % 16)]⟩) (by rw [← hl, h16, Nat.mod_eq_of_lt hlt]; rfl) (KPc.obj_none rfl) ?_
    intro w3 g3
    replace g3 := KPc.good_mono g3 (K := 3) (by rw [show (PySem.Str.ofString "%").length = 1 from by decide +kernel]; exact Nat.le_refl 3)
    kpc_turns
theorem hex_meetsU (n : Nat) (hn : n < 256) (t u : Tok) : Meets («str.__mod__» ⟨[.str (PySem.Str.mk #[37,37,37,48,50,88]) t, .int (n : Int) u], []⟩) (fun _ R s => ∀ t' k, R (.ok (.ret (.str (hex2 true n) t'))) { s with toks := k }) := by
  apply KPc.meets_of
  intro prog w A s Q E hQ
  rw [KPc.entry_is]
  unfold Builtin.Str.percentFormat
  refine wpAny_bind (wpAny_isInstance (typeIs_int _ _ _) F.sub_int_tuple ?_)
  refine wpAny_bind (wpAny_of_eq (a := none) rfl ?_)
  refine wpAny_bind (wpAny_of_eq (KPc.fills _ _) ?_)
  kpc_if
  refine wpAny_bind (wpAny_pure ?_)
  refine wpAny_bind ?_
  rw [KPc.range_list]
  refine KPc.start ?_
  intro w1 g1
  refine KPc.turn ?_
  kpc_check
  repeat kpc_if
  refine wpAny_pure ?_
  (refine KPc.after_add0 (by kpc_g) (by kpc_text) (by kpc_obj) ?_; intro w2 g1')
  refine KPc.turn ?_
  kpc_check
  repeat kpc_if
  refine wpAny_bind ?_; refine wpAny_holding ?_; (repeat kpc_if)
  refine wpAny_bind (wpAny_of_eq (a := (n : Int)) rfl ?_)
  (repeat kpc_if)
  refine wpAny_bind (wpAny_of_eq (a := _) rfl ?_)
  (repeat kpc_if)
  refine wpAny_pure ?_
  dsimp only
  split
  · rename_i hf
    have hf' := (hex_field true n hn).symm.trans hf
    have hge : ¬ n < 16 := by
      intro hlt
      rw [if_pos hlt] at hf'
      exact nomatch hf'
    refine wpAny_pure ?_
    have ht := hex_int true n hn hge
    refine KPc.after_add g1' (y := ⟨#[hexD true (n / 16), hexD true (n % 16)]⟩) (congrArg (fun l => PySem.Str.mk (List.toArray l)) ht) (KPc.obj_none (ite_self _)) ?_
    intro w3 g3
    replace g3 := KPc.good_mono g3 (K := 3) (by rw [show (PySem.Str.ofString "%").length = 1 from by decide +kernel]; exact Nat.le_refl 3)
    kpc_turns
  · rename_i laid hf
    have hf' := (hex_field true n hn).symm.trans hf
    have hlt : n < 16 := by
      by_cases h : n < 16
      · exact h
      · rw [if_neg h] at hf'
        exact nomatch hf'
    rw [if_pos hlt] at hf'
    have hl := Option.some.inj hf'
    refine wpAny_pure ?_
    have h16 : n / 16 = 0 := by omega
    refine KPc.after_add g1' (y := ⟨#[hexD true (n / 16), hexD true (n % 16)]⟩) (by rw [← hl, h16, Nat.mod_eq_of_lt hlt]; rfl) (KPc.obj_none rfl) ?_
    intro w3 g3
    replace g3 := KPc.good_mono g3 (K := 3) (by rw [show (PySem.Str.ofString "%").length = 1 from by decide +kernel]; exact Nat.le_refl 3)
    kpc_turns
section
variable {prog : Program} {w : World} {A : Around} {E : Value → Shared → Prop} {s : Shared}
theorem mod_x {n : Nat} (hn : n < 256) {t u : Tok} {Q : Value → Shared → Prop} (h : ∀ t k, Q (.str (hex2 false n) t) { s with toks := k }) : wpAny (model prog w) A (binaryOp .Mod (.str (Str.ofString "%%%02x") t) (.int (n : Nat) u)) Q E s :=
  KPc.mod_lit (X' := PySem.Str.mk #[37,37,37,48,50,120]) (by decide) (small_log n hn) (fun _ _ => hex_meets n hn _ _) h
theorem mod_X {n : Nat} (hn : n < 256) {t u : Tok} {Q : Value → Shared → Prop} (h : ∀ t k, Q (.str (hex2 true n) t) { s with toks := k }) : wpAny (model prog w) A (binaryOp .Mod (.str (Str.ofString "%%%02X") t) (.int (n : Nat) u)) Q E s :=
  KPc.mod_lit (X' := PySem.Str.mk #[37,37,37,48,50,88]) (by decide) (small_log n hn) (fun _ _ => hex_meetsU n hn _ _) h
end
end Mine
end

section
open PySem PySem.W PyProof.Rows PySem.Calls
set_option maxRecDepth 100000
namespace Mine
/-- the reading of one octet that stands by itself -/
def oneB (p : Par) (c : Nat) : List Nat := if c = 32 ∧ p.query = true then [43] else if p.may.contains c then [c] else hexUp c
/-- the plain reading over octets -/
def Bq (p : Par) : List Nat → List Nat
  | [] => []
  | c :: r =>
    if c = 37 ∧ p.again = true then
      match r with
      | a :: b :: r' => if isHex a && isHex b then dec p a b ++ Bq p r' else [37, 50, 53] ++ Bq p (a :: b :: r')
      | [a] => [37, 50, 53] ++ Bq p [a]
      | [] => [37, 50, 53]
    else oneB p c ++ Bq p r
termination_by l => l.length
theorem Bq_nil (p : Par) : Bq p [] = [] := by unfold Bq; rfl
theorem Bq_one {p : Par} {c : Nat} {r : List Nat} (h : ¬ (c = 37 ∧ p.again = true)) : Bq p (c :: r) = oneB p c ++ Bq p r := by
  rw [Bq.eq_def]; simp only [if_neg h]
theorem Bq_pct0 {p : Par} (h : p.again = true) : Bq p [37] = [37, 50, 53] := by
  rw [Bq.eq_def]; simp [h]
theorem Bq_pct1 {p : Par} {a : Nat} (h : p.again = true) : Bq p [37, a] = [37, 50, 53] ++ Bq p [a] := by
  rw [Bq.eq_def]; simp [h]
theorem Bq_pctY {p : Par} {a b : Nat} {r : List Nat} (h : p.again = true) (hx : (isHex a && isHex b) = true) : Bq p (37 :: a :: b :: r) = dec p a b ++ Bq p r := by
  rw [Bq.eq_def]; simp [h, hx]
theorem Bq_pctN {p : Par} {a b : Nat} {r : List Nat} (h : p.again = true) (hx : (isHex a && isHex b) = false) : Bq p (37 :: a :: b :: r) = [37, 50, 53] ++ Bq p (a :: b :: r) := by
  rw [Bq.eq_def]; simp [h, hx]
theorem oneB_len (p : Par) (c : Nat) : (oneB p c).length ≤ 3 := by
  unfold oneB hexUp; split
  · simp
  · split <;> simp
theorem dec_len (p : Par) (a b : Nat) : (dec p a b).length ≤ 3 := by
  unfold dec; split <;> simp
theorem Bq_len (p : Par) : ∀ (n : Nat) (l : List Nat), l.length ≤ n → (Bq p l).length ≤ 3 * l.length
  | 0, l, h => by
    have : l = [] := List.eq_nil_of_length_eq_zero (by omega)
    subst this; rw [Bq_nil]; simp
  | n + 1, [], h => by rw [Bq_nil]; simp
  | n + 1, c :: r, h => by
    have hr : r.length ≤ n := by simp at h; omega
    by_cases hc : c = 37 ∧ p.again = true
    · obtain ⟨rfl, ha⟩ := hc
      match r, hr with
      | [], _ => rw [Bq_pct0 ha]; simp
      | [a], hr => rw [Bq_pct1 ha]; have := Bq_len p n [a] hr; simp at this ⊢; omega
      | a :: b :: r', hr =>
        cases hx : isHex a && isHex b with
        | true => rw [Bq_pctY ha hx]; have := Bq_len p n r' (by simp at hr; omega); have := dec_len p a b; simp at *; omega
        | false => rw [Bq_pctN ha hx]; have := Bq_len p n (a :: b :: r') hr; simp at *; omega
    · rw [Bq_one hc]; have := Bq_len p n r hr; have := oneB_len p c; simp at *; omega
/-- what may stand is ASCII -/
def Par.Ok (p : Par) : Prop := ∀ c, p.may.contains c = true → c < 128
theorem hexD_lt {u : Bool} {d : Nat} (h : d < 16) : hexD u d < 128 := by
  unfold hexD; split
  · omega
  · split <;> omega
theorem oneB_lt {p : Par} (ok : p.Ok) {c : Nat} (hc : c < 256) : ∀ y ∈ oneB p c, y < 128 := by
  intro y hy
  unfold oneB at hy
  split at hy
  · simp at hy; omega
  · split at hy
    · rename_i h; simp only [List.mem_singleton] at hy; rw [hy]; exact ok c h
    · unfold hexUp at hy
      simp only [List.mem_cons, List.not_mem_nil, or_false] at hy
      have h1 : hexD true (c / 16) < 128 := hexD_lt (by omega)
      have h2 : hexD true (c % 16) < 128 := hexD_lt (by omega)
      omega
theorem upHex_lt {c : Nat} (h : isHex c = true) : upHex c < 128 := by
  unfold upHex; unfold isHex at h; simp at h; split <;> omega
theorem dec_lt {p : Par} (ok : p.Ok) {a b : Nat} (ha : isHex a = true) (hb : isHex b = true) : ∀ y ∈ dec p a b, y < 128 := by
  intro y hy
  unfold dec at hy
  split at hy
  · rename_i h
    simp only [Bool.and_eq_true] at h
    simp only [List.mem_singleton] at hy
    rw [hy]; exact ok _ h.1
  · have h1 := upHex_lt ha
    have h2 := upHex_lt hb
    simp only [List.mem_cons, List.not_mem_nil, or_false] at hy
    omega
theorem Bq_lt {p : Par} (ok : p.Ok) : ∀ (n : Nat) (l : List Nat), l.length ≤ n → (∀ c ∈ l, c < 256) → ∀ y ∈ Bq p l, y < 128
  | 0, l, h, _ => by
    have : l = [] := List.eq_nil_of_length_eq_zero (by omega)
    subst this; rw [Bq_nil]; simp
  | n + 1, [], h, _ => by rw [Bq_nil]; simp
  | n + 1, c :: r, h, hl => by
    have hr : r.length ≤ n := by simp at h; omega
    have hlr : ∀ c ∈ r, c < 256 := fun y hy => hl y (.tail _ hy)
    have h25 : ∀ y ∈ [37, 50, 53], y < 128 := by decide
    have app : ∀ {a b : List Nat}, (∀ y ∈ a, y < 128) → (∀ y ∈ b, y < 128) → ∀ y ∈ a ++ b, y < 128 := fun ha hb y hy => (List.mem_append.mp hy).elim (ha y) (hb y)
    by_cases hc : c = 37 ∧ p.again = true
    · obtain ⟨rfl, ha⟩ := hc
      match r, hr, hlr with
      | [], _, _ => rw [Bq_pct0 ha]; exact h25
      | [a], hr, hlr => rw [Bq_pct1 ha]; exact app h25 (Bq_lt ok n [a] hr hlr)
      | a :: b :: r', hr, hlr =>
        cases hx : isHex a && isHex b with
        | true =>
          rw [Bq_pctY ha hx]
          simp only [Bool.and_eq_true] at hx
          exact app (dec_lt ok hx.1 hx.2) (Bq_lt ok n r' (by simp at hr; omega) fun y hy => hlr y (.tail _ (.tail _ hy)))
        | false => rw [Bq_pctN ha hx]; exact app h25 (Bq_lt ok n (a :: b :: r') hr hlr)
    · rw [Bq_one hc]; exact app (oneB_lt ok (hl c (.head _))) (Bq_lt ok n r hr hlr)
/-! the turns of the walk over the octets -/
def nats (b : Array UInt8) : List Nat := b.toList.map UInt8.toNat
def low (c : UInt8) : UInt8 := if 97 ≤ c.toNat ∧ c.toNat ≤ 122 then c - 32 else c
theorem low_pos {c : UInt8} (h : 97 ≤ c.toNat ∧ c.toNat ≤ 122) : low c = c - 32 := if_pos h
theorem low_neg {c : UInt8} (h : ¬ (97 ≤ c.toNat ∧ c.toNat ≤ 122)) : low c = c := if_neg h
def St (p : Par) (l : List Nat) (k : Nat) (P R : Array UInt8) : Prop :=
  (P = #[] ∧ k ≤ l.length ∧ nats R ++ Bq p (l.drop k) = Bq p l) ∨
  (P = #[37] ∧ k < l.length ∧ p.again = true ∧ nats R ++ Bq p (37 :: l.drop k) = Bq p l) ∨
  (P = #[37] ∧ k = l.length ∧ nats R = Bq p l) ∨
  (∃ a : UInt8, P = #[37, low a] ∧ 1 ≤ k ∧ k < l.length ∧ p.again = true ∧ l[k - 1]? = some a.toNat ∧ nats R ++ Bq p (37 :: a.toNat :: l.drop k) = Bq p l)
theorem St.size {p : Par} {l : List Nat} {k : Nat} {P R : Array UInt8} (h : St p l k P R) : R.size ≤ 3 * l.length := by
  have hb := Bq_len p l.length l (Nat.le_refl _)
  have hn : (nats R).length = R.size := by simp [nats]
  rcases h with ⟨_, _, he⟩ | ⟨_, _, _, he⟩ | ⟨_, _, he⟩ | ⟨a, _, _, _, _, _, he⟩ <;>
    · have := congrArg List.length he
      try simp only [List.length_append] at this
      omega
theorem nats_app (a b : Array UInt8) : nats (a ++ b) = nats a ++ nats b := by simp [nats]
theorem nats_push (a : Array UInt8) (c : UInt8) : nats (a.push c) = nats a ++ [c.toNat] := by simp [nats]
section
variable {p : Par} {B R : Array UInt8} {k : Nat} {c : UInt8}
theorem nats_len (B : Array UInt8) : (nats B).length = B.size := by simp [nats]
theorem nats_lt (B : Array UInt8) : ∀ y ∈ nats B, y < 256 := by
  intro y hy
  obtain ⟨z, _, rfl⟩ := List.mem_map.mp hy
  exact z.toNat_lt
theorem nats_get (hc : B[k]? = some c) : (nats B)[k]? = some c.toNat := by
  show (B.toList.map UInt8.toNat)[k]? = _
  rw [List.getElem?_map, Array.getElem?_toList, hc]
  rfl
theorem nats_drop (hc : B[k]? = some c) : (nats B).drop k = c.toNat :: (nats B).drop (k + 1) := by
  obtain ⟨h1, h2⟩ := List.getElem?_eq_some_iff.mp (nats_get hc)
  rw [List.drop_eq_getElem_cons h1, h2]
theorem nats_end (h : k = B.size) : (nats B).drop k = [] := List.drop_eq_nil_of_le (by rw [nats_len]; omega)
theorem lt_of_get (hc : B[k]? = some c) : k < B.size := (Array.getElem?_eq_some_iff.mp hc).1
theorem tA1 (hc : B[k]? = some c) (he : nats R ++ Bq p ((nats B).drop k) = Bq p (nats B)) (h : c.toNat = 37) (ha : p.again = true) (hk : k + 1 = B.size) : St p (nats B) (k + 1) #[37] (R ++ #[37, 50, 53]) := by
  refine .inr (.inr (.inl ⟨rfl, by rw [nats_len]; exact hk, ?_⟩))
  rw [nats_drop hc, h, nats_end hk, Bq_pct0 ha] at he
  rw [nats_app, ← he]
  rfl
theorem tA2 (hc : B[k]? = some c) (he : nats R ++ Bq p ((nats B).drop k) = Bq p (nats B)) (h : c.toNat = 37) (ha : p.again = true) (hk : k + 1 ≠ B.size) : St p (nats B) (k + 1) #[37] R := by
  have := lt_of_get hc
  refine .inr (.inl ⟨rfl, by rw [nats_len]; omega, ha, ?_⟩)
  rw [nats_drop hc, h] at he
  exact he
theorem u8_of {n : Nat} {c : UInt8} (h : c.toNat = n) (hn : n < 256) : c = UInt8.ofNat n := by
  rw [← h, UInt8.ofNat_toNat]
theorem tA1p (hc : B[k]? = some c) (he : nats R ++ Bq p ((nats B).drop k) = Bq p (nats B)) (h : c.toNat = 37) (ha : p.again = true) (hk : k + 1 = B.size) : St p (nats B) (k + 1) (#[].push c) (R ++ #[37, 50, 53]) := by
  have := tA1 hc he h ha hk
  rw [u8_of h (by decide)]
  exact this
theorem tA2p (hc : B[k]? = some c) (he : nats R ++ Bq p ((nats B).drop k) = Bq p (nats B)) (h : c.toNat = 37) (ha : p.again = true) (hk : k + 1 ≠ B.size) : St p (nats B) (k + 1) (#[].push c) R := by
  have := tA2 hc he h ha hk
  rw [u8_of h (by decide)]
  exact this
theorem tA3 (hc : B[k]? = some c) (he : nats R ++ Bq p ((nats B).drop k) = Bq p (nats B)) (h : c.toNat = 32) (hq : p.query = true) : St p (nats B) (k + 1) #[] (R.push 43) := by
  have := lt_of_get hc
  refine .inl ⟨rfl, by rw [nats_len]; omega, ?_⟩
  rw [nats_drop hc, Bq_one (by omega)] at he
  rw [nats_push, ← he, List.append_assoc]
  unfold oneB
  rw [if_pos ⟨h, hq⟩]
  rfl
theorem tA4 (hc : B[k]? = some c) (he : nats R ++ Bq p ((nats B).drop k) = Bq p (nats B)) (h1 : ¬ (c.toNat = 37 ∧ p.again = true)) (h2 : ¬ (c.toNat = 32 ∧ p.query = true)) (hm : p.may.contains c.toNat = true) : St p (nats B) (k + 1) #[] (R.push c) := by
  have := lt_of_get hc
  refine .inl ⟨rfl, by rw [nats_len]; omega, ?_⟩
  rw [nats_drop hc, Bq_one h1] at he
  rw [nats_push, ← he, List.append_assoc]
  unfold oneB
  rw [if_neg h2, if_pos hm]
theorem nat_u8 {n : Nat} (h : n < 256) : n.toUInt8.toNat = n := by
  show n % 256 = n
  omega
theorem nats_hex {n : Nat} (h : n < 256) : nats #[37, (hexD true (n / 16)).toUInt8, (hexD true (n % 16)).toUInt8] = hexUp n := by
  have h1 : hexD true (n / 16) < 128 := hexD_lt (by omega)
  have h2 : hexD true (n % 16) < 128 := hexD_lt (by omega)
  show [37, (hexD true (n / 16)).toUInt8.toNat, (hexD true (n % 16)).toUInt8.toNat] = _
  rw [nat_u8 (by omega), nat_u8 (by omega)]
  rfl
theorem tA5 (hc : B[k]? = some c) (he : nats R ++ Bq p ((nats B).drop k) = Bq p (nats B)) (h1 : ¬ (c.toNat = 37 ∧ p.again = true)) (h2 : ¬ (c.toNat = 32 ∧ p.query = true)) (hm : p.may.contains c.toNat = false) :
    St p (nats B) (k + 1) #[] (R ++ #[37, (hexD true (c.toNat / 16)).toUInt8, (hexD true (c.toNat % 16)).toUInt8]) := by
  have := lt_of_get hc
  refine .inl ⟨rfl, by rw [nats_len]; omega, ?_⟩
  rw [nats_drop hc, Bq_one h1] at he
  rw [nats_app, nats_hex c.toNat_lt, ← he, List.append_assoc]
  unfold oneB
  rw [if_neg h2, hm]
  rfl
theorem tB1 (hc : B[k]? = some c) (he : nats R ++ Bq p (37 :: (nats B).drop k) = Bq p (nats B)) (ha : p.again = true) (hk : k + 1 = B.size) : St p (nats B) k #[] (R ++ #[37, 50, 53]) := by
  refine .inl ⟨rfl, by rw [nats_len]; omega, ?_⟩
  have hd := nats_drop hc
  rw [nats_end hk] at hd
  rw [hd, Bq_pct1 ha] at he
  rw [nats_app, ← he, hd, List.append_assoc]
  rfl
theorem tB2 (hc : B[k]? = some c) (he : nats R ++ Bq p (37 :: (nats B).drop k) = Bq p (nats B)) (ha : p.again = true) (hk : k + 1 ≠ B.size) {y : UInt8} (hy : low c = y) : St p (nats B) (k + 1) #[37, y] R := by
  have := lt_of_get hc
  refine .inr (.inr (.inr ⟨c, by rw [hy], by omega, by rw [nats_len]; omega, ha, ?_, ?_⟩))
  · rw [Nat.add_sub_cancel]; exact nats_get hc
  · rw [nats_drop hc] at he; exact he
def hexds : List Nat := [48, 49, 50, 51, 52, 53, 54, 55, 56, 57, 97, 98, 99, 100, 101, 102, 65, 66, 67, 68, 69, 70]
theorem u8_all {P : UInt8 → Bool} (h : ∀ n : _root_.Fin 256, P (UInt8.ofNat n.val) = true) (c : UInt8) : P c = true := by
  have := h ⟨c.toNat, c.toNat_lt⟩
  rwa [UInt8.ofNat_toNat] at this
theorem low_hex (c : UInt8) : isHex (low c).toNat = isHex c.toNat ∧ (isHex c.toNat = true → hexVal (low c).toNat = hexVal c.toNat ∧ upHex c.toNat = (low c).toNat) := by
  have := u8_all (P := fun c => decide (isHex (low c).toNat = isHex c.toNat ∧ (isHex c.toNat = true → hexVal (low c).toNat = hexVal c.toNat ∧ upHex c.toNat = (low c).toNat))) (by decide +kernel) c
  exact of_decide_eq_true this
theorem hex_in (c : UInt8) : isHex c.toNat = true ↔ c.toNat ∈ hexds := by
  have := u8_all (P := fun c => decide (isHex c.toNat = true ↔ c.toNat ∈ hexds)) (by decide +kernel) c
  exact of_decide_eq_true this
theorem hexVal_lt {c : Nat} (h : isHex c = true) : hexVal c < 16 := by
  unfold isHex at h
  simp at h
  unfold hexVal
  split
  · omega
  · split <;> omega
theorem drop_back {a : UInt8} (h1 : 1 ≤ k) (hka : (nats B)[k - 1]? = some a.toNat) : (nats B).drop (k - 1) = a.toNat :: (nats B).drop k := by
  obtain ⟨h2, h3⟩ := List.getElem?_eq_some_iff.mp hka
  rw [List.drop_eq_getElem_cons h2, h3, Nat.sub_add_cancel h1]
theorem tC1 {a x y : UInt8} (hc : B[k]? = some c) (h1 : 1 ≤ k) (hka : (nats B)[k - 1]? = some a.toNat) (he : nats R ++ Bq p (37 :: a.toNat :: (nats B).drop k) = Bq p (nats B)) (ha : p.again = true)
    (hx : low a = x) (hy : low c = y) (hn0 : isHex x.toNat = false ∨ isHex y.toNat = false) : St p (nats B) (k - 1) #[] (R ++ #[37, 50, 53]) := by
  have := lt_of_get hc
  refine .inl ⟨rfl, by rw [nats_len]; omega, ?_⟩
  have hn : ¬ (x.toNat ∈ hexds ∧ y.toNat ∈ hexds) := by
    rw [← hex_in, ← hex_in]
    rintro ⟨g1, g2⟩
    rcases hn0 with g | g
    · rw [g1] at g; cases g
    · rw [g2] at g; cases g
  have hx' : (isHex a.toNat && isHex c.toNat) = false := by
    cases h : isHex a.toNat && isHex c.toNat with
    | false => rfl
    | true =>
      simp only [Bool.and_eq_true] at h
      refine absurd ⟨?_, ?_⟩ hn
      · rw [← hex_in, ← hx, (low_hex a).1]; exact h.1
      · rw [← hex_in, ← hy, (low_hex c).1]; exact h.2
  rw [nats_drop hc, Bq_pctN ha hx'] at he
  rw [drop_back h1 hka, nats_drop hc, nats_app, ← he, List.append_assoc]
  rfl
theorem tC_hex {a x y : UInt8} (hx : low a = x) (hy : low c = y) (h1 : x.toNat ∈ hexds) (h2 : y.toNat ∈ hexds) : isHex a.toNat = true ∧ isHex c.toNat = true ∧ hexVal x.toNat = hexVal a.toNat ∧ hexVal y.toNat = hexVal c.toNat ∧ upHex a.toNat = x.toNat ∧ upHex c.toNat = y.toNat := by
  subst hx hy
  rw [← hex_in, (low_hex _).1] at h1 h2
  exact ⟨h1, h2, ((low_hex a).2 h1).1, ((low_hex c).2 h2).1, ((low_hex a).2 h1).2, ((low_hex c).2 h2).2⟩
theorem tC2 {a x y : UInt8} (hc : B[k]? = some c) (he : nats R ++ Bq p (37 :: a.toNat :: (nats B).drop k) = Bq p (nats B)) (ha : p.again = true)
    (hx : low a = x) (hy : low c = y) (k1 : isHex x.toNat = true) (k2 : isHex y.toNat = true) (hv : ¬ (p.may.contains (16 * hexVal x.toNat + hexVal y.toNat) = true ∧ p.kept.contains (16 * hexVal x.toNat + hexVal y.toNat) = false)) :
    St p (nats B) (k + 1) #[] (R ++ #[37, x, y]) := by
  have := lt_of_get hc
  have h1 := (hex_in x).mp k1
  have h2 := (hex_in y).mp k2
  obtain ⟨g1, g2, g3, g4, g5, g6⟩ := tC_hex hx hy h1 h2
  refine .inl ⟨rfl, by rw [nats_len]; omega, ?_⟩
  rw [nats_drop hc, Bq_pctY ha (by rw [g1, g2]; rfl)] at he
  rw [nats_app, ← he, List.append_assoc]
  congr 1
  unfold dec
  rw [← g3, ← g4, if_neg (by simpa using hv), g5, g6]
  rfl
theorem tC3 {a x y : UInt8} (hc : B[k]? = some c) (he : nats R ++ Bq p (37 :: a.toNat :: (nats B).drop k) = Bq p (nats B)) (ha : p.again = true)
    (hx : low a = x) (hy : low c = y) (k1 : isHex x.toNat = true) (k2 : isHex y.toNat = true) (hv : p.may.contains (16 * hexVal x.toNat + hexVal y.toNat) = true) (hw : p.kept.contains (16 * hexVal x.toNat + hexVal y.toNat) = false) :
    St p (nats B) (k + 1) #[] (R.push (UInt8.ofNat (16 * hexVal x.toNat + hexVal y.toNat))) := by
  have := lt_of_get hc
  have h1 := (hex_in x).mp k1
  have h2 := (hex_in y).mp k2
  obtain ⟨g1, g2, g3, g4, g5, g6⟩ := tC_hex hx hy h1 h2
  refine .inl ⟨rfl, by rw [nats_len]; omega, ?_⟩
  rw [nats_drop hc, Bq_pctY ha (by rw [g1, g2]; rfl)] at he
  have b1 := hexVal_lt ((hex_in x).mpr h1)
  have b2 := hexVal_lt ((hex_in y).mpr h2)
  rw [nats_push, ← he, List.append_assoc]
  congr 1
  unfold dec
  rw [← g3, ← g4, if_pos (by rw [hv, hw]; rfl)]
  show [(UInt8.ofNat _).toNat] ++ _ = _
  rw [show (UInt8.ofNat (16 * hexVal x.toNat + hexVal y.toNat)).toNat = 16 * hexVal x.toNat + hexVal y.toNat from nat_u8 (by omega)]
/-- when the walk is over -/
theorem tEnd {P : Array UInt8} (h : St p (nats B) k P R) (hk : ¬ k < B.size) : nats R = Bq p (nats B) := by
  rcases h with ⟨_, h1, he⟩ | ⟨_, h1, _, he⟩ | ⟨_, _, he⟩ | ⟨a, _, _, h1, _, _, he⟩
  · rw [nats_len] at h1
    rw [nats_end (by omega), Bq_nil, List.append_nil] at he
    exact he
  · rw [nats_len] at h1; omega
  · exact he
  · rw [nats_len] at h1; omega
end
end Mine
end

section
open PySem PySem.W PyProof.Rows PySem.Calls
set_option maxRecDepth 100000
namespace Mine
theorem W_nil (p : Par) : W p [] = [] := by unfold W; rfl
theorem W_one {p : Par} {c : Nat} {r : List Nat} (h : ¬ (c = 37 ∧ p.again = true)) : W p (c :: r) = oneW p c ++ W p r := by
  rw [W.eq_def]; simp only [if_neg h]
theorem W_pct0 {p : Par} (h : p.again = true) : W p [37] = [37, 50, 53] := by
  rw [W.eq_def]; simp [h]
theorem W_pct1 {p : Par} {a : Nat} (h : p.again = true) : W p [37, a] = [37, 50, 53] ++ W p [a] := by
  rw [W.eq_def]; simp [h]
theorem W_pctY {p : Par} {a b : Nat} {r : List Nat} (h : p.again = true) (hx : (isHex a && isHex b) = true) : W p (37 :: a :: b :: r) = dec p a b ++ W p r := by
  rw [W.eq_def]; simp [h, hx]
theorem W_pctN {p : Par} {a b : Nat} {r : List Nat} (h : p.again = true) (hx : (isHex a && isHex b) = false) : W p (37 :: a :: b :: r) = [37, 50, 53] ++ W p (a :: b :: r) := by
  rw [W.eq_def]; simp [h, hx]
/-- a piece that is read as itself, whatever follows -/
def Fixed (p : Par) (l : List Nat) : Prop := ∀ r, W p (l ++ r) = l ++ W p r
theorem Fixed.app {p : Par} {a b : List Nat} (ha : Fixed p a) (hb : Fixed p b) : Fixed p (a ++ b) := fun r => by
  rw [List.append_assoc, ha, hb, List.append_assoc]
theorem Fixed.nil {p : Par} : Fixed p [] := fun _ => rfl
/-- what the second reading asks -/
structure Again (p : Par) : Prop where
  ok : p.Ok
  again : p.again = true
  no37 : p.may.contains 37 = false
  no32 : p.may.contains 32 = false
  plus : p.query = true → p.may.contains 43 = true
theorem fixed_may {p : Par} (A : Again p) {c : Nat} (h : p.may.contains c = true) : Fixed p [c] := fun r => by
  have h1 : c ≠ 37 := by rintro rfl; rw [A.no37] at h; cases h
  have h2 : c ≠ 32 := by rintro rfl; rw [A.no32] at h; cases h
  show W p (c :: r) = _
  rw [W_one (fun x => h1 x.1)]
  unfold oneW
  rw [if_neg (fun x => h2 x.1), if_pos h]
theorem fixed_hex {p : Par} (A : Again p) {a b : Nat} (ha : isHex a = true) (hb : isHex b = true) (ua : upHex a = a) (ub : upHex b = b)
    (hn : ¬ (p.may.contains (16 * hexVal a + hexVal b) = true ∧ p.kept.contains (16 * hexVal a + hexVal b) = false)) : Fixed p [37, a, b] := fun r => by
  show W p (37 :: a :: b :: r) = _
  rw [W_pctY A.again (by rw [ha, hb]; rfl)]
  unfold dec
  rw [if_neg (by simpa using hn), ua, ub]
theorem hexD_facts : ∀ d, d < 16 → isHex (hexD true d) = true ∧ upHex (hexD true d) = hexD true d ∧ hexVal (hexD true d) = d := by decide
theorem upHex_facts {a : Nat} (h : isHex a = true) : isHex (upHex a) = true ∧ upHex (upHex a) = upHex a ∧ hexVal (upHex a) = hexVal a := by
  have hl : a < 103 := by unfold isHex at h; simp at h; omega
  have H : ∀ a : _root_.Fin 103, isHex a.val = true → isHex (upHex a.val) = true ∧ upHex (upHex a.val) = upHex a.val ∧ hexVal (upHex a.val) = hexVal a.val := by decide +kernel
  exact H ⟨a, hl⟩ h
theorem fixed_hexUp {p : Par} (A : Again p) {n : Nat} (h : n < 256) (hn : p.may.contains n = false) : Fixed p (hexUp n) := by
  obtain ⟨a1, a2, a3⟩ := hexD_facts (n / 16) (by omega)
  obtain ⟨b1, b2, b3⟩ := hexD_facts (n % 16) (by omega)
  refine fixed_hex A a1 b1 a2 b2 ?_
  rw [a3, b3, show 16 * (n / 16) + n % 16 = n from by omega, hn]
  rintro ⟨h, _⟩
  cases h
theorem fixed_25 {p : Par} (A : Again p) : Fixed p [37, 50, 53] := by
  refine fixed_hex A (by decide) (by decide) (by decide) (by decide) ?_
  rw [show 16 * hexVal 50 + hexVal 53 = 37 from by decide, A.no37]
  rintro ⟨h, _⟩
  cases h
theorem fixed_flat {p : Par} (A : Again p) : ∀ {l : List Nat}, (∀ o ∈ l, o < 256 ∧ p.may.contains o = false) → Fixed p (l.flatMap hexUp)
  | [], _ => Fixed.nil
  | o :: l, h => by
    rw [List.flatMap_cons]
    exact (fixed_hexUp A (h o (.head _)).1 (h o (.head _)).2).app (fixed_flat A fun x hx => h x (.tail _ hx))
theorem octets_lt {c : Nat} (h : c < 1114112) : ∀ o ∈ octets c, o < 256 ∧ (128 ≤ c → 128 ≤ o) ∧ (c < 128 → o = c) := by
  intro o ho
  unfold octets at ho
  split at ho
  · simp only [List.mem_cons, List.not_mem_nil, or_false] at ho; omega
  · split at ho
    · simp only [List.mem_cons, List.not_mem_nil, or_false] at ho; omega
    · split at ho <;> · simp only [List.mem_cons, List.not_mem_nil, or_false] at ho; omega
theorem fixed_one {p : Par} (A : Again p) {c : Nat} (h : c < 1114112) : Fixed p (oneW p c) := by
  unfold oneW
  split
  · rename_i hq
    exact fixed_may A (A.plus hq.2)
  · split
    · rename_i hm; exact fixed_may A hm
    · rename_i hm
      refine fixed_flat A fun o ho => ⟨(octets_lt h o ho).1, ?_⟩
      by_cases hc : c < 128
      · rw [(octets_lt h o ho).2.2 hc]; simpa using hm
      · cases hk : p.may.contains o with
        | false => rfl
        | true =>
          have := A.ok o hk
          have := (octets_lt h o ho).2.1 (by omega)
          omega
theorem fixed_dec {p : Par} (A : Again p) {a b : Nat} (ha : isHex a = true) (hb : isHex b = true) : Fixed p (dec p a b) := by
  unfold dec
  split
  · rename_i h
    simp only [Bool.and_eq_true] at h
    exact fixed_may A h.1
  · rename_i h
    obtain ⟨a1, a2, a3⟩ := upHex_facts ha
    obtain ⟨b1, b2, b3⟩ := upHex_facts hb
    refine fixed_hex A a1 b1 a2 b2 ?_
    rw [a3, b3]
    simpa using h
theorem fixed_W {p : Par} (A : Again p) : ∀ (n : Nat) (l : List Nat), l.length ≤ n → (∀ c ∈ l, c < 1114112) → Fixed p (W p l)
  | 0, l, h, _ => by
    have : l = [] := List.eq_nil_of_length_eq_zero (by omega)
    subst this; rw [W_nil]; exact Fixed.nil
  | n + 1, [], h, _ => by rw [W_nil]; exact Fixed.nil
  | n + 1, c :: r, h, hl => by
    have hr : r.length ≤ n := by simp at h; omega
    have hlr : ∀ c ∈ r, c < 1114112 := fun y hy => hl y (.tail _ hy)
    by_cases hc : c = 37 ∧ p.again = true
    · obtain ⟨rfl, ha⟩ := hc
      match r, hr, hlr with
      | [], _, _ => rw [W_pct0 ha]; exact fixed_25 A
      | [a], hr, hlr => rw [W_pct1 ha]; exact (fixed_25 A).app (fixed_W A n [a] hr hlr)
      | a :: b :: r', hr, hlr =>
        cases hx : isHex a && isHex b with
        | true =>
          rw [W_pctY ha hx]
          simp only [Bool.and_eq_true] at hx
          exact (fixed_dec A hx.1 hx.2).app (fixed_W A n r' (by simp at hr; omega) fun y hy => hlr y (.tail _ (.tail _ hy)))
        | false => rw [W_pctN ha hx]; exact (fixed_25 A).app (fixed_W A n (a :: b :: r') hr hlr)
    · rw [W_one hc]; exact (fixed_one A (hl c (.head _))).app (fixed_W A n r hr hlr)
/-- what was read once stays -/
theorem W_again {p : Par} (A : Again p) {l : List Nat} (hl : ∀ c ∈ l, c < 1114112) : W p (W p l) = W p l := by
  have := fixed_W A l.length l (Nat.le_refl _) hl []
  rwa [List.append_nil, W_nil, List.append_nil] at this
end Mine
end

section
open PySem PySem.W PyProof.Rows PySem.Calls
set_option maxRecDepth 100000
namespace Mine
def oct (l : List Nat) : List Nat := l.flatMap octets
theorem oct_cons (c : Nat) (l : List Nat) : oct (c :: l) = octets c ++ oct l := List.flatMap_cons
theorem oct_small {c : Nat} (h : c < 128) : octets c = [c] := if_pos h
theorem oct_big {c : Nat} (hc : ¬ c < 128) (hl : c < 1114112) : ∃ o os, octets c = o :: os ∧ 128 ≤ o := by
  cases h : octets c with
  | nil =>
    exfalso
    unfold octets at h
    split at h
    · cases h
    · split at h
      · cases h
      · split at h <;> cases h
  | cons o os => exact ⟨o, os, rfl, (octets_lt hl o (by rw [h]; exact .head _)).2.1 (by omega)⟩
theorem not_hex {c : Nat} (h : 128 ≤ c) : isHex c = false := by
  cases e : isHex c with
  | false => rfl
  | true => unfold isHex at e; simp at e; omega
theorem Bq_pct {p : Par} (h : p.again = true) : ∀ (m : List Nat), (∀ a b r, m = a :: b :: r → (isHex a && isHex b) = false) → Bq p (37 :: m) = [37, 50, 53] ++ Bq p m
  | [], _ => by rw [Bq_pct0 h, Bq_nil]; rfl
  | [a], _ => Bq_pct1 h
  | a :: b :: r, hm => Bq_pctN h (hm a b r rfl)
theorem Bq_flat {p : Par} (ok : p.Ok) {rest : List Nat} : ∀ {l : List Nat}, (∀ o ∈ l, 128 ≤ o) → Bq p (l ++ rest) = l.flatMap hexUp ++ Bq p rest
  | [], _ => rfl
  | o :: l, h => by
    have ho := h o (.head _)
    rw [List.cons_append, Bq_one (by omega), List.flatMap_cons, List.append_assoc, Bq_flat ok fun x hx => h x (.tail _ hx)]
    congr 1
    unfold oneB
    rw [if_neg (by omega)]
    cases hk : p.may.contains o with
    | false => rfl
    | true => have := ok o hk; omega
theorem Bq_char {p : Par} (ok : p.Ok) {c : Nat} {rest : List Nat} (hl : c < 1114112) (h : ¬ (c = 37 ∧ p.again = true)) : Bq p (octets c ++ rest) = oneW p c ++ Bq p rest := by
  by_cases hc : c < 128
  · rw [oct_small hc]
    show Bq p (c :: rest) = _
    rw [Bq_one h]
    congr 1
    unfold oneB oneW
    rw [oct_small hc]
    simp
  · rw [Bq_flat ok fun o ho => (octets_lt hl o ho).2.1 (by omega)]
    congr 1
    unfold oneW
    rw [if_neg (by omega)]
    cases hk : p.may.contains c with
    | false => rfl
    | true => have := ok c hk; omega
theorem Bq_oct {p : Par} (ok : p.Ok) : ∀ (n : Nat) (l : List Nat), l.length ≤ n → (∀ c ∈ l, c < 1114112) → Bq p (oct l) = W p l
  | 0, l, h, _ => by
    have : l = [] := List.eq_nil_of_length_eq_zero (by omega)
    subst this; rw [W_nil]; exact Bq_nil p
  | n + 1, [], h, _ => by rw [W_nil]; exact Bq_nil p
  | n + 1, c :: r, h, hl => by
    have hr : r.length ≤ n := by simp at h; omega
    have hlr : ∀ c ∈ r, c < 1114112 := fun y hy => hl y (.tail _ hy)
    by_cases hc : c = 37 ∧ p.again = true
    · obtain ⟨rfl, ha⟩ := hc
      rw [oct_cons, oct_small (by decide)]
      show Bq p (37 :: oct r) = _
      match r, hr, hlr with
      | [], _, _ => rw [W_pct0 ha]; exact Bq_pct0 ha
      | [a], hr, hlr =>
        rw [W_pct1 ha, ← Bq_oct ok n [a] hr hlr]
        refine Bq_pct ha _ fun x y r' e => ?_
        by_cases hca : a < 128
        · rw [oct_cons, oct_small hca] at e
          cases e
        · obtain ⟨o, os, eo, ho⟩ := oct_big hca (hlr a (.head _))
          rw [oct_cons, eo] at e
          injection e with e1 e2
          rw [← e1, not_hex ho]
          rfl
      | a :: b :: r', hr, hlr =>
        by_cases hca : a < 128
        · by_cases hcb : b < 128
          · cases hx : isHex a && isHex b with
            | true =>
              rw [W_pctY ha hx, ← Bq_oct ok n r' (by simp at hr; omega) fun y hy => hlr y (.tail _ (.tail _ hy)), oct_cons, oct_cons, oct_small hca, oct_small hcb]
              exact Bq_pctY ha hx
            | false =>
              rw [W_pctN ha hx, ← Bq_oct ok n (a :: b :: r') hr hlr]
              refine Bq_pct ha _ fun x y r'' e => ?_
              rw [oct_cons, oct_cons, oct_small hca, oct_small hcb] at e
              injection e with e1 e2
              injection e2 with e2 e3
              rw [← e1, ← e2, hx]
          · obtain ⟨o, os, eo, ho⟩ := oct_big hcb (hlr b (.tail _ (.head _)))
            rw [W_pctN ha (by rw [not_hex (c := b) (by omega)]; exact Bool.and_false _), ← Bq_oct ok n (a :: b :: r') hr hlr]
            refine Bq_pct ha _ fun x y r'' e => ?_
            rw [oct_cons, oct_cons, oct_small hca, eo] at e
            injection e with e1 e2
            injection e2 with e2 e3
            rw [← e2, not_hex ho]
            exact Bool.and_false _
        · obtain ⟨o, os, eo, ho⟩ := oct_big hca (hlr a (.head _))
          rw [W_pctN ha (by rw [not_hex (c := a) (by omega)]; rfl), ← Bq_oct ok n (a :: b :: r') hr hlr]
          refine Bq_pct ha _ fun x y r'' e => ?_
          rw [oct_cons, eo] at e
          injection e with e1 e2
          rw [← e1, not_hex ho]
          rfl
    · rw [W_one hc, oct_cons, Bq_char ok (hl c (.head _)) hc, Bq_oct ok n r hr hlr]
theorem utf8Of_nats {c : Nat} (h : c < 1114112) : (Str.utf8Of c).map UInt8.toNat = octets c := by
  unfold Str.utf8Of octets
  split
  · simp only [List.map_cons, List.map_nil]; rw [nat_u8 (by omega)]
  · split
    · simp only [List.map_cons, List.map_nil]; rw [nat_u8 (by omega), nat_u8 (by omega)]
    · split
      · simp only [List.map_cons, List.map_nil]; rw [nat_u8 (by omega), nat_u8 (by omega), nat_u8 (by omega)]
      · simp only [List.map_cons, List.map_nil]; rw [nat_u8 (by omega), nat_u8 (by omega), nat_u8 (by omega), nat_u8 (by omega)]
theorem nats_utf8 {x : Str} (h : ∀ c ∈ x.cps.toList, c < 1114112) : nats (utf8B x) = oct x.cps.toList := by
  have H : ∀ (l : List Nat) (acc : Array UInt8), (∀ c ∈ l, c < 1114112) → nats (l.foldl (fun acc y => acc ++ (Str.utf8Of y).toArray) acc) = nats acc ++ oct l := by
    intro l
    induction l with
    | nil => intro acc _; simp [oct]
    | cons y r ih =>
      intro acc hl
      rw [List.foldl_cons, ih _ fun c hc => hl c (.tail _ hc), nats_app, oct_cons, List.append_assoc]
      congr 2
      show ((Str.utf8Of y).toArray.toList).map UInt8.toNat = _
      exact utf8Of_nats (hl y (.head _))
  unfold utf8B
  rw [← Array.foldl_toList, H _ _ h]
  rfl
/-- what the quoter's bytes read to is the plain reading of the text -/
theorem Bq_is_W {p : Par} (ok : p.Ok) {x : Str} (h : ∀ c ∈ x.cps.toList, c < 1114112) : Bq p (nats (utf8B x)) = W p x.cps.toList := by
  rw [nats_utf8 h]
  exact Bq_oct ok _ _ (Nat.le_refl _) h
end Mine
end

section
open PySem PySem.W PyProof.Rows PySem.Calls
set_option maxRecDepth 100000
namespace Mine
theorem octets_len (c : Nat) : (octets c).length ≤ 4 := by
  unfold octets
  split
  · simp
  · split
    · simp
    · split <;> simp
theorem oct_len : ∀ l : List Nat, (oct l).length ≤ 4 * l.length
  | [] => by simp [oct]
  | c :: r => by
    have := octets_len c
    have := oct_len r
    rw [oct_cons, List.length_append, List.length_cons]
    omega
theorem oct_lt {l : List Nat} (h : ∀ c ∈ l, c < 1114112) : ∀ o ∈ oct l, o < 256 := by
  intro o ho
  obtain ⟨c, hc, ho⟩ := List.mem_flatMap.mp ho
  exact (octets_lt (h c hc) o ho).1
theorem utf8_len {x : Str} (h : ∀ c ∈ x.cps.toList, c < 1114112) : (utf8B x).size ≤ 4 * x.length := by
  have h1 := nats_utf8 h
  have h2 := oct_len x.cps.toList
  rw [← h1, nats_len] at h2
  simpa [Str.length] using h2
theorem W_len {p : Par} (ok : p.Ok) {l : List Nat} (h : ∀ c ∈ l, c < 1114112) : (W p l).length ≤ 12 * l.length := by
  rw [← Bq_oct ok _ _ (Nat.le_refl _) h]
  have := Bq_len p _ (oct l) (Nat.le_refl _)
  have := oct_len l
  omega
theorem W_lt {p : Par} (ok : p.Ok) {l : List Nat} (h : ∀ c ∈ l, c < 1114112) : ∀ y ∈ W p l, y < 128 := by
  rw [← Bq_oct ok _ _ (Nat.le_refl _) h]
  exact Bq_lt ok _ _ (Nat.le_refl _) (oct_lt h)
/-! turns of the walk over the signs -/
section
variable {p : Par} {l o : List Nat} {k c : Nat}
theorem at_drop (hc : l[k]? = some c) : l.drop k = c :: l.drop (k + 1) := by
  obtain ⟨h1, h2⟩ := List.getElem?_eq_some_iff.mp hc
  rw [List.drop_eq_getElem_cons h1, h2]
theorem wOne (hc : l[k]? = some c) (he : o ++ W p (l.drop k) = W p l) (h : ¬ (c = 37 ∧ p.again = true)) : (o ++ oneW p c) ++ W p (l.drop (k + 1)) = W p l := by
  rw [at_drop hc, W_one h] at he
  rw [List.append_assoc]
  exact he
theorem wEsc {a b : Nat} (hc : l[k]? = some 37) (ha : l[k + 1]? = some a) (hb : l[k + 2]? = some b) (g : p.again = true) (hx : isHex a = true) (hy : isHex b = true) (he : o ++ W p (l.drop k) = W p l) :
    (o ++ dec p a b) ++ W p (l.drop (k + 1 + 2)) = W p l := by
  rw [at_drop hc, at_drop ha, at_drop hb, W_pctY g (by rw [hx, hy]; rfl)] at he
  rw [List.append_assoc]
  exact he
theorem wNo (hc : l[k]? = some 37) (g : p.again = true) (hn : ∀ a b, l[k + 1]? = some a → l[k + 2]? = some b → (isHex a && isHex b) = false) (he : o ++ W p (l.drop k) = W p l) :
    (o ++ [37, 50, 53]) ++ W p (l.drop (k + 1)) = W p l := by
  rw [at_drop hc] at he
  rw [List.append_assoc, ← he]
  congr 1
  cases h1 : l[k + 1]? with
  | none =>
    have : l.drop (k + 1) = [] := List.drop_eq_nil_of_le (List.getElem?_eq_none_iff.mp h1)
    rw [this, W_pct0 g, W_nil]
    rfl
  | some a =>
    rw [at_drop h1]
    cases h2 : l[k + 2]? with
    | none =>
      have : l.drop (k + 1 + 1) = [] := List.drop_eq_nil_of_le (List.getElem?_eq_none_iff.mp h2)
      rw [this, W_pct1 g]
    | some b =>
      rw [at_drop h2, W_pctN g (hn a b h1 h2)]
end
end Mine
end

section
open PySem PySem.W PyProof.Rows PySem.Calls
open Builtin Builtin.Str
set_option maxRecDepth 100000
namespace Mine
theorem slc_range (a b : Int) (n m : Nat) (ha : a = n) (hb : b = n + m) : sliceRange a b 1 = (List.range m).map fun j => n + j := by
  subst ha hb
  unfold sliceRange
  have e : (if (1 : Int) > 0 then (if (n : Int) < (n : Int) + m then ((n : Int) + m - n + 1 - 1) / 1 else 0) else (if (n : Int) > (n : Int) + m then ((n : Int) - (n + m) - 1 - 1) / (-1) else 0)) = (m : Int) := by
    rw [if_pos (by decide)]
    split
    · rw [Int.ediv_one]; omega
    · omega
  simp only [e, Int.toNat_natCast]
  refine List.map_congr_left fun j _ => ?_
  omega
theorem slc_idx (k n m : Nat) (h : k + 1 + m ≤ n) (hm : m = 2 ∨ k + 1 + m = n ∧ m ≤ 2) : strSliceIndices (some ((k : Int) + 1)) (some ((k : Int) + 3)) 1 n = (List.range m).map fun j => (k + 1) + j := by
  unfold strSliceIndices
  simp only [show (1 : Int) > 0 by decide, if_true]
  refine slc_range _ _ (k + 1) m ?_ ?_
  · rw [if_neg (by omega)]; omega
  · rw [if_neg (by omega)]; omega
theorem slc2 {x : Str} {k a b : Nat} (ha : x.cps[k + 1]? = some a) (hb : x.cps[k + 2]? = some b) : Txt.slice x (some ((k : Int) + 1)) (some ((k : Int) + 3)) = ⟨#[a, b]⟩ := by
  have hn : k + 2 < x.length := (Array.getElem?_eq_some_iff.mp hb).1
  have e := slc_idx k x.length 2 (by omega) (.inl rfl)
  unfold Txt.slice
  rw [e, if_neg (by simp; omega)]
  show (⟨([k + 1 + 0, k + 1 + 1].filterMap (x.cps[·]?)).toArray⟩ : Str) = _
  simp only [Nat.add_zero, List.filterMap_cons, ha, hb, List.filterMap_nil, show k + 1 + 1 = k + 2 from rfl]
theorem slc_short {x : Str} {k : Nat} (hk : k < x.length) (h : ¬ k + 2 < x.length) : (Txt.slice x (some ((k : Int) + 1)) (some ((k : Int) + 3))).length ≠ 2 := by
  have e := slc_idx k x.length (x.length - (k + 1)) (by omega) (.inr ⟨by omega, by omega⟩)
  unfold Txt.slice
  rw [e, if_neg (by simp; omega)]
  have := List.length_filterMap_le (x.cps[·]?) ((List.range (x.length - (k + 1))).map fun j => (k + 1) + j)
  rw [List.length_map, List.length_range] at this
  show (List.filterMap _ _).toArray.size ≠ 2
  rw [List.size_toArray]
  omega
theorem item_at {x : Str} {k c : Nat} (hc : x.cps[k]? = some c) : Txt.item x (k : Int) = ⟨#[c]⟩ := by
  have hn : k < x.length := (Array.getElem?_eq_some_iff.mp hc).1
  unfold Txt.item Txt.charAt seqIndex?
  have : ¬ ((k : Int) < 0) := by omega
  simp [this, hn, hc]
end Mine
end

section
open PySem PySem.W PyProof.Rows PySem.Calls
open Sem (wp)
set_option maxRecDepth 100000
namespace Mine
section
variable {prog : Program} {w : World} {A : Around} {E : Value → Shared → Prop} {s : Shared} {h₀ : Heap} {L : Addr} {news : List (Addr × Obj)}
theorem eq_nil {a b : Addr} {vs : List Value} {n k : Nat} {Q : Value → Shared → Prop} (N : News h₀ L s.heap news) (ha : (a, PySem.W.listOf vs.toArray n) ∈ news) (hb : (b, PySem.W.listOf #[] k) ∈ news) (hu : A.units < cLine) (h : Q (.bool vs.isEmpty) s) :
    wpAny (model prog w) A (compareOp .Eq (.ref a) (.ref b)) Q E s := by
  have h1 := News.isList N ha
  have h2 := News.isList N hb
  cases vs with
  | nil => exact PySem.SeqAt.eq_listAt h1 h2 rfl hu (e := fun _ => true) (fun j h1 _ => absurd h1 (Nat.not_lt_zero _)) h
  | cons v r => exact PySem.SeqAt.eq_list_lengthsAt h1 h2 (by simp) hu h
end
end Mine
end

section
open PySem PySem.W PyProof.Rows PySem.Calls
open Sem (wp)
set_option maxRecDepth 100000
namespace Mine
section
variable {prog : Program} {w : World} {A : Around} {E : Value → Shared → Prop} {s : Shared} {value slice : PySem.Expr} {h₀ : Heap} {L : Addr} {m : Str → Option Value} {news : List (Addr × Obj)} {Q : Value → Shared → Prop}
theorem item_T {x : Str} {k c : Nat} {t u : Tok} (hc : x.cps[k]? = some c) (hz : x.length ≤ 1000) (h : ∀ t kk, Q (.str ⟨#[c]⟩ t) { s with toks := kk })
    (hs : subscripted slice false (.str x t) (.int (k : Int) u) = operate [.str x t, .int (k : Int) u] (getItem (.str x t) (.int (k : Int) u)) := by with_unfolding_all rfl)
    (ht : ∀ r, letTemporaryGo value (.str x t) r = pure () := by intro _; with_unfolding_all rfl) : wpAny (model prog w) A (subscriptTail value slice (.str x t) (.int (k : Int) u)) Q E s := by
  have hn : k < x.length := (Array.getElem?_eq_some_iff.mp hc).1
  refine item_str (by unfold fitsSsize; simp; omega) (by omega) (by omega) (fun _ => ?_) hs ht
  rw [Mine.item_at hc]
  exact h _ _
theorem len_two {a b : Nat} {t : Tok} (h : ∀ t k, Q (.int 2 t) { s with toks := k }) : wpAny (model prog w) A (call (.builtin "len") [.str ⟨#[a, b]⟩ t]) Q E s := P.len_str (by show ¬ ((2 : Nat) : Int) ≥ 2 ^ 63; decide) (h _ _)
theorem slice_T {x : Str} {k a b : Nat} {t ui uj : Tok} (hF : Fr h₀ L s.heap m) (hN : News h₀ L s.heap news) (ha : x.cps[k + 1]? = some a) (hb : x.cps[k + 2]? = some b) (hz : x.length ≤ 1000)
    (h : ∀ h' t' k, Fr h₀ L h' m → News h₀ L h' news → Q (.str ⟨#[a, b]⟩ t') { s with heap := h', toks := k })
    (hs : subscripted slice false (.str x t) (.ref s.heap.objs.size) = operate [.ref s.heap.objs.size, .str x t] (getItem (.str x t) (.ref s.heap.objs.size)) := by with_unfolding_all rfl)
    (ht : ∀ r, letTemporaryGo value (.str x t) r = pure () := by intro _; with_unfolding_all rfl) :
    wpAny (model prog w) A (subscriptTail value slice (.str x t) (.ref s.heap.objs.size)) Q E { s with heap := s.heap.push { cls := .type "slice", data := .fields #[.int ((k : Int) + 1) ui, .int ((k : Int) + 3) uj, .none] } } := by
  refine slice_strN_ss hF hN (fun h' t' kk F N => ?_) hs ht (by rw [sizeLine_eq]; omega)
  rw [slc2 ha hb]
  exact h _ _ _ F N
end
end Mine
end

section
open PySem PySem.W PyProof.Rows PySem.Calls
open Builtin Builtin.Str
set_option maxRecDepth 100000
namespace Mine
theorem notHex_occ (n : Nat) : (occurrences (Str.ofString "0123456789abcdefABCDEF") ⟨#[n]⟩ 0 (Str.ofString "0123456789abcdefABCDEF").length 1).isEmpty = !isHex n := by
  have e := PySem.StrLaws.found_one (Str.ofString "0123456789abcdefABCDEF") n
  have e2 : (Str.ofString "0123456789abcdefABCDEF").cps.toList = hexds := by decide
  rw [e2] at e
  have h3 : decide (n ∈ hexds) = isHex n := by
    cases hx : isHex n with
    | true => exact decide_eq_true (hex_mem hx)
    | false =>
      refine decide_eq_false fun hm => ?_
      have H : ∀ n ∈ hexds, isHex n = true := by decide
      rw [H n hm] at hx
      cases hx
  rw [h3] at e
  rw [← e, Bool.not_not]
end Mine
end

section
open PySem PySem.W PyProof.Rows PySem.Calls
open Sem (wp)
set_option maxRecDepth 100000
set_option maxHeartbeats 100000000
namespace Mine
/-- a list made anew -/
structure Made (h h' : Heap) (a : Addr) (vs : List Value) : Prop where
  kp : Kp h h'
  new : h.get? a = none
  at_ : h'.get? a = some (PySem.W.listOf vs.toArray 0)
theorem Made.put {h₀ h h' : Heap} {L a : Addr} {m : Str → Option Value} {news : List (Addr × Obj)} {vs : List Value} (M : Made h h' a vs) (F : Fr h₀ L h m) (N : News h₀ L h news) :
    Fr h₀ L h' m ∧ News h₀ L h' ((a, PySem.W.listOf vs.toArray 0) :: news) ∧ ∀ q ∈ news, @Ne Nat q.1 a := by
  refine ⟨F.keeps M.kp, ?_, fun q hq e => ?_⟩
  · intro q hq
    rcases List.mem_cons.mp hq with rfl | hq
    · refine ⟨M.at_, fun e => ?_, ?_⟩
      · obtain ⟨oL, _, _, hL, _⟩ := F.ns
        have h1 := M.new
        dsimp only at e
        rw [e, hL] at h1
        cases h1
      · cases hq' : h₀.get? a with
        | none => rfl
        | some o' =>
          have h1 := M.new
          rw [F.keep _ _ hq'] at h1
          cases h1
    · exact ⟨M.kp _ _ (N q hq).1, (N q hq).2⟩
  · have h1 := M.new
    have h2 := (N q hq).1
    rw [show q.1 = a from e] at h2
    rw [h2] at h1
    cases h1
theorem Made.of {h h' : Heap} {a L : Addr} {vs : List Value} {m : Str → Option Value} {news : List (Addr × Obj)} (F : Fr h L h' m) (N : News h L h' news) (hm : (a, PySem.W.listOf vs.toArray 0) ∈ news) : Made h h' a vs :=
  ⟨F.keep, (N _ hm).2.2, (N _ hm).1⟩
local macro_rules | `(tactic| walk_at "my_step") => `(tactic| first | (k_unfold; (try dsimp only)) | walk1 | (dsimp only; walk1) | (leave1; try dsimp only) | fail "no step")
local macro_rules | `(tactic| walk_at "my_steps") => `(tactic| repeat' (walk_at "my_step"))
local macro_rules | `(tactic| walk_at "call builtin:ord") => `(tactic| ((with_reducible show wpAny _ _ (call (Value.builtin "ord") [Value.str (Str.mk #[_]) _]) _ _ _); k_dflt (refine P.ord_of_char ?_)))
theorem fdP (a : Int) (h : 0 ≤ a) (n : Int) (hn : 0 < n) : a.fdiv n = a / n ∧ a.fmod n = a % n := ⟨Int.fdiv_eq_ediv_of_nonneg _ (by omega), Int.fmod_eq_emod_of_nonneg _ (by omega)⟩
theorem ints2 {x y x' y' : Int} {t u : Tok} (hx : x' = x) (hy : y' = y) : IntsAre [.int x t, .int y u] [x', y'] := by subst hx hy; exact .cons _ _ (.cons _ _ .nil)
theorem ints3 {x y z x' y' z' : Int} {t u v : Tok} (hx : x' = x) (hy : y' = y) (hz : z' = z) : IntsAre [.int x t, .int y u, .int z v] [x', y', z'] := by subst hx hy hz; exact .cons _ _ (.cons _ _ (.cons _ _ .nil))
theorem ints4 {x y z q x' y' z' q' : Int} {t u v r : Tok} (hx : x' = x) (hy : y' = y) (hz : z' = z) (hq : q' = q) : IntsAre [.int x t, .int y u, .int z v, .int q r] [x', y', z', q'] := by subst hx hy hz hq; exact .cons _ _ (.cons _ _ (.cons _ _ (.cons _ _ .nil)))
theorem o1 (c : Nat) : Int.ofNat (192 + c / 64) = 192 + (c : Int).fdiv 64 := by rw [(fdP c (by omega) 64 (by decide)).1]; simp only [Int.ofNat_eq_natCast]; omega
theorem o2 (c : Nat) : Int.ofNat (128 + c % 64) = 128 + (c : Int).fmod 64 := by rw [(fdP c (by omega) 64 (by decide)).2]; simp only [Int.ofNat_eq_natCast]; omega
theorem o3 (c : Nat) : Int.ofNat (224 + c / 4096) = 224 + (c : Int).fdiv 4096 := by rw [(fdP c (by omega) 4096 (by decide)).1]; simp only [Int.ofNat_eq_natCast]; omega
theorem o4 (c : Nat) : Int.ofNat (128 + c / 64 % 64) = 128 + ((c : Int).fdiv 64).fmod 64 := by rw [(fdP c (by omega) 64 (by decide)).1, (fdP _ (by omega) 64 (by decide)).2]; simp only [Int.ofNat_eq_natCast]; omega
theorem o5 (c : Nat) : Int.ofNat (240 + c / 262144) = 240 + (c : Int).fdiv 262144 := by rw [(fdP c (by omega) 262144 (by decide)).1]; simp only [Int.ofNat_eq_natCast]; omega
theorem o6 (c : Nat) : Int.ofNat (128 + c / 4096 % 64) = 128 + ((c : Int).fdiv 4096).fmod 64 := by rw [(fdP c (by omega) 4096 (by decide)).1, (fdP _ (by omega) 64 (by decide)).2]; simp only [Int.ofNat_eq_natCast]; omega
def octI (c : Nat) : List Int := (octets c).map Int.ofNat
section
variable {w : World} {loose : List Str} {mean : ExcName → Option Value} {mg mb : Str → Option Value} {A : Around} {s : Shared} {Q E : Value → Shared → Prop}
theorem octets_c {c : Nat} {t : Tok} (X : (hd.heap_39 w.params).In s.heap) (T : Top hd.view_39 loose mean mg mb s.heap)
    (hroom : A.depth < recursionLimit) (hc : c < 1114112) (hret : ∀ a vs h' tk, Made s.heap h' a vs → IntsAre vs (octI c) → Q (.ref a) { s with heap := h', toks := tk }) : wpAny (model Challenge.rw_fe0370_01.row.prog w) A (call (.ref 57) [.str ⟨#[c]⟩ t]) Q E s := by
  revert X; k_fill; intro X
  refine wpAny_call ?_
  refine enter_any (args := ⟨[.str ⟨#[c]⟩ t], []⟩) (binds := [(Str.ofString "sign", .str ⟨#[c]⟩ t)]) X T (by k_is) (by k_is) (by omega) (BindsTo.of_eq rfl) (locs rfl) ?_ rfl rfl rfl (by decide)
  intro h₁ F
  have N : News s.heap s.heap.objs.size h₁ [] := News.nil
  walk_at "my_steps"
  · have e : octets c = [c] := by unfold octets; rw [if_pos (by omega)]
    exact hret _ _ _ _ (Made.of (by assumption) (by assumption) (.head _)) (by unfold octI; rw [e]; exact .cons _ _ .nil)
  · have e : octets c = [192 + c / 64, 128 + c % 64] := by unfold octets; rw [if_neg (by omega), if_pos (by omega)]
    exact hret _ _ _ _ (Made.of (by assumption) (by assumption) (.head _)) (by unfold octI; rw [e]; exact ints2 (o1 c) (o2 c))
  · have e : octets c = [224 + c / 4096, 128 + c / 64 % 64, 128 + c % 64] := by unfold octets; rw [if_neg (by omega), if_neg (by omega), if_pos (by omega)]
    exact hret _ _ _ _ (Made.of (by assumption) (by assumption) (.head _)) (by unfold octI; rw [e]; exact ints3 (o3 c) (o4 c) (o2 c))
  · have e : octets c = [240 + c / 262144, 128 + c / 4096 % 64, 128 + c / 64 % 64, 128 + c % 64] := by unfold octets; rw [if_neg (by omega), if_neg (by omega), if_neg (by omega)]
    exact hret _ _ _ _ (Made.of (by assumption) (by assumption) (.head _)) (by unfold octI; rw [e]; exact ints4 (o5 c) (o6 c) (o4 c) (o2 c))
def halvesS : List Str := [Str.ofString "%", Str.ofString "%4", Str.ofString "%g1", Str.ofString "%1G", Str.ofString "%%", Str.ofString "%+1", Str.ofString "% 1", Str.ofString "%é1"]
theorem halves_c (X : (hd.heap_39 w.params).In s.heap) (T : Top hd.view_39 loose mean mg mb s.heap)
    (hroom : A.depth < recursionLimit) (hret : ∀ a vs h' tk, Made s.heap h' a vs → StrsAre vs halvesS → Q (.ref a) { s with heap := h', toks := tk }) : wpAny (model Challenge.rw_fe0370_01.row.prog w) A (call (.ref 50) []) Q E s := by
  revert X; k_fill; intro X
  refine wpAny_call ?_
  refine enter_any (args := ⟨[], []⟩) (binds := []) X T (by k_is) (by k_is) (by omega) (BindsTo.of_eq rfl) (locs rfl) ?_ rfl rfl rfl (by decide)
  intro h₁ F
  have N : News s.heap s.heap.objs.size h₁ [] := News.nil
  walk_at "my_steps"
  exact hret _ _ _ _ (Made.of (by assumption) (by assumption) (.head _)) (.cons _ _ (.cons _ _ (.cons _ _ (.cons _ _ (.cons _ _ (.cons _ _ (.cons _ _ (.cons _ _ .nil))))))))
end
end Mine
end

section
open PySem PySem.W PyProof.Rows PySem.Calls
open Sem (wp)
set_option maxRecDepth 100000
set_option maxHeartbeats 100000000
namespace Mine
theorem mod_x' {prog : Program} {w : World} {A : Around} {E : Value → Shared → Prop} {s : Shared} {z : Int} (h0 : 0 ≤ z) (h1 : z < 256) {t u : Tok} {Q : Value → Shared → Prop} (h : ∀ t k, Q (.str (hex2 false z.toNat) t) { s with toks := k }) : wpAny (model prog w) A (binaryOp .Mod (.str (Str.ofString "%%%02x") t) (.int z u)) Q E s := by
  obtain ⟨n, rfl⟩ := Int.eq_ofNat_of_zero_le h0
  exact mod_x (by omega) h
theorem mod_X' {prog : Program} {w : World} {A : Around} {E : Value → Shared → Prop} {s : Shared} {z : Int} (h0 : 0 ≤ z) (h1 : z < 256) {t u : Tok} {Q : Value → Shared → Prop} (h : ∀ t k, Q (.str (hex2 true z.toNat) t) { s with toks := k }) : wpAny (model prog w) A (binaryOp .Mod (.str (Str.ofString "%%%02X") t) (.int z u)) Q E s := by
  obtain ⟨n, rfl⟩ := Int.eq_ofNat_of_zero_le h0
  exact mod_X (by omega) h
local macro_rules | `(tactic| walk_at "my_step") => `(tactic| first | (k_unfold; (try dsimp only)) | walk1 | (dsimp only; walk1) | (leave1; try dsimp only) | fail "no step")
local macro_rules | `(tactic| walk_at "my_steps") => `(tactic| repeat' (walk_at "my_step"))
local macro_rules | `(tactic| walk_at "binaryOp Mod str int") => `(tactic| ((with_reducible show wpAny _ _ (binaryOp _ (Value.str (Str.ofString "%%%02x") _) _) _ _ _); k_dflt (refine mod_x' (by omega) (by omega) ?_); intro _ _))
local macro_rules | `(tactic| walk_at "binaryOp Mod str int") => `(tactic| ((with_reducible show wpAny _ _ (binaryOp _ (Value.str (Str.ofString "%%%02X") _) _) _ _ _); k_dflt (refine mod_X' (by omega) (by omega) ?_); intro _ _))
local macro_rules | `(tactic| walk_at "call ref") => `(tactic| ((with_reducible show wpAny _ _ (call (Value.ref 50) _) _ _ _); (with_reducible rename Fr _ _ _ _ => kF); (with_reducible rename News _ _ _ _ => kN); (with_reducible rename Frag.In _ _ => kX); (with_reducible rename Top _ _ _ _ _ _ => kT); k_dflt (refine' halves_c ?x ?t ?r ?_; (case x => exact Frag.In.keeps kX (Fr.keep kF)); (case t => exact Top.keeps kT (Fr.keep kF)); (case r => dsimp only [Around.deeper]; omega)); intro a' vs' h' tk' M IS; obtain ⟨F', N', l1⟩ := Made.put M kF kN; (try k_sweep)))
theorem item_pick {prog : Program} {w : World} {A : Around} {E : Value → Shared → Prop} {s : Shared} {h₀ : Heap} {L a : Addr} {news : List (Addr × Obj)} {vs : List Value} {value slice : PySem.Expr} {i : Int} {u : Tok} {Q : Value → Shared → Prop} (N : News h₀ L s.heap news) (hm : (a, PySem.W.listOf vs.toArray 0) ∈ news) (IS : StrsAre vs halvesS) (h0 : 0 ≤ i) (h1 : i < 8)
    (h : ∀ y t, y ∈ halvesS → Q (.str y t) s) (hs : subscripted slice false (.ref a) (.int i u) = operate [.ref a, .int i u] (getItem (.ref a) (.int i u)) := by with_unfolding_all rfl) (hg : ∀ r, letTemporaryGo value (.ref a) r = pure () := by intro _; with_unfolding_all rfl) :
    wpAny (model prog w) A (subscriptTail value slice (.ref a) (.int i u)) Q E s := by
  refine item_strsA (News.isList N hm) IS h0 (by show i < 8; exact h1) (by omega) (fun t' => h _ _ ?_) hs hg
  obtain ⟨n, rfl⟩ := Int.eq_ofNat_of_zero_le h0
  have H : ∀ n : _root_.Fin 8, halvesS.getD n.val Str.empty ∈ halvesS := by decide
  exact H ⟨n, by omega⟩
local macro_rules | `(tactic| walk_at "subscriptTail") => `(tactic| ((with_reducible show wpAny _ _ (subscriptTail _ _ (Value.ref _) (Value.int _ _)) _ _ _); k_dflt (refine' item_pick ?n ?m ?i ?a ?b ?_; (case n => k_asm); (case m => k_mem); (case i => assumption); (case a => omega); (case b => omega)); intro _ _ _))
def Small (x : Str) : Prop := x.length ≤ 3 ∧ ∀ z ∈ x.cps.toList, scalar z
theorem asc {c : Nat} (h : c < 128) : scalar c := ⟨by omega, by omega⟩
def signs41 : Str := Str.ofString "aZ7-._~!$'()*,/?:@#[]+&=; \"<>^|\\\x01\x7fé߿€퟿￿𐀀😀"
theorem small_sign {z : Int} (h0 : 0 ≤ z) (h1 : z < 41) : Small (Txt.item signs41 z) := by
  obtain ⟨n, rfl⟩ := Int.eq_ofNat_of_zero_le h0
  have H : ∀ n : _root_.Fin 41, (Txt.item signs41 (n.val : Nat)).length ≤ 3 ∧ ∀ z ∈ (Txt.item signs41 (n.val : Nat)).cps.toList, scalar z := by decide +kernel
  exact H ⟨n, by omega⟩
theorem small_hex {up : Bool} {n : Nat} (h : n < 256) : Small (hex2 up n) := by
  have h1 : ∀ d, d < 16 → hexD up d < 128 := by cases up <;> decide
  have a1 := h1 (n / 16) (by omega)
  have a2 := h1 (n % 16) (by omega)
  refine ⟨by show 3 ≤ 3; omega, fun z hz => asc ?_⟩
  simp only [hex2, List.mem_cons, List.not_mem_nil, or_false] at hz
  omega
theorem small_chr {n : Nat} (h : n < 128) : Small ⟨#[n]⟩ := by
  refine ⟨by show 1 ≤ 3; omega, fun z hz => asc ?_⟩
  simp only [List.mem_cons, List.not_mem_nil, or_false] at hz
  omega
theorem small_half {y : Str} (h : y ∈ halvesS) : Small y := by
  have H : ∀ y ∈ halvesS, y.length ≤ 3 ∧ ∀ z ∈ y.cps.toList, scalar z := by decide
  exact H y h
section
variable {w : World} {loose : List Str} {mean : ExcName → Option Value} {mg mb : Str → Option Value} {A : Around} {s : Shared} {Q E : Value → Shared → Prop}
theorem piece_c {c : Int} {t : Tok} (X : (hd.heap_39 w.params).In s.heap) (T : Top hd.view_39 loose mean mg mb s.heap)
    (hroom : A.depth + 1 < recursionLimit) (hh : A.handled = none) (hu : A.units + 20 < cLine) (h0 : 0 ≤ c) (h1 : c < 1000000) (hret : ∀ x t h' tk, Kp s.heap h' → x.length ≤ 3 → (∀ z ∈ x.cps.toList, scalar z) → Q (.str x t) { s with heap := h', toks := tk }) : wpAny (model Challenge.rw_fe0370_01.row.prog w) A (call (.ref 64) [.int c t]) Q E s := by
  cases A
  dsimp only at hh hroom hu
  subst hh
  have X0 := X
  revert X; k_fill; intro X
  refine wpAny_call ?_
  refine enter_any (args := ⟨[.int c t], []⟩) (binds := [(Str.ofString "cell", .int c t)]) X T (by k_is) (by k_is) (by dsimp only; omega) (BindsTo.of_eq rfl) (locs rfl) ?_ rfl rfl rfl (by decide)
  intro h₁ F
  have N : News s.heap s.heap.objs.size h₁ [] := News.nil
  have fm : ∀ z n : Int, 0 < n → 0 ≤ z.fmod n ∧ z.fmod n < n := fun z n hn => ⟨Int.fmod_nonneg_of_pos _ hn, Int.fmod_lt_of_pos _ hn⟩
  have f1 := fm (c.fdiv 5) 256 (by decide)
  have f2 := fm (c.fdiv 5) 94 (by decide)
  have f3 := fm (c.fdiv 5) 128 (by decide)
  have f4 := fm (c.fdiv 5) 8 (by decide)
  have f5 := fm (c.fdiv 5) 41 (by decide)
  clear fm
  walk_at "my_steps"
  · exact hret _ _ _ _ (Fr.keep (by assumption)) (small_sign f5.1 f5.2).1 (small_sign f5.1 f5.2).2
  · exact hret _ _ _ _ (Fr.keep (by assumption)) (small_chr (by omega)).1 (small_chr (by omega)).2
  · exact hret _ _ _ _ (Fr.keep (by assumption)) (small_hex (by omega)).1 (small_hex (by omega)).2
  · exact hret _ _ _ _ (Fr.keep (by assumption)) (small_hex (by omega)).1 (small_hex (by omega)).2
  · exact hret _ _ _ _ (Fr.keep (by assumption)) (small_half (by assumption)).1 (small_half (by assumption)).2
  · exact hret _ _ _ _ (Fr.keep (by assumption)) (small_hex (by omega)).1 (small_hex (by omega)).2
  · exact hret _ _ _ _ (Fr.keep (by assumption)) (small_hex (by omega)).1 (small_hex (by omega)).2
end
end Mine
end

section
open PySem PySem.W PyProof.Rows PySem.Calls
set_option maxRecDepth 100000
namespace Mine
/-- the end of a turn: nothing new is left, and the element is as said -/
structure Elt (news : List (Addr × Obj)) (El : Value → Prop) (y : Value) (news' : List (Addr × Obj)) : Prop where
  same : news' = news
  el : El y
section
variable {prog : Program} {w : World} {A : Around} {h₀ : Heap} {L : Addr} {m : Str → Option Value} {env : Env} {elt ct : PySem.Expr} {x : Str} {scope : Scope} {cl : List (Str × Addr)} {s : Shared} {S : List (Addr × Obj) → Prop} {P : Nat → Value → Prop} {Fin : List Value → List (Addr × Obj) → Prop} {news : List (Addr × Obj)}
theorem crest {n : Nat} (El : Nat → Value → Prop)
    (turn : ∀ i v I oI C oC D m₂ ys h tk (E' : Value → Shared → Prop), i < n → P i v → LCg.NsObj oC m₂ → m₂ x = some v → Fr h₀ L h m → News h₀ L h ((I, oI) :: (C, oC) :: (D, LCg.lst ys) :: news) → LCg.Off3 I C D news → ((@Ne Nat I C) ∧ (@Ne Nat I D) ∧ (@Ne Nat C D)) →
      wpAny (model prog w) A (eval elt (compEnvC scope cl C env)) (LCg.CompEnd h₀ L m { s with heap := h, toks := tk } I oI C oC D (LCg.lst ys) S (fun y news' => Elt news (El i) y news')) E' { s with heap := h, toks := tk })
    (fin : ∀ ys, ys.length = n → (∀ i y, ys[i]? = some y → El i y) → Fin ys news) : LCg.CompRest prog w A h₀ L m env elt x scope cl s S P Fin n 0 [] news := by
  have key : ∀ (j i : Nat) (ys : List Value), i + j = n → ys.length = i → (∀ i y, ys[i]? = some y → El i y) → LCg.CompRest prog w A h₀ L m env elt x scope cl s S P Fin j i ys news := by
    intro j
    induction j with
    | zero =>
      intro i ys hi hl hy
      exact LCg.CompRest.zero (fin ys (by omega) hy)
    | succ j ih =>
      intro i ys hi hl hy
      refine LCg.CompRest.succ ?_
      intro v I oI C oC D m₂ h tk E' hv hC hx F N off ne
      refine wpAny_mono (turn i v I oI C oC D m₂ ys h tk E' (by omega) hv hC hx F N off ne) (fun y s₂ hq => ?_) fun _ _ e => e
      obtain ⟨h', tk', nw, e, F', N', off', hS, hn, hel⟩ := hq
      rw [hn] at N' off' hS
      refine ⟨h', tk', news, e, F', N', off', hS, ?_⟩
      refine ih (i + 1) _ (by omega) (by rw [List.length_append, List.length_singleton, hl]) ?_
      intro i' y' hy'
      rcases Nat.lt_or_ge i' ys.length with hlt | hge
      · rw [List.getElem?_append_left hlt] at hy'
        exact hy i' y' hy'
      · rw [List.getElem?_append_right hge] at hy'
        rcases Nat.eq_or_lt_of_le hge with heq | hgt
        · rw [← heq, Nat.sub_self] at hy'
          cases hy'
          rw [← heq, hl]
          exact hel
        · have : i' - ys.length ≠ 0 := by omega
          obtain ⟨q, hq⟩ := Nat.exists_eq_succ_of_ne_zero this
          rw [hq] at hy'
          cases hy'
  exact key n 0 [] (by omega) rfl (by intro i y h; cases h)
theorem crestT {n : Nat} (El : Value → Prop)
    (turn : ∀ i v I oI C oC D m₂ ys h tk (E' : Value → Shared → Prop), i < n → P i v → LCg.NsObj oC m₂ → m₂ x = some v → Fr h₀ L h m → News h₀ L h ((I, oI) :: (C, oC) :: (D, LCg.lst ys) :: news) → LCg.Off3 I C D news → ((@Ne Nat I C) ∧ (@Ne Nat I D) ∧ (@Ne Nat C D)) →
      wpAny (model prog w) A (isTrue ct (compEnvC scope cl C env) (eval ct (compEnvC scope cl C env))) (fun ok s' => if ok = true then
        wpAny (model prog w) A (eval elt (compEnvC scope cl C env)) (LCg.CompEnd h₀ L m { s with heap := h, toks := tk } I oI C oC D (LCg.lst ys) S (fun y news' => Elt news El y news')) E' s'
        else LCg.CompEnd h₀ L m { s with heap := h, toks := tk } I oI C oC D (LCg.lst ys) S (fun _ news' => Elt news (fun _ => True) .none news') Value.none s') E' { s with heap := h, toks := tk })
    (fin : ∀ ys, ys.length ≤ n → (∀ y ∈ ys, El y) → Fin ys news) : LCt.CompRestT prog w A h₀ L m env ct elt x scope cl s S P Fin n 0 [] news := by
  have key : ∀ (j i : Nat) (ys : List Value), i + j = n → ys.length ≤ i → (∀ y ∈ ys, El y) → LCt.CompRestT prog w A h₀ L m env ct elt x scope cl s S P Fin j i ys news := by
    intro j
    induction j with
    | zero =>
      intro i ys hi hl hy
      exact LCt.CompRestT.zero (fin ys (by omega) hy)
    | succ j ih =>
      intro i ys hi hl hy
      refine LCt.CompRestT.succ ?_
      intro v I oI C oC D m₂ h tk E' hv hC hx F N off ne
      refine wpAny_mono (turn i v I oI C oC D m₂ ys h tk E' (by omega) hv hC hx F N off ne) (fun ok s₂ hq => ?_) fun _ _ e => e
      cases ok with
      | true =>
        simp only [if_true] at hq ⊢
        refine wpAny_mono hq (fun y s₃ hq => ?_) fun _ _ e => e
        obtain ⟨h', tk', nw, e, F', N', off', hS, hn, hel⟩ := hq
        rw [hn] at N' off' hS
        refine ⟨h', tk', news, e, F', N', off', hS, ?_⟩
        refine ih (i + 1) _ (by omega) (by rw [List.length_append, List.length_singleton]; omega) ?_
        intro y' hy'
        rcases List.mem_append.mp hy' with h | h
        · exact hy y' h
        · rw [List.mem_singleton.mp h]; exact hel
      | false =>
        simp only [Bool.false_eq_true, if_false] at hq ⊢
        obtain ⟨h', tk', nw, e, F', N', off', hS, hn, hel⟩ := hq
        rw [hn] at N' off' hS
        exact ⟨h', tk', news, e, F', N', off', hS, ih (i + 1) _ (by omega) (by omega) hy⟩
  exact key n 0 [] (by omega) (Nat.le_refl _) (by intro y h; cases h)
end
theorem strs_of {R : Nat → Str → Prop} : ∀ (ys : List Value), (∀ i y, ys[i]? = some y → ∃ x t, y = .str x t ∧ R i x) → ∃ xs, StrsAre ys xs ∧ xs.length = ys.length ∧ ∀ i x, xs[i]? = some x → R i x := by
  intro ys
  induction ys generalizing R with
  | nil => intro _; exact ⟨[], .nil, rfl, by intro i x h; cases h⟩
  | cons y ys ih =>
    intro h
    obtain ⟨x, t, rfl, hx⟩ := h 0 y rfl
    obtain ⟨xs, h1, h2, h3⟩ := ih (R := fun i => R (i + 1)) (fun i y' h' => h (i + 1) y' h')
    refine ⟨x :: xs, .cons x t h1, by simp [h2], ?_⟩
    intro i z hz
    cases i with
    | zero => cases hz; exact hx
    | succ i => exact h3 i z hz
theorem strs_mem {R : Str → Prop} {ys : List Value} (h : ∀ y ∈ ys, ∃ x t, y = .str x t ∧ R x) : ∃ xs, StrsAre ys xs ∧ xs.length = ys.length ∧ ∀ x ∈ xs, R x := by
  obtain ⟨xs, h1, h2, h3⟩ := strs_of (R := fun _ => R) ys (fun i y hy => h y (List.mem_of_getElem? hy))
  refine ⟨xs, h1, h2, fun x hx => ?_⟩
  obtain ⟨i, hi⟩ := List.getElem?_of_mem hx
  exact h3 i x hi
theorem flat_app (a b : Str) : (a ++ b).cps.toList = a.cps.toList ++ b.cps.toList := by
  show (a.cps ++ b.cps).toList = _
  exact Array.toList_append
theorem join_flat' : ∀ xs : List Str, (Str.join (Str.ofString "") xs).cps.toList = xs.flatMap fun x => x.cps.toList
  | [] => rfl
  | [x] => by show x.cps.toList = _; simp
  | x :: y :: r => by
    have ih := join_flat' (y :: r)
    have e : Str.join (Str.ofString "") (x :: y :: r) = x ++ Str.ofString "" ++ Str.join (Str.ofString "") (y :: r) := rfl
    have e0 : (Str.ofString "").cps.toList = [] := by decide
    rw [e, flat_app, flat_app, ih, e0, List.append_nil]
    simp
theorem join_flat (xs : List Str) : (Txt.join (Str.ofString "") xs).cps.toList = xs.flatMap fun x => x.cps.toList := by
  show (Builtin.Str.glued (PySem.Str.ofString "") xs).cps.toList = _
  rw [StrLaws.glued_eq_join, join_flat']
theorem sum_le {xs : List Str} {B : Nat} (h : ∀ x ∈ xs, x.length ≤ B) : (xs.map (·.length)).sum ≤ xs.length * B := by
  induction xs with
  | nil => simp
  | cons x r ih =>
    have h1 := h x List.mem_cons_self
    have h2 := ih fun y hy => h y (List.mem_cons_of_mem _ hy)
    simp only [List.map_cons, List.sum_cons, List.length_cons, Nat.succ_mul]
    omega
theorem flat_len {xs : List Str} : (xs.flatMap fun x => x.cps.toList).length = (xs.map (·.length)).sum := by
  induction xs with
  | nil => rfl
  | cons x r ih =>
    rw [List.flatMap_cons, List.length_append, ih, List.map_cons, List.sum_cons]
    rfl
section
variable {prog : Program} {w : World} {A : Around} {E : Value → Shared → Prop} {s : Shared} {t : Tok} {Q : Value → Shared → Prop}
/-- `''.join(..)` over a list of texts, as a text whose signs are those of the texts -/
theorem join_C {D : Addr} {vs : List Value} {xs : List Str} {B : Nat} {h₀ : Heap} {L : Addr} {news : List (Addr × Obj)} (N : News h₀ L s.heap news) (hm : (D, LCg.lst vs) ∈ news) (hi : StrsAre vs xs) (hB : ∀ x ∈ xs, x.length ≤ B) (hk : xs.length * B ≤ 1000000)
    (h : ∀ y t' k, y.cps.toList = (xs.flatMap fun x => x.cps.toList) → Q (.str y t') { s with toks := k }) : wpAny (model prog w) A (call (.builtin "str.join") [.str (Str.ofString "") t, .ref D]) Q E s := by
  have hl : s.heap.IsList D vs.toArray := ⟨_, (N _ hm).1, rfl, _, rfl⟩
  have e0 : (Str.ofString "").length = 0 := by decide
  refine join_list hl hi (by rw [e0]; have := sum_le hB; omega) fun t' k => h _ _ _ (join_flat xs)
end
end Mine
end

section
open PySem PySem.W PyProof.Rows PySem.Calls
set_option maxRecDepth 100000
namespace Mine
theorem carried_empty {vs : List Value} {l : List PyData} (h : CarriedAll vs l) : vs.isEmpty = l.isEmpty := by
  cases h <;> rfl
theorem flt_hex {a b : Nat} {vs : List Value} {p : Str → Bool} (hp : ∀ n, p ⟨#[n]⟩ = !isHex n) (h : CarriedAll vs (((signs ⟨#[a, b]⟩).filter p).map PyData.str)) : vs.isEmpty = (isHex a && isHex b) := by
  rw [carried_empty h]
  have e : signs ⟨#[a, b]⟩ = [⟨#[a]⟩, ⟨#[b]⟩] := rfl
  rw [e, List.filter_cons, List.filter_cons, hp, hp]
  cases isHex a <;> cases isHex b <;> rfl
section
variable {prog : Program} {w : World} {A : Around} {h₀ : Heap} {L : Addr} {m : Str → Option Value} {env : Env} {elt : PySem.Expr} {x : Str} {scope : Scope} {cl : List (Str × Addr)} {s : Shared} {S : List (Addr × Obj) → Prop} {Fin : List Value → List (Addr × Obj) → Prop} {news : List (Addr × Obj)}
theorem ints_at {vs : List Value} {ns : List Int} (h : IntsAre vs ns) : ∀ (i : Nat) (v : Value), vs[i]? = some v → ∃ (k : Int) (t : Tok), ns[i]? = some k ∧ v = Value.int k t := by
  induction h with
  | nil => intro i v hv; cases hv
  | cons n t _ ih =>
    intro i v hv
    cases i with
    | zero => cases hv; exact ⟨_, _, rfl, rfl⟩
    | succ i => exact ih i v hv
theorem hex2_list (n : Nat) : (hex2 true n).cps.toList = hexUp n := rfl
theorem oct_flat : ∀ (os : List Nat) (xs : List Str), xs.length = os.length → (∀ (i : Nat) (x : Str), xs[i]? = some x → ∃ n : Nat, os[i]? = some n ∧ x = hex2 true n) → (xs.flatMap fun x => x.cps.toList) = os.flatMap hexUp
  | [], [], _, _ => rfl
  | o :: os, x :: xs, hl, h => by
    obtain ⟨n, hn, rfl⟩ := h 0 x rfl
    cases hn
    rw [List.flatMap_cons, List.flatMap_cons, hex2_list, oct_flat os xs (by simpa using hl) fun i y hy => h (i + 1) y hy]
  | [], _ :: _, hl, _ => by cases hl
  | _ :: _, [], hl, _ => by cases hl
theorem oct_rest {c : Nat} {vs : List Value} (hc : c < 1114112) (IS : IntsAre vs (octI c))
    (turn : ∀ n t I oI C oC D m₂ ys h tk (E' : Value → Shared → Prop), n < 256 → LCg.NsObj oC m₂ → m₂ x = some (.int (n : Nat) t) → Fr h₀ L h m → News h₀ L h ((I, oI) :: (C, oC) :: (D, LCg.lst ys) :: news) → LCg.Off3 I C D news → ((@Ne Nat I C) ∧ (@Ne Nat I D) ∧ (@Ne Nat C D)) →
      wpAny (model prog w) A (eval elt (compEnvC scope cl C env)) (LCg.CompEnd h₀ L m { s with heap := h, toks := tk } I oI C oC D (LCg.lst ys) S (fun y news' => Elt news (fun y => ∃ t, y = .str (hex2 true n) t) y news')) E' { s with heap := h, toks := tk })
    (fin : ∀ ys xs, StrsAre ys xs → (xs.flatMap fun x => x.cps.toList) = (octets c).flatMap hexUp → xs.length * 3 ≤ 1000000 → (∀ x ∈ xs, x.length ≤ 3) → Fin ys news) :
    LCg.CompRest prog w A h₀ L m env elt x scope cl s S (fun i v => vs.toArray[i]? = some v) Fin vs.toArray.size 0 [] news := by
  have hlen : vs.length = (octets c).length := by
    have := IS.length
    unfold octI at this
    rw [List.length_map] at this
    exact this
  refine crest (fun i y => ∃ n t, (octets c)[i]? = some n ∧ y = .str (hex2 true n) t) ?_ ?_
  · intro i v I oI C oC D m₂ ys h tk E' hi hv hC hx F N off ne
    obtain ⟨k, t, hk, rfl⟩ := ints_at IS i v (by simpa using hv)
    unfold octI at hk
    rw [List.getElem?_map] at hk
    obtain ⟨n, hn, rfl⟩ := Option.map_eq_some_iff.mp hk
    have hn256 : n < 256 := (octets_lt hc n (List.mem_of_getElem? hn)).1
    refine wpAny_mono (turn n t I oI C oC D m₂ ys h tk E' hn256 hC hx F N off ne) (fun y s₂ hq => ?_) fun _ _ e => e
    obtain ⟨h', tk', nw, e, F', N', off', hS, hs, t', hy⟩ := hq
    exact ⟨h', tk', nw, e, F', N', off', hS, hs, n, t', hn, hy⟩
  · intro ys hl hy
    obtain ⟨xs, h1, h2, h3⟩ := strs_of (R := fun i x => ∃ n, (octets c)[i]? = some n ∧ x = hex2 true n) ys (fun i y h => by
      obtain ⟨n, t, hn, rfl⟩ := hy i y h
      exact ⟨_, t, rfl, n, hn, rfl⟩)
    have hxl : xs.length = (octets c).length := by rw [h2, hl, List.size_toArray, hlen]
    have h4 := octets_len c
    refine fin ys xs h1 (oct_flat _ _ hxl h3) (by omega) fun x hx => ?_
    obtain ⟨i, hi⟩ := List.getElem?_of_mem hx
    obtain ⟨n, _, rfl⟩ := h3 i x hi
    exact Nat.le_refl 3
end
end Mine
end

section
open PySem PySem.W PyProof.Rows PySem.Calls
set_option maxRecDepth 100000
set_option maxHeartbeats 100000000
namespace Mine
theorem upper_one {c : Nat} (h : isHex c = true) : Unicode.upperOf c = [upHex c] := by
  have H : ∀ c ∈ hexds, Unicode.upperOf c = [upHex c] := by decide +kernel
  exact H c (hex_mem h)
theorem upper_two {a b : Nat} (ha : isHex a = true) (hb : isHex b = true) : Txt.upper ⟨#[a, b]⟩ = ⟨#[upHex a, upHex b]⟩ := by
  have e : Txt.upper ⟨#[a, b]⟩ = ⟨#[] ++ (Unicode.upperOf a).toArray ++ (Unicode.upperOf b).toArray⟩ := rfl
  rw [e, upper_one ha, upper_one hb]
  rfl
theorem upper_hex {prog : Program} {w : World} {A : Around} {E : Value → Shared → Prop} {s : Shared} {a b : Nat} {t : Tok} {Q : Value → Shared → Prop} (ha : isHex a = true) (hb : isHex b = true) (h : ∀ t' k, Q (.str ⟨#[upHex a, upHex b]⟩ t') { s with toks := k }) :
    wpAny (model prog w) A (call (.builtin "str.upper") [.str ⟨#[a, b]⟩ t]) Q E s := KXw.upper (upper_two ha hb) (by rw [upper_two ha hb]; rfl) h
theorem oct_size {c : Nat} {vs : List Value} (h : IntsAre vs (octI c)) : vs.toArray.size ≤ sizeLine := by
  have := IntsAre.length h
  unfold octI at this
  rw [List.length_map] at this
  have := octets_len c
  rw [sizeLine_eq, List.size_toArray]
  omega
end Mine
end

section
open PySem PySem.W PyProof.Rows PySem.Calls
set_option maxRecDepth 100000
namespace Mine
def psW (x y z : Str) (t1 t2 t3 : Tok) (q g : Bool) : List (Str × Value) := [(Str.ofString "text", .str x t1), (Str.ofString "may", .str y t2), (Str.ofString "kept", .str z t3), (Str.ofString "query", .bool q), (Str.ofString "again", .bool g)]
abbrev pW (y z : Str) (q g : Bool) : Par := ⟨y.cps.toList, z.cps.toList, q, g⟩
structure WI (base : Heap) (L : Addr) (x y z : Str) (t1 t2 t3 : Tok) (q g : Bool) (s : Shared) (n : Nat) (s' : Shared) : Prop where
  out : ∃ (o : Str) (k : Nat) (u1 u2 : Tok), n = x.length - k ∧ k ≤ x.length ∧ o.length ≤ 12 * k ∧ o.cps.toList ++ W (pW y z q g) (x.cps.toList.drop k) = W (pW y z q g) x.cps.toList ∧
    At base L [] ((Str.ofString "out", .str o u1) :: (Str.ofString "place", .int (k : Nat) u2) :: psW x y z t1 t2 t3 q g) s s'
section
variable {base h' : Heap} {L : Addr} {x y z : Str} {t1 t2 t3 : Tok} {q g : Bool} {s : Shared} {tk : Nat} {m' : Str → Option Value} {led : List (Addr × Obj)} {o o' : Str} {k k' c a b : Nat} {u1 u2 : Tok} {zi : Int}
theorem turnW (piece : List Nat)
    (F : Fr base L h' m') (N : News base L h' led) (ho : m' (Str.ofString "out") = some (.str o' u1)) (hp : m' (Str.ofString "place") = some (.int zi u2)) (h5 : ∀ p ∈ psW x y z t1 t2 t3 q g, m' p.1 = some p.2)
    (hz : zi = (k' : Int)) (hk : k < k') (hkx : k' ≤ x.length) (hol : o.length ≤ 12 * k) (hpl : piece.length ≤ 12) (ho' : o'.cps.toList = o.cps.toList ++ piece)
    (he : (o.cps.toList ++ piece) ++ W (pW y z q g) (x.cps.toList.drop k') = W (pW y z q g) x.cps.toList) :
    Less (WI base L x y z t1 t2 t3 q g s) (x.length - k) { s with heap := h', toks := tk } := by
  subst hz
  have hl : o'.length = o.length + piece.length := by
    have := congrArg List.length ho'
    rw [List.length_append] at this
    exact this
  exact ⟨x.length - k', by omega, ⟨o', k', u1, u2, rfl, hkx, by omega, by rw [ho']; exact he, At.intro F N (fun _ h => by cases h) (List.forall_mem_cons.mpr ⟨ho, List.forall_mem_cons.mpr ⟨hp, h5⟩⟩)⟩⟩
theorem startW (F : Fr base L h' m') (N : News base L h' led) (ho : m' (Str.ofString "out") = some (.str (Str.ofString "") u1)) (hp : m' (Str.ofString "place") = some (.int 0 u2)) (h5 : ∀ p ∈ psW x y z t1 t2 t3 q g, m' p.1 = some p.2) :
    WI base L x y z t1 t2 t3 q g s x.length { s with heap := h', toks := tk } :=
  ⟨Str.ofString "", 0, u1, u2, rfl, Nat.zero_le _, Nat.le_refl _, by rw [List.drop_zero]; rfl, At.intro F N (fun _ h => by cases h) (List.forall_mem_cons.mpr ⟨ho, List.forall_mem_cons.mpr ⟨hp, h5⟩⟩)⟩
theorem get_l {x : Str} {k c : Nat} (h : x.cps[k]? = some c) : x.cps.toList[k]? = some c := by rw [Array.getElem?_toList]; exact h
theorem one_pct {c : Nat} : (({ cps := #[c] } : Str) == Str.ofString "%") = decide (c = 37) := by
  by_cases h : c = 37
  · subst h; decide
  · rw [decide_eq_false h, beq_eq_false_iff_ne]
    intro e
    have := congrArg (fun s : Str => s.cps.toList) e
    have e2 : (Str.ofString "%").cps.toList = [37] := by decide
    dsimp only at this
    rw [e2] at this
    simp at this
    exact h this
theorem one_sp {c : Nat} : (({ cps := #[c] } : Str) == Str.ofString " ") = decide (c = 32) := by
  by_cases h : c = 32
  · subst h; decide
  · rw [decide_eq_false h, beq_eq_false_iff_ne]
    intro e
    have := congrArg (fun s : Str => s.cps.toList) e
    have e2 : (Str.ofString " ").cps.toList = [32] := by decide
    dsimp only at this
    rw [e2] at this
    simp at this
    exact h this
theorem pct_t {c : Nat} (h : (({ cps := #[c] } : Str) == Str.ofString "%") = true) : c = 37 := by rw [one_pct] at h; exact of_decide_eq_true h
theorem pct_f {c : Nat} (h : (({ cps := #[c] } : Str) == Str.ofString "%") = false) : c ≠ 37 := by rw [one_pct] at h; exact of_decide_eq_false h
theorem sp_t {c : Nat} (h : (({ cps := #[c] } : Str) == Str.ofString " ") = true) : c = 32 := by rw [one_sp] at h; exact of_decide_eq_true h
theorem sp_f {c : Nat} (h : (({ cps := #[c] } : Str) == Str.ofString " ") = false) : c ≠ 32 := by rw [one_sp] at h; exact of_decide_eq_false h
structure NotPct (c : Nat) (g : Bool) : Prop where
  h : ¬ (c = 37 ∧ g = true)
structure NotSp (c : Nat) (q : Bool) : Prop where
  h : ¬ (c = 32 ∧ q = true)
theorem np1 {c : Nat} {g : Bool} (h : (({ cps := #[c] } : Str) == Str.ofString "%") = false) : NotPct c g := ⟨fun e => pct_f h e.1⟩
theorem np2 {c : Nat} {g : Bool} (h : g = false) : NotPct c g := ⟨fun e => by rw [h] at e; cases e.2⟩
theorem ns1 {c : Nat} {g : Bool} (h : (({ cps := #[c] } : Str) == Str.ofString " ") = false) : NotSp c g := ⟨fun e => sp_f h e.1⟩
theorem ns2 {c : Nat} {g : Bool} (h : g = false) : NotSp c g := ⟨fun e => by rw [h] at e; cases e.2⟩
variable (F : Fr base L h' m') (N : News base L h' led) (hp : m' (Str.ofString "place") = some (.int zi u2)) (h5 : ∀ p ∈ psW x y z t1 t2 t3 q g, m' p.1 = some p.2) (hk : k < x.length) (hol : o.length ≤ 12 * k) (hc : x.cps[k]? = some c)
    (he : o.cps.toList ++ W (pW y z q g) (x.cps.toList.drop k) = W (pW y z q g) x.cps.toList)
include F N hp h5 hk hol hc he
theorem endPlus (ho : m' (Str.ofString "out") = some (.str (o ++ Str.ofString "+") u1)) (hz : zi = ((k + 1 : Nat) : Int)) (h2 : (({ cps := #[c] } : Str) == Str.ofString " ") = true) (h3 : q = true) :
    Less (WI base L x y z t1 t2 t3 q g s) (x.length - k) { s with heap := h', toks := tk } := by
  have e := sp_t h2
  refine turnW (k' := k + 1) [43] F N ho hp h5 hz (by omega) (by omega) hol (by decide) (by rw [flat_app]; rfl) ?_
  have := wOne (get_l hc) he (by rintro ⟨e', _⟩; omega)
  unfold oneW at this
  rw [if_pos ⟨e, h3⟩] at this
  exact this
theorem endMay (ho : m' (Str.ofString "out") = some (.str (o ++ ⟨#[c]⟩) u1)) (hz : zi = ((k + 1 : Nat) : Int)) (h1 : NotPct c g) (h2 : NotSp c q) (h3 : c ∈ y.cps.toList) :
    Less (WI base L x y z t1 t2 t3 q g s) (x.length - k) { s with heap := h', toks := tk } := by
  refine turnW (k' := k + 1) [c] F N ho hp h5 hz (by omega) (by omega) hol (by simp) (by rw [flat_app]) ?_
  have := wOne (get_l hc) he h1.h
  unfold oneW at this
  rw [if_neg h2.h, if_pos (List.contains_iff_mem.mpr h3)] at this
  exact this
theorem endOct (ho : m' (Str.ofString "out") = some (.str (o ++ o') u1)) (hz : zi = ((k + 1 : Nat) : Int)) (ho' : o'.cps.toList = (octets c).flatMap hexUp) (h12 : o'.length ≤ 12) (h1 : NotPct c g) (h2 : NotSp c q) (h3 : ¬ c ∈ y.cps.toList) :
    Less (WI base L x y z t1 t2 t3 q g s) (x.length - k) { s with heap := h', toks := tk } := by
  refine turnW (k' := k + 1) ((octets c).flatMap hexUp) F N ho hp h5 hz (by omega) (by omega) hol ?_ (by rw [flat_app, ho']) ?_
  · rw [← ho']; exact h12
  have := wOne (get_l hc) he h1.h
  unfold oneW at this
  rw [if_neg h2.h, if_neg (fun h => h3 (List.contains_iff_mem.mp h))] at this
  exact this
theorem endNo (ho : m' (Str.ofString "out") = some (.str (o ++ Str.ofString "%25") u1)) (hz : zi = ((k + 1 : Nat) : Int)) (h1 : (({ cps := #[c] } : Str) == Str.ofString "%") = true) (h2 : g = true)
    (hn : ∀ a b, x.cps.toList[k + 1]? = some a → x.cps.toList[k + 2]? = some b → (isHex a && isHex b) = false) :
    Less (WI base L x y z t1 t2 t3 q g s) (x.length - k) { s with heap := h', toks := tk } := by
  have e := pct_t h1
  subst e
  refine turnW (k' := k + 1) [37, 50, 53] F N ho hp h5 hz (by omega) (by omega) hol (by decide) (by rw [flat_app]; rfl) ?_
  exact wNo (get_l hc) h2 hn he
theorem endEscY (ho : m' (Str.ofString "out") = some (.str (o ++ ⟨#[16 * hexVal a + hexVal b]⟩) u1)) (hz : zi = ((k + 1 + 2 : Nat) : Int)) (h2x : k + 2 < x.length) (ha : x.cps[k + 1]? = some a) (hb : x.cps[k + 2]? = some b) (hxa : isHex a = true) (hxb : isHex b = true)
    (h1 : (({ cps := #[c] } : Str) == Str.ofString "%") = true) (h2 : g = true) (h3 : 16 * hexVal a + hexVal b ∈ y.cps.toList) (h4 : ¬ 16 * hexVal a + hexVal b ∈ z.cps.toList) :
    Less (WI base L x y z t1 t2 t3 q g s) (x.length - k) { s with heap := h', toks := tk } := by
  have e := pct_t h1
  subst e
  have e2 : dec (pW y z q g) a b = [16 * hexVal a + hexVal b] := by
    unfold dec
    rw [if_pos]
    rw [Bool.and_eq_true, Bool.not_eq_true', List.contains_iff_mem]
    exact ⟨h3, by simpa using h4⟩
  refine turnW (k' := k + 1 + 2) (dec (pW y z q g) a b) F N ho hp h5 hz (by omega) (by omega) hol (by rw [e2]; simp) (by rw [flat_app, e2]) ?_
  exact wEsc (get_l hc) (get_l ha) (get_l hb) h2 hxa hxb he
theorem endEscN (ho : m' (Str.ofString "out") = some (.str (o ++ (Str.ofString "%" ++ ⟨#[upHex a, upHex b]⟩)) u1)) (hz : zi = ((k + 1 + 2 : Nat) : Int)) (h2x : k + 2 < x.length) (ha : x.cps[k + 1]? = some a) (hb : x.cps[k + 2]? = some b) (hxa : isHex a = true) (hxb : isHex b = true)
    (h1 : (({ cps := #[c] } : Str) == Str.ofString "%") = true) (h2 : g = true) (h3 : ¬ (16 * hexVal a + hexVal b ∈ y.cps.toList ∧ ¬ 16 * hexVal a + hexVal b ∈ z.cps.toList)) :
    Less (WI base L x y z t1 t2 t3 q g s) (x.length - k) { s with heap := h', toks := tk } := by
  have e := pct_t h1
  subst e
  have e2 : dec (pW y z q g) a b = [37, upHex a, upHex b] := by
    unfold dec
    rw [if_neg]
    rw [Bool.and_eq_true, Bool.not_eq_true', List.contains_iff_mem]
    rintro ⟨k1, k2⟩
    exact h3 ⟨k1, by simpa using k2⟩
  refine turnW (k' := k + 1 + 2) (dec (pW y z q g) a b) F N ho hp h5 hz (by omega) (by omega) hol (by rw [e2]; simp) (by rw [flat_app, flat_app, e2]; rfl) ?_
  exact wEsc (get_l hc) (get_l ha) (get_l hb) h2 hxa hxb he
end
theorem slc_short2 {x : Str} {k : Nat} (hk : k < x.length) (h : ¬ k + 2 < x.length) : (Txt.slice x (some ((k : Int) + 1)) (some ((k : Int) + 3))).length < 2 := by
  have e := slc_idx k x.length (x.length - (k + 1)) (by omega) (.inr ⟨by omega, by omega⟩)
  unfold Txt.slice
  rw [e, if_neg (by simp; omega)]
  have := List.length_filterMap_le (x.cps[·]?) ((List.range (x.length - (k + 1))).map fun j => (k + 1) + j)
  rw [List.length_map, List.length_range] at this
  show (List.filterMap _ _).toArray.size < 2
  rw [List.size_toArray]
  omega
section
variable {prog : Program} {w : World} {A : Around} {E : Value → Shared → Prop} {s : Shared} {value slice : PySem.Expr} {h₀ : Heap} {L : Addr} {m : Str → Option Value} {news : List (Addr × Obj)} {Q : Value → Shared → Prop}
theorem slice_S {x : Str} {k : Nat} {t ui uj : Tok} (hF : Fr h₀ L s.heap m) (hN : News h₀ L s.heap news) (hk : k < x.length) (hn : ¬ k + 2 < x.length) (hz : x.length ≤ 1000)
    (h : ∀ y h' t' k, y.length ≠ 2 → y.length ≤ 1000 → Fr h₀ L h' m → News h₀ L h' news → Q (.str y t') { s with heap := h', toks := k })
    (hs : subscripted slice false (.str x t) (.ref s.heap.objs.size) = operate [.ref s.heap.objs.size, .str x t] (getItem (.str x t) (.ref s.heap.objs.size)) := by with_unfolding_all rfl)
    (ht : ∀ r, letTemporaryGo value (.str x t) r = pure () := by intro _; with_unfolding_all rfl) :
    wpAny (model prog w) A (subscriptTail value slice (.str x t) (.ref s.heap.objs.size)) Q E { s with heap := s.heap.push { cls := .type "slice", data := .fields #[.int ((k : Int) + 1) ui, .int ((k : Int) + 3) uj, .none] } } := by
  refine slice_strN_ss hF hN (fun h' t' kk F N => ?_) hs ht (by rw [sizeLine_eq]; omega)
  have := slc_short2 hk hn
  exact h _ _ _ _ (by omega) (by omega) F N
theorem eq_len2 {n : Nat} {t u : Tok} (hn : n ≠ 2) (h : Q (.bool false) s) : wpAny (model prog w) A (compareOp .Eq (.int (n : Nat) t) (.int 2 u)) Q E s := by
  refine eq_int ?_
  have e : ((n : Int) == 2) = false := by rw [beq_eq_false_iff_ne]; omega
  first | (rw [e]; exact h) | (rw [decide_eq_false (by omega)]; exact h)
theorem join_oct {D : Addr} {vs : List Value} {xs : List Str} {c : Nat} {t : Tok} (N : News h₀ L s.heap news) (hm : (D, LCg.lst vs) ∈ news) (hi : StrsAre vs xs) (hB : ∀ x ∈ xs, x.length ≤ 3) (hk : xs.length * 3 ≤ 1000000) (hf : (xs.flatMap fun x => x.cps.toList) = (octets c).flatMap hexUp)
    (h : ∀ y t' k, y.cps.toList = (octets c).flatMap hexUp → y.length ≤ 12 → Q (.str y t') { s with toks := k }) : wpAny (model prog w) A (call (.builtin "str.join") [.str (Str.ofString "") t, .ref D]) Q E s := by
  refine join_C N hm hi hB hk fun y t' k hy => ?_
  rw [hf] at hy
  refine h _ _ _ hy ?_
  have e := congrArg List.length hy
  have h4 := octets_len c
  have e2 : ∀ l : List Nat, (l.flatMap hexUp).length = 3 * l.length := by
    intro l
    induction l with
    | nil => rfl
    | cons a r ih => rw [List.flatMap_cons, List.length_append, ih, List.length_cons]; show 3 + _ = _; omega
  rw [e2] at e
  have : y.length = y.cps.toList.length := rfl
  omega
end
end Mine
end

section
open PySem PySem.W PyProof.Rows PySem.Calls
open Sem (wp)
set_option maxRecDepth 100000
set_option maxHeartbeats 100000000
namespace Mine
theorem instKeep {h h' : Heap} {x C d : Addr} {o : Obj} (I : PySem.W.InstAt h x (instObj C d) C (some o)) (k : Kp h h') : PySem.W.InstAt h' x (instObj C d) C (some o) := ⟨k _ _ I.at_, I.cls, I.no, k _ _ I.dict⟩
local macro_rules | `(tactic| walk_at "getAttr ref") => `(tactic| (k_here; (with_reducible rename PySem.W.InstAt _ _ _ _ _ => kI); k_dflt (refine' get_own ?k1 ?k2 ?k3 ?k4 ?k5 ?k6 ?k7 ?k8 ?k9 ?_; (case k1 => k_asm); (case k2 => k_asm); (case k3 => exact instKeep kI (Fr.keep (by k_asm))); (case k4 => k_is); (case k5 => k_is); (case k6 => k_is); (case k7 => k_is); (case k8 => assumption); (case k9 => k_handed); k_whole)))
-- clean stacks
local macro_rules | `(tactic| walk_at "wpS") => `(tactic| ((with_reducible show wpS _ _ (execs (_ :: _) _) _ _ _); (with_reducible refine S_execs_consA ?_)))
local macro_rules | `(tactic| walk_at "wpS") => `(tactic| ((with_reducible show wpS _ _ (execs (Stmt.If _ _ _ _ :: _) _) _ _ _); (with_reducible refine S_execs_cons (S_If ?_))))
local macro_rules | `(tactic| walk_at "wpS") => `(tactic| ((with_reducible show wpS _ _ (execs [] _) _ _ _); (with_reducible refine S_execs_nil ?_)))
local macro_rules | `(tactic| walk_at "wpS") => `(tactic| ((with_reducible show wpS _ _ (execs (Stmt.Expr (Expr.Call (Expr.Attribute _ (Str.ofString "append") _) _ _ _) _ :: _) _) _ _ _); k_dflt (refine S_execs_cons (S_stmt1 BA.slot_bytearray_append BA.type_bytearray_append ?_))))
local macro_rules | `(tactic| walk_at "wpS") => `(tactic| ((with_reducible show wpS _ _ (execs (Stmt.Expr (Expr.Call (Expr.Attribute _ (Str.ofString "extend") _) _ _ _) _ :: _) _) _ _ _); k_dflt (refine S_execs_cons (S_stmt1 BA.slot_bytearray_extend BA.type_bytearray_extend ?_))))
local macro_rules | `(tactic| walk_at "wpS") => `(tactic| ((with_reducible show wpS _ _ (execs (Stmt.Expr (Expr.Call (Expr.Attribute _ (Str.ofString "clear") _) _ _ _) _ :: _) _) _ _ _); k_dflt (refine S_execs_cons (S_stmt0 BA.slot_bytearray_clear BA.type_bytearray_clear ?_))))
local macro_rules | `(tactic| walk_at "wpS") => `(tactic| ((with_reducible show wpS _ _ (execs (Stmt.Assign _ (Expr.Call (Expr.Name (Str.ofString "bytearray") _) _ _ _) _ :: _) _) _ _ _); k_dflt (refine' S_execs_cons (S_assign_new ?f ?n ?hn ?_); (case f => k_asm); (case n => k_asm); (case hn => intro Q' hq; k_dflt (refine' name_B ?k1 ?k2 ?k3 ?k4 ?k5 (by decide) hq; (case k1 => k_asm); (case k2 => k_asm); (case k3 => k_asm); (case k4 => k_is); (case k5 => first | rfl | decide +kernel)))); intro h' o' F' N' l1; (try k_lt l1); (try k_sweep)))
local macro_rules | `(tactic| walk_at "wpS") => `(tactic| ((with_reducible show wpS _ _ (execs (Stmt.While _ _ _ _ :: _) _) _ _ _); (refine S_execs_cons ?_); fail_if_success skip))
local macro_rules | `(tactic| walk_at "getMethod str") => `(tactic| ((with_reducible show wpAny _ _ (getMethod (Value.str _ _) (Str.ofString "encode") _) _ _ _); k_dflt (refine getMethod_builtin (typeIs_str _ _ _) PySem.F.plainAttrs_str PySem.F.slot_str_encode PySem.F.type_str_encode (fun _ e => nomatch e) ?_)))
local macro_rules | `(tactic| walk_at "call builtin:str.encode") => `(tactic| ((with_reducible show wpAny _ _ (call (Value.builtin _) [Value.str _ _, Value.str (Str.ofString "utf-8") _]) _ _ _); k_dflt (refine str_encode8 (by assumption) (by rw [sizeLine_eq]; omega) ?_); intro _ _))
theorem news_at {h₀ h : Heap} {L a : Addr} {news : List (Addr × Obj)} {o : Obj} (N : News h₀ L h news) (hm : (a, o) ∈ news) : h.get? a = some o := (N _ hm).1
theorem push0 (y : UInt8) : (#[] : Array UInt8).push y = #[y] := rfl
theorem push1 (x y : UInt8) : (#[x] : Array UInt8).push y = #[x, y] := rfl
theorem push2 (x y z : UInt8) : (#[x, y] : Array UInt8).push z = #[x, y, z] := rfl
theorem ba_len_lit {prog : Program} {w : World} {A : Around} {E : Value → Shared → Prop} {s : Shared} {h₀ : Heap} {L a : Addr} {news : List (Addr × Obj)} {b : Array UInt8} (k : Nat) {Q : Value → Shared → Prop} (N : News h₀ L s.heap news) (hm : (a, baObj b) ∈ news) (e : b.size = k) (hk : k ≤ 3) (h : ∀ t tk, Q (.int (k : Nat) t) { s with toks := tk }) : wpAny (model prog w) A (call (.builtin "len") [.ref a]) Q E s :=
  ba_len_N N hm (by omega) (by rw [e]; exact h)
theorem ba_truthy_lit {prog : Program} {w : World} {A : Around} {E : Value → Shared → Prop} {s : Shared} {h₀ : Heap} {L a : Addr} {news : List (Addr × Obj)} {b : Array UInt8} (r : Bool) {Q : Bool → Shared → Prop} (N : News h₀ L s.heap news) (hm : (a, baObj b) ∈ news) (e : b.isEmpty = !r) (hz : b.size ≤ 1099511627776) (h : ∀ tk, Q r { s with toks := tk }) : wpAny (model prog w) A (truthy (.ref a)) Q E s :=
  ba_truthy_N N hm hz (by rw [e, Bool.not_not]; exact h)
theorem append_N' {prog : Program} {w : World} {A : Around} {E : Value → Shared → Prop} {s : Shared} {h₀ : Heap} {L a : Addr} {m : Str → Option Value} {news news' : List (Addr × Obj)} {b c : Array UInt8} {y : UInt8} {n : Int} {t : Tok} {Q : Value → Shared → Prop} (F : Fr h₀ L s.heap m) (N : News h₀ L s.heap news) (hy : 0 ≤ n ∧ n < 256 ∧ n.toNat.toUInt8 = y) (hc : b.push y = c) (U : Upd a (baObj b) (baObj c) news news') (hz : b.size < sizeLine)
    (h : ∀ h', Fr h₀ L h' m → News h₀ L h' news' → Q .none { s with heap := h' }) : wpS (model prog w) A (call (.builtin "bytearray.append") [.ref a, .int n t]) Q E s := by
  obtain ⟨h0, h1, rfl⟩ := hy
  subst hc
  exact S_append_N F N U h0 h1 hz h
theorem u8_fact (c : UInt8) : 0 ≤ ((c.toNat : Nat) : Int) ∧ ((c.toNat : Nat) : Int) < 256 ∧ (((c.toNat : Nat) : Int).toNat).toUInt8 = c := ⟨by omega, by have := c.toNat_lt; omega, u8_back c⟩
theorem u8_factD {c : UInt8} (h : 97 ≤ c.toNat ∧ c.toNat ≤ 122) : 0 ≤ ((c.toNat : Nat) : Int) - 32 ∧ ((c.toNat : Nat) : Int) - 32 < 256 ∧ ((((c.toNat : Nat) : Int) - 32).toNat).toUInt8 = c - 32 := ⟨by omega, by omega, u8_down c h.1⟩
theorem u8_factL {n : Nat} (h : n < 256) : 0 ≤ ((n : Nat) : Int) ∧ ((n : Nat) : Int) < 256 ∧ (((n : Nat) : Int).toNat).toUInt8 = UInt8.ofNat n := ⟨by omega, by omega, rfl⟩
local macro_rules | `(tactic| walk_at "Exists") => `(tactic| ((with_reducible show ∃ a b, Value.ref _ = Value.ref a ∧ _); k_dflt (refine' ⟨_, _, rfl, news_at ?hnx ?hmx, ?_⟩; (case hnx => k_asm); (case hmx => k_mem))))
local macro_rules | `(tactic| walk_at "wpS") => `(tactic| ((with_reducible show wpS _ _ (call (Value.builtin "bytearray.append") _) _ _ _); k_dflt (refine' append_N' ?f ?n ?hy ?hc ?u ?hz ?_; (case f => k_asm); (case n => k_asm); (case hy => first | exact u8_factD (by assumption) | exact u8_fact _ | exact u8_factL (hexN_lt (hexT (by assumption)) (hexT (by assumption))) | exact u8_factL (by omega)); (case u => k_upd); (case hc => first | exact push0 _ | exact push1 _ _ | exact push2 _ _ _ | rfl); (case hz => rw [sizeLine_eq]; first | omega | (simp; done))); intro h' F' N'; refine ⟨rfl, ?_⟩; (try k_sweep)))
local macro_rules | `(tactic| walk_at "wpS") => `(tactic| ((with_reducible show wpS _ _ (call (Value.builtin "bytearray.clear") _) _ _ _); k_dflt (refine' S_clear_N ?f ?n ?u ?_; (case f => k_asm); (case n => k_asm); (case u => k_upd)); intro h' F' N'; refine ⟨rfl, ?_⟩; (try k_sweep)))
local macro_rules | `(tactic| walk_at "wpS") => `(tactic| ((with_reducible show wpS _ _ (call (Value.builtin "bytearray.extend") [Value.ref _, Value.bytes _ _]) _ _ _); k_dflt (refine' S_extend_bytes_N ?f ?n ?u ?hz ?_; (case f => k_asm); (case n => k_asm); (case u => k_upd); (case hz => rw [sizeLine_eq]; simp; omega)); intro h' F' N'; refine ⟨rfl, ?_⟩; (try k_sweep)))
local macro_rules | `(tactic| walk_at "wpS") => `(tactic| ((with_reducible show wpS _ _ (call (Value.builtin "bytearray.extend") [Value.ref _, Value.ref _]) _ _ _); k_dflt (refine' S_extend_ba_N ?f ?n ?u ?hm ?hz ?_; (case f => k_asm); (case n => k_asm); (case u => k_upd); (case hm => k_mem); (case hz => rw [sizeLine_eq]; simp; omega)); intro h' F' N'; refine ⟨rfl, ?_⟩; (try k_sweep)))
local macro_rules | `(tactic| walk_at "subscriptTail") => `(tactic| ((with_reducible show wpAny _ _ (subscriptTail _ _ (Value.bytes _ _) (Value.int _ _)) _ _ _); k_dflt (refine item_B (by omega) (by assumption) ?_); intro _ _))
local macro_rules | `(tactic| walk_at "subscriptTail") => `(tactic| ((with_reducible show wpAny _ _ (subscriptTail _ _ (Value.ref _) (Value.int _ _)) _ _ _); k_dflt (refine' ba_item_N ?n ?m ?a ?b ?c ?_; (case n => k_asm); (case m => k_mem); (case a => decide); (case b => decide); (case c => rfl)); intro _ _))
local macro_rules | `(tactic| walk_at "subscriptTail") => `(tactic| ((with_reducible show wpAny _ _ (subscriptTail _ _ (Value.ref _) (Value.ref _)) _ _ _); k_dflt (refine' ba_slice_N ?f ?n ?m ?_; (case f => k_asm); (case n => k_asm); (case m => k_mem)); intro h' o' F' N' l1; (try k_lt l1); (try k_sweep)))
local macro_rules | `(tactic| walk_at "truthy ref") => `(tactic| ((with_reducible show wpAny _ _ (truthy (Value.ref _)) _ _ _); k_dflt (refine' ba_truthy_N ?n ?m ?z ?_; (case n => k_asm); (case m => k_mem); (case z => first | decide | simp; done)); intro _))
local macro_rules | `(tactic| walk_at "call builtin:len") => `(tactic| ((with_reducible show wpAny _ _ (call (Value.builtin "len") [Value.ref _]) _ _ _); k_dflt (refine' ba_len_N ?n ?m ?z ?_; (case n => k_asm); (case m => k_mem); (case z => first | decide | simp; done)); intro _ _))
local macro_rules | `(tactic| walk_at "truthy ref") => `(tactic| ((with_reducible show wpAny _ _ (truthy (Value.ref _)) _ _ _); k_dflt (first | (refine' ba_truthy_lit true ?n ?m ?e ?z ?_; (case n => k_asm); (case m => k_mem); (case e => rfl); (case z => simp; done)) | (refine' ba_truthy_lit false ?n ?m ?e ?z ?_; (case n => k_asm); (case m => k_mem); (case e => rfl); (case z => simp; done))); intro _))
local macro_rules | `(tactic| walk_at "call builtin:len") => `(tactic| ((with_reducible show wpAny _ _ (call (Value.builtin "len") [Value.ref _]) _ _ _); k_dflt (first | (refine' ba_len_lit 1 ?n ?m ?e ?z ?_; (case n => k_asm); (case m => k_mem); (case e => rfl); (case z => decide)) | (refine' ba_len_lit 2 ?n ?m ?e ?z ?_; (case n => k_asm); (case m => k_mem); (case e => rfl); (case z => decide)) | (refine' ba_len_lit 3 ?n ?m ?e ?z ?_; (case n => k_asm); (case m => k_mem); (case e => rfl); (case z => decide))); intro _ _))
local macro_rules | `(tactic| walk_at "call builtin:len") => `(tactic| ((with_reducible show wpAny _ _ (call (Value.builtin "len") [Value.bytes _ _]) _ _ _); k_dflt (refine len_B (by omega) ?_); intro _ _))
local macro_rules | `(tactic| walk_at "compareOp In int") => `(tactic| ((with_reducible show wpAny _ _ (compareOp CmpOp.In (Value.int _ _) (Value.bytes _ _)) _ _ _); k_dflt (first | (with_reducible refine in_low ?_) | refine in_u8 ?_)))
local macro_rules | `(tactic| walk_at "compareOp In int bytes") => `(tactic| ((with_reducible show wpAny _ _ (compareOp CmpOp.In (Value.int _ _) (Value.bytes _ _)) _ _ _); k_dflt (first | (with_reducible refine in_low ?_) | refine in_u8 ?_)))
local macro_rules | `(tactic| walk_at "compareOp In str str") => `(tactic| ((with_reducible show wpAny _ _ (compareOp CmpOp.In (Value.str (Str.mk #[_]) _) (Value.str _ _)) _ _ _); k_dflt (refine in_one ?_)))
local macro_rules | `(tactic| walk_at "compareOp NotIn str str") => `(tactic| ((with_reducible show wpAny _ _ (compareOp CmpOp.NotIn (Value.str (Str.mk #[_]) _) (Value.str _ _)) _ _ _); k_dflt (refine notin_one ?_)))
local macro_rules | `(tactic| walk_at "call builtin:chr") => `(tactic| ((with_reducible show wpAny _ _ (call (Value.builtin "chr") [Value.int (Int.ofNat _) _]) _ _ _); k_dflt (first | refine chr_u8 ?_ | refine chr_nat (by assumption) ?_); intro _ _))
local macro_rules | `(tactic| walk_at "call builtin:chr") => `(tactic| ((with_reducible show wpAny _ _ (call (Value.builtin "chr") [Value.int (Nat.cast _) _]) _ _ _); k_dflt (first | refine chr_u8 ?_ | refine chr_nat (by assumption) ?_); intro _ _))
local macro_rules | `(tactic| walk_at "call type:int") => `(tactic| ((with_reducible show wpAny _ _ (call (Value.type "int") [Value.str _ _, Value.int _ _]) _ _ _); k_dflt (refine int_hex (by assumption) (by assumption) ?_); intro _ _))
local macro_rules | `(tactic| walk_at "formatField int") => `(tactic| ((with_reducible show wpAny _ _ (formatField (Value.int _ _) (Str.ofString "02X")) _ _ _); k_dflt (refine field_X (by assumption) ?_); intro _ _))
local macro_rules | `(tactic| walk_at "getMethod str") => `(tactic| (k_dflt (refine getMethod_encode ?_)))
local macro_rules | `(tactic| walk_at "call builtin:str.encode") => `(tactic| ((with_reducible show wpAny _ _ (call (Value.builtin _) [Value.str _ _, Value.str (Str.ofString "ascii") _]) _ _ _); k_dflt (refine str_encodeA (by with_reducible assumption) (by with_reducible assumption) ?_); intro _ _))
local macro_rules | `(tactic| walk_at "call builtin:str.encode") => `(tactic| ((with_reducible show wpAny _ _ (call (Value.builtin _) [Value.str (Str.mk #[_, _, _]) _, Value.str (Str.ofString "ascii") _]) _ _ _); k_dflt (refine encode_X (by assumption) ?_); intro _ _))
local macro_rules | `(tactic| walk_at "getMethod ref") => `(tactic| ((with_reducible show wpAny _ _ (getMethod (Value.ref _) (Str.ofString "decode") _) _ _ _); k_dflt (refine' getMethod_decode ?n ?m ?_; (case n => k_asm); (case m => k_mem))))
local macro_rules | `(tactic| walk_at "call builtin:bytearray.decode") => `(tactic| ((with_reducible show wpAny _ _ (call (Value.builtin _) [Value.ref _, Value.str (Str.ofString "ascii") _]) _ _ _); k_dflt (refine' ba_decode_N ?n ?m ?hx ?hy ?_; (case n => k_asm); (case m => k_mem); (case hx => assumption); (case hy => assumption)); intro _ _))
local macro_rules | `(tactic| walk_at "call builtin:bytearray.decode") => `(tactic| ((with_reducible show wpAny _ _ (call (Value.builtin _) [Value.ref _, Value.str (Str.ofString "ascii") _]) _ _ _); k_dflt (refine' decode_hex ?n ?m ?hx ?hy ?_; (case n => k_asm); (case m => k_mem); (case hx => exact hexT (by assumption)); (case hy => exact hexT (by assumption))); intro _ _))
local macro_rules | `(tactic| walk_at "compareOp NotIn str str") => `(tactic| (k_dflt (refine notin_hex ?_)))
local macro_rules | `(tactic| walk_at "call type:int") => `(tactic| (k_dflt (refine int_hex (hexT (by assumption)) (hexT (by assumption)) ?_); intro _ _))
local macro_rules | `(tactic| walk_at "call builtin:chr") => `(tactic| ((with_reducible show wpAny _ _ (call (Value.builtin "chr") [Value.int (Nat.cast (_ + _)) _]) _ _ _); k_dflt (refine chr_nat (Nat.lt_trans (hexN_lt (hexT (by assumption)) (hexT (by assumption))) (by decide)) ?_); intro _ _))
local macro_rules | `(tactic| walk_at "call builtin:ord") => `(tactic| ((with_reducible show wpAny _ _ (call (Value.builtin "ord") [Value.str (Str.mk #[_]) _]) _ _ _); k_dflt (refine ord_one' ?_); intro _ _))
local macro_rules | `(tactic| walk_at "eval JoinedStr") => `(tactic| (k_dflt (refine joined_X ?_)))
local macro_rules | `(tactic| walk_at "Exists") => `(tactic| ((with_reducible show ∃ n t, Value.int _ _ = Value.int _ t ∧ _); k_dflt (refine ⟨_, _, rfl, by assumption, ?_⟩); intro _ _))
local macro_rules | `(tactic| walk_at "my_step") => `(tactic| first | (k_unfold; (try dsimp only)) | walk1 | (dsimp only; walk1) | (leave1; try dsimp only) | fail "no step")
local macro_rules | `(tactic| walk_at "my_steps") => `(tactic| repeat' (walk_at "my_step"))
def stand : Str := Str.ofString "abcdefghijklmnopqrstuvwxyzABCDEFGHIJKLMNOPQRSTUVWXYZ0123456789-._~!$'()*,"
def four : Str := Str.ofString "+&=;"
def SF (qs : Bool) (S P : Str) : Str := (if qs then S ++ stand else S ++ stand ++ four) ++ P
def parOf (qs rq : Bool) (S P : Str) : Par := ⟨(SF qs S P).cps.toList, P.cps.toList, qs, rq⟩
def ps7 (q r p : Addr) (x : Str) (t tb ts tB : Tok) (B bS : Array UInt8) (sf : Str) : List (Str × Value) :=
  [(Str.ofString "self", .ref q), (Str.ofString "val", .str x t), (Str.ofString "bval", .bytes B tb), (Str.ofString "ret", .ref r), (Str.ofString "pct", .ref p), (Str.ofString "safe", .str sf ts), (Str.ofString "bsafe", .bytes bS tB)]
def LoopI (par : Par) (base : Heap) (L q r p : Addr) (x : Str) (t tb ts tB : Tok) (B bS : Array UInt8) (sf : Str) (s : Shared) (n : Nat) (s' : Shared) : Prop :=
  ∃ P' R k ti, n = 3 * ((nats B).length - k) + 2 * P'.size ∧ St par (nats B) k P' R ∧ At base L [(p, baObj P'), (r, baObj R)] ((Str.ofString "idx", .int (k : Nat) ti) :: ps7 q r p x t tb ts tB B bS sf) s s'
theorem lap {par : Par} {base h' : Heap} {L q r p : Addr} {x : Str} {t tb ts tB : Tok} {B bS : Array UInt8} {sf : Str} {s : Shared} {n tk : Nat} {m' : Str → Option Value} {led' : List (Addr × Obj)} {P' R' : Array UInt8} {z : Int} {ti' : Tok} (k' : Nat)
    (F : Fr base L h' m') (N : News base L h' led') (hP : (p, baObj P') ∈ led') (hR : (r, baObj R') ∈ led') (hz : m' (Str.ofString "idx") = some (.int z ti')) (h7 : ∀ y ∈ ps7 q r p x t tb ts tB B bS sf, m' y.1 = some y.2) (hzk : z = (k' : Int))
    (st : St par (nats B) k' P' R') (hm : 3 * ((nats B).length - k') + 2 * P'.size < n) : Less (LoopI par base L q r p x t tb ts tB B bS sf s) n { s with heap := h', toks := tk } := by
  subst hzk
  refine ⟨_, hm, P', R', k', ti', rfl, st, At.intro F N (fun y hy => ?_) (List.forall_mem_cons.mpr ⟨hz, h7⟩)⟩
  rcases List.mem_cons.mp hy with rfl | hy
  · exact hP
  · rcases List.mem_cons.mp hy with rfl | hy
    · exact hR
    · cases hy
theorem notc {l : List Nat} {v : Nat} (h : ¬ v ∈ l) : l.contains v = false := by simpa using h
theorem keptN {qs rq : Bool} {S P : Str} {v : Nat} (h : v ∈ P.cps.toList) : ¬ ((parOf qs rq S P).may.contains v = true ∧ (parOf qs rq S P).kept.contains v = false) := by
  rintro ⟨_, h2⟩
  have : (parOf qs rq S P).kept.contains v = true := List.contains_iff_mem.mpr h
  rw [this] at h2
  cases h2
theorem mayN {qs rq : Bool} {S P : Str} {v : Nat} (h : ¬ v ∈ (SF qs S P).cps.toList) : ¬ ((parOf qs rq S P).may.contains v = true ∧ (parOf qs rq S P).kept.contains v = false) := fun h2 => h (List.contains_iff_mem.mp h2.1)
theorem asciiB_eq (x : Str) : (asciiB x).toList = x.cps.toList.map Nat.toUInt8 := by
  have H : ∀ (l : List Nat) (acc : Array UInt8), (l.foldl (fun acc y => acc ++ [y.toUInt8].toArray) acc).toList = acc.toList ++ l.map Nat.toUInt8 := by
    intro l
    induction l with
    | nil => intro acc; simp
    | cons y r ih => intro acc; rw [List.foldl_cons, ih]; simp
  unfold asciiB
  rw [← Array.foldl_toList, H]
  rfl
theorem asciiB_in {x : Str} (h : ∀ c, x.cps.toList.contains c = true → c < 128) (c : UInt8) : (asciiB x).contains c = x.cps.toList.contains c.toNat := by
  rw [Bool.eq_iff_iff, Array.contains_iff_mem, List.contains_iff_mem, ← Array.mem_toList_iff, asciiB_eq, List.mem_map]
  constructor
  · rintro ⟨y, hy, rfl⟩
    have := h y (by rw [List.contains_iff_mem]; exact hy)
    rw [nat_u8 (by omega)]
    exact hy
  · intro hm
    exact ⟨_, hm, UInt8.ofNat_toNat⟩
structure J9 (base : Heap) (L q : Addr) (x : Str) (t : Tok) (qs : Bool) (S : Str) (s s' : Shared) : Prop where
  out : ∃ r p tb ts S9, @LT.lt Nat _ r p ∧ S9 = (if qs then S ++ stand else S ++ stand ++ four) ∧ At base L [(p, baObj #[]), (r, baObj #[])] [(Str.ofString "self", .ref q), (Str.ofString "val", .str x t), (Str.ofString "bval", .bytes (utf8B x) tb), (Str.ofString "ret", .ref r), (Str.ofString "pct", .ref p), (Str.ofString "safe", .str S9 ts)] s s'
theorem J9.intro {base h' : Heap} {L q r p : Addr} {x : Str} {t tb ts : Tok} {qs : Bool} {S S9 : Str} {s : Shared} {tk : Nat} {m' : Str → Option Value} (F : Fr base L h' m') (N : News base L h' [(p, baObj #[]), (r, baObj #[])]) (hrp : @LT.lt Nat _ r p)
    (e1 : m' (Str.ofString "self") = some (.ref q)) (e2 : m' (Str.ofString "val") = some (.str x t)) (e3 : m' (Str.ofString "bval") = some (.bytes (utf8B x) tb)) (e4 : m' (Str.ofString "ret") = some (.ref r)) (e5 : m' (Str.ofString "pct") = some (.ref p))
    (e6 : m' (Str.ofString "safe") = some (.str S9 ts)) (h9 : S9 = (if qs then S ++ stand else S ++ stand ++ four)) : J9 base L q x t qs S s { s with heap := h', toks := tk } :=
  ⟨r, p, tb, ts, S9, hrp, h9, At.intro F N (fun _ h => h) (by simp only [List.forall_mem_cons]; exact ⟨e1, e2, e3, e4, e5, e6, List.forall_mem_nil _⟩)⟩
structure J12 (base : Heap) (L q : Addr) (x : Str) (t : Tok) (qs : Bool) (S P : Str) (s s' : Shared) : Prop where
  out : ∃ r p tb ts tB ti, @LT.lt Nat _ r p ∧ At base L [(p, baObj #[]), (r, baObj #[])] ((Str.ofString "idx", .int 0 ti) :: ps7 q r p x t tb ts tB (utf8B x) (asciiB (SF qs S P)) (SF qs S P)) s s'
theorem J12.intro {base h' : Heap} {L q r p : Addr} {x : Str} {t tb ts tB ti : Tok} {qs : Bool} {S P S9 : Str} {s : Shared} {tk : Nat} {m' : Str → Option Value} (F : Fr base L h' m') (N : News base L h' [(p, baObj #[]), (r, baObj #[])]) (hrp : @LT.lt Nat _ r p)
    (e1 : m' (Str.ofString "self") = some (.ref q)) (e2 : m' (Str.ofString "val") = some (.str x t)) (e3 : m' (Str.ofString "bval") = some (.bytes (utf8B x) tb)) (e4 : m' (Str.ofString "ret") = some (.ref r)) (e5 : m' (Str.ofString "pct") = some (.ref p))
    (e6 : m' (Str.ofString "safe") = some (.str (S9 ++ P) ts)) (e7 : m' (Str.ofString "bsafe") = some (.bytes (asciiB (S9 ++ P)) tB)) (e8 : m' (Str.ofString "idx") = some (.int 0 ti)) (h9 : S9 = (if qs then S ++ stand else S ++ stand ++ four)) : J12 base L q x t qs S P s { s with heap := h', toks := tk } := by
  subst h9
  exact ⟨r, p, tb, ts, tB, ti, hrp, At.intro F N (fun _ h => h) (by unfold ps7; simp only [List.forall_mem_cons]; exact ⟨e8, e1, e2, e3, e4, e5, e6, e7, List.forall_mem_nil _⟩)⟩
theorem empty_out {x : Str} (p : Par) (h : x.length = 0) : (Str.ofString "").cps.toList = Bq p (nats (utf8B x)) := by
  obtain ⟨c⟩ := x
  have : c = #[] := Array.eq_empty_of_size_eq_zero h
  subst this
  show [] = Bq p []
  rw [Bq_nil]
section
variable {w : World} {loose : List Str} {mean : ExcName → Option Value} {mg mb : Str → Option Value} {A : Around} {s : Shared} {Q E : Value → Shared → Prop}
theorem call_c {q d : Addr} {x S P : Str} {t t1 t2 : Tok} {qs rq : Bool} {es : List DictEntry} {n : Nat} (X : (hd.heap_39 w.params).In s.heap) (T : Top hd.view_39 loose mean mg mb s.heap)
    (I : PySem.W.InstAt s.heap q (instObj 39 d) 39 (some (dictOf es n))) (e1 : getL (Str.ofString "_safe") es = some (some (.str S t1))) (e2 : getL (Str.ofString "_protected") es = some (some (.str P t2)))
    (e3 : getL (Str.ofString "_qs") es = some (some (.bool qs))) (e4 : getL (Str.ofString "_requote") es = some (some (.bool rq)))
    (hroom : A.depth + 1 < recursionLimit) (hu : A.units + 20 < cLine) (hh : A.handled = none) (hx : x.length ≤ 1000) (hS : S.length ≤ 1000) (hP : P.length ≤ 1000)
    (hsc : ∀ c ∈ x.cps.toList, Str.isSurrogate c = false) (h8 : (utf8B x).size ≤ 5000) (ok : (parOf qs rq S P).Ok)
    (hret : ∀ y t h' tk, y.cps.toList = Bq (parOf qs rq S P) (nats (utf8B x)) → Kp s.heap h' → Q (.str y t) { s with heap := h', toks := tk }) : wpS (model Challenge.rw_fe0370_01.row.prog w) A (call (.ref q) [.str x t]) Q E s := by
  revert X; k_fill; intro X
  refine S_call (S_inst X I rfl (g := 36) (by k_is) (by k_is) (by k_is) ?_)
  refine enter_S (args := ⟨[.ref q, .str x t], []⟩) (binds := [(Str.ofString "self", .ref q), (Str.ofString "val", .str x t)]) X T (by k_is) (by k_is) (by omega) (BindsTo.of_eq rfl) (locs rfl) ?_ rfl rfl rfl (by decide)
  intro h₁ F
  have hBl : (nats (utf8B x)).length ≤ 5000 := by simpa [nats] using h8
  refine S_cut 12 (J12 s.heap s.heap.objs.size q x t qs S P s) ?_ ?_
  · simp only [List.take_succ_cons, List.take_zero]
    refine S_cut 9 (J9 s.heap s.heap.objs.size q x t qs S s) ?_ ?_
    · simp only [List.take_succ_cons, List.take_zero]
      have N : News s.heap s.heap.objs.size h₁ [] := News.nil
      walk_at "my_steps"
      · exact J9.intro (by assumption) (by assumption) (by assumption) (by rfl) (by rfl) (by rfl) (by rfl) (by rfl) (by rfl) (if_pos (by assumption)).symm
      · exact J9.intro (by assumption) (by assumption) (by assumption) (by rfl) (by rfl) (by rfl) (by rfl) (by rfl) (by rfl) (by rw [show qs = false from by assumption]; rfl)
      · exact hret _ _ _ _ (empty_out _ (by omega)) (Fr.keep (by assumption))
    · rintro s' ⟨r, p, tb, ts, S9, hrp, h9, a⟩
      simp only [List.drop_succ_cons, List.drop_zero]
      have hS9 : S9.length ≤ 1100 := by
        rw [h9]
        have e1 : stand.length = 73 := by decide
        have e2 : four.length = 4 := by decide
        split <;> simp only [strLen_append, e1, e2] <;> omega
      have hgA : ∀ y ∈ (S9 ++ P).cps.toList, y < 128 := fun y hy => ok y (by rw [h9] at hy; exact List.contains_iff_mem.mpr hy)
      have hzB : (asciiB (S9 ++ P)).size ≤ sizeLine := by
        rw [← Array.length_toList, asciiB_eq, List.length_map, sizeLine_eq]
        have : (S9 ++ P).cps.toList.length = (S9 ++ P).length := by simp [Str.length]
        rw [this, strLen_append]
        omega
      obtain ⟨h', tk, m, rfl, F, N⟩ := a.get
      dsimp only [kstB] at F
      walk_at "my_steps"
      · exact J12.intro (by assumption) (by assumption) hrp (by rfl) (by rfl) (by rfl) (by rfl) (by rfl) (by rfl) (by rfl) (by rfl) h9
  · rintro s' ⟨r, p, tb, ts, tB, ti, hrp, a⟩
    simp only [List.drop_succ_cons, List.drop_zero]
    refine S_execs_cons (S_WhileL (LoopI (parOf qs rq S P) s.heap s.heap.objs.size q r p x t tb ts tB (utf8B x) (asciiB (SF qs S P)) (SF qs S P) s) ?_ _ ⟨#[], #[], 0, ti, rfl, .inl ⟨rfl, Nat.zero_le _, by simp [nats]⟩, a⟩)
    rintro n s' ⟨P', R, k, ti, rfl, st, a⟩
    obtain ⟨h', tk, m, rfl, F, N⟩ := a.get
    dsimp only [kstB, ps7] at F
    have hsz : (utf8B x).size ≤ 1099511627776 := by omega
    have hl : (nats (utf8B x)).length = (utf8B x).size := by simp [nats]
    have hc256 : ∀ c : UInt8, c.toNat < 256 := fun c => c.toNat_lt
    have hR : R.size ≤ 15000 := by have := st.size; omega
    by_cases hk : k < (utf8B x).size
    · obtain ⟨c, hc⟩ : ∃ c, (utf8B x)[k]? = some c := ⟨_, Array.getElem?_eq_getElem hk⟩
      have hc9 : c.toNat < 256 := c.toNat_lt
      have hB : (asciiB (SF qs S P)).contains c = (parOf qs rq S P).may.contains c.toNat := asciiB_in ok c
      rcases st with ⟨rfl, hkl, he⟩ | ⟨rfl, hkl, hag, he⟩ | ⟨rfl, hkl, he⟩ | ⟨a, rfl, h1, hkl, hag, hka, he⟩
      · walk_at "my_steps"
        all_goals (try simp only [show (Str.ofString "%").cps.getD 0 0 = 37 from by decide, show (Str.ofString " ").cps.getD 0 0 = 32 from by decide, show (Str.ofString "+").cps.getD 0 0 = 43 from by decide] at *)
        all_goals (refine lap (k + 1) (by assumption) (by assumption) (by k_mem) (by k_mem) (by rfl) (by unfold ps7; repeat' (first | exact List.forall_mem_nil _ | refine List.forall_mem_cons.mpr ⟨by rfl, ?_⟩)) (by rfl) ?_ ?_)
        all_goals first
          | (simp; omega)
          | exact tA1p hc he (by omega) (by assumption) (by omega)
          | exact tA2p hc he (by omega) (by assumption) (by omega)
          | exact tA3 hc he (by omega) (by assumption)
          | (refine tA4 hc he ?_ ?_ (hB.symm.trans (by first | assumption | simp_all)) <;> rintro ⟨e1, e2⟩ <;> first | omega | (simp_all [parOf]; done))
          | (refine tA5 hc he ?_ ?_ (hB.symm.trans (by first | assumption | simp_all)) <;> rintro ⟨e1, e2⟩ <;> first | omega | (simp_all [parOf]; done))
      · walk_at "my_steps"
        all_goals first
          | (refine lap k (by assumption) (by assumption) (by k_mem) (by k_mem) (by rfl) (by unfold ps7; repeat' (first | exact List.forall_mem_nil _ | refine List.forall_mem_cons.mpr ⟨by rfl, ?_⟩)) (by omega) (tB1 hc he hag (by omega)) ?_; simp <;> omega)
          | (refine lap (k + 1) (by assumption) (by assumption) (by k_mem) (by k_mem) (by rfl) (by unfold ps7; repeat' (first | exact List.forall_mem_nil _ | refine List.forall_mem_cons.mpr ⟨by rfl, ?_⟩)) (by rfl) (tB2 hc he hag (by omega) (by first | exact low_pos (by assumption) | exact low_neg (by assumption))) ?_; simp <;> omega)
      · omega
      · walk_at "my_steps"
        all_goals first
          | (refine lap (k - 1) (by assumption) (by assumption) (by k_mem) (by k_mem) (by rfl) (by unfold ps7; repeat' (first | exact List.forall_mem_nil _ | refine List.forall_mem_cons.mpr ⟨by rfl, ?_⟩)) (by omega) (tC1 hc h1 hka he hag rfl (by first | exact low_pos (by assumption) | exact low_neg (by assumption)) (by first | exact .inl (by assumption) | exact .inr (by assumption))) ?_; simp <;> omega)
          | (refine lap (k + 1) (by assumption) (by assumption) (by k_mem) (by k_mem) (by rfl) (by unfold ps7; repeat' (first | exact List.forall_mem_nil _ | refine List.forall_mem_cons.mpr ⟨by rfl, ?_⟩)) (by rfl) (tC3 hc he hag rfl (by first | exact low_pos (by assumption) | exact low_neg (by assumption)) (hexT (by assumption)) (hexT (by assumption)) (List.contains_iff_mem.mpr (by assumption)) (notc (by assumption))) ?_; simp <;> omega)
          | (refine lap (k + 1) (by assumption) (by assumption) (by k_mem) (by k_mem) (by rfl) (by unfold ps7; repeat' (first | exact List.forall_mem_nil _ | refine List.forall_mem_cons.mpr ⟨by rfl, ?_⟩)) (by rfl) (tC2 hc he hag rfl (by first | exact low_pos (by assumption) | exact low_neg (by assumption)) (hexT (by assumption)) (hexT (by assumption)) (by first | exact keptN (by assumption) | exact mayN (by assumption))) ?_; simp <;> omega)
    · have hRn := tEnd st hk
      have hRb : ∀ c ∈ R.toList, c.toNat < 128 := fun c hc => Bq_lt ok _ _ (Nat.le_refl _) (nats_lt _) c.toNat (by rw [← hRn]; exact List.mem_map_of_mem hc)
      have hRz : R.size ≤ sizeLine := by rw [sizeLine_eq]; omega
      walk_at "my_steps"
      · refine hret _ _ _ _ ?_ (Fr.keep (by assumption))
        have hx9 : (⟨R.map (fun x => x.toNat)⟩ : Str) = x := eq_of_beq (by assumption)
        rw [← hRn, ← hx9]
        simp [nats]
      · refine hret _ _ _ _ ?_ (Fr.keep (by assumption))
        show (R.map _).toList = _
        rw [← hRn]
        simp [nats]
end
end Mine
end

section
open PySem PySem.W PyProof.Rows PySem.Calls
open Sem (wp)
set_option maxRecDepth 100000
set_option maxHeartbeats 100000000
namespace Mine
local macro_rules | `(tactic| walk_at "my_step") => `(tactic| first | (k_unfold; (try dsimp only)) | (walk1; all_goals (try (conv => arg 7; dsimp only))) | (dsimp only; walk1) | (leave1; try dsimp only) | fail "no step")
local macro_rules | `(tactic| walk_at "my_steps") => `(tactic| repeat' (walk_at "my_step"))
local macro_rules | `(tactic| walk_at "subscriptTail") => `(tactic| ((with_reducible show wpAny _ _ (subscriptTail _ _ (Value.str _ _) (Value.int _ _)) _ _ _); k_dflt (refine item_T (by assumption) (by assumption) ?_); intro _ _))
local macro_rules | `(tactic| walk_at "subscriptTail Name Name str int") => `(tactic| (k_dflt (refine item_T (by assumption) (by assumption) ?_); intro _ _))
local macro_rules | `(tactic| walk_at "call builtin:len") => `(tactic| ((with_reducible show wpAny _ _ (call (Value.builtin "len") [Value.str (Str.mk #[_, _]) _]) _ _ _); k_dflt (refine len_two ?_); intro _ _))
local macro_rules | `(tactic| walk_at "subscriptTail Name Slice str ref") => `(tactic| ((with_reducible show wpAny _ _ (subscriptTail _ (Expr.Slice (some _) (some _) none _) (Value.str _ _) (Value.ref _)) _ _ _); (with_reducible rename Fr _ _ _ _ => kF); (with_reducible rename News _ _ _ _ => kN); k_dflt (refine slice_T (s := ⟨_, _, _, _, _⟩) kF kN (by assumption) (by assumption) (by assumption) ?_); intro h' t' k' F' N'; (try k_sweep)))
local macro_rules | `(tactic| walk_at "compareOp In str str") => `(tactic| ((with_reducible show wpAny _ _ (compareOp CmpOp.In (Value.str (Str.mk #[_]) _) (Value.str _ _)) _ _ _); k_dflt (refine in_one ?_)))
local macro_rules | `(tactic| walk_at "compareOp NotIn str str") => `(tactic| ((with_reducible show wpAny _ _ (compareOp CmpOp.NotIn (Value.str (Str.mk #[_]) _) (Value.str _ _)) _ _ _); k_dflt (refine notin_one ?_)))
local macro_rules | `(tactic| walk_at "compareOp Eq ref ref") => `(tactic| ((with_reducible show wpAny _ _ (compareOp CmpOp.Eq (Value.ref _) (Value.ref _)) _ _ _); k_dflt (refine' eq_nil ?n ?a ?b ?u ?_; (case n => k_asm); (case a => k_mem); (case b => k_mem); (case u => dsimp only [Around.deeper]; omega))))
local macro_rules | `(tactic| walk_at "call ref") => `(tactic| ((with_reducible show wpAny _ _ (call (Value.ref 57) _) _ _ _); (with_reducible rename Fr _ _ _ _ => kF); (with_reducible rename News _ _ _ _ => kN); (with_reducible rename Frag.In _ _ => kX); (with_reducible rename Top _ _ _ _ _ _ => kT); k_dflt (refine' octets_c ?x ?t ?r ?c ?_; (case x => exact Frag.In.keeps kX (Fr.keep kF)); (case t => exact Top.keeps kT (Fr.keep kF)); (case r => dsimp only [Around.deeper]; omega); (case c => assumption)); intro a' vs' h' tk' M IS; obtain ⟨F', N', l1⟩ := Made.put M kF kN; (try k_sweep)))
local macro_rules | `(tactic| walk_at "binaryOp Mod str int") => `(tactic| ((with_reducible show wpAny _ _ (binaryOp _ (Value.str (Str.ofString "%%%02X") _) _) _ _ _); k_dflt (refine mod_X (by assumption) ?_); intro _ _))
theorem eq_hex {prog : Program} {w : World} {A : Around} {E : Value → Shared → Prop} {s : Shared} {h₀ : Heap} {L : Addr} {news : List (Addr × Obj)} {a b : Addr} {vs : List Value} {n k x y : Nat} {v : Bool} {p : Str → Bool} {Q : Value → Shared → Prop} (hv : (isHex x && isHex y) = v) (hc : CarriedAll vs (((signs ⟨#[x, y]⟩).filter p).map PyData.str)) (hp : ∀ n, p ⟨#[n]⟩ = !isHex n)
   (N : News h₀ L s.heap news) (ha : (a, PySem.W.listOf vs.toArray n) ∈ news) (hb : (b, PySem.W.listOf #[] k) ∈ news) (hu : A.units < cLine) (h : Q (.bool v) s) :
    wpAny (model prog w) A (compareOp .Eq (.ref a) (.ref b)) Q E s := eq_nil N ha hb hu (by rw [flt_hex hp hc, hv]; exact h)
local macro_rules | `(tactic| walk_at "compareOp Eq ref ref") => `(tactic| ((with_reducible show wpAny _ _ (compareOp CmpOp.Eq (Value.ref _) (Value.ref _)) _ _ _); k_dflt (refine' eq_hex (by assumption) (by assumption) ?p ?n ?a ?b ?u ?_; (case p => intro n; rw [notHex_occ, Bool.not_not]); (case n => k_asm); (case a => k_mem); (case b => k_mem); (case u => dsimp only [Around.deeper]; omega))))
local macro_rules | `(tactic| walk_at "call type:int") => `(tactic| ((with_reducible show wpAny _ _ (call (Value.type "int") [Value.str _ _, Value.int _ _]) _ _ _); k_dflt (refine int_hex (by assumption) (by assumption) ?_); intro _ _))
local macro_rules | `(tactic| walk_at "call builtin:chr") => `(tactic| ((with_reducible show wpAny _ _ (call (Value.builtin "chr") [Value.int (Nat.cast _) _]) _ _ _); k_dflt (refine chr_nat (Nat.lt_trans (hexN_lt (by assumption) (by assumption)) (by decide)) ?_); intro _ _))
local macro_rules | `(tactic| walk_at "eval ListComp BinOp cons") => `(tactic| (k_dflt (refine LCg.ListComp_U (F₀ := by k_asm) (by rfl) (by decide) (by rfl) (by decide) (by rfl) ?_)))
local macro_rules | `(tactic| walk_at "CompSrc") => `(tactic| ((with_reducible rename IntsAre _ (octI _) => kI); k_dflt (refine LCg.CompSrc.ledger (by rfl) (by k_asm) (by k_asm) (by k_mem) (oct_size kI) ?_); intro g'; k_dflt (refine' oct_rest (by assumption) kI (fun k' t' I' oI' C' oC' D' m' ys' h' tk' E' hk' hC' hx' F' N' off' ne' => ?_) (fun ys' xs' hi' hf' hl' hb' => ?_)); (all_goals (try (simp only [LCg.Off3, and_true] at off')))))
local macro_rules | `(tactic| walk_at "call builtin:str.join") => `(tactic| (k_dflt (refine' join_C (B := 3) ?n ?m ?i ?b ?l ?_; (case n => k_asm); (case m => k_mem); (case i => assumption); (case b => assumption); (case l => assumption)); intro y' t' k' hy'))
local macro_rules | `(tactic| walk_at "call builtin:str.upper") => `(tactic| ((with_reducible show wpAny _ _ (call (Value.builtin "str.upper") [Value.str (Str.mk #[_, _]) _]) _ _ _); k_dflt (refine upper_hex (by assumption) (by assumption) ?_); intro _ _))
local macro_rules | `(tactic| walk_at "call builtin:str.join") => `(tactic| (k_dflt (refine' join_oct ?n ?m ?i ?b ?l ?f ?_; (case n => k_asm); (case m => k_mem); (case i => assumption); (case b => assumption); (case l => assumption); (case f => assumption)); intro y' t' k' hy' hl12'))
local macro_rules | `(tactic| walk_at "Elt") => `(tactic| exact ⟨rfl, _, rfl⟩)
local macro_rules | `(tactic| walk_at "call builtin:len") => `(tactic| ((with_reducible show wpAny _ _ (call (Value.builtin "len") [Value.str _ _]) _ _ _); k_dflt (refine P.len_str (by omega) ?_)))
local macro_rules | `(tactic| walk_at "call builtin:len") => `(tactic| ((with_reducible show wpAny _ _ (call (Value.builtin "len") [Value.str (Str.mk #[_, _]) _]) _ _ _); k_dflt (refine len_two ?_); intro _ _))
local macro_rules | `(tactic| walk_at "compareOp Eq int int") => `(tactic| (with_reducible refine eq_len2 (by assumption) ?_))
local macro_rules | `(tactic| walk_at "subscriptTail Name Slice str ref") => `(tactic| ((with_reducible show wpAny _ _ (subscriptTail _ (Expr.Slice (some _) (some _) none _) (Value.str _ _) (Value.ref _)) _ _ _); (with_reducible rename Fr _ _ _ _ => kF); (with_reducible rename News _ _ _ _ => kN); k_dflt (refine slice_S (s := ⟨_, _, _, _, _⟩) kF kN (by assumption) (by assumption) (by assumption) ?_); intro y' h' t' k' hy2' hy3' F' N'; (try k_sweep)))
local macro_rules | `(tactic| walk_at "subscriptTail Name Slice str ref") => `(tactic| ((with_reducible show wpAny _ _ (subscriptTail _ (Expr.Slice (some _) (some _) none _) (Value.str _ _) (Value.ref _)) _ _ _); (with_reducible rename Fr _ _ _ _ => kF); (with_reducible rename News _ _ _ _ => kN); k_dflt (refine slice_T (s := ⟨_, _, _, _, _⟩) kF kN (by assumption) (by assumption) (by assumption) ?_); intro h' t' k' F' N'; (try k_sweep)))
local macro_rules | `(tactic| walk_at "my_h5") => `(tactic| (unfold psW; repeat' (first | exact List.forall_mem_nil _ | refine List.forall_mem_cons.mpr ⟨by rfl, ?_⟩)))
section
variable {w : World} {loose : List Str} {mean : ExcName → Option Value} {mg mb : Str → Option Value} {A : Around} {s : Shared} {Q E : Value → Shared → Prop}
theorem written_c {x y z : Str} {t1 t2 t3 : Tok} {q g : Bool} (X : (hd.heap_39 w.params).In s.heap) (T : Top hd.view_39 loose mean mg mb s.heap)
    (hroom : A.depth + 1 < recursionLimit) (hh : A.handled = none) (hu : A.units + 20 < cLine) (hx : x.length ≤ 1000) (hy : y.length ≤ 1000) (hz : z.length ≤ 1000) (hs : ∀ c ∈ x.cps.toList, scalar c)
    (hret : ∀ o t h' tk, o.cps.toList = W ⟨y.cps.toList, z.cps.toList, q, g⟩ x.cps.toList → Kp s.heap h' → Q (.str o t) { s with heap := h', toks := tk }) :
    wpAny (model Challenge.rw_fe0370_01.row.prog w) A (call (.ref 69) [.str x t1, .str y t2, .str z t3, .bool q, .bool g]) Q E s := by
  cases A
  dsimp only at hh hroom hu
  subst hh
  have X0 := X
  revert X; k_fill; intro X
  refine wpAny_call ?_
  refine enter_any (args := ⟨[.str x t1, .str y t2, .str z t3, .bool q, .bool g], []⟩) (binds := [(Str.ofString "text", .str x t1), (Str.ofString "may", .str y t2), (Str.ofString "kept", .str z t3), (Str.ofString "query", .bool q), (Str.ofString "again", .bool g)]) X T (by k_is) (by k_is) (by dsimp only; omega) (BindsTo.of_eq rfl) (locs rfl) ?_ rfl rfl rfl (by decide)
  intro h₁ F
  have N : News s.heap s.heap.objs.size h₁ [] := News.nil
  refine A_cut 1 (WI s.heap s.heap.objs.size x y z t1 t2 t3 q g s x.length) ?_ ?_
  · simp only [List.take_succ_cons, List.take_zero]
    walk_at "my_steps"
    exact startW (by assumption) (by assumption) (by rfl) (by rfl) (by unfold psW; repeat' (first | exact List.forall_mem_nil _ | refine List.forall_mem_cons.mpr ⟨by rfl, ?_⟩))
  · intro s' hI
    simp only [List.drop_succ_cons, List.drop_zero]
    refine wpAny_execs_cons (A_WhileL (WI s.heap s.heap.objs.size x y z t1 t2 t3 q g s) ?_ _ hI)
    rintro n s' ⟨⟨o, k, u1, u2, rfl, hkx, hol, he, a⟩⟩
    have hol' : o.length ≤ 12000 := by omega
    obtain ⟨h', tk, m, rfl, F, N⟩ := a.get
    dsimp only [kstB, psW] at F
    by_cases hk : k < x.length
    · obtain ⟨c, hc⟩ : ∃ c, x.cps[k]? = some c := ⟨_, Array.getElem?_eq_getElem hk⟩
      have hcl : c < 1114112 := (hs c (by rw [← Array.mem_def]; exact Array.mem_of_getElem? hc)).1
      by_cases h2 : k + 2 < x.length
      · obtain ⟨b, hb⟩ : ∃ b, x.cps[k + 2]? = some b := ⟨_, Array.getElem?_eq_getElem h2⟩
        obtain ⟨a', ha'⟩ : ∃ a', x.cps[k + 1]? = some a' := ⟨_, Array.getElem?_eq_getElem (show k + 1 < x.cps.size by have : k + 2 < x.cps.size := h2; omega)⟩
        cases hv : isHex a' && isHex b with
        | true =>
          obtain ⟨hxa, hxb⟩ := Bool.and_eq_true_iff.mp hv
          walk_at "my_steps"
          all_goals first
            | (have g1 : (({ cps := #[c] } : Str) == Str.ofString " ") = true := by with_reducible assumption); (have g2 : q = true := by with_reducible assumption); exact endPlus (by assumption) (by assumption) (by rfl) (by walk_at "my_h5") hk hol hc he (by rfl) (by rfl) g1 g2
            | (have g1 : c ∈ y.cps.toList := by with_reducible assumption); exact endMay (by assumption) (by assumption) (by rfl) (by walk_at "my_h5") hk hol hc he (by rfl) (by rfl) (by first | exact np1 (by with_reducible assumption) | exact np2 (by with_reducible assumption)) (by first | exact ns1 (by with_reducible assumption) | exact ns2 (by with_reducible assumption)) g1
            | (have g1 : ¬ c ∈ y.cps.toList := by with_reducible assumption); exact endOct (by assumption) (by assumption) (by rfl) (by walk_at "my_h5") hk hol hc he (by rfl) (by rfl) (by assumption) (by assumption) (by first | exact np1 (by with_reducible assumption) | exact np2 (by with_reducible assumption)) (by first | exact ns1 (by with_reducible assumption) | exact ns2 (by with_reducible assumption)) g1
            | (have g1 : ¬ 16 * hexVal a' + hexVal b ∈ z.cps.toList := by with_reducible assumption); exact endEscY (by assumption) (by assumption) (by rfl) (by walk_at "my_h5") hk hol hc he (by rfl) (by rfl) h2 ha' hb hxa hxb (by with_reducible assumption) (by with_reducible assumption) (by with_reducible assumption) g1
            | (have g1 : 16 * hexVal a' + hexVal b ∈ z.cps.toList := by with_reducible assumption); exact endEscN (by assumption) (by assumption) (by rfl) (by walk_at "my_h5") hk hol hc he (by rfl) (by rfl) h2 ha' hb hxa hxb (by with_reducible assumption) (by with_reducible assumption) (fun e => absurd g1 e.2)
            | (have g1 : ¬ 16 * hexVal a' + hexVal b ∈ y.cps.toList := by with_reducible assumption); exact endEscN (by assumption) (by assumption) (by rfl) (by walk_at "my_h5") hk hol hc he (by rfl) (by rfl) h2 ha' hb hxa hxb (by with_reducible assumption) (by with_reducible assumption) (fun e => g1 e.1)
        | false =>
          have hno : ∀ a b, x.cps.toList[k + 1]? = some a → x.cps.toList[k + 2]? = some b → (isHex a && isHex b) = false := by
            intro a₁ b₁ h₁ h₂
            rw [get_l ha'] at h₁
            rw [get_l hb] at h₂
            cases h₁
            cases h₂
            exact hv
          walk_at "my_steps"
          all_goals first
            | (have g1 : (({ cps := #[c] } : Str) == Str.ofString " ") = true := by with_reducible assumption); (have g2 : q = true := by with_reducible assumption); exact endPlus (by assumption) (by assumption) (by rfl) (by walk_at "my_h5") hk hol hc he (by rfl) (by rfl) g1 g2
            | (have g1 : c ∈ y.cps.toList := by with_reducible assumption); exact endMay (by assumption) (by assumption) (by rfl) (by walk_at "my_h5") hk hol hc he (by rfl) (by rfl) (by first | exact np1 (by with_reducible assumption) | exact np2 (by with_reducible assumption)) (by first | exact ns1 (by with_reducible assumption) | exact ns2 (by with_reducible assumption)) g1
            | (have g1 : ¬ c ∈ y.cps.toList := by with_reducible assumption); exact endOct (by assumption) (by assumption) (by rfl) (by walk_at "my_h5") hk hol hc he (by rfl) (by rfl) (by assumption) (by assumption) (by first | exact np1 (by with_reducible assumption) | exact np2 (by with_reducible assumption)) (by first | exact ns1 (by with_reducible assumption) | exact ns2 (by with_reducible assumption)) g1
            | exact endNo (by assumption) (by assumption) (by rfl) (by walk_at "my_h5") hk hol hc he (by rfl) (by rfl) (by with_reducible assumption) (by with_reducible assumption) hno
      · have hno : ∀ a b, x.cps.toList[k + 1]? = some a → x.cps.toList[k + 2]? = some b → (isHex a && isHex b) = false := by
          intro a₁ b₁ h₁ h₂
          have := (List.getElem?_eq_some_iff.mp h₂).1
          exact absurd this h2
        walk_at "my_steps"
        all_goals first
          | (have g1 : (({ cps := #[c] } : Str) == Str.ofString " ") = true := by with_reducible assumption); (have g2 : q = true := by with_reducible assumption); exact endPlus (by assumption) (by assumption) (by rfl) (by walk_at "my_h5") hk hol hc he (by rfl) (by rfl) g1 g2
          | (have g1 : c ∈ y.cps.toList := by with_reducible assumption); exact endMay (by assumption) (by assumption) (by rfl) (by walk_at "my_h5") hk hol hc he (by rfl) (by rfl) (by first | exact np1 (by with_reducible assumption) | exact np2 (by with_reducible assumption)) (by first | exact ns1 (by with_reducible assumption) | exact ns2 (by with_reducible assumption)) g1
          | (have g1 : ¬ c ∈ y.cps.toList := by with_reducible assumption); exact endOct (by assumption) (by assumption) (by rfl) (by walk_at "my_h5") hk hol hc he (by rfl) (by rfl) (by assumption) (by assumption) (by first | exact np1 (by with_reducible assumption) | exact np2 (by with_reducible assumption)) (by first | exact ns1 (by with_reducible assumption) | exact ns2 (by with_reducible assumption)) g1
          | exact endNo (by assumption) (by assumption) (by rfl) (by walk_at "my_h5") hk hol hc he (by rfl) (by rfl) (by with_reducible assumption) (by with_reducible assumption) hno
    · have hkl : k = x.length := by omega
      have hend : o.cps.toList = W (pW y z q g) x.cps.toList := by
        have e0 : x.cps.toList.drop k = [] := List.drop_eq_nil_of_le (by show x.cps.size ≤ k; exact Nat.le_of_eq hkl.symm)
        rw [e0, W_nil, List.append_nil] at he
        exact he
      walk_at "my_steps"
      exact hret _ _ _ _ hend (Fr.keep (by assumption))
end
end Mine
end

section
open PySem PySem.W PyProof.Rows PySem.Calls
open Sem (wp)
set_option maxRecDepth 100000
set_option maxHeartbeats 100000000
namespace Mine
section
variable {prog : Program} {w : World} {A : Around} {R : Result → Shared → Prop} {s : Shared} {name : Str} {params : Arguments} {body : List Stmt} {scope : Scope} {pm cd doc : Value} {a : Addr} {o : Obj} {args : List Value} {binds : List (Str × Value)}
theorem enter_SC (hroom : A.depth < recursionLimit) (ho : s.heap.get? a = some o) (hdata : o.data = .func (Calls.docDef name params body scope pm cd doc)) (hlim : s.heap.NoLimit) (hcd : s.heap.CodeRec cd name)
    (hbind : bindArgs (Calls.docDef name params body scope pm cd doc) ⟨args, []⟩ = pure binds)
    (hkind : ∀ x ∈ binds, scope.names.lookup x.1 = some .local ∨ (scope.names.lookup x.1 = some .cell ∧ ((cellsFrom (s.heap.objs.size + 1) scope.names []).lookup x.1).isSome = true))
    (hnd : ((cellsFrom 0 scope.names []).map (·.1)).Nodup)
    (h : ∀ h₁ tk cells, Fr s.heap s.heap.objs.size h₁ (bindL (envOfC name scope s.heap.objs.size a cd).kindOf binds fun _ => none) → News s.heap s.heap.objs.size h₁ cells →
      CellsAre (bindC (envOfC name scope s.heap.objs.size a cd).kindOf binds fun _ => none) (cellsFrom (s.heap.objs.size + 1) scope.names []) cells →
      wpS (model prog w) (A.deeper (envOfC name scope s.heap.objs.size a cd)) (execs body (envOfC name scope s.heap.objs.size a cd))
        (fun f s' => R (.ok (.ret (match f with | .ret v => v | _ => .none))) s') (fun _ _ => False) { s with heap := h₁, toks := tk })
    (hco : scope.isCoroutine = false) (hgen : scope.isGenerator = false) (hk : scope.kind = .function) :
    codeS (model prog w) A (.call (.ref a) ⟨args, []⟩) R s := by
  refine codeS_tree rfl (S_any ?_)
  show wpAny _ A.in1 (callAny (.ref a) ⟨args, []⟩) _ _ s
  refine callAny_fn hroom ho hdata hco hgen rfl hcd ?_
  rw [hbind]
  refine wpAny_pure ?_
  refine wpAny_newFunctionEnv_cells hk hkind fun env' he s' x => ?_
  subst he
  refine ⟨hlim.keeps x.toInCall.keep, rfl, codeS_func ?_⟩
  obtain ⟨h₁, tk, rfl, _⟩ := x.done
  obtain ⟨cells, NC, Y⟩ := Cl.news (h₀ := s.heap) (Nat.le_refl _) fun n c hm => ⟨x.cell n c (lookup_of_mem_nodup (cellsFrom_names scope.names 0 (s.heap.objs.size + 1) [] [] rfl ▸ hnd) hm), x.above n c hm⟩
  exact S_mono (h h₁ tk cells ⟨x.toInCall.ns, x.toInCall.keep, Nat.le_refl _⟩ NC Y) (fun _ _ q => q) fun _ _ y => y
end
end Mine
end

section
open PySem PySem.W PyProof.Rows PySem.Calls
set_option maxRecDepth 100000
set_option maxHeartbeats 100000000
namespace Mine
/-- the law's end -/
structure LawOk (s₁ : Shared) (f : Flow) (s' : Shared) : Prop where
  out : ∃ L m h tk, f = .ret (.bool true) ∧ s' = { s₁ with heap := h, toks := tk } ∧ Fr s₁.heap L h m
/-- `cells` is a list of ten to nineteen ints below a million -/
structure JC (base : Heap) (L : Addr) (ps : List (Str × Value)) (s s' : Shared) : Prop where
  out : ∃ (D : Addr) (vs : List Value) (ns : List Int) (o : Obj), IntsAre vs ns ∧ 10 ≤ ns.length ∧ ns.length ≤ 19 ∧ (∀ z ∈ ns, 0 ≤ z ∧ z < 1000000) ∧ o.data = .cell (some (.ref D)) ∧ @Ne Nat D (L + 1) ∧
    At base L [(D, PySem.W.listOf vs.toArray 0), (L + 1, o)] ps s s'
abbrev J2 (base : Heap) (L : Addr) (s s' : Shared) : Prop := JC base L [] s s'
def poolN : List Nat := [47, 63, 58, 64, 35, 91, 93, 43, 38, 61, 59, 34, 60, 62, 124]
/-- the signs that a quoter may be given -/
structure Pool (g : Bool) (S : Str) : Prop where
  len : S.length ≤ 16
  mem : ∀ c ∈ S.cps.toList, c ∈ poolN ∨ c = 37 ∧ g = false
structure Cnt (g : Bool) (n : Nat) : Prop where
  c15 : g = true → n ≤ 15
  c16 : n ≤ 16
structure J4 (base : Heap) (L : Addr) (s s' : Shared) : Prop where
  out : ∃ (q g : Bool) (n : Nat) (t : Tok), Cnt g n ∧ JC base L [(Str.ofString "query", .bool q), (Str.ofString "again", .bool g), (Str.ofString "count", .int (n : Nat) t)] s s'
structure J5 (base : Heap) (L : Addr) (s s' : Shared) : Prop where
  out : ∃ (q g : Bool) (n : Nat) (t : Tok) (S : Str) (tS : Tok), Cnt g n ∧ Pool g S ∧ JC base L [(Str.ofString "query", .bool q), (Str.ofString "again", .bool g), (Str.ofString "count", .int (n : Nat) t), (Str.ofString "safe", .str S tS)] s s'
structure J6 (base : Heap) (L : Addr) (s s' : Shared) : Prop where
  out : ∃ (q g : Bool) (S P : Str) (tS tP : Tok), Pool g S ∧ Pool g P ∧ JC base L [(Str.ofString "query", .bool q), (Str.ofString "again", .bool g), (Str.ofString "safe", .str S tS), (Str.ofString "kept", .str P tP)] s s'
def mayOf (q : Bool) (S P : Str) : Str := stand ++ S ++ P ++ (if q = true then Str.ofString "" else four)
structure J7 (base : Heap) (L : Addr) (s s' : Shared) : Prop where
  out : ∃ (q g : Bool) (S P M : Str) (tS tP tM : Tok), Pool g S ∧ Pool g P ∧ M = mayOf q S P ∧ JC base L [(Str.ofString "query", .bool q), (Str.ofString "again", .bool g), (Str.ofString "safe", .str S tS), (Str.ofString "kept", .str P tP), (Str.ofString "may", .str M tM)] s s'
structure J8 (base : Heap) (L : Addr) (s s' : Shared) : Prop where
  out : ∃ (q g : Bool) (S P M X : Str) (tS tP tM tX : Tok), Pool g S ∧ Pool g P ∧ M = mayOf q S P ∧ X.length ≤ 60 ∧ (∀ c ∈ X.cps.toList, scalar c) ∧
    At base L [] [(Str.ofString "query", .bool q), (Str.ofString "again", .bool g), (Str.ofString "safe", .str S tS), (Str.ofString "kept", .str P tP), (Str.ofString "may", .str M tM), (Str.ofString "text", .str X tX)] s s'
def pool : Str := Str.ofString "/?:@#[]+&=;\"<>|%"
structure PoolOne (g : Bool) (x : Str) : Prop where
  len : x.length ≤ 1
  mem : ∀ c ∈ x.cps.toList, c ∈ poolN ∨ c = 37 ∧ g = false
theorem pool_item {g : Bool} {n : Nat} {k : Int} (C : Cnt g n) (h0 : 0 ≤ k) (h1 : k < (n : Int)) : PoolOne g (Txt.item pool k) := by
  obtain ⟨j, rfl⟩ := Int.eq_ofNat_of_zero_le h0
  have c1 := C.c15
  have c2 := C.c16
  have H : ∀ j : _root_.Fin 16, (Txt.item pool (j.val : Nat)).length ≤ 1 ∧ ∀ c ∈ (Txt.item pool (j.val : Nat)).cps.toList, c ∈ poolN ∨ c = 37 ∧ 15 ≤ j.val := by decide +kernel
  obtain ⟨h2, h3⟩ := H ⟨j, by omega⟩
  refine ⟨h2, fun c hc => (h3 c hc).imp id fun h => ⟨h.1, ?_⟩⟩
  have h4 : 15 ≤ j := h.2
  cases g with
  | false => rfl
  | true => have := c1 rfl; omega
theorem pool_join {g : Bool} {xs : List Str} {y : Str} (hx : ∀ x ∈ xs, PoolOne g x) (hl : xs.length ≤ 16) (hy : y.cps.toList = xs.flatMap fun x => x.cps.toList) : Pool g y := by
  refine ⟨?_, fun c hc => ?_⟩
  · have e := congrArg List.length hy
    rw [flat_len] at e
    have := sum_le (B := 1) fun x h => (hx x h).len
    have : y.length = y.cps.toList.length := rfl
    omega
  · rw [hy] at hc
    obtain ⟨x, hx1, hx2⟩ := List.mem_flatMap.mp hc
    exact (hx x hx1).mem c hx2
theorem text_join {xs : List Str} {y : Str} (hx : ∀ x ∈ xs, Small x) (hl : xs.length ≤ 19) (hy : y.cps.toList = xs.flatMap fun x => x.cps.toList) : y.length ≤ 60 ∧ ∀ c ∈ y.cps.toList, scalar c := by
  refine ⟨?_, fun c hc => ?_⟩
  · have e := congrArg List.length hy
    rw [flat_len] at e
    have := sum_le (B := 3) fun x h => (hx x h).1
    have : y.length = y.cps.toList.length := rfl
    omega
  · rw [hy] at hc
    obtain ⟨x, hx1, hx2⟩ := List.mem_flatMap.mp hc
    exact (hx x hx1).2 c hx2
end Mine
end

section
open PySem PySem.W PyProof.Rows PySem.Calls
open Sem (wp)
set_option maxRecDepth 100000
set_option maxHeartbeats 100000000
namespace Mine
section
variable {prog : Program} {w : World} {A : Around} {s : Shared} {E : Value → Shared → Prop} {K : Frag} {p : Program} {loose : List Str} {mean : ExcName → Option Value} {mg mb : Str → Option Value}
  {R : Result → Shared → Prop} {name qual : Str} {params : Arguments} {body : List Stmt} {scope : Scope} {dV kV doc pm cdv ct oc : Value} {an od : Option Addr} {osl : Array (Option Value)} {f : Addr} {args : Args} {binds : List (Str × Value)}
  {h₀ : Heap} {L x dx : Addr} {m : Str → Option Value} {news : List (Addr × Obj)} {o1 o2 : Obj}
theorem enter_hid (F : Fr h₀ L s.heap m) (N : News h₀ L s.heap ((x, o1) :: (dx, o2) :: news)) (X : K.In h₀) (T : Top p loose mean mg mb h₀) (ho : K.lookup f = some ⟨oc, od, .func (fnOf name qual params body scope dV kV doc pm an cdv ct), osl⟩) (hcd : codeIn K cdv qual = true) (hroom : A.depth < recursionLimit)
    (hbind : BindsTo s (fnOf name qual params body scope dV kV doc pm an cdv ct) args binds) (hloc : ∀ y ∈ binds, scope.names.lookup y.1 = some .local)
    (h : ∀ g L' h₁, K.In g → Top p loose mean mg mb g → (∀ b o, b ≠ x → b ≠ dx → s.heap.get? b = some o → g.get? b = some o) → Fr g L' h₁ (fun y => binds.reverse.lookup y) → News g L' h₁ [(x, o1), (dx, o2)] →
      wpAny (model prog w) (A.deeper (envOf qual scope L' f cdv)) (execs body (envOf qual scope L' f cdv))
        (fun fl s' => R (.ok (.ret (match fl with | .ret v => v | _ => .none))) s') (fun _ _ => False) { s with heap := h₁, toks := s.toks + binds.length })
    (hco : scope.isCoroutine = false) (hgen : scope.isGenerator = false) (hk : scope.kind = .function) (hcell : ∀ x ∈ scope.names, x.2 ≠ .cell) : codeAny (model prog w) A (.call (.ref f) args) R s := by
  have nx := N (x, o1) (.head _)
  have nd := N (dx, o2) (.tail _ (.head _))
  have gk : ∀ b o, b ≠ x → b ≠ dx → s.heap.get? b = some o → (hideAll s.heap [x, dx]).get? b = some o := fun b o h1 h2 e => hideAll_get _ e (by
    intro hm
    rcases List.mem_cons.mp hm with e | hm
    · exact h1 e
    · exact h2 (List.mem_singleton.mp hm))
  have st : ∀ b o, h₀.get? b = some o → (hideAll s.heap [x, dx]).get? b = some o := fun b o e => gk b o (fun q => by rw [q, nx.2.2] at e; cases e) (fun q => by rw [q, nd.2.2] at e; cases e) (F.keep b o e)
  refine codeAny_call_def (fd := fnX name qual params body scope [] dV kV doc pm an cdv ct) (body := body) (binds := binds) hroom ((X.keeps F.keep) _ _ ho) rfl (T.nolimit.keeps F.keep) (codeRec_of (X.keeps F.keep) hcd) rfl hbind hcell hloc (fun h₁ hns hk₁ => ?_) hco hgen hk
  refine wpAny_mono (h (hideAll s.heap [x, dx]) s.heap.objs.size h₁ (X.keeps st) (T.keeps st) gk ⟨hns, fun b o e => hk₁ b o (of_hideAll _ e), Nat.le_of_eq (hideAll_size _ _)⟩ (fun q hq => ?_)) (fun _ _ q => q) fun _ _ q => q.elim
  rcases List.mem_cons.mp hq with rfl | hq
  · exact ⟨hk₁ _ _ nx.1, Nat.ne_of_lt (Heap.lt_size nx.1), hideAll_none _ (.head _)⟩
  · rw [List.mem_singleton.mp hq]
    exact ⟨hk₁ _ _ nd.1, Nat.ne_of_lt (Heap.lt_size nd.1), hideAll_none _ (.tail _ (.head _))⟩
theorem leave_hid {h g h' : Heap} {L' : Addr} {m' : Str → Option Value} (F : Fr h₀ L h m) (N : News h₀ L h ((x, o1) :: (dx, o2) :: news)) (l1 : ∀ p ∈ news, p.1 < dx) (l2 : dx < x) (gk : ∀ b o, b ≠ x → b ≠ dx → h.get? b = some o → g.get? b = some o) (F' : Fr g L' h' m') :
    Fr h₀ L h' m ∧ News h₀ L h' news := by
  have nx := N (x, o1) (.head _)
  have nd := N (dx, o2) (.tail _ (.head _))
  refine ⟨⟨F.ns.at' fun o e => F'.keep _ _ (gk _ _ (Ne.symm nx.2.1) (Ne.symm nd.2.1) e), fun b o e => F'.keep _ _ (gk b o (fun q => by rw [q, nx.2.2] at e; cases e) (fun q => by rw [q, nd.2.2] at e; cases e) (F.keep b o e)), F.above⟩, fun q hq => ?_⟩
  have nq := N q (.tail _ (.tail _ hq))
  have := l1 q hq
  exact ⟨F'.keep _ _ (gk _ _ (Nat.ne_of_lt (Nat.lt_trans this l2)) (Nat.ne_of_lt this) nq.1), nq.2⟩
theorem led_at {h : Heap} {L' a : Addr} {o : Obj} {led : List (Addr × Obj)} (N : News h₀ L' h led) (hm : (a, o) ∈ led) : h.get? a = some o := (N _ hm).1
theorem led_hid {h h' : Heap} {o3 o4 : Obj} (N : News h₀ L h ((x, o1) :: (dx, o2) :: news)) (N' : News h₀ L h' news) (h3 : h'.get? x = some o3) (h4 : h'.get? dx = some o4) : News h₀ L h' ((x, o3) :: (dx, o4) :: news) := by
  intro q hq
  rcases List.mem_cons.mp hq with rfl | hq
  · exact ⟨h3, (N (x, o1) (.head _)).2⟩
  · rcases List.mem_cons.mp hq with rfl | hq
    · exact ⟨h4, (N (dx, o2) (.tail _ (.head _))).2⟩
    · exact N' q hq
theorem inst_of {g h' : Heap} {L' C : Addr} {es : List DictEntry} {n : Nat} {led : List (Addr × Obj)} (N : News g L' h' led) (h1 : (x, instObj C dx) ∈ led) (h2 : (dx, dictOf es n) ∈ led) : PySem.W.InstAt h' x (instObj C dx) C (some (dictOf es n)) :=
  ⟨(N _ h1).1, rfl, rfl, (N _ h2).1⟩
end
section
variable {w : World} {loose : List Str} {mean : ExcName → Option Value} {mg mb : Str → Option Value} {A : Around} {s : Shared} {Q E : Value → Shared → Prop} {h₀ : Heap} {L : Addr} {m : Str → Option Value} {news : List (Addr × Obj)}
local macro_rules | `(tactic| walk_at "my_step") => `(tactic| first | (k_unfold; (try dsimp only)) | (walk1; all_goals (try (conv => arg 7; dsimp only))) | (dsimp only; walk1) | (leave1; try dsimp only) | fail "no step")
local macro_rules | `(tactic| walk_at "my_steps") => `(tactic| repeat' (walk_at "my_step"))
theorem make_q {S P : Str} {t1 t2 : Tok} {qs rq : Bool} (F : Fr h₀ L s.heap m) (N : News h₀ L s.heap news) (X : (hd.heap_39 w.params).In h₀) (T : Top hd.view_39 loose mean mg mb h₀)
    (hroom : A.depth + 1 < recursionLimit) (hh : A.handled = none) (hu : A.units + 20 < cLine)
    (hret : ∀ x d es n h' tk, Fr h₀ L h' m → News h₀ L h' ((x, instObj 39 d) :: (d, dictOf es n) :: news) → getL (Str.ofString "_safe") es = some (some (.str S t1)) → getL (Str.ofString "_protected") es = some (some (.str P t2)) →
      getL (Str.ofString "_qs") es = some (some (.bool qs)) → getL (Str.ofString "_requote") es = some (some (.bool rq)) → Q (.ref x) { s with heap := h', toks := tk }) :
    wpAny (model Challenge.rw_fe0370_01.row.prog w) A (call (.ref 39) [] [(Str.ofString "safe", .str S t1), (Str.ofString "protected", .str P t2), (Str.ofString "qs", .bool qs), (Str.ofString "requote", .bool rq)]) Q E s := by
  cases A
  dsimp only at hh hroom hu
  subst hh
  have X0 := X
  revert X; k_fill; intro X
  refine call_cls F X N (by k_is) (by k_is) (by k_is) (fun x dx h₂ F2 N2 l1 l2 => ?_)
  refine enter_hid F2 N2 X T (by k_is) (by k_is) (by show _ + Code.weight _ < _; have e : Code.weight (Code.builtin "type.__call__" ⟨[.ref 39], [(Str.ofString "safe", .str S t1), (Str.ofString "protected", .str P t2), (Str.ofString "qs", .bool qs), (Str.ofString "requote", .bool rq)]⟩) ≤ 1 := (by first | exact Nat.le_refl _ | exact Nat.zero_le _ | (unfold Code.weight; decide)); exact Nat.lt_of_le_of_lt (Nat.add_le_add_left e _) hroom) (kp_binds (X.keeps F2.keep) (fun _ => rfl)) (locs rfl) (fun g L' h₁ X' T' gk F N => ?_) rfl rfl rfl (by decide)
  clear X X0 T
  have l3 : @LT.lt Nat _ dx x := l2
  walk_at "my_steps"
  obtain ⟨F9, N9⟩ := leave_hid F2 N2 l1 l2 gk (by assumption)
  rename News g _ _ _ => N3
  refine' ⟨rfl, hret _ _ _ _ _ _ F9 (led_hid N2 N9 (led_at N3 ?a) (led_at N3 ?b)) ?c ?d ?e ?f⟩
  case a => k_mem
  case b => k_mem
  all_goals rfl
end
end Mine
end

section
open PySem PySem.W PyProof.Rows PySem.Calls
open Sem (wp)
set_option maxRecDepth 100000
set_option maxHeartbeats 100000000
namespace Mine
section
variable {prog : Program} {w : World} {A : Around} {E : Value → Shared → Prop} {s : Shared} {env : Env}
theorem S_operate {M : Model} {vs : List Value} {m : Sem Value} {Q : Value → Shared → Prop} (h : wpS M A m Q E s) : wpS M A (operate vs m) Q E s := fun Γ p h1 h2 h3 => by
  rw [Sem.wp_operate]; exact h Γ p h1 h2 h3
theorem S_tail {M : Model} {t : Sem Value} {Q : Value → Shared → Prop} (ht : wpS M A t Q E s) : wpS M A (t >>= fun r => holding [r] point >>= fun _ => pure r) Q E s :=
  S_bind (S_mono ht (fun r s₂ hr => S_bindA (wpAny_holding (wpAny_point (S_pure hr)))) fun _ _ x => x)
/-- a quoter called with a name -/
theorem S_call1 {q C : Addr} {ox : Obj} {od : Option Obj} {x a : Str} {t : Tok} {p1 p2 p : Pos} {Q : Value → Shared → Prop} (I : PySem.W.InstAt s.heap q ox C od) (hd : ox.data = .plain)
    (hf : ∀ {Q' : Value → Shared → Prop}, Q' (.ref q) s → wpAny (model prog w) A (eval (.Name (Str.ofString "quoter") p1) env) Q' E s)
    (ha : ∀ {Q' : Value → Shared → Prop}, Q' (.str x t) s → wpAny (model prog w) A (eval (.Name a p2) env) Q' E s)
    (hc : wpS (model prog w) A (call (.ref q) [.str x t]) Q E s) : wpS (model prog w) A (eval (.Call (.Name (Str.ofString "quoter") p1) [.Name a p2] [] p) env) Q E s := by
  rw [show eval (.Call (.Name (Str.ofString "quoter") p1) [.Name a p2] [] p) env = (eval (.Name (Str.ofString "quoter") p1) env >>= fun f => callWith p f [] (backTo p (starEach [.Name a p2] env)) (backToKw p (keywordEach [] env))) from rfl]
  refine S_bindA (hf ?_)
  show wpS _ _ (callWith p (.ref q) [] (backTo p (starEach [.Name a p2] env)) []) _ _ _
  have he : starEach [PySem.Expr.Name a p2] env = (false, eval (.Name a p2) env) :: starEach [] env := by rfl
  rw [he]
  unfold callWith
  refine S_bindA (wpAny_holding (evalArgs_plain ?_))
  refine spliced_cons (wpAny_mono (ha (Q' := fun v s' => v = .str x t ∧ s' = s) ⟨rfl, rfl⟩) (fun v s₂ q₂ => ?_) fun _ _ y => y)
  obtain ⟨rfl, rfl⟩ := q₂
  refine spliced_nil ?_
  refine S_bindA (wpAny_standAt ?_)
  refine S_bindA ((PySem.W.kco_keeper I hd).here ?_)
  exact S_tail (S_operate hc)
theorem S_assign1 {y : Str} {v : PySem.Expr} {p3 p4 : Pos} {Q : Flow → Shared → Prop} (hv : wpS (model prog w) A (eval v env) (fun r s' => wpAny (model prog w) A (storeName env y r) (fun _ s'' => Q .next s'') E s') E s)
    (hsw : swapsWith v (some (.Name y p3)) p4.line env = pure false) :
    wpS (model prog w) A (exec (.Assign [.Name y p3] v p4) env) Q E s := by
  rw [exec_Assign_Name env y p3 _ p4 hsw]
  refine S_bindA (wpAny_standAt ?_)
  refine S_bind (S_mono hv (fun r s' q => ?_) fun _ _ y => y)
  refine S_bindA (wpAny_standAt (S_bindA ?_))
  unfold bindName
  refine wpAny_bind (wpAny_holding (wpAny_point (wpAny_bind (wpAny_mono q (fun _ s'' q => wpAny_point (S_pure q)) fun _ _ q => q))))
theorem S_or {e₁ e₂ : PySem.Expr} {rest : List PySem.Expr} {pos : Pos} {Q : Value → Shared → Prop}
    (h : wpAny (model prog w) A (eval e₁ env) (fun v s₁ => wpAny (model prog w) A (truthy v) (fun c s₂ => if c = true then Q v s₂ else wpS (model prog w) A (eval (.BoolOp .Or (e₂ :: rest) pos) env) Q E s₂) E s₁) E s) :
    wpS (model prog w) A (eval (.BoolOp .Or (e₁ :: e₂ :: rest) pos) env) Q E s := by
  show wpS (model prog w) A (do
    let v ← eval e₁ env
    standAt pos
    let c ← holding [v] (truthy v)
    match BoolOp.Or, c with
    | .And, false | .Or, true => pure v
    | _, _ => boolOp pos .Or (eval e₂ env :: evalEach rest env)) Q E s
  refine S_bindA (wpAny_mono h (fun v s₁ h₁ => S_bindA (wpAny_standAt (S_bindA (wpAny_holding (wpAny_mono h₁ (fun c s₂ h₂ => ?_) fun _ _ x => x))))) fun _ _ x => x)
  cases c with
  | false =>
    simp only [Bool.false_eq_true, if_false] at h₂
    exact h₂
  | true =>
    simp only [if_true] at h₂
    exact S_pure h₂
theorem S_or_one {e : PySem.Expr} {pos : Pos} {Q : Value → Shared → Prop} (h : wpS (model prog w) A (eval e env) Q E s) : wpS (model prog w) A (eval (.BoolOp .Or [e] pos) env) Q E s := h
theorem S_Return {e : PySem.Expr} {pos : Pos} {Q : Flow → Shared → Prop} (h : wpS (model prog w) A (eval e env) (fun v s' => Q (.ret v) s') E s) : wpS (model prog w) A (exec (.Return (some e) pos) env) Q E s := by
  rw [exec_Return_some]
  exact S_bindA (wpAny_standAt (S_bind (S_mono h (fun v s' q => S_pure q) fun _ _ x => x)))
theorem S_Compare {l r : PySem.Expr} {op : CmpOp} {pos : Pos} {Q : Value → Shared → Prop} (hm : behindInMarks op r = false)
    (h : wpS (model prog w) A (eval l env) (fun a s₁ => wpAny (model prog w) A (eval r env) (fun b s₂ => wpAny (model prog w) A (compareOp op a b) Q E s₂) E s₁) E s) :
    wpS (model prog w) A (eval (.Compare l [op] [r] pos) env) Q E s := by
  rw [eval_Compare1, markedBehindIn_of_false hm]
  exact S_bind (S_mono h (fun a s₁ q => S_bindA (wpAny_holding (wpAny_mono q (fun b s₂ q2 => S_bindA (wpAny_standAt (S_any (wpAny_operate' q2)))) fun _ _ x => x))) fun _ _ x => x)
theorem ne_same {x y : Str} {t u : Tok} {Q : Value → Shared → Prop} (e : x = y) (h : Q (.bool false) s) : wpAny (model prog w) A (compareOp .NotEq (.str x t) (.str y u)) Q E s := by
  subst e
  exact ne_str (by rw [bne_self_eq_false]; exact h)
theorem eq_same {x y : Str} {t u : Tok} {Q : Value → Shared → Prop} (e : x = y) (h : Q (.bool true) s) : wpAny (model prog w) A (compareOp .Eq (.str x t) (.str y u)) Q E s := by
  subst e
  exact eq_str (by rw [beq_self_eq_true]; exact h)
end
end Mine
end

section
open PySem PySem.W PyProof.Rows PySem.Calls
set_option maxRecDepth 100000
namespace Mine
theorem W_congr {p p' : Par} (hm : ∀ c, p.may.contains c = p'.may.contains c) (hk : ∀ c, p.kept.contains c = p'.kept.contains c) (hq : p.query = p'.query) (hg : p.again = p'.again) : ∀ (n : Nat) (l : List Nat), l.length ≤ n → W p l = W p' l
  | 0, l, h => by
    have : l = [] := List.eq_nil_of_length_eq_zero (by omega)
    subst this; rw [W_nil, W_nil]
  | n + 1, [], h => by rw [W_nil, W_nil]
  | n + 1, c :: r, h => by
    have hr : r.length ≤ n := by simp at h; omega
    have one : ∀ c, oneW p c = oneW p' c := fun c => by unfold oneW; rw [hq, hm c]
    have dc : ∀ a b, dec p a b = dec p' a b := fun a b => by unfold dec; rw [hm, hk]
    by_cases hc : c = 37 ∧ p.again = true
    · obtain ⟨rfl, ha⟩ := hc
      have ha' : p'.again = true := by rw [← hg]; exact ha
      match r, hr with
      | [], _ => rw [W_pct0 ha, W_pct0 ha']
      | [a], hr => rw [W_pct1 ha, W_pct1 ha', W_congr hm hk hq hg n [a] hr]
      | a :: b :: r', hr =>
        cases hx : isHex a && isHex b with
        | true => rw [W_pctY ha hx, W_pctY ha' hx, dc, W_congr hm hk hq hg n r' (by simp at hr; omega)]
        | false => rw [W_pctN ha hx, W_pctN ha' hx, W_congr hm hk hq hg n (a :: b :: r') hr]
    · rw [W_one hc, W_one (by rw [← hg]; exact hc), one, W_congr hm hk hq hg n r hr]
theorem may_same (q g : Bool) (S P : Str) (c : Nat) : (parOf q g S P).may.contains c = (mayOf q S P).cps.toList.contains c := by
  have e0 : (Str.ofString "").cps.toList = [] := by decide
  have : (c ∈ (SF q S P).cps.toList) ↔ (c ∈ (mayOf q S P).cps.toList) := by
    unfold SF mayOf
    cases q <;> simp only [Bool.false_eq_true, if_false, if_true, flat_app, List.mem_append, e0, List.not_mem_nil, or_false]
    · constructor
      · rintro (((h | h) | h) | h)
        · exact .inl (.inl (.inr h))
        · exact .inl (.inl (.inl h))
        · exact .inr h
        · exact .inl (.inr h)
      · rintro (((h | h) | h) | h)
        · exact .inl (.inl (.inr h))
        · exact .inl (.inl (.inl h))
        · exact .inr h
        · exact .inl (.inr h)
    · constructor
      · rintro ((h | h) | h)
        · exact .inl (.inr h)
        · exact .inl (.inl h)
        · exact .inr h
      · rintro ((h | h) | h)
        · exact .inl (.inr h)
        · exact .inl (.inl h)
        · exact .inr h
  show (SF q S P).cps.toList.contains c = _
  rw [Bool.eq_iff_iff, List.contains_iff_mem, List.contains_iff_mem]
  exact this
theorem W_same (q g : Bool) (S P : Str) (l : List Nat) : W (parOf q g S P) l = W ⟨(mayOf q S P).cps.toList, P.cps.toList, q, g⟩ l :=
  W_congr (p := parOf q g S P) (p' := ⟨(mayOf q S P).cps.toList, P.cps.toList, q, g⟩) (fun c => may_same q g S P c) (fun _ => rfl) rfl rfl _ l (Nat.le_refl _)
theorem may_mem {q : Bool} {S P : Str} {c : Nat} (h : c ∈ (mayOf q S P).cps.toList) : c ∈ stand.cps.toList ∨ c ∈ S.cps.toList ∨ c ∈ P.cps.toList ∨ c ∈ four.cps.toList := by
  have e0 : (Str.ofString "").cps.toList = [] := by decide
  unfold mayOf at h
  cases q <;> simp only [Bool.false_eq_true, if_false, if_true, flat_app, List.mem_append, e0, List.not_mem_nil, or_false] at h
  · rcases h with ((h | h) | h) | h
    · exact .inl h
    · exact .inr (.inl h)
    · exact .inr (.inr (.inl h))
    · exact .inr (.inr (.inr h))
  · rcases h with (h | h) | h
    · exact .inl h
    · exact .inr (.inl h)
    · exact .inr (.inr (.inl h))
theorem pool_lt {g : Bool} {S : Str} (hS : Pool g S) {c : Nat} (h : c ∈ S.cps.toList) : c < 128 := by
  rcases hS.mem c h with h | h
  · have H : ∀ c ∈ poolN, c < 128 := by decide
    exact H c h
  · omega
theorem par_ok {q g : Bool} {S P : Str} (hS : Pool g S) (hP : Pool g P) : (parOf q g S P).Ok := by
  intro c hc
  rw [may_same, List.contains_iff_mem] at hc
  have H1 : ∀ c ∈ stand.cps.toList, c < 128 := by decide
  have H2 : ∀ c ∈ four.cps.toList, c < 128 := by decide
  rcases may_mem hc with h | h | h | h
  · exact H1 c h
  · exact pool_lt hS h
  · exact pool_lt hP h
  · exact H2 c h
theorem par_again {q : Bool} {S P : Str} (hS : Pool true S) (hP : Pool true P) (h43 : q = true → 43 ∈ (mayOf q S P).cps.toList) : Again (parOf q true S P) := by
  have no : ∀ c, (c = 37 ∨ c = 32) → (parOf q true S P).may.contains c = false := by
    intro c hc
    rw [may_same]
    cases hx : (mayOf q S P).cps.toList.contains c with
    | false => rfl
    | true =>
      rw [List.contains_iff_mem] at hx
      have H1 : ∀ c ∈ stand.cps.toList, c ≠ 37 ∧ c ≠ 32 := by decide
      have H2 : ∀ c ∈ four.cps.toList, c ≠ 37 ∧ c ≠ 32 := by decide
      have H3 : ∀ c ∈ poolN, c ≠ 37 ∧ c ≠ 32 := by decide
      have HP : ∀ S, Pool true S → ∀ c ∈ S.cps.toList, c ≠ 37 ∧ c ≠ 32 := fun S hS c h => by
        rcases hS.mem c h with h | h
        · exact H3 c h
        · cases h.2
      have : c ≠ 37 ∧ c ≠ 32 := by
        rcases may_mem hx with h | h | h | h
        · exact H1 c h
        · exact HP S hS c h
        · exact HP P hP c h
        · exact H2 c h
      omega
  refine ⟨par_ok hS hP, rfl, no 37 (.inl rfl), no 32 (.inr rfl), fun hq => ?_⟩
  rw [may_same, List.contains_iff_mem]
  exact h43 hq
theorem str_eq {x y : Str} (h : x.cps.toList = y.cps.toList) : x = y := by
  obtain ⟨a⟩ := x
  obtain ⟨b⟩ := y
  congr 1
  exact Array.toList_inj.mp h
theorem sur_of {x : Str} (h : ∀ c ∈ x.cps.toList, scalar c) : ∀ c ∈ x.cps.toList, Str.isSurrogate c = false := by
  intro c hc
  have := (h c hc).2
  unfold Str.isSurrogate
  simp
  omega
/-- what is told of a text, in the words of the plain law -/
structure Told (q g : Bool) (S P X tv : Str) : Prop where
  is : tv.cps.toList = W (parOf q g S P) X.cps.toList
theorem told_scalar {q g : Bool} {S P X tv : Str} (hS : Pool g S) (hP : Pool g P) (hs : ∀ c ∈ X.cps.toList, scalar c) (T : Told q g S P X tv) : ∀ c ∈ tv.cps.toList, scalar c := by
  intro c hc
  rw [T.is] at hc
  exact asc (W_lt (par_ok hS hP) (fun c h => (hs c h).1) c hc)
theorem told_len {q g : Bool} {S P X tv : Str} (hS : Pool g S) (hP : Pool g P) (hX : X.length ≤ 60) (hs : ∀ c ∈ X.cps.toList, scalar c) (T : Told q g S P X tv) : tv.length ≤ 1000 := by
  have h := W_len (par_ok (q := q) hS hP) (fun c h => (hs c h).1)
  rw [← T.is] at h
  have e1 : tv.cps.toList.length = tv.length := rfl
  have e2 : X.cps.toList.length = X.length := rfl
  omega
theorem told_again {q : Bool} {S P X tv t2 : Str} (hS : Pool true S) (hP : Pool true P) (h43 : q = true → 43 ∈ (mayOf q S P).cps.toList) (hs : ∀ c ∈ X.cps.toList, scalar c) (T : Told q true S P X tv) (T2 : Told q true S P tv t2) : t2 = tv := by
  apply str_eq
  rw [T2.is, T.is]
  exact W_again (par_again hS hP h43) fun c h => (hs c h).1
theorem size8 {x : Str} (hx : x.length ≤ 1000) (hs : ∀ c ∈ x.cps.toList, scalar c) : (utf8B x).size ≤ 5000 := by
  have := utf8_len fun c h => (hs c h).1
  omega
theorem told_written {q g : Bool} {S P X tv M o : Str} (T : Told q g S P X tv) (hM : M = mayOf q S P) (ho : o.cps.toList = W ⟨M.cps.toList, P.cps.toList, q, g⟩ X.cps.toList) : tv = o := by
  apply str_eq
  rw [T.is, ho, hM, W_same]
theorem may_len {q g : Bool} {S P M : Str} (hS : Pool g S) (hP : Pool g P) (hM : M = mayOf q S P) : M.length ≤ 1000 := by
  subst hM
  have h1 := hS.len
  have h2 := hP.len
  have e : (mayOf q S P).cps.toList.length = (mayOf q S P).length := rfl
  have e1 : S.cps.toList.length = S.length := rfl
  have e2 : P.cps.toList.length = P.length := rfl
  have e3 : stand.cps.toList.length = 73 := by decide
  have e4 : four.cps.toList.length = 4 := by decide
  have e5 : (Str.ofString "").cps.toList.length = 0 := by decide
  rw [← e]
  unfold mayOf
  cases q <;> simp only [Bool.false_eq_true, if_false, if_true, flat_app, List.length_append] <;> omega
theorem told_of {q g : Bool} {S P X y : Str} (hS : Pool g S) (hP : Pool g P) (hs : ∀ c ∈ X.cps.toList, scalar c) (hy : y.cps.toList = Bq (parOf q g S P) (nats (utf8B X))) : Told q g S P X y :=
  ⟨by rw [hy]; exact Bq_is_W (par_ok hS hP) fun c h => (hs c h).1⟩
/-- a quoter is made -/
structure JQ (base : Heap) (L : Addr) (s s' : Shared) : Prop where
  out : ∃ (q g : Bool) (S P M X : Str) (tS tP tM tX : Tok) (x d : Addr) (es : List DictEntry) (n : Nat), Pool g S ∧ Pool g P ∧ M = mayOf q S P ∧ X.length ≤ 60 ∧ (∀ c ∈ X.cps.toList, scalar c) ∧
    getL (Str.ofString "_safe") es = some (some (.str S tS)) ∧ getL (Str.ofString "_protected") es = some (some (.str P tP)) ∧ getL (Str.ofString "_qs") es = some (some (.bool q)) ∧ getL (Str.ofString "_requote") es = some (some (.bool g)) ∧
    At base L [(x, instObj 39 d), (d, dictOf es n)] [(Str.ofString "query", .bool q), (Str.ofString "again", .bool g), (Str.ofString "kept", .str P tP), (Str.ofString "may", .str M tM), (Str.ofString "text", .str X tX), (Str.ofString "quoter", .ref x)] s s'
theorem jq_end {base h' : Heap} {L : Addr} {s : Shared} {q g : Bool} {S P M X : Str} {tS tP tM tX : Tok} {x d : Addr} {es : List DictEntry} {n tk : Nat} {m' : Str → Option Value} {led : List (Addr × Obj)} (hS : Pool g S) (hP : Pool g P) (hM : M = mayOf q S P) (hX : X.length ≤ 60) (hs : ∀ c ∈ X.cps.toList, scalar c)
    (e1 : getL (Str.ofString "_safe") es = some (some (.str S tS))) (e2 : getL (Str.ofString "_protected") es = some (some (.str P tP))) (e3 : getL (Str.ofString "_qs") es = some (some (.bool q))) (e4 : getL (Str.ofString "_requote") es = some (some (.bool g)))
    (F : Fr base L h' m') (N : News base L h' led) (h1 : (x, instObj 39 d) ∈ led) (h2 : (d, dictOf es n) ∈ led)
    (hps : ∀ p ∈ [(Str.ofString "query", Value.bool q), (Str.ofString "again", .bool g), (Str.ofString "kept", .str P tP), (Str.ofString "may", .str M tM), (Str.ofString "text", .str X tX), (Str.ofString "quoter", .ref x)], m' p.1 = some p.2) : JQ base L s { s with heap := h', toks := tk } :=
  ⟨q, g, S, P, M, X, tS, tP, tM, tX, x, d, es, n, hS, hP, hM, hX, hs, e1, e2, e3, e4, At.intro F N (fun p hp => by
    rcases List.mem_cons.mp hp with rfl | hp
    · exact h1
    · rw [List.mem_singleton.mp hp]; exact h2) hps⟩
/-- and a text is told -/
structure JT (base : Heap) (L : Addr) (s s' : Shared) : Prop where
  out : ∃ (q g : Bool) (S P M X tv : Str) (tS tP tM tX tt : Tok) (x d : Addr) (es : List DictEntry) (n : Nat), Pool g S ∧ Pool g P ∧ M = mayOf q S P ∧ X.length ≤ 60 ∧ (∀ c ∈ X.cps.toList, scalar c) ∧ Told q g S P X tv ∧
    getL (Str.ofString "_safe") es = some (some (.str S tS)) ∧ getL (Str.ofString "_protected") es = some (some (.str P tP)) ∧ getL (Str.ofString "_qs") es = some (some (.bool q)) ∧ getL (Str.ofString "_requote") es = some (some (.bool g)) ∧
    At base L [(x, instObj 39 d), (d, dictOf es n)] [(Str.ofString "query", .bool q), (Str.ofString "again", .bool g), (Str.ofString "kept", .str P tP), (Str.ofString "may", .str M tM), (Str.ofString "text", .str X tX), (Str.ofString "quoter", .ref x), (Str.ofString "told", .str tv tt)] s s'
theorem jt_end {base h' : Heap} {L : Addr} {s : Shared} {q g : Bool} {S P M X tv : Str} {tS tP tM tX tt : Tok} {x d : Addr} {es : List DictEntry} {n tk : Nat} {m' : Str → Option Value} {led : List (Addr × Obj)} (hS : Pool g S) (hP : Pool g P) (hM : M = mayOf q S P) (hX : X.length ≤ 60) (hs : ∀ c ∈ X.cps.toList, scalar c) (T : Told q g S P X tv)
    (e1 : getL (Str.ofString "_safe") es = some (some (.str S tS))) (e2 : getL (Str.ofString "_protected") es = some (some (.str P tP))) (e3 : getL (Str.ofString "_qs") es = some (some (.bool q))) (e4 : getL (Str.ofString "_requote") es = some (some (.bool g)))
    (F : Fr base L h' m') (N : News base L h' led) (h1 : (x, instObj 39 d) ∈ led) (h2 : (d, dictOf es n) ∈ led)
    (hps : ∀ p ∈ [(Str.ofString "query", Value.bool q), (Str.ofString "again", .bool g), (Str.ofString "kept", .str P tP), (Str.ofString "may", .str M tM), (Str.ofString "text", .str X tX), (Str.ofString "quoter", .ref x), (Str.ofString "told", .str tv tt)], m' p.1 = some p.2) : JT base L s { s with heap := h', toks := tk } :=
  ⟨q, g, S, P, M, X, tv, tS, tP, tM, tX, tt, x, d, es, n, hS, hP, hM, hX, hs, T, e1, e2, e3, e4, At.intro F N (fun p hp => by
    rcases List.mem_cons.mp hp with rfl | hp
    · exact h1
    · rw [List.mem_singleton.mp hp]; exact h2) hps⟩
theorem law_end {s₁ : Shared} {L : Addr} {m : Str → Option Value} {h : Heap} {tk : Nat} (F : Fr s₁.heap L h m) : LawOk s₁ (.ret (.bool true)) { s₁ with heap := h, toks := tk } := ⟨L, m, h, tk, rfl, rfl, F⟩
theorem notin_plus {prog : Program} {w : World} {A : Around} {E : Value → Shared → Prop} {s : Shared} {Q : Value → Shared → Prop} {x : Str} {t u : Tok} {v : Bool} (hv : (!decide (43 ∈ x.cps.toList)) = v) (h : Q (.bool v) s) :
    wpAny (model prog w) A (compareOp .NotIn (.str (Str.ofString "+") u) (.str x t)) Q E s := by
  have e : Str.ofString "+" = ⟨#[43]⟩ := by decide
  rw [e]
  exact notin_one (by rw [hv]; exact h)
end Mine
end

section
open PySem PySem.W PyProof.Rows PySem.Calls
set_option maxRecDepth 100000
set_option maxHeartbeats 100000000
namespace Mine
def tenL : List Int := [21930, 1290, 2, 977, 8, 4183, 30, 68, 101, 4471]
section
variable {prog : Program} {w : World} {A : Around} {E : Value → Shared → Prop} {s : Shared} {h₀ : Heap} {L l : Addr} {m : Str → Option Value} {news : List (Addr × Obj)} {value e : PySem.Expr} {ps : Pos} {Q : Value → Shared → Prop}
theorem ten_slice {n : Nat} {u t0 t1 t2 t3 t4 t5 t6 t7 t8 t9 : Tok} (F : Fr h₀ L s.heap m) (N : News h₀ L s.heap news)
    (hm : (l, PySem.W.listOf #[.int 21930 t0, .int 1290 t1, .int 2 t2, .int 977 t3, .int 8 t4, .int 4183 t5, .int 30 t6, .int 68 t7, .int 101 t8, .int 4471 t9] 0) ∈ news)
    (h : ∀ D ws h', Fr h₀ L h' m → News h₀ L h' ((D, PySem.W.listOf (List.toArray ws) 0) :: news) → (∀ p ∈ news, p.1 < D) → IntsAre ws (tenL.drop n) → Q (.ref D) { s with heap := h' }) :
    wpAny (model prog w) A (subscriptTail value (.Slice (some e) none none ps) (.ref l) (.ref s.heap.objs.size)) Q E { s with heap := s.heap.push { cls := .type "slice", data := .fields #[.int (n : Int) u, .none, .none] } } := by
  refine kba_turn (value' := PySem.Expr.Name (PySem.Str.ofString "_") ⟨0, 0, 0, 0⟩) (fun _ => rfl) ?_
  have hI : IntsAre [.int 21930 t0, .int 1290 t1, .int 2 t2, .int 977 t3, .int 8 t4, .int 4183 t5, .int 30 t6, .int 68 t7, .int 101 t8, .int 4471 t9] tenL :=
    .cons _ _ (.cons _ _ (.cons _ _ (.cons _ _ (.cons _ _ (.cons _ _ (.cons _ _ (.cons _ _ (.cons _ _ (.cons _ _ .nil)))))))))
  have hl := News.isList N hm
  refine kmk_slice_ints (c := (tenL.drop n).length) F N hl (IsPart.int _ _) IsPart.none hI (kmk_from hI (by omega)) rfl (fun D ws h' F' N' l1 hI' _ _ => ?_) rfl (fun _ => rfl) (by show 10 ≤ sizeLine; decide)
  rw [Int.toNat_natCast] at hI'
  exact h D ws h' F' N' l1 hI'
theorem cells_fact (ns : List Int) : 10 ≤ (((ns.take 19).map fun k => k.fmod 1000000) ++ tenL.drop ((ns.take 19).map fun k => k.fmod 1000000).length).length ∧
    (((ns.take 19).map fun k => k.fmod 1000000) ++ tenL.drop ((ns.take 19).map fun k => k.fmod 1000000).length).length ≤ 19 ∧
    ∀ z ∈ ((ns.take 19).map fun k => k.fmod 1000000) ++ tenL.drop ((ns.take 19).map fun k => k.fmod 1000000).length, 0 ≤ z ∧ z < 1000000 := by
  have ht : tenL.length = 10 := rfl
  refine ⟨?_, ?_, ?_⟩
  · rw [List.length_append, List.length_drop, ht]; omega
  · rw [List.length_append, List.length_drop, ht, List.length_map]
    have := List.length_take_le 19 ns
    omega
  · intro z hz
    rcases List.mem_append.mp hz with h | h
    · obtain ⟨k, _, rfl⟩ := List.mem_map.mp h
      exact ⟨Int.fmod_nonneg_of_pos _ (by decide), Int.fmod_lt_of_pos _ (by decide)⟩
    · have H : ∀ z ∈ tenL, 0 ≤ z ∧ z < 1000000 := by decide
      exact H z (List.mem_of_mem_drop h)
theorem cells_sum (ns : List Int) : ((ns.take 19).map fun k => k.fmod 1000000).length + (tenL.drop ((ns.take 19).map fun k => k.fmod 1000000).length).length ≤ sizeLine := by
  have := (cells_fact ns).2.1
  rw [List.length_append] at this
  exact Nat.le_trans this (by decide)
theorem j2_end {base h' : Heap} {L D : Addr} {vs : List Value} {ns : List Int} {o : Obj} {s : Shared} {tk : Nat} {m' : Str → Option Value} {led : List (Addr × Obj)} (F : Fr base L h' m') (N : News base L h' led)
    (hI : IntsAre vs (((ns.take 19).map fun k => k.fmod 1000000) ++ tenL.drop ((ns.take 19).map fun k => k.fmod 1000000).length)) (hD : (D, PySem.W.listOf vs.toArray 0) ∈ led) (ho : (L + 1, o) ∈ led) (hd : o.data = .cell (some (.ref D))) : J2 base L s { s with heap := h', toks := tk } := by
  obtain ⟨c1, c2, c3⟩ := cells_fact ns
  refine ⟨D, vs, _, o, hI, c1, c2, c3, hd, fun e => ?_, At.intro F N (fun p hp => ?_) (List.forall_mem_nil _)⟩
  · have h1 := (N _ hD).1
    have h2 := (N _ ho).1
    rw [show D = L + 1 from e] at h1
    rw [h1] at h2
    have h3 : _ = o := Option.some.inj h2
    rw [← h3] at hd
    cases hd
  · rcases List.mem_cons.mp hp with rfl | hp
    · exact hD
    · rw [List.mem_singleton.mp hp]; exact ho
theorem jc_intro {base h' : Heap} {L D : Addr} {vs : List Value} {ns : List Int} {o : Obj} {s : Shared} {tk : Nat} {m' : Str → Option Value} {led : List (Addr × Obj)} {ps : List (Str × Value)} (hI : IntsAre vs ns) (n10 : 10 ≤ ns.length) (n19 : ns.length ≤ 19) (nB : ∀ z ∈ ns, 0 ≤ z ∧ z < 1000000) (hd : o.data = .cell (some (.ref D))) (hne : @Ne Nat D (L + 1))
    (F : Fr base L h' m') (N : News base L h' led) (hD : (D, PySem.W.listOf vs.toArray 0) ∈ led) (ho : (L + 1, o) ∈ led) (hps : ∀ p ∈ ps, m' p.1 = some p.2) : JC base L ps s { s with heap := h', toks := tk } :=
  ⟨D, vs, ns, o, hI, n10, n19, nB, hd, hne, At.intro F N (fun p hp => by
    rcases List.mem_cons.mp hp with rfl | hp
    · exact hD
    · rw [List.mem_singleton.mp hp]; exact ho) hps⟩
theorem cnt15 {g : Bool} : Cnt g 15 := ⟨fun _ => Nat.le_refl _, by decide⟩
theorem cnt16 {e : Int} (h : ¬ e = 0) : Cnt (e == 0) 16 := ⟨fun h2 => absurd (eq_of_beq h2) h, Nat.le_refl _⟩
theorem j4_end {base L s s'} {q g : Bool} {n : Nat} {t : Tok} (C : Cnt g n) (J : JC base L [(Str.ofString "query", .bool q), (Str.ofString "again", .bool g), (Str.ofString "count", .int (n : Nat) t)] s s') : J4 base L s s' := ⟨q, g, n, t, C, J⟩
theorem j5_end {base L s s'} {q g : Bool} {n : Nat} {t : Tok} {S : Str} {tS : Tok} (C : Cnt g n) (hS : Pool g S) (J : JC base L [(Str.ofString "query", .bool q), (Str.ofString "again", .bool g), (Str.ofString "count", .int (n : Nat) t), (Str.ofString "safe", .str S tS)] s s') : J5 base L s s' := ⟨q, g, n, t, S, tS, C, hS, J⟩
theorem j6_end {base L s s'} {q g : Bool} {S P : Str} {tS tP : Tok} (hS : Pool g S) (hP : Pool g P) (J : JC base L [(Str.ofString "query", .bool q), (Str.ofString "again", .bool g), (Str.ofString "safe", .str S tS), (Str.ofString "kept", .str P tP)] s s') : J6 base L s s' := ⟨q, g, S, P, tS, tP, hS, hP, J⟩
theorem j7_end {base L s s'} {q g : Bool} {S P M : Str} {tS tP tM : Tok} (hS : Pool g S) (hP : Pool g P) (hM : M = mayOf q S P) (J : JC base L [(Str.ofString "query", .bool q), (Str.ofString "again", .bool g), (Str.ofString "safe", .str S tS), (Str.ofString "kept", .str P tP), (Str.ofString "may", .str M tM)] s s') : J7 base L s s' := ⟨q, g, S, P, M, tS, tP, tM, hS, hP, hM, J⟩
theorem j8_end {base L s} {q g : Bool} {S P M X : Str} {tS tP tM tX : Tok} {h' : Heap} {tk : Nat} {m' : Str → Option Value} {led : List (Addr × Obj)} (hS : Pool g S) (hP : Pool g P) (hM : M = mayOf q S P) (hX : X.length ≤ 60) (hs : ∀ c ∈ X.cps.toList, scalar c) (F : Fr base L h' m') (N : News base L h' led)
   (hps : ∀ p ∈ [(Str.ofString "query", Value.bool q), (Str.ofString "again", .bool g), (Str.ofString "safe", .str S tS), (Str.ofString "kept", .str P tP), (Str.ofString "may", .str M tM), (Str.ofString "text", .str X tX)], m' p.1 = some p.2) : J8 base L s { s with heap := h', toks := tk } :=
  ⟨q, g, S, P, M, X, tS, tP, tM, tX, hS, hP, hM, hX, hs, At.intro F N (fun _ h => by cases h) hps⟩
theorem may_q {q : Bool} {S P : Str} (h : q = true) : stand ++ S ++ P ++ Str.ofString "" = mayOf q S P := by subst h; rfl
theorem may_n {q : Bool} {S P : Str} (h : q = false) : stand ++ S ++ P ++ four = mayOf q S P := by subst h; rfl
theorem cnt_small {g : Bool} {n : Nat} (C : Cnt g n) : Builtin.Range.small 0 (n : Int) 1 = true := by
  have := C.c16
  exact small_one (by omega) (by omega) (by omega) (by omega)
theorem cnt_size {g : Bool} {n : Nat} (C : Cnt g n) : n ≤ sizeLine := Nat.le_trans C.c16 (by decide)
theorem cnt_rs (n : Nat) : Builtin.Range.rangeSize 0 (n : Int) 1 = ((n : Nat) : Int) := by
  rw [rangeSize_nat]; omega
end
section
variable {prog : Program} {w : World} {A : Around} {h₀ : Heap} {L : Addr} {m : Str → Option Value} {env : Env} {elt ct : PySem.Expr} {x : Str} {scope : Scope} {cl : List (Str × Addr)} {s : Shared} {S : List (Addr × Obj) → Prop} {Fin : List Value → List (Addr × Obj) → Prop} {news : List (Addr × Obj)}
theorem pool_rest {g : Bool} {n : Nat} (Cn : Cnt g n)
    (turn : ∀ (k : Int) t I oI C oC D m₂ ys h tk (E' : Value → Shared → Prop), 0 ≤ k → k < (n : Int) → LCg.NsObj oC m₂ → m₂ x = some (.int k t) → Fr h₀ L h m → News h₀ L h ((I, oI) :: (C, oC) :: (D, LCg.lst ys) :: news) → LCg.Off3 I C D news → ((@Ne Nat I C) ∧ (@Ne Nat I D) ∧ (@Ne Nat C D)) →
      wpAny (model prog w) A (isTrue ct (compEnvC scope cl C env) (eval ct (compEnvC scope cl C env))) (fun ok s' => if ok = true then
        wpAny (model prog w) A (eval elt (compEnvC scope cl C env)) (LCg.CompEnd h₀ L m { s with heap := h, toks := tk } I oI C oC D (LCg.lst ys) S (fun y news' => Elt news (fun y => ∃ x t, y = .str x t ∧ PoolOne g x) y news')) E' s'
        else LCg.CompEnd h₀ L m { s with heap := h, toks := tk } I oI C oC D (LCg.lst ys) S (fun _ news' => Elt news (fun _ => True) .none news') Value.none s') E' { s with heap := h, toks := tk })
    (fin : ∀ ys xs, StrsAre ys xs → xs.length ≤ 16 → (∀ x ∈ xs, PoolOne g x) → Fin ys news) : LCt.CompRestT prog w A h₀ L m env ct elt x scope cl s S (fun i v => ∃ t, v = .int (0 + (i : Int)) t) Fin n 0 [] news := by
  refine crestT (fun y => ∃ x t, y = .str x t ∧ PoolOne g x) ?_ ?_
  · intro i v I oI C oC D m₂ ys h tk E' hi hv hC hx F N off ne
    obtain ⟨t, rfl⟩ := hv
    exact turn _ t I oI C oC D m₂ ys h tk E' (by omega) (by omega) hC hx F N off ne
  · intro ys hl hy
    obtain ⟨xs, h1, h2, h3⟩ := strs_mem hy
    exact fin ys xs h1 (by have := Cn.c16; omega) h3
theorem text_rest {vs : List Value} {ns : List Int} {j : Nat} (hI : IntsAre vs (ns.drop j)) (nB : ∀ z ∈ ns, 0 ≤ z ∧ z < 1000000) (n19 : ns.length ≤ 19)
    (turn : ∀ (k : Int) t I oI C oC D m₂ ys h tk (E' : Value → Shared → Prop), 0 ≤ k → k < 1000000 → LCg.NsObj oC m₂ → m₂ x = some (.int k t) → Fr h₀ L h m → News h₀ L h ((I, oI) :: (C, oC) :: (D, LCg.lst ys) :: news) → LCg.Off3 I C D news → ((@Ne Nat I C) ∧ (@Ne Nat I D) ∧ (@Ne Nat C D)) →
      wpAny (model prog w) A (eval elt (compEnvC scope cl C env)) (LCg.CompEnd h₀ L m { s with heap := h, toks := tk } I oI C oC D (LCg.lst ys) S (fun y news' => Elt news (fun y => ∃ x t, y = .str x t ∧ Small x) y news')) E' { s with heap := h, toks := tk })
    (fin : ∀ ys xs, StrsAre ys xs → xs.length ≤ 19 → (∀ x ∈ xs, Small x) → Fin ys news) : LCg.CompRest prog w A h₀ L m env elt x scope cl s S (fun i v => vs.toArray[i]? = some v) Fin vs.toArray.size 0 [] news := by
  refine crest (fun _ y => ∃ x t, y = .str x t ∧ Small x) ?_ ?_
  · intro i v I oI C oC D m₂ ys h tk E' hi hv hC hx F N off ne
    obtain ⟨k, t, hk, rfl⟩ := ints_at hI i v (by simpa using hv)
    obtain ⟨b1, b2⟩ := nB k (List.mem_of_mem_drop (List.mem_of_getElem? hk))
    exact turn _ t I oI C oC D m₂ ys h tk E' b1 b2 hC hx F N off ne
  · intro ys hl hy
    obtain ⟨xs, h1, h2, h3⟩ := strs_of (R := fun _ => Small) ys hy
    refine fin ys xs h1 ?_ fun x hx => ?_
    · rw [h2, hl, List.size_toArray, hI.length, List.length_drop]; omega
    · obtain ⟨i, hi⟩ := List.getElem?_of_mem hx
      exact h3 i x hi
end
section
variable {prog : Program} {w : World} {A : Around} {E : Value → Shared → Prop} {s : Shared} {h₀ : Heap} {L : Addr} {news : List (Addr × Obj)} {Q : Value → Shared → Prop}
theorem join_pool {D : Addr} {vs : List Value} {xs : List Str} {g : Bool} {t : Tok} (N : News h₀ L s.heap news) (hm : (D, LCg.lst vs) ∈ news) (hi : StrsAre vs xs) (hl : xs.length ≤ 16) (hB : ∀ x ∈ xs, PoolOne g x)
    (h : ∀ y t' k, Pool g y → Q (.str y t') { s with toks := k }) : wpAny (model prog w) A (call (.builtin "str.join") [.str (Str.ofString "") t, .ref D]) Q E s :=
  join_C (B := 1) N hm hi (fun x hx => (hB x hx).len) (by omega) fun y t k hy => h _ _ _ (pool_join hB hl hy)
theorem join_text {D : Addr} {vs : List Value} {xs : List Str} {t : Tok} (N : News h₀ L s.heap news) (hm : (D, LCg.lst vs) ∈ news) (hi : StrsAre vs xs) (hl : xs.length ≤ 19) (hB : ∀ x ∈ xs, Small x)
    (h : ∀ y t' k, y.length ≤ 60 → (∀ c ∈ y.cps.toList, scalar c) → Q (.str y t') { s with toks := k }) : wpAny (model prog w) A (call (.builtin "str.join") [.str (Str.ofString "") t, .ref D]) Q E s :=
  join_C (B := 3) N hm hi (fun x hx => (hB x hx).1) (by omega) fun y t k hy => h _ _ _ (text_join hB hl hy).1 (text_join hB hl hy).2
theorem drop_size {vs : List Value} {ns : List Int} {j : Nat} (hI : IntsAre vs (ns.drop j)) (n19 : ns.length ≤ 19) : vs.toArray.size ≤ sizeLine := by
  rw [List.size_toArray, hI.length, List.length_drop, sizeLine_eq]; omega
end
section
variable {prog : Program} {w : World} {A : Around} {E : Value → Shared → Prop} {s : Shared} {value slice : PySem.Expr} {Q : Value → Shared → Prop}
theorem pow_two {k : Int} {t u : Tok} {n : Nat} {g : Bool} (C : Cnt g n) (h0 : 0 ≤ k) (h1 : k < (n : Int)) (h : ∀ (p : Int) t' k', 0 < p → p ≤ 65536 → Q (.int p t') { s with toks := k' }) : wpAny (model prog w) A (binaryOp .Pow (.int 2 t) (.int k u)) Q E s := by
  have := C.c16
  obtain ⟨j, rfl⟩ := Int.eq_ofNat_of_zero_le h0
  have H : ∀ j : _root_.Fin 16, 0 < (2 : Int) ^ j.val ∧ (2 : Int) ^ j.val ≤ 65536 := by decide
  obtain ⟨h2, h3⟩ := H ⟨j, by omega⟩
  exact pow_int_small h0 (by omega) (by decide) (h _ _ _ h2 h3)
theorem pool_sub {k : Int} {t u : Tok} {n : Nat} {g : Bool} (C : Cnt g n) (h0 : 0 ≤ k) (h1 : k < (n : Int)) (h : ∀ x t' k', PoolOne g x → Q (.str x t') { s with toks := k' })
    (hs : subscripted slice false (.str pool t) (.int k u) = operate [.str pool t, .int k u] (getItem (.str pool t) (.int k u)) := by with_unfolding_all rfl)
    (ht : ∀ r, letTemporaryGo value (.str pool t) r = pure () := by intro _; with_unfolding_all rfl) : wpAny (model prog w) A (subscriptTail value slice (.str pool t) (.int k u)) Q E s := by
  have := C.c16
  have hp : pool.length = 16 := by decide
  refine item_str (by unfold fitsSsize; simp; omega) (by omega) (by rw [hp]; omega) (fun _ => ?_) hs ht
  exact h _ _ _ (pool_item C h0 h1)
end
end Mine
end

section
open PySem PySem.W PyProof.Rows PySem.Calls
set_option maxRecDepth 100000
set_option maxHeartbeats 100000000
namespace Mine
local macro_rules | `(tactic| walk_at "my_step") => `(tactic| first | (k_unfold; (try dsimp only)) | (walk1; all_goals (try (conv => arg 7; dsimp only))) | (dsimp only; walk1) | (leave1; try dsimp only) | fail "no step")
local macro_rules | `(tactic| walk_at "my_steps") => `(tactic| repeat' (walk_at "my_step"))
local macro_rules | `(tactic| walk_at "subscriptTail List cons Slice ref ref") => `(tactic| ((with_reducible rename Fr _ _ _ _ => kF); (with_reducible rename News _ _ _ _ => kN); k_dflt (refine ten_slice (s := ⟨_, _, _, _, _⟩) kF kN (by k_mem) ?_); intro D' ws' h' F' N' l1 hI'; (try k_lt l1); (try k_sweep)))
local macro_rules | `(tactic| walk_at "binaryOp Add ref ref") => `(tactic| ((with_reducible rename Fr _ _ _ _ => kF); (with_reducible rename News _ _ _ _ => kN); (with_reducible rename IntsAre _ (List.drop _ tenL) => kJ); (with_reducible rename IntsAre _ (List.map _ (List.take _ _)) => kI); k_dflt (refine kmk_add_ints kF kN (News.isList kN (by k_mem)) (News.isList kN (by k_mem)) kI kJ ?_ (cells_sum _)); intro D' ws' h' F' N' l1 hI'; (try k_lt l1); (try k_sweep)))
local macro_rules | `(tactic| walk_at "eval ListComp Subscript cons") => `(tactic| (k_dflt (refine LCt.ListComp_T (F₀ := by k_asm) (by with_unfolding_all rfl) (by decide) (by rfl) (by decide) (by rfl) ?_)))
local macro_rules | `(tactic| walk_at "eval ListComp Call cons") => `(tactic| (k_dflt (refine LCg.ListComp_U (F₀ := by k_asm) (by with_unfolding_all rfl) (by decide) (by rfl) (by decide) (by rfl) ?_)))
local macro_rules | `(tactic| walk_at "CompSrcT") => `(tactic| ((with_reducible rename Cnt _ _ => kC); k_dflt (refine LCt.CompSrcT.range (by rfl) (by k_asm) (by k_asm) (by assumption) (cnt_small kC) (cnt_rs _) (cnt_size kC) ?_); intro g'; k_dflt (refine' pool_rest kC (fun k' t' I' oI' C' oC' D' m' ys' h' tk' E' hlo' hhi' hC' hx' F' N' off' ne' => ?_) (fun ys' xs' hi' hl' hb' => ?_)); (all_goals (try (simp only [LCg.Off3, and_true] at off')))))
local macro_rules | `(tactic| walk_at "CompSrc") => `(tactic| ((with_reducible rename IntsAre _ (List.drop _ _) => kI); k_dflt (refine LCg.CompSrc.ledger (by rfl) (by k_asm) (by k_asm) (by k_mem) (drop_size kI (by assumption)) ?_); intro g'; k_dflt (refine' text_rest kI (by assumption) (by assumption) (fun k' t' I' oI' C' oC' D' m' ys' h' tk' E' hlo' hhi' hC' hx' F' N' off' ne' => ?_) (fun ys' xs' hi' hl' hb' => ?_)); (all_goals (try (simp only [LCg.Off3, and_true] at off')))))
local macro_rules | `(tactic| walk_at "Elt") => `(tactic| first | exact ⟨rfl, trivial⟩ | exact ⟨rfl, _, _, rfl, (by assumption : PoolOne _ _)⟩ | exact ⟨rfl, _, _, rfl, ⟨by assumption, by assumption⟩⟩)
local macro_rules | `(tactic| walk_at "call builtin:str.join") => `(tactic| (k_dflt (refine' join_pool ?n ?m ?i ?l ?b ?_; (case n => k_asm); (case m => k_mem); (case i => assumption); (case l => assumption); (case b => assumption)); intro y' t' k' hy'))
local macro_rules | `(tactic| walk_at "call builtin:str.join") => `(tactic| (k_dflt (refine' join_text ?n ?m ?i ?l ?b ?_; (case n => k_asm); (case m => k_mem); (case i => assumption); (case l => assumption); (case b => assumption)); intro y' t' k' hy1' hy2'))
local macro_rules | `(tactic| walk_at "call ref") => `(tactic| ((with_reducible show wpAny _ _ (call (Value.ref 64) _) _ _ _); (with_reducible rename Fr _ _ _ _ => kF); (with_reducible rename News _ _ _ _ => kN); (with_reducible rename Frag.In _ _ => kX); (with_reducible rename Top _ _ _ _ _ _ => kT); k_dflt (refine' piece_c ?x ?t ?r ?h ?u ?c ?d ?_; (case x => exact Frag.In.keeps kX (Fr.keep kF)); (case t => exact Top.keeps kT (Fr.keep kF)); (case r => dsimp only; decide); (case h => rfl); (case u => dsimp only; decide); (case c => assumption); (case d => assumption)); intro x' t' h' tk' k' hx1' hx2'; have F' := Fr.keeps kF k'; have N' := News.keeps kN k'; (try k_sweep)))
local macro_rules | `(tactic| walk_at "binaryOp Pow int int") => `(tactic| ((with_reducible rename Cnt _ _ => kC); k_dflt (refine pow_two kC (by assumption) (by assumption) ?_); intro p' t' k' hp0' hp1'))
local macro_rules | `(tactic| walk_at "subscriptTail Name Name str int") => `(tactic| ((with_reducible rename Cnt _ _ => kC); k_dflt (refine pool_sub kC (by assumption) (by assumption) ?_); intro x' t' k' hx'))
local macro_rules | `(tactic| walk_at "my_ps") => `(tactic| repeat' (first | exact List.forall_mem_nil _ | refine List.forall_mem_cons.mpr ⟨by rfl, ?_⟩))
local macro_rules | `(tactic| walk_at "call ref") => `(tactic| ((with_reducible show wpAny _ _ (call (Value.ref 39) _ _) _ _ _); (with_reducible rename Fr _ _ _ _ => kF); (with_reducible rename News _ _ _ _ => kN); (with_reducible rename Frag.In _ _ => kX); (with_reducible rename Top _ _ _ _ _ _ => kT); k_dflt (refine' make_q kF kN kX kT ?r ?h ?u ?_; (case r => dsimp only; decide); (case h => rfl); (case u => dsimp only; decide)); intro x' d' es' n' h' tk' F' N' e1' e2' e3' e4'; (try k_sweep)))
local macro_rules | `(tactic| walk_at "call ref") => `(tactic| ((with_reducible show wpAny _ _ (call (Value.ref 69) _ _) _ _ _); (with_reducible rename Fr _ _ _ _ => kF); (with_reducible rename News _ _ _ _ => kN); (with_reducible rename Frag.In _ _ => kX); (with_reducible rename Top _ _ _ _ _ _ => kT); k_dflt (refine' written_c ?x ?t ?r ?h ?u ?a ?b ?c ?d ?_; (case x => exact Frag.In.keeps kX (Fr.keep kF)); (case t => exact Top.keeps kT (Fr.keep kF)); (case r => dsimp only; decide); (case h => rfl); (case u => dsimp only; decide); (case a => assumption); (case b => assumption); (case c => assumption); (case d => assumption)); intro o' t' h' tk' ho' k'; have F' := Fr.keeps kF k'; have N' := News.keeps kN k'; (try k_sweep)))
local macro_rules | `(tactic| walk_at "compareOp NotEq str str") => `(tactic| (k_dflt (refine ne_same (told_written (by assumption) (by assumption) (by assumption)) ?_)))
local macro_rules | `(tactic| walk_at "compareOp NotIn str str") => `(tactic| (k_dflt (refine notin_plus (by assumption) ?_)))
theorem law_ok : PySem.Challenge.rw_fe0370_01.Holds := hd (by
  k_fill
  intro w s₀ s₁ mg mb G Y fa o pm cd doc dV kV ho hd hcd hD hmg hg args vals as hpre hlay hrd hwl hlo
  have KX := kIn_of Y
  have X := (Ground.X G).1
  have V := (Ground.X G).2
  try w_nolog (first | (have GL := glob_more (Ground.glob G (by first | k_qdec | decide +kernel) (by first | k_qdec | decide +kernel)) V) | (have GL := glob_more (Ground.glob G (by decide +kernel)) V))
  refine Ground.open G ?_
  intro T B D TE TW
  try (refine guard_noD D (by decide +kernel) ?_; clear D)
  have TA := at_of_top T
  clear hmg
  wrow_args hpre hlay hrd hwl hlo
  rename IntsAre _ _ => hI
  rename Heap.IsList _ _ _ => hL
  have he := Dflts.none hD rfl; subst he; have he := Dflts.noKw hD; subst he
  refine S_call ?_
  refine enter_SC (by decide) ho (fd_plain hd) (Top.nolimit T) hcd rfl (kinds_of (by kinds_ok)) (by decide) (fun h₁ tk₁ cells F N X0 => ?_) rfl rfl rfl
  cells_open X0
  clear ho hd hcd hD TA X V TE TW B Y G
  refine S_mono (Q := fun f s' => LawOk s₁ f s') (E := fun _ _ => False) ?_ (fun f s' q => ?_) (fun _ _ q => q.elim)
  · dsimp only [callerA, Around.deeper]
    refine S_cut 2 (J2 s₁.heap s₁.heap.objs.size s₁) (S_any ?_) ?_
    · simp only [List.take_succ_cons, List.take_zero]
      walk_at "my_steps"
      exact j2_end (by assumption) (by assumption) (by assumption) (by k_mem) (by k_mem) (by assumption)
    · intro s' hJ
      clear F N X0
      obtain ⟨D, vs, ns, o, hI, n10, n19, nB, hd, hne, a⟩ := hJ.out
      obtain ⟨h', tk, m, rfl, F, N⟩ := a.get
      clear a hJ
      dsimp only [kstB] at F
      simp only [List.drop_succ_cons, List.drop_zero]
      refine S_cut 2 (J4 s₁.heap s₁.heap.objs.size s₁) (S_any ?_) ?_
      · simp only [List.take_succ_cons, List.take_zero]
        walk_at "my_steps"
        · exact j4_end cnt15 (jc_intro hI n10 n19 nB hd hne (by assumption) (by assumption) (by k_mem) (by k_mem) (by walk_at "my_ps"))
        · exact j4_end (cnt16 (by assumption)) (jc_intro hI n10 n19 nB hd hne (by assumption) (by assumption) (by k_mem) (by k_mem) (by walk_at "my_ps"))
      · clear F N hd hne nB n19 n10 hI
        intro s' hJ
        obtain ⟨q, g, n, t, hC, hJ⟩ := hJ.out
        obtain ⟨D, vs, ns, o, hI, n10, n19, nB, hd, hne, a⟩ := hJ.out
        obtain ⟨h', tk, m, rfl, F, N⟩ := a.get
        clear a hJ
        dsimp only [kstB] at F
        simp only [List.drop_succ_cons, List.drop_zero]
        refine S_cut 1 (J5 s₁.heap s₁.heap.objs.size s₁) (S_any ?_) ?_
        · simp only [List.take_succ_cons, List.take_zero]
          walk_at "my_steps"
          exact j5_end (by assumption) (by assumption) (jc_intro hI n10 n19 nB hd hne (by assumption) (by assumption) (by k_mem) (by k_mem) (by walk_at "my_ps"))
        · clear F N hd hne nB n19 n10 hI hC
          intro s' hJ
          obtain ⟨q, g, n, t, S, tS, hC, hS, hJ⟩ := hJ.out
          obtain ⟨D, vs, ns, o, hI, n10, n19, nB, hd, hne, a⟩ := hJ.out
          obtain ⟨h', tk, m, rfl, F, N⟩ := a.get
          clear a hJ
          dsimp only [kstB] at F
          simp only [List.drop_succ_cons, List.drop_zero]
          refine S_cut 1 (J6 s₁.heap s₁.heap.objs.size s₁) (S_any ?_) ?_
          · simp only [List.take_succ_cons, List.take_zero]
            walk_at "my_steps"
            exact j6_end hS (by assumption) (jc_intro hI n10 n19 nB hd hne (by assumption) (by assumption) (by k_mem) (by k_mem) (by walk_at "my_ps"))
          · clear F N hd hne nB n19 n10 hI hC hS
            intro s' hJ
            obtain ⟨q, g, S, P, tS, tP, hS, hP, hJ⟩ := hJ.out
            obtain ⟨D, vs, ns, o, hI, n10, n19, nB, hd, hne, a⟩ := hJ.out
            obtain ⟨h', tk, m, rfl, F, N⟩ := a.get
            clear a hJ
            dsimp only [kstB] at F
            simp only [List.drop_succ_cons, List.drop_zero]
            refine S_cut 1 (J7 s₁.heap s₁.heap.objs.size s₁) (S_any ?_) ?_
            · simp only [List.take_succ_cons, List.take_zero]
              have hS16 := hS.len
              have hP16 := hP.len
              walk_at "my_steps"
              · exact j7_end hS hP (may_q (by assumption)) (jc_intro hI n10 n19 nB hd hne (by assumption) (by assumption) (by k_mem) (by k_mem) (by walk_at "my_ps"))
              · exact j7_end hS hP (may_n (by assumption)) (jc_intro hI n10 n19 nB hd hne (by assumption) (by assumption) (by k_mem) (by k_mem) (by walk_at "my_ps"))
            · clear F N hd hne nB n19 n10 hI hS hP
              intro s' hJ
              obtain ⟨q, g, S, P, M, tS, tP, tM, hS, hP, hM, hJ⟩ := hJ.out
              obtain ⟨D, vs, ns, o, hI, n10, n19, nB, hd, hne, a⟩ := hJ.out
              obtain ⟨h', tk, m, rfl, F, N⟩ := a.get
              clear a hJ
              dsimp only [kstB] at F
              simp only [List.drop_succ_cons, List.drop_zero]
              refine S_cut 1 (J8 s₁.heap s₁.heap.objs.size s₁) (S_any ?_) ?_
              · simp only [List.take_succ_cons, List.take_zero]
                walk_at "my_steps"
                exact j8_end hS hP hM (by assumption) (by assumption) (by assumption) (by assumption) (by walk_at "my_ps")
              · clear F N hd hne nB n19 n10 hI hS hP hM
                intro s' hJ
                obtain ⟨q, g, S, P, M, X, tS, tP, tM, tX, hS, hP, hM, hX, hXs, a⟩ := hJ.out
                obtain ⟨h', tk, m, rfl, F, N⟩ := a.get
                clear a hJ
                dsimp only [kstB] at F
                simp only [List.drop_succ_cons, List.drop_zero]
                refine S_cut 1 (JQ s₁.heap s₁.heap.objs.size s₁) (S_any ?_) ?_
                · simp only [List.take_succ_cons, List.take_zero]
                  walk_at "my_steps"
                  exact jq_end hS hP hM hX hXs (by assumption) (by assumption) (by assumption) (by assumption) (by assumption) (by assumption) (by k_mem) (by k_mem) (by walk_at "my_ps")
                · clear F N hS hP hM hX hXs
                  intro s' hJ
                  obtain ⟨q, g, S, P, M, X, tS, tP, tM, tX, x, d, es, n, hS, hP, hM, hX, hXs, e1, e2, e3, e4, a⟩ := hJ.out
                  obtain ⟨h', tk, m, rfl, F, N⟩ := a.get
                  clear a hJ
                  dsimp only [kstB] at F
                  simp only [List.drop_succ_cons, List.drop_zero]
                  refine S_cut 1 (JT s₁.heap s₁.heap.objs.size s₁) ?_ ?_
                  · simp only [List.take_succ_cons, List.take_zero]
                    refine S_execs_cons (S_assign1 (S_call1 (inst_of N (by k_mem) (by k_mem)) rfl (fun h => nameX_L F (by rfl) h) (fun h => nameX_L F (by rfl) h) (call_c (Frag.In.keeps KX (Fr.keep F)) (Top.keeps T (Fr.keep F)) (inst_of N (by k_mem) (by k_mem)) e1 e2 e3 e4 (by dsimp only; decide) (by dsimp only; decide) rfl (by omega) (by have := hS.len; omega) (by have := hP.len; omega) (sur_of hXs) (size8 (by omega) hXs) (par_ok hS hP) (fun y t h₂ tk₂ hy kp => ?_))) rfl)
                    refine storeX_L (F.keeps kp) (N.keeps kp) (fun h₃ F₃ N₃ => ?_)
                    refine S_execs_nil ?_
                    exact jt_end hS hP hM hX hXs (told_of hS hP hXs hy) e1 e2 e3 e4 F₃ N₃ (by k_mem) (by k_mem) (by walk_at "my_ps")
                  · clear F N hS hP hM hX hXs e1 e2 e3 e4
                    intro s' hJ
                    obtain ⟨q, g, S, P, M, X, tv, tS, tP, tM, tX, tt, x, d, es, n, hS, hP, hM, hX, hXs, hT, e1, e2, e3, e4, a⟩ := hJ.out
                    obtain ⟨h', tk, m, rfl, F, N⟩ := a.get
                    clear a hJ
                    dsimp only [kstB] at F
                    simp only [List.drop_succ_cons, List.drop_zero]
                    refine S_cut 1 (JT s₁.heap s₁.heap.objs.size s₁) (S_any ?_) ?_
                    · simp only [List.take_succ_cons, List.take_zero]
                      have hX1 : X.length ≤ 1000 := by omega
                      have hM1 := may_len hS hP hM
                      have hP1 : P.length ≤ 1000 := by have := hP.len; omega
                      walk_at "my_steps"
                      exact jt_end hS hP hM hX hXs hT e1 e2 e3 e4 (by assumption) (by assumption) (by k_mem) (by k_mem) (by walk_at "my_ps")
                    · clear F N hS hP hM hX hXs e1 e2 e3 e4 hT
                      intro s' hJ
                      obtain ⟨q, g, S, P, M, X, tv, tS, tP, tM, tX, tt, x, d, es, n, hS, hP, hM, hX, hXs, hT, e1, e2, e3, e4, a⟩ := hJ.out
                      obtain ⟨h', tk, m, rfl, F, N⟩ := a.get
                      clear a hJ
                      dsimp only [kstB] at F
                      simp only [List.drop_succ_cons, List.drop_zero]
                      cases g with
                      | false =>
                        refine S_any ?_
                        walk_at "my_steps"
                        exact law_end (by assumption)
                      | true =>
                        cases q with
                        | false =>
                          refine S_execs_cons (S_Return (S_or ?_))
                          walk_at "my_steps"
                          refine S_or ?_
                          walk_at "my_steps"
                          rename Fr _ _ _ _ => kF
                          rename News _ _ _ _ => kN
                          refine S_or_one (S_Compare rfl (S_call1 (inst_of kN (by k_mem) (by k_mem)) rfl (fun h => nameX_L kF (by rfl) h) (fun h => nameX_L kF (by rfl) h) (call_c (Frag.In.keeps KX (Fr.keep kF)) (Top.keeps T (Fr.keep kF)) (inst_of kN (by k_mem) (by k_mem)) e1 e2 e3 e4 (by dsimp only; decide) (by dsimp only; decide) rfl (told_len hS hP hX hXs hT) (by have := hS.len; omega) (by have := hP.len; omega) (sur_of (told_scalar hS hP hXs hT)) (size8 (told_len hS hP hX hXs hT) (told_scalar hS hP hXs hT)) (par_ok hS hP) (fun y t h₂ tk₂ hy kp => ?_))))
                          have T2 := told_of hS hP (told_scalar hS hP hXs hT) hy
                          have F2 := kF.keeps kp
                          refine nameX_L F2 (by rfl) ?_
                          refine eq_same (told_again hS hP (fun h => by cases h) hXs hT T2) ?_
                          exact law_end F2
                        | true =>
                          by_cases h43 : 43 ∈ M.cps.toList
                          · have hv : (!decide (43 ∈ M.cps.toList)) = false := by rw [decide_eq_true h43]; rfl
                            refine S_execs_cons (S_Return (S_or ?_))
                            walk_at "my_steps"
                            refine S_or ?_
                            walk_at "my_steps"
                            rename Fr _ _ _ _ => kF
                            rename News _ _ _ _ => kN
                            refine S_or_one (S_Compare rfl (S_call1 (inst_of kN (by k_mem) (by k_mem)) rfl (fun h => nameX_L kF (by rfl) h) (fun h => nameX_L kF (by rfl) h) (call_c (Frag.In.keeps KX (Fr.keep kF)) (Top.keeps T (Fr.keep kF)) (inst_of kN (by k_mem) (by k_mem)) e1 e2 e3 e4 (by dsimp only; decide) (by dsimp only; decide) rfl (told_len hS hP hX hXs hT) (by have := hS.len; omega) (by have := hP.len; omega) (sur_of (told_scalar hS hP hXs hT)) (size8 (told_len hS hP hX hXs hT) (told_scalar hS hP hXs hT)) (par_ok hS hP) (fun y t h₂ tk₂ hy kp => ?_))))
                            have T2 := told_of hS hP (told_scalar hS hP hXs hT) hy
                            have F2 := kF.keeps kp
                            refine nameX_L F2 (by rfl) ?_
                            refine eq_same (told_again hS hP (fun _ => by rw [← hM]; exact h43) hXs hT T2) ?_
                            exact law_end F2
                          · have hv : (!decide (43 ∈ M.cps.toList)) = true := by rw [decide_eq_false h43]; rfl
                            refine S_any ?_
                            walk_at "my_steps"
                            exact law_end (by assumption)
  · obtain ⟨L, m, h, tk, rfl, rfl, F⟩ := q.out
    refine GoodW.toG (goodW_bool F hg (raisesW_false ?_) ?_)
    · wrow_none_raised
    · first | kc_post | wrow_post)
end Mine
end

set_option maxRecDepth 100000 in
theorem PySem.Challenge.cw_fe0370_01_holds : PySem.Challenge.rw_fe0370_01.Holds :=
  Mine.law_ok
