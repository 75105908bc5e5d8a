import PyProof.Rows.All
import Wide.All
import OpenK.AllK
import Wide.FinOn
import PySem.Challenge.RW_ai0022_01
set_option Elab.async false
set_option compiler.extract_closed false
set_option maxRecDepth 100000
set_option maxHeartbeats 4000000
open PySem PySem.W PySem.Calls PyProof.Rows PySem.Spec
namespace Mine
/-! The written part of the heap, looked at in ONE pass over the heap's list (the library's hook looks each address up anew). -/
noncomputable def alive (o : Obj) : Option Obj := match o with
  | ⟨_, _, .freed, _⟩ => none
  | o => some o
theorem alive_some {o o' : Obj} (h : alive o = some o') : o = o' ∧ ∀ (x : Array Obj) (a : Nat) (l : Life), x[a]? = some o → Heap.get? ⟨x, l⟩ a = some o' := by
  obtain ⟨c, d, dt, sl⟩ := o
  cases dt <;> first | (cases h; done) | (cases h; refine ⟨rfl, fun x a l e => ?_⟩; unfold Heap.get?; dsimp only; rw [e])
noncomputable def pick (l : List Obj) : List Nat → Nat → List (Option Obj) :=
  @List.rec Obj (fun _ => List Nat → Nat → List (Option Obj)) (fun _ _ => [])
    (fun o _ ih as i => @List.rec Nat (fun _ => List (Option Obj)) [] (fun a r _ => @Bool.rec (fun _ => List (Option Obj)) (ih as (Nat.succ i)) (alive o :: ih r (Nat.succ i)) (Nat.beq a i)) as) l
theorem pick_nil (as : List Nat) (i : Nat) : pick [] as i = [] := rfl
theorem pick_none (o : Obj) (os : List Obj) (i : Nat) : pick (o :: os) [] i = [] := rfl
theorem pick_cons (o : Obj) (os : List Obj) (a : Nat) (r : List Nat) (i : Nat) : pick (o :: os) (a :: r) i = if a = i then alive o :: pick os r (i + 1) else pick os (a :: r) (i + 1) := by
  show @Bool.rec (fun _ => List (Option Obj)) (pick os (a :: r) (i + 1)) (alive o :: pick os r (i + 1)) (Nat.beq a i) = _
  by_cases h : a = i
  · subst h; rw [if_pos rfl, Nat.beq_refl]
  · have : Nat.beq a i = false := by
      cases q : Nat.beq a i with
      | false => rfl
      | true => exact absurd (Nat.eq_of_beq_eq_true q) h
    rw [if_neg h, this]
theorem pick_at : ∀ (l : List Obj) (as : List Nat) (i : Nat) (ys : List Obj), pick l as i = ys.map some → as.length = ys.length → ∀ p ∈ as.zip ys, ∃ k o, p.1 = i + k ∧ l[k]? = some o ∧ alive o = some p.2
  | _, [], _, _, _, _, p, hp => by simp at hp
  | _, _ :: _, _, [], _, hl, _, _ => by simp at hl
  | [], a :: r, i, y :: ys, h, _, _, _ => by rw [pick_nil] at h; simp at h
  | o :: os, a :: r, i, y :: ys, h, hl, p, hp => by
    rw [pick_cons] at h
    by_cases q : a = i
    · rw [if_pos q] at h
      simp only [List.map_cons, List.cons.injEq] at h
      simp only [List.zip_cons_cons, List.mem_cons] at hp
      rcases hp with rfl | hp
      · exact ⟨0, o, by simp [q], rfl, h.1⟩
      · obtain ⟨k, o', e1, e2, e3⟩ := pick_at os r (i + 1) ys h.2 (by simpa using hl) p hp
        exact ⟨k + 1, o', by omega, by simpa using e2, e3⟩
    · rw [if_neg q] at h
      obtain ⟨k, o', e1, e2, e3⟩ := pick_at os (a :: r) (i + 1) (y :: ys) h hl p hp
      exact ⟨k + 1, o', by omega, by simpa using e2, e3⟩
theorem inK_of_pick {K : Frag} {as : List Nat} {h : Heap} (e : as = K.map (·.1)) (q : pick h.objs.toList as 0 = K.map fun p => some p.2) : K.In h := by
  intro a o hl
  have hm : (a, o) ∈ K := by
    clear q e
    induction K with
    | nil => cases hl
    | cons p r ih =>
      obtain ⟨b, x⟩ := p
      rw [List.lookup_cons] at hl
      split at hl
      · rename_i z; cases hl; rw [beq_iff_eq.mp z]; exact .head _
      · exact .tail _ (ih hl)
  have q' : pick h.objs.toList as 0 = (K.map (·.2)).map some := by rw [q, List.map_map]; rfl
  have hz : (a, o) ∈ as.zip (K.map (·.2)) := by
    subst e
    clear q q' hl
    induction K with
    | nil => cases hm
    | cons p r ih =>
      rcases List.mem_cons.mp hm with rfl | hm
      · exact .head _
      · exact .tail _ (ih hm)
  obtain ⟨k, o', e1, e2, e3⟩ := pick_at _ as 0 _ q' (by subst e; simp) _ hz
  simp only [Nat.zero_add] at e1
  subst e1
  exact (alive_some e3).2 h.objs _ h.life (by simpa using e2)
noncomputable def pickHook (K : Params → Frag) (as : List Addr) (e : ∀ P, as = (K P).map (·.1)) : Hook :=
  ⟨List (Option Obj), fun s => pick s.heap.objs.toList as 0, fun w => (K w.params).map fun p => some p.2, InK K, fun w _ x => inK_of_pick (e w.params) x, InK.keeps⟩
section
local macro_rules | `(tactic| o_head (kHook $_ $_ $_)) => `(tactic| assumption)
theorem fr (_h : OpenRow.Holds (OpenLaw.row PySem.Challenge.rw_ai0022_01)) : OpenRow.Holds (OpenLaw.row PySem.Challenge.rw_ai0022_01) := by k_head
end
abbrev P0 : Program := PySem.Challenge.pw_ai0022_01
noncomputable def keep0 : List Nat := [0, 2, 3, 4, 5, 7, 9, 10, 11, 12, 13, 14, 15, 16, 18, 19, 21, 22, 23, 25, 27, 28, 31, 33, 34, 35, 37, 38, 40, 41, 42, 43, 44, 46, 47, 48, 50, 51, 52, 53, 55, 56, 57, 58, 59, 60]
noncomputable def V0 : Program := { P0 with main := { P0.main with body := keep0.filterMap fun i => P0.main.body[i]? } }
section -- M1


/-- the heap only grows -/
abbrev Grows (h h' : Heap) : Prop := ∀ b o, h.get? b = some o → h'.get? b = some o

/-- room for n calls in one another -/
def Room (n : Nat) (A : Around) : Prop := A.handled = none ∧ A.depth + n ≤ 900 ∧ A.units + 50 * n ≤ 9000
theorem Room.deeper {n : Nat} {A : Around} (r : Room (n + 1) A) (e : Env) : Room n (A.deeper e) := ⟨r.1, by have := r.2.1; show A.depth + 1 + n ≤ 900; (first | lia | omega), by have := r.2.2; show A.units + 3 + 50 * n ≤ 9000; (first | lia | omega)⟩
theorem Room.le {n m : Nat} {A : Around} (r : Room n A) (h : m ≤ n) : Room m A := ⟨r.1, by have := r.2.1; (first | lia | omega), by have := r.2.2; (first | lia | omega)⟩
theorem Room.depth {n : Nat} {A : Around} (r : Room n A) : A.depth < recursionLimit := by have := r.2.1; show A.depth < 1000; (first | lia | omega)

/-- what a quiet call hands back -/
def Back (s : Shared) (P : Value → Heap → Prop) (v : Value) (s' : Shared) : Prop :=
  ∃ h' tk, s' = { s with heap := h', toks := tk } ∧ Grows s.heap h' ∧ P v h'

structure World0 (w : World) (h : Heap) : Prop where
  X : (fr.heap_1 w.params).In h
  T : ∃ loose mg mb, TopRead V0 loose mg mb h
theorem World0.grow {w : World} {h h' : Heap} (W : World0 w h) (g : Grows h h') : World0 w h' := ⟨W.X.keeps g, let ⟨a, b, c, T⟩ := W.T; ⟨a, b, c, T.keeps g⟩⟩

structure Fits (s : Shared) (K : Frag) (f : Addr) (args : Args) (binds : List (Str × Value)) (name qual : Str) (params : Arguments) (body : List Stmt) (scope : Scope) (cl : List (Str × Addr)) (dV kV doc pm : Value) (an : Option Addr) (cdv ct oc : Value) (od : Option Addr) (osl : Array (Option Value)) : Prop where
  ho : K.lookup f = some ⟨oc, od, .func (fnX name qual params body scope cl dV kV doc pm an cdv ct), osl⟩
  hcd : codeIn K cdv qual = true
  hbind : BindsTo s (fnX name qual params body scope cl dV kV doc pm an cdv ct) args binds
  hloc : (binds.all fun x => decide (scope.names.lookup x.1 = some .local)) = true
  hcell : (scope.names.all fun x => decide (x.2 ≠ .cell)) = true
  hco : scope.isCoroutine = false
  hgen : scope.isGenerator = false
  hk : scope.kind = .function

section
variable {w : World} {A : Around} {s : Shared} {K : Frag} {R : Result → Shared → Prop}
  {name qual : Str} {params : Arguments} {body : List Stmt} {scope : Scope} {dV kV doc pm cdv ct oc : Value} {an od : Option Addr} {osl : Array (Option Value)} {f : Addr} {args : Args} {binds : List (Str × Value)} {cl : List (Str × Addr)}
theorem enter {h₀ : Heap} {news : List (Addr × Obj)} {p : Program} {loose : List Str} {mg mb : Str → Option Value} {n : Nat} (sub : Grows h₀ s.heap) (hsz : h₀.objs.size ≤ s.heap.objs.size)
    (hnew : ∀ p ∈ news, s.heap.get? p.1 = some p.2 ∧ h₀.get? p.1 = none) (X : K.In h₀) (T : TopRead p loose mg mb h₀) (r : Room (n + 1) A)
    (fits : Fits s K f args binds name qual params body scope cl dV kV doc pm an cdv ct oc od osl)
    (h : ∀ L h₁, Fr h₀ L h₁ (fun y => binds.reverse.lookup y) → News h₀ L h₁ news → Room n (A.deeper (envX qual scope L f cdv cl)) → Grows s.heap h₁ →
      wpAny (model P0 w) (A.deeper (envX qual scope L f cdv cl)) (execs body (envX qual scope L f cdv cl))
        (fun fl s' => R (.ok (.ret (match fl with | .ret v => v | _ => .none))) s') (fun _ _ => False) { s with heap := h₁, toks := s.toks + binds.length }) :
    codeAny (model P0 w) A (.call (.ref f) args) R s := by
  obtain ⟨ho, hcd, hbind, hloc, hcell, hco, hgen, hk⟩ := fits
  exact codeAny_call_def (fd := fnX name qual params body scope cl dV kV doc pm an cdv ct) (body := body) (binds := binds) r.depth (X.keeps sub _ _ ho) rfl (T.keeps sub).nolimit (codeRec_of (X.keeps sub) hcd) rfl hbind
    (fun x hx => of_decide_eq_true (List.all_eq_true.mp hcell x hx)) (locs hloc)
    (fun h₁ hns hk₁ => wpAny_mono (h s.heap.objs.size h₁ ⟨hns, fun b o e => hk₁ b o (sub b o e), hsz⟩ (fun p hp => ⟨hk₁ _ _ (hnew p hp).1, Nat.ne_of_lt (Heap.lt_size (hnew p hp).1), (hnew p hp).2⟩) (r.deeper _) hk₁) (fun _ _ x => x) fun _ _ x => x.elim) hco hgen hk

/-- a def called from anywhere: all that stands is kept -/
theorem enter0 {w' : World} {n : Nat} {P : Value → Heap → Prop} {E : Value → Shared → Prop} {vals : List Value} {kw : List (Str × Value)} (W : World0 w' s.heap) (r : Room (n + 1) A)
    (fits : Fits s (fr.heap_1 w'.params) f ⟨vals, kw⟩ binds name qual params body scope cl dV kV doc pm an cdv ct oc od osl)
    (h : ∀ L h₁ loose mg mb, (fr.heap_1 w'.params).In s.heap → TopRead V0 loose mg mb s.heap → Fr s.heap L h₁ (fun y => binds.reverse.lookup y) → News s.heap L h₁ [] → Room n (A.deeper (envX qual scope L f cdv cl)) →
      wpAny (model P0 w) (A.deeper (envX qual scope L f cdv cl)) (execs body (envX qual scope L f cdv cl))
        (fun fl s' => Back s P (match fl with | .ret v => v | _ => .none) s') (fun _ _ => False) { s with heap := h₁, toks := s.toks + binds.length }) :
    wpAny (model P0 w) A (call (.ref f) vals kw) (Back s P) E s := by
  obtain ⟨X, loose, mg, mb, T⟩ := W
  exact wpAny_call (enter (fun _ _ e => e) (Nat.le_refl _) (fun _ hp => absurd hp List.not_mem_nil) X T r fits fun L h₁ F N rr _ => h L h₁ loose mg mb X T F N rr)
end
theorem Back.of {s : Shared} {L : Addr} {m : Str → Option Value} {P : Value → Heap → Prop} {v : Value} {h' : Heap} {tk : Nat} (F : Fr s.heap L h' m) (p : P v h') : Back s P v { s with heap := h', toks := tk } :=
  ⟨h', tk, rfl, F.keep, p⟩
end
section -- M2
noncomputable def num (ns : List Int) (p : Int) : Int := (if ns.length = 0 then 0 else ns.getD (Int.fmod p ns.length).toNat 0) + 7 * p
set_option maxHeartbeats 4000000 in
theorem number_spec {w : World} {A : Around} {E : Value → Shared → Prop} {s : Shared} {a : Addr} {vs : List Value} {ns : List Int} {p : Int} {tk : Tok} (W : World0 w s.heap)
    (hl : s.heap.IsList a vs.toArray) (hi : IntsAre vs ns) (h63 : ns.length ≤ 63) (h0 : 0 ≤ p) (hp : p < 100) (r : Room 1 A) :
    wpAny (model P0 w) A (call (.ref 1430) [.ref a, .int p tk]) (Back s (fun v _ => ∃ t, v = .int (num ns p) t)) E s := by
  refine' enter0 (binds := [(Str.ofString "script", .ref a), (Str.ofString "place", .int p tk)]) W r ?fits ?_
  case fits => ((refine' Fits.mk ?ho ?hcd ?hbind ?hloc ?hcell ?hco ?hgen ?hk; (case ho => k_is); (case hcd => k_is); (case hbind => first | exact BindsTo.of_eq rfl | exact binds_K (World0.X (by assumption)) rfl (by k_is) rfl rfl rfl); (case hloc => rfl); (case hcell => rfl); (case hco => rfl); (case hgen => rfl); (case hk => rfl)))
  intro L h₁ loose mg mb KX T F N rr
  repeat' walk1
  · rename_i q _
    exact Back.of (by assumption) ⟨_, by unfold num; rw [if_neg (by (first | lia | omega))]⟩
  · rename_i q
    exact Back.of (by assumption) ⟨_, by unfold num; rw [if_pos (by (first | lia | omega))]⟩
end
section -- M3
theorem World0.now {w : World} {h₀ h : Heap} {L : Addr} {m : Str → Option Value} {loose : List Str} {mg mb : Str → Option Value} (F : Fr h₀ L h m) (X : (fr.heap_1 w.params).In h₀) (T : TopRead V0 loose mg mb h₀) : World0 w h :=
  ⟨X.keeps F.keep, loose, mg, mb, T.keeps F.keep⟩
theorem InstAt.base {h₀ h : Heap} {L x C dx : Addr} {m : Str → Option Value} {od : Obj} {sl : Array (Option Value)} (F : Fr h₀ L h m) (h1 : h₀.get? x = some ⟨.ref C, some dx, .plain, sl⟩) (h2 : h₀.get? dx = some od) :
    InstAt h x ⟨.ref C, some dx, .plain, sl⟩ C (some od) := ⟨F.keep _ _ h1, rfl, rfl, F.keep _ _ h2⟩
theorem use {w : World} {A : Around} {s : Shared} {E : Value → Shared → Prop} {t : Sem Value} {P : Value → Heap → Prop} {Q : Value → Shared → Prop} {h₀ : Heap} {L : Addr} {m : Str → Option Value} {news : List (Addr × Obj)}
    (h : wpAny (model P0 w) A t (Back s P) E s) (F : Fr h₀ L s.heap m) (N : News h₀ L s.heap news)
    (k : ∀ v h' tk, Grows s.heap h' → Fr h₀ L h' m → News h₀ L h' news → P v h' → Q v { s with heap := h', toks := tk }) : wpAny (model P0 w) A t Q E s :=
  wpAny_mono h (fun v s' ⟨h', tk, e, g, p⟩ => e ▸ k v h' tk g (F.keeps g) (N.grown g) p) fun _ _ x => x

noncomputable abbrev ent (w : World) (x : String) (t : Tok) (v : Value) : DictEntry := ⟨PyData.keyHash w.params (Str.ofString x), .str (Str.ofString x) t, v⟩
/-- a PublicKey -/
structure IsPk (w : World) (h : Heap) (a : Addr) (l : List UInt8) (d : Addr) (t1 t2 t3 : Tok) : Prop where
  o : h.get? a = some (instObj 953 d)
  d : h.get? d = some (dictOf [ent w "_point" t1 (.bytes ⟨l⟩ t2), ent w "compressed" t3 (.bool true)] 2)

local macro_rules | `(tactic| k_inst) => `(tactic| (refine' InstAt.base ?F ?h1 ?h2; (case F => k_asm); (case h1 => assumption); (case h2 => assumption)))

theorem ecp_spec {w : World} {A : Around} {E : Value → Shared → Prop} {s : Shared} {v f : Value} (W : World0 w s.heap) (r : Room 1 A) :
    wpAny (model P0 w) A (call (.ref 871) [v, f]) (Back s (fun x _ => x = v)) E s := by
  refine' enter0 (binds := [(Str.ofString "point", v), (Str.ofString "flag", f)]) W r ?fits ?_
  case fits => ((refine' Fits.mk ?ho ?hcd ?hbind ?hloc ?hcell ?hco ?hgen ?hk; (case ho => k_is); (case hcd => k_is); (case hbind => first | exact BindsTo.of_eq rfl | exact binds_K (World0.X (by assumption)) rfl (by k_is) rfl rfl rfl); (case hloc => rfl); (case hcell => rfl); (case hco => rfl); (case hgen => rfl); (case hk => rfl)))
  intro L h₁ loose mg mb KX T F N rr
  repeat' walk1
  exact Back.of (by assumption) rfl
theorem pksec_spec {w : World} {A : Around} {E : Value → Shared → Prop} {s : Shared} {a d : Addr} {l : List UInt8} {t1 t2 t3 : Tok} (W : World0 w s.heap) (K : IsPk w s.heap a l d t1 t2 t3) (r : Room 2 A) :
    wpAny (model P0 w) A (call (.ref 893) [.ref a]) (Back s (fun x _ => x = .bytes ⟨l⟩ t2)) E s := by
  refine' enter0 (binds := [(Str.ofString "self", .ref a)]) W r ?fits ?_
  case fits => ((refine' Fits.mk ?ho ?hcd ?hbind ?hloc ?hcell ?hco ?hgen ?hk; (case ho => k_is); (case hcd => k_is); (case hbind => first | exact BindsTo.of_eq rfl | exact binds_K (World0.X (by assumption)) rfl (by k_is) rfl rfl rfl); (case hloc => rfl); (case hcell => rfl); (case hco => rfl); (case hgen => rfl); (case hk => rfl)))
  intro L h₁ loose mg mb KX T F N rr
  obtain ⟨ko, kd⟩ := K
  repeat' (first | ((with_reducible show wpAny _ _ (call (Value.ref 871) _ _) _ _ _); (with_reducible ((refine' use (ecp_spec ?zzW ?zzr) ?zzF ?zzN ?_; (((case zzW => exact World0.now (by assumption) (by assumption) (by assumption)); (case zzr => (exact Room.le (by assumption) (by decide))); (case zzF => k_asm); (case zzN => k_asm))); intro v' h' tk' g' F' N' e'; subst e'; try k_sweep)))) | walk1)
  exact Back.of (by assumption) rfl
end
section -- BR
/-! octets -/
theorem picked_mid (l : List UInt8) (i j : Nat) : KBy.picked ⟨l⟩ (some (i : Int)) (some (j : Int)) = ⟨(l.drop i).take (j - i)⟩ := by
  rw [KBc.picked_eq]
  show ((l.drop (clipAt l.length i)).take (clipAt l.length j - clipAt l.length i)).toArray = _
  rw [clipAt_nat, clipAt_nat]
  congr 1
  by_cases h : i ≤ l.length
  · rw [Nat.min_eq_left h, List.take_eq_take_iff, List.length_drop, Nat.sub_min_sub_right, Nat.sub_min_sub_right, Nat.min_assoc, Nat.min_self]
  · simp [List.drop_of_length_le (show l.length ≤ i by (first | lia | omega)), Nat.min_eq_right (show l.length ≤ i by (first | lia | omega))]
theorem picked_from (l : List UInt8) (i : Nat) : KBy.picked ⟨l⟩ (some (i : Int)) none = ⟨l.drop i⟩ := by
  rw [KBc.picked_eq]
  show ((l.drop (clipAt l.length i)).take (l.length - clipAt l.length i)).toArray = _
  rw [clipAt_nat]
  congr 1
  by_cases h : i ≤ l.length
  · rw [Nat.min_eq_left h, List.take_of_length_le (by simp)]
  · simp [List.drop_of_length_le (show l.length ≤ i by (first | lia | omega)), Nat.min_eq_right (show l.length ≤ i by (first | lia | omega))]
theorem picked_to (l : List UInt8) (j : Nat) : KBy.picked ⟨l⟩ none (some (j : Int)) = ⟨l.take j⟩ := by
  rw [KBc.picked_eq]
  show ((l.drop 0).take (clipAt l.length j - 0)).toArray = _
  rw [clipAt_nat, List.drop_zero, Nat.sub_zero]
  congr 1
  by_cases h : j ≤ l.length
  · rw [Nat.min_eq_left h]
  · rw [Nat.min_eq_right (by (first | lia | omega)), List.take_of_length_le (Nat.le_refl _), List.take_of_length_le (by (first | lia | omega))]
section
variable {prog : Program} {w : World} {A : Around} {E : Value → Shared → Prop} {s : Shared} {h₀ : Heap} {L : Addr} {m : PySem.Str → Option Value} {news : List (Addr × Obj)}
theorem bslice {value slice : PySem.Expr} {b l' : List UInt8} {t : Tok} {l u : Value} {lo hi : Option Int} {Q : Value → Shared → Prop} (hF : Fr h₀ L s.heap m) (hN : News h₀ L s.heap news) (hl : IsPart l lo) (hu : IsPart u hi) (hz : b.length ≤ 16777216)
    (e : KBy.picked ⟨b⟩ lo hi = ⟨l'⟩) (h : ∀ h' t' k, Fr h₀ L h' m → News h₀ L h' news → Q (.bytes ⟨l'⟩ t') { s with heap := h', toks := k })
    (hs : subscripted slice false (.bytes ⟨b⟩ t) (.ref s.heap.objs.size) = operate [.ref s.heap.objs.size, .bytes ⟨b⟩ t] (getItem (.bytes ⟨b⟩ t) (.ref s.heap.objs.size)) := by with_unfolding_all rfl)
    (ht : ∀ r, letTemporaryGo value (.bytes ⟨b⟩ t) r = pure () := by intro _; with_unfolding_all rfl) :
    wpAny (model prog w) A (subscriptTail value slice (.bytes ⟨b⟩ t) (.ref s.heap.objs.size)) Q E { s with heap := s.heap.push { cls := .type "slice", data := .fields #[l, u, .none] } } :=
  KBc.slice_K (ks := KBw.bInts ⟨b⟩) hF hN rfl hl hu (by rw [KBw.ints_length]; exact hz) (fun h' t' k a c _ => e ▸ h h' t' k a c) hs ht

/-- bytes([..]) of a list of the ledger -/
theorem bmake {D : Addr} {items : Array Value} {ns : List Int} {c : Nat} {Q : Value → Shared → Prop} (hF : Fr h₀ L s.heap m) (hN : News h₀ L s.heap news) (hm : (D, listOf items c) ∈ news) (hi : IntsAre items.toList ns)
    (hr : ∀ n ∈ ns, 0 ≤ n ∧ n < 256) (hz : items.size ≤ 1000) (hh : A.handled = none)
    (h : ∀ h' t' k, Fr h₀ L h' m → News h₀ L h' news → Q (.bytes ⟨ns.map fun n => n.toNat.toUInt8⟩ t') { s with heap := h', toks := k }) :
    wpAny (model prog w) A (call (.type "bytes") [.ref D]) Q E s :=
  call_bytes_ints (vs := items.toList) ⟨_, (hN _ hm).1, rfl, _, rfl⟩ hi hr (by rw [Array.length_toList, sizeLine_eq]; (first | lia | omega)) hh fun h' t k g => h h' t k (hF.keeps g) (hN.grown g)
/-- + -/
theorem badd {b c : List UInt8} {t u : Tok} {Q : Value → Shared → Prop} (hsz : b.length + c.length ≤ 16777216) (h : ∀ t' k, Q (.bytes ⟨b ++ c⟩ t') { s with toks := k }) :
    wpAny (model prog w) A (binaryOp .Add (.bytes ⟨b⟩ t) (.bytes ⟨c⟩ u)) Q E s :=
  KBy.add_bytes (b := ⟨b⟩) (c := ⟨c⟩) hsz fun t' k => by
    have e : (⟨b⟩ ++ ⟨c⟩ : Array UInt8) = ⟨b ++ c⟩ := by apply Array.toList_inj.mp; simp
    rw [e]; exact h t' k
end
end
section
local macro_rules | `(tactic| k_inst) => `(tactic| (refine' InstAt.base ?F ?h1 ?h2; (case F => k_asm); (case h1 => assumption); (case h2 => assumption)))
section -- M4
structure IsKey (w : World) (h : Heap) (a : Addr) (tap : Bool) (l : List UInt8) (d pk dp : Addr) (t1 t2 t3 t4 t5 t6 t7 t8 : Tok) : Prop where
  o : h.get? a = some (instObj 1086 d)
  d : h.get? d = some (dictOf [ent w "origin" t1 .none, ent w "key" t2 (.ref pk), ent w "taproot" t3 (.bool tap), ent w "xonly_repr" t4 (.bool false), ent w "allowed_derivation" t5 .none] 5)
  pk : IsPk w h pk l dp t6 t7 t8
theorem keysec_spec {w : World} {A : Around} {E : Value → Shared → Prop} {s : Shared} {a d pk dp : Addr} {tap : Bool} {l : List UInt8} {t1 t2 t3 t4 t5 t6 t7 t8 : Tok} (W : World0 w s.heap) (K : IsKey w s.heap a tap l d pk dp t1 t2 t3 t4 t5 t6 t7 t8) (r : Room 3 A) :
    wpAny (model P0 w) A (call (.ref 1006) [.ref a]) (Back s (fun x _ => x = .bytes ⟨l⟩ t7)) E s := by
  refine' enter0 (binds := [(Str.ofString "self", .ref a)]) W r ?fits ?_
  case fits => ((refine' Fits.mk ?ho ?hcd ?hbind ?hloc ?hcell ?hco ?hgen ?hk; (case ho => k_is); (case hcd => k_is); (case hbind => first | exact BindsTo.of_eq rfl | exact binds_K (World0.X (by assumption)) rfl (by k_is) rfl rfl rfl); (case hloc => rfl); (case hcell => rfl); (case hco => rfl); (case hgen => rfl); (case hk => rfl)))
  intro L h₁ loose mg mb KX T F N rr
  obtain ⟨ko, kd, ko2, kd2⟩ := K
  repeat' (first | ((with_reducible show wpAny _ _ (call (Value.ref 893) _ _) _ _ _); (with_reducible ((refine' use (pksec_spec ?zzW ?zzK ?zzr) ?zzF ?zzN ?_; (case zzK => exact ⟨Fr.keep (by assumption) _ _ (by assumption), Fr.keep (by assumption) _ _ (by assumption)⟩); (((case zzW => exact World0.now (by assumption) (by assumption) (by assumption)); (case zzr => (exact Room.le (by assumption) (by decide))); (case zzF => k_asm); (case zzN => k_asm))); intro v' h' tk' g' F' N' e'; subst e'; try k_sweep)))) | walk1)
  exact Back.of (by assumption) rfl
noncomputable def short (tap : Bool) (l : List UInt8) : List UInt8 := if tap then l.drop 1 else l
theorem keyser_spec {w : World} {A : Around} {E : Value → Shared → Prop} {s : Shared} {a d pk dp : Addr} {tap : Bool} {l : List UInt8} {t1 t2 t3 t4 t5 t6 t7 t8 : Tok} (W : World0 w s.heap) (K : IsKey w s.heap a tap l d pk dp t1 t2 t3 t4 t5 t6 t7 t8) (r : Room 4 A) (hl : l.length = 33) :
    wpAny (model P0 w) A (call (.ref 1020) [.ref a]) (Back s (fun x _ => ∃ t, x = .bytes ⟨short tap l⟩ t)) E s := by
  refine' enter0 (binds := [(Str.ofString "self", .ref a)]) W r ?fits ?_
  case fits => ((refine' Fits.mk ?ho ?hcd ?hbind ?hloc ?hcell ?hco ?hgen ?hk; (case ho => k_is); (case hcd => k_is); (case hbind => first | exact BindsTo.of_eq rfl | exact binds_K (World0.X (by assumption)) rfl (by k_is) rfl rfl rfl); (case hloc => rfl); (case hcell => rfl); (case hco => rfl); (case hgen => rfl); (case hk => rfl)))
  intro L h₁ loose mg mb KX T F N rr
  obtain ⟨ko, kd, ko2, kd2⟩ := K
  repeat' (first | ((with_reducible show wpAny _ _ (call (Value.ref 1006) _ _) _ _ _); (with_reducible ((refine' use (keysec_spec ?zzW ?zzK ?zzr) ?zzF ?zzN ?_; (case zzK => exact ⟨Fr.keep (by assumption) _ _ (by assumption), Fr.keep (by assumption) _ _ (by assumption), Fr.keep (by assumption) _ _ (by assumption), Fr.keep (by assumption) _ _ (by assumption)⟩); (((case zzW => exact World0.now (by assumption) (by assumption) (by assumption)); (case zzr => (exact Room.le (by assumption) (by decide))); (case zzF => k_asm); (case zzN => k_asm))); intro v' h' tk' g' F' N' e'; subst e'; try k_sweep)))) | ((with_reducible show wpAny _ _ (subscriptTail _ _ _ _) _ _ _); ((k_here; (with_reducible show wpAny _ _ (subscriptTail _ (Expr.Slice _ _ none _) (Value.bytes _ _) (Value.ref _)) _ _ _); (with_reducible rename Fr _ _ _ _ => F'); (with_reducible rename News _ _ _ _ => N'); (refine' bslice (s := ⟨_, _, _, _, _⟩) F' N' ?zzhl ?zzhu ?zzhz ?zze ?_; (case zzhl => constructor); (case zzhu => constructor); (case zze => first | exact picked_mid _ _ _ | exact picked_from _ _ | exact picked_to _ _); (case zzhz => first | decide | (first | lia | omega))); intro h' t' k' F' N'; try k_sweep))) | walk1 | (dsimp only; walk1))
  all_goals dsimp only
  all_goals subst_vars
  · exact Back.of (by assumption) ⟨_, by unfold short; rw [if_pos rfl, List.take_of_length_le (by rw [List.length_drop, hl]; decide)]⟩
  · exact Back.of (by assumption) ⟨_, rfl⟩
theorem tob32_spec {w : World} {A : Around} {E : Value → Shared → Prop} {s : Shared} {t : Tok} (W : World0 w s.heap) (r : Room 1 A) :
    wpAny (model P0 w) A (call (.ref 962) [.int 32 t]) (Back s (fun x _ => ∃ t, x = .bytes ⟨[32]⟩ t)) E s := by
  refine' enter0 (binds := [(Str.ofString "i", .int 32 t)]) W r ?fits ?_
  case fits => ((refine' Fits.mk ?ho ?hcd ?hbind ?hloc ?hcell ?hco ?hgen ?hk; (case ho => k_is); (case hcd => k_is); (case hbind => first | exact BindsTo.of_eq rfl | exact binds_K (World0.X (by assumption)) rfl (by k_is) rfl rfl rfl); (case hloc => rfl); (case hcell => rfl); (case hco => rfl); (case hgen => rfl); (case hk => rfl)))
  intro L h₁ loose mg mb KX T F N rr
  repeat' (first | ((with_reducible show wpAny _ _ (call (Value.type "bytes") _ _) _ _ _); (with_reducible ((k_here; (with_reducible show wpAny _ _ (call (Value.type "bytes") [Value.ref _]) _ _ _); k_dflt (refine' bmake ?zzF ?zzN ?zzm ?zzi ?zzr ?zzz ?zzhh ?_; (case zzF => k_asm); (case zzN => k_asm); (case zzm => k_mem); (case zzi => l_ints); (case zzr => ((intro n hn; simp only [List.mem_cons, List.not_mem_nil, or_false] at hn; (first | lia | omega)))); (case zzz => exact Nat.le_of_ble_eq_true rfl); (case zzhh => exact (show Room _ _ by assumption).1)); intro h' t' k' F' N'; try k_sweep)))) | walk1 | (dsimp only; walk1))
  exact Back.of (by assumption) ⟨_, rfl⟩
theorem tob33_spec {w : World} {A : Around} {E : Value → Shared → Prop} {s : Shared} {t : Tok} (W : World0 w s.heap) (r : Room 1 A) :
    wpAny (model P0 w) A (call (.ref 962) [.int 33 t]) (Back s (fun x _ => ∃ t, x = .bytes ⟨[33]⟩ t)) E s := by
  refine' enter0 (binds := [(Str.ofString "i", .int 33 t)]) W r ?fits ?_
  case fits => ((refine' Fits.mk ?ho ?hcd ?hbind ?hloc ?hcell ?hco ?hgen ?hk; (case ho => k_is); (case hcd => k_is); (case hbind => first | exact BindsTo.of_eq rfl | exact binds_K (World0.X (by assumption)) rfl (by k_is) rfl rfl rfl); (case hloc => rfl); (case hcell => rfl); (case hco => rfl); (case hgen => rfl); (case hk => rfl)))
  intro L h₁ loose mg mb KX T F N rr
  repeat' (first | ((with_reducible show wpAny _ _ (call (Value.type "bytes") _ _) _ _ _); (with_reducible ((k_here; (with_reducible show wpAny _ _ (call (Value.type "bytes") [Value.ref _]) _ _ _); k_dflt (refine' bmake ?zzF ?zzN ?zzm ?zzi ?zzr ?zzz ?zzhh ?_; (case zzF => k_asm); (case zzN => k_asm); (case zzm => k_mem); (case zzi => l_ints); (case zzr => ((intro n hn; simp only [List.mem_cons, List.not_mem_nil, or_false] at hn; (first | lia | omega)))); (case zzz => exact Nat.le_of_ble_eq_true rfl); (case zzhh => exact (show Room _ _ by assumption).1)); intro h' t' k' F' N'; try k_sweep)))) | walk1 | (dsimp only; walk1))
  exact Back.of (by assumption) ⟨_, rfl⟩
end
section -- M5
theorem short_t {l : List UInt8} (h : l.length = 33) : (short true l).length = 32 := by unfold short; rw [if_pos rfl, List.length_drop, h]
theorem short_f {l : List UInt8} (h : l.length = 33) : (short false l).length = 33 := by unfold short; rw [if_neg (by decide), h]
theorem blen {w : World} {A : Around} {E : Value → Shared → Prop} {s : Shared} {l : List UInt8} {t : Tok} {n : Nat} {Q : Value → Shared → Prop} (e : l.length = n) (hz : n ≤ 1099511627776) (h : ∀ t' k, Q (.int (n : Int) t') { s with toks := k }) :
    wpAny (model P0 w) A (call (.builtin "len") [.bytes ⟨l⟩ t]) Q E s :=
  len_bytes (b := ⟨l⟩) (by show l.length ≤ _; (first | lia | omega)) (by subst e; exact h _ _)
local macro_rules | `(tactic| k_inst) => `(tactic| (refine' InstAt.base ?F ?h1 ?h2; (case F => k_asm); (case h1 => assumption); (case h2 => assumption)))


noncomputable abbrev pre (tap : Bool) : List UInt8 := if tap then [32] else [33]
theorem keycomp_spec {w : World} {A : Around} {E : Value → Shared → Prop} {s : Shared} {a d pk dp : Addr} {tap : Bool} {l : List UInt8} {t1 t2 t3 t4 t5 t6 t7 t8 : Tok} (W : World0 w s.heap) (K : IsKey w s.heap a tap l d pk dp t1 t2 t3 t4 t5 t6 t7 t8) (r : Room 5 A) (hl : l.length = 33) :
    wpAny (model P0 w) A (call (.ref 1027) [.ref a]) (Back s (fun x _ => ∃ t, x = .bytes ⟨pre tap ++ short tap l⟩ t)) E s := by
  refine' enter0 (binds := [(Str.ofString "self", .ref a)]) W r ?fits ?_
  case fits => ((refine' Fits.mk ?ho ?hcd ?hbind ?hloc ?hcell ?hco ?hgen ?hk; (case ho => k_is); (case hcd => k_is); (case hbind => first | exact BindsTo.of_eq rfl | exact binds_K (World0.X (by assumption)) rfl (by k_is) rfl rfl rfl); (case hloc => rfl); (case hcell => rfl); (case hco => rfl); (case hgen => rfl); (case hk => rfl)))
  intro L h₁ loose mg mb KX T F N rr
  obtain ⟨ko, kd, ko2, kd2⟩ := K
  cases tap
  all_goals
    repeat' (first | ((with_reducible show wpAny _ _ (binaryOp Operator.Add (Value.bytes _ _) (Value.bytes _ _)) _ _ _); (with_reducible ((refine' badd ?zzhz ?_; (case zzhz => first | (rw [short_t (by assumption)]; decide) | (rw [short_f (by assumption)]; decide)); intro t' k')))) | ((with_reducible show wpAny _ _ (call (Value.builtin "len") _ _) _ _ _); (with_reducible ((k_here; (with_reducible show wpAny _ _ (call (Value.builtin "len") [Value.bytes _ _]) _ _ _); (refine' blen ?zze ?zzz ?_; (case zze => (first | exact short_t (by assumption) | exact short_f (by assumption))); (case zzz => decide)); intro t' k')))) | ((with_reducible show wpAny _ _ (call (Value.ref 962) _ _) _ _ _); (with_reducible ((refine' use (tob33_spec ?zzW ?zzr) ?zzF ?zzN ?_; (((case zzW => exact World0.now (by assumption) (by assumption) (by assumption)); (case zzr => (exact Room.le (by assumption) (by decide))); (case zzF => k_asm); (case zzN => k_asm))); intro v' h' tk' g' F' N' e'; obtain ⟨t', e'⟩ := e'; subst e'; try k_sweep)))) | ((with_reducible show wpAny _ _ (call (Value.ref 962) _ _) _ _ _); (with_reducible ((refine' use (tob32_spec ?zzW ?zzr) ?zzF ?zzN ?_; (((case zzW => exact World0.now (by assumption) (by assumption) (by assumption)); (case zzr => (exact Room.le (by assumption) (by decide))); (case zzF => k_asm); (case zzN => k_asm))); intro v' h' tk' g' F' N' e'; obtain ⟨t', e'⟩ := e'; subst e'; try k_sweep)))) | ((with_reducible show wpAny _ _ (call (Value.ref 1020) _ _) _ _ _); (with_reducible ((refine' use (keyser_spec ?zzW ?zzK ?zzr ?zzhl) ?zzF ?zzN ?_; (case zzK => (exact ⟨Fr.keep (by assumption) _ _ (by assumption), Fr.keep (by assumption) _ _ (by assumption), Fr.keep (by assumption) _ _ (by assumption), Fr.keep (by assumption) _ _ (by assumption)⟩)); (case zzhl => assumption); (((case zzW => exact World0.now (by assumption) (by assumption) (by assumption)); (case zzr => (exact Room.le (by assumption) (by decide))); (case zzF => k_asm); (case zzN => k_asm))); intro v' h' tk' g' F' N' e'; obtain ⟨t', e'⟩ := e'; subst e'; try k_sweep)))) | walk1 | (dsimp only; walk1))
  all_goals exact Back.of (by assumption) ⟨_, rfl⟩
theorem keylen_spec {w : World} {A : Around} {E : Value → Shared → Prop} {s : Shared} {a d pk dp : Addr} {tap : Bool} {l : List UInt8} {t1 t2 t3 t4 t5 t6 t7 t8 : Tok} (W : World0 w s.heap) (K : IsKey w s.heap a tap l d pk dp t1 t2 t3 t4 t5 t6 t7 t8) (r : Room 1 A) :
    wpAny (model P0 w) A (call (.ref 991) [.ref a]) (Back s (fun x _ => ∃ t, x = .int (if tap then 33 else 34) t)) E s := by
  refine' enter0 (binds := [(Str.ofString "self", .ref a)]) W r ?fits ?_
  case fits => ((refine' Fits.mk ?ho ?hcd ?hbind ?hloc ?hcell ?hco ?hgen ?hk; (case ho => k_is); (case hcd => k_is); (case hbind => first | exact BindsTo.of_eq rfl | exact binds_K (World0.X (by assumption)) rfl (by k_is) rfl rfl rfl); (case hloc => rfl); (case hcell => rfl); (case hco => rfl); (case hgen => rfl); (case hk => rfl)))
  intro L h₁ loose mg mb KX T F N rr
  obtain ⟨ko, kd, ko2, kd2⟩ := K
  cases tap
  all_goals
    repeat' (first | walk1 | (dsimp only; walk1))
  all_goals exact Back.of (by assumption) ⟨_, rfl⟩
structure IsNum (w : World) (h : Heap) (a : Addr) (n : Int) (d : Addr) (t1 t2 : Tok) : Prop where
  o : h.get? a = some (instObj 1126 d)
  d : h.get? d = some (dictOf [ent w "num" t1 (.int n t2)] 1)
theorem numcomp_spec {w : World} {A : Around} {E : Value → Shared → Prop} {s : Shared} {a d : Addr} {n : Int} {t1 t2 : Tok} (W : World0 w s.heap) (K : IsNum w s.heap a n d t1 t2) (r : Room 1 A) (h0 : 1 ≤ n) (h1 : n ≤ 16) :
    wpAny (model P0 w) A (call (.ref 1109) [.ref a]) (Back s (fun x _ => ∃ t, x = .bytes ⟨[(80 + n).toNat.toUInt8]⟩ t)) E s := by
  refine' enter0 (binds := [(Str.ofString "self", .ref a)]) W r ?fits ?_
  case fits => ((refine' Fits.mk ?ho ?hcd ?hbind ?hloc ?hcell ?hco ?hgen ?hk; (case ho => k_is); (case hcd => k_is); (case hbind => first | exact BindsTo.of_eq rfl | exact binds_K (World0.X (by assumption)) rfl (by k_is) rfl rfl rfl); (case hloc => rfl); (case hcell => rfl); (case hco => rfl); (case hgen => rfl); (case hk => rfl)))
  intro L h₁ loose mg mb KX T F N rr
  obtain ⟨ko, kd⟩ := K
  repeat' (first | ((with_reducible show wpAny _ _ (call (Value.type "bytes") _ _) _ _ _); (with_reducible ((k_here; (with_reducible show wpAny _ _ (call (Value.type "bytes") [Value.ref _]) _ _ _); k_dflt (refine' bmake ?zzF ?zzN ?zzm ?zzi ?zzr ?zzz ?zzhh ?_; (case zzF => k_asm); (case zzN => k_asm); (case zzm => k_mem); (case zzi => l_ints); (case zzr => ((intro n hn; simp only [List.mem_cons, List.not_mem_nil, or_false] at hn; (first | lia | omega)))); (case zzz => exact Nat.le_of_ble_eq_true rfl); (case zzhh => exact (show Room _ _ by assumption).1)); intro h' t' k' F' N'; try k_sweep)))) | walk1 | (dsimp only; walk1))
  · exfalso; (first | lia | omega)
  · exact Back.of (by assumption) ⟨_, rfl⟩
theorem numlen_spec {w : World} {A : Around} {E : Value → Shared → Prop} {s : Shared} {a d : Addr} {n : Int} {t1 t2 : Tok} (W : World0 w s.heap) (K : IsNum w s.heap a n d t1 t2) (r : Room 2 A) (h0 : 1 ≤ n) (h1 : n ≤ 16) :
    wpAny (model P0 w) A (call (.ref 1116) [.ref a]) (Back s (fun x _ => ∃ t, x = .int 1 t)) E s := by
  refine' enter0 (binds := [(Str.ofString "self", .ref a)]) W r ?fits ?_
  case fits => ((refine' Fits.mk ?ho ?hcd ?hbind ?hloc ?hcell ?hco ?hgen ?hk; (case ho => k_is); (case hcd => k_is); (case hbind => first | exact BindsTo.of_eq rfl | exact binds_K (World0.X (by assumption)) rfl (by k_is) rfl rfl rfl); (case hloc => rfl); (case hcell => rfl); (case hco => rfl); (case hgen => rfl); (case hk => rfl)))
  intro L h₁ loose mg mb KX T F N rr
  obtain ⟨ko, kd⟩ := K
  repeat' (first | ((with_reducible show wpAny _ _ (call (Value.ref 1109) _ _) _ _ _); (with_reducible ((refine' use (numcomp_spec ?zzW ?zzK ?zzr ?zzh0 ?zzh1) ?zzF ?zzN ?_; (case zzK => exact ⟨Fr.keep (by assumption) _ _ (by assumption), Fr.keep (by assumption) _ _ (by assumption)⟩); (case zzh0 => assumption); (case zzh1 => assumption); (((case zzW => exact World0.now (by assumption) (by assumption) (by assumption)); (case zzr => (exact Room.le (by assumption) (by decide))); (case zzF => k_asm); (case zzN => k_asm))); intro v' h' tk' g' F' N' e'; obtain ⟨t', e'⟩ := e'; subst e'; try k_sweep)))) | walk1 | (dsimp only; walk1))
  all_goals exact Back.of (by assumption) ⟨_, rfl⟩
end
section -- CR
/-! comprehensions whose elements are made anew -/
/-- what is new in h' against h -/
noncomputable def fresh (h h' : Heap) : Heap := hideAll h' ((List.range h.objs.size).filter fun b => (h.get? b).isSome)
theorem fresh_get {h h' : Heap} {b : Addr} {o : Obj} (n : h.get? b = none) (e : h'.get? b = some o) : (fresh h h').get? b = some o :=
  hideAll_get _ e fun m => by
    have := (List.mem_filter.mp m).2
    rw [n] at this; cases this
theorem fresh_none {h h' : Heap} {b : Addr} {o : Obj} (e : h.get? b = some o) : (fresh h h').get? b = none :=
  hideAll_none _ (List.mem_filter.mpr ⟨List.mem_range.mpr (Heap.lt_size e), by rw [e]; rfl⟩)
theorem fresh_sub (h h' : Heap) : Grows (fresh h h') h' := fun _ _ e => of_hideAll _ e
/-- g bears all that is new -/
def NewIn (h h' g : Heap) : Prop := ∀ b o, h.get? b = none → h'.get? b = some o → g.get? b = some o
theorem NewIn.fresh (h h' : Heap) : NewIn h h' (fresh h h') := fun _ _ n e => fresh_get n e

def EltBack (s : Shared) (R : Value → Heap → Prop) (y : Value) (s' : Shared) : Prop := ∃ h' tk, s' = { s with heap := h', toks := tk } ∧ Grows s.heap h' ∧ ∀ g, NewIn s.heap h' g → R y g
theorem elt_back {s : Shared} {R : Value → Heap → Prop} {y : Value} {h' : Heap} {tk : Nat} (g : Grows s.heap h') (n : ∀ g, NewIn s.heap h' g → R y g) : EltBack s R y { s with heap := h', toks := tk } := ⟨h', tk, rfl, g, n⟩
/-- a thing that can be walked -/
def Src (w : World) (A : Around) (n : Nat) (P : Nat → Value → Prop) (xv : Value) (s₁ : Shared) : Prop :=
  ∀ (Q : Value → Shared → Prop) (E : Value → Shared → Prop), (∀ (I : Addr) (h' : Heap) (tk : Nat) (fp : List Addr) (St : Nat → Heap → Prop), Grows s₁.heap h' → s₁.heap.objs.size ≤ h'.objs.size → s₁.heap.get? I = none → (∀ i h, St i h → ∃ o, h.get? I = some o) → Walks P0 w A I fp [I] n P St → St 0 h' →
    (∀ b ∈ fp, b < h'.objs.size) → Q (.ref I) { s₁ with heap := h', toks := tk }) → wpAny (model P0 w) A (pyIter xv) Q E s₁

section
variable {w : World} {A : Around} {E : Value → Shared → Prop} {env : Env}

/-- the elements' rule: base is all that stood when the source was there -/
def Elt (w : World) (A : Around) (env : Env) (scope : Scope) (cl : List (Str × Addr)) (x : Str) (elt : Expr) (P : Nat → Value → Prop) (R : Value → Value → Heap → Prop) (base : Heap) : Prop :=
  ∀ (C : Addr) (i : Nat) (v : Value) (s : Shared) (m : Str → Option Value), P i v → m x = some v → Fr base C s.heap m → 
    ∀ E : Value → Shared → Prop, wpAny (model P0 w) A (eval elt (compEnvC scope cl C env)) (EltBack s (R v)) E s

theorem comp_loop {elt iter : Expr} {x : Str} {px : Pos} {scope : Scope} {cl : List (Str × Addr)} {pos : Pos} {I D C : Addr} {fp : List Addr} {n : Nat} {P : Nat → Value → Prop} {St : Nat → Heap → Prop}
    {R : Value → Value → Heap → Prop} {base : Heap} {m : Str → Option Value} {s : Shared} {RR : Result → Shared → Prop} (W : Walks P0 w A I fp [I] n P St) (hlive : ∀ i h, St i h → ∃ o, h.get? I = some o)
    (hmono : ∀ v y g g', Grows g g' → R v y g → R v y g') (he : Elt w A env scope cl x elt P R base)
    (hx : scope.names.lookup x = some .local) (hk : scope.kind = .function)
    (hDC : D ≠ C) (hDf : D ∉ fp) (hCf : C ∉ fp) (hIb : base.get? I = none) (hDb : base.get? D = none) (hbase : Grows base s.heap) (hCb : base.objs.size ≤ C)
    (hst : St 0 s.heap) (hacc : s.heap.PlainList D #[]) (hn : s.heap.Ns C m)
    (hR : ∀ h' tk m' ys (vs : List Value) g, h'.Ns C m' → h'.PlainList D ys → vs.length = n → (∀ j v, vs[j]? = some v → P j v) → Grows g h' → (∀ b o, s.heap.get? b = some o → g.get? b = none) →
      Paired (fun v y => R v y g) vs ys.toList → Grows base h' → RR (.ok .next) { s with heap := h', toks := tk }) (hsz : n ≤ sizeLine) :
    codeAny (model P0 w) A (.compLoop (.ListComp elt [⟨.Name x px, iter, [], 0⟩] scope pos) 0 (.ref I) (.ref D) (compEnvC scope cl C env)) RR s := by
  have hCw : C ∉ [I] := fun q => hCf (W.sub _ q)
  have hDw : D ∉ [I] := fun q => hDf (W.sub _ q)
  have hCI : C ≠ I := by simpa using hCw
  have hDI : D ≠ I := by simpa using hDw
  have hCb' : base.get? C = none := Heap.get?_none_of_le hCb
  have aI : ∃ o, s.heap.get? I = some o := hlive _ _ hst
  have aD : ∃ o, s.heap.get? D = some o := let ⟨_, e⟩ := hacc; ⟨_, e⟩
  have aC : ∃ o, s.heap.get? C = some o := let ⟨o, _, _, e, _⟩ := hn; ⟨o, e⟩
  refine codeAny_compLoop_tests
    (fun k s' => ∃ h' tk m' ys, ∃ vs : List Value, ∃ g, s' = { s with heap := h', toks := tk } ∧ St vs.length h' ∧ h'.PlainList D ys ∧ h'.Ns C m' ∧ (∀ j v, vs[j]? = some v → P j v) ∧
      Grows g h' ∧ (∀ b o, s.heap.get? b = some o → g.get? b = none) ∧ Paired (fun v y => R v y g) vs ys.toList ∧ vs.length ≤ n ∧ k = n + 1 - vs.length ∧
      Grows base h' ∧ (∀ b o, s.heap.get? b = some o → ∃ o', h'.get? b = some o')) ?_ (n + 1)
    ⟨s.heap, s.toks, m, #[], [], fresh s.heap s.heap, rfl, hst, hacc, hn, by simp, fresh_sub _ _, fun b o e => fresh_none e, by simpa using Paired.nil, Nat.zero_le _, rfl, hbase, fun b o e => ⟨o, e⟩⟩
  rintro k s' ⟨H, tk, m', ys, vs, g, rfl, hst', hacc', hn', hP, hg, hgn, hF, hi, rfl, hb, hal⟩
  by_cases hlt : vs.length < n
  · refine W.item vs.length _ _ _ hlt hst' fun v h₁ tk₁ hPv hst₁ hk₁ => ?_
    refine wpAny_assign_Name (wpAny_storeName_local (lookup_relabel_local hx) (hn'.at' fun o e => hk₁ _ o hCw e) (fun h₂ hn₂ hs₂ => ?_) (by simp [compEnvC, relabel, hk]))
    have up₂ : ∀ b o, b ≠ C → b ≠ I → H.get? b = some o → h₂.get? b = some o := fun b o hbC hbI e => hs₂.extBut b o hbC (hk₁ b o (by simpa using hbI) e)
    have hst₂ : St (vs.length + 1) h₂ := W.frame _ _ _ hst₁ fun b hb' o e => hs₂.extBut b o (fun q => hCf (by have q' : b = C := q; rw [← q']; exact hb')) e
    have hb₂ : Grows base h₂ := fun b o e => up₂ b o (fun q => by rw [q, hCb'] at e; cases e) (fun q => by rw [q, hIb] at e; cases e) (hb b o e)
    have gC : g.get? C = none := let ⟨o, e⟩ := aC; hgn _ o e
    have gI : g.get? I = none := let ⟨o, e⟩ := aI; hgn _ o e
    have gD : g.get? D = none := let ⟨o, e⟩ := aD; hgn _ o e
    have hg₂ : Grows g h₂ := fun b o e => up₂ b o (fun q => by rw [q, gC] at e; cases e) (fun q => by rw [q, gI] at e; cases e) (hg b o e)
    refine wpAny_tests_nil ?_
    simp only [if_true]
    have hal₂ : ∀ b o, s.heap.get? b = some o → ∃ o', h₂.get? b = some o' := fun b o e => by
      by_cases hbC : b = C
      · subst hbC; obtain ⟨o', _, _, e', _⟩ := hn₂; exact ⟨o', e'⟩
      · by_cases hbI : b = I
        · subst hbI; exact hlive _ _ hst₂
        · obtain ⟨o', e'⟩ := hal b o e; exact ⟨o', up₂ b o' hbC hbI e'⟩
    refine wpAny_mono (he C vs.length v { s with heap := h₂, toks := _ } _ hPv (by simp) ⟨hn₂, hb₂, hCb⟩ (notedBy (model P0 w) A (compEnvC scope cl C env) fun e s' => RR (.error e) s')) (fun y s₄ h₄ => ?_) fun _ _ e => e
    obtain ⟨h₄, tk₄, rfl, hk₄, hRy⟩ := h₄
    have hacc₄ : h₄.PlainList D ys := (hacc'.at fun o e => up₂ D o hDC hDI e).at fun o e => hk₄ _ o e
    have hys : ys.size ≤ sizeLine := by
      have e1 := hF.length
      have e4 : ys.toList.length = ys.size := by simp
      (first | lia | omega)
    refine wpAny_list_append_plain (hsz := hys) hacc₄ fun h₅ hl₅ hs₅ => ?_
    have sub45 : Grows (fresh s.heap h₄) h₅ := fun b o e => hs₅.extBut b o (fun q => by
      obtain ⟨o', e'⟩ := aD
      rw [q, fresh_none e'] at e; cases e) (fresh_sub _ _ b o e)
    have gg : Grows g (fresh s.heap h₄) := fun b o e => fresh_get (by
      cases q : s.heap.get? b with
      | none => rfl
      | some o' => rw [hgn b o' q] at e; cases e) (hk₄ b o (hg₂ b o e))
    refine ⟨n + 1 - (vs.length + 1), by (first | lia | omega), h₅, tk₄, _, ys.push y, vs ++ [v], fresh s.heap h₄, rfl, ?_, hl₅, (hn₂.keeps hk₄).sameBut hs₅ (Ne.symm hDC), fun j u hj => ?_, sub45, fun b o e => fresh_none e, ?_,
      (by rw [List.length_append, List.length_singleton]; exact hlt), (by rw [List.length_append, List.length_singleton]), fun b o e => hs₅.extBut b o (fun q => by rw [q, hDb] at e; cases e) (hk₄ b o (hb₂ b o e)), fun b o e => ?_⟩
    · have := W.frame _ _ h₅ hst₂ fun b hb' o e => hs₅.extBut b o (fun q => hDf (q ▸ hb')) (hk₄ b o e)
      simpa using this
    · rcases Nat.lt_trichotomy j vs.length with q | q | q
      · exact hP j u (by rwa [List.getElem?_append_left q] at hj)
      · subst q; simp at hj; subst hj; exact hPv
      · have hnone : (vs ++ [v])[j]? = none := List.getElem?_eq_none (by rw [List.length_append, List.length_singleton]; (first | lia | omega))
        rw [hnone] at hj; cases hj
    · have h1 : Paired (fun v y => R v y (fresh s.heap h₄)) vs ys.toList := hF.mono fun v y q => hmono v y _ _ gg q
      have h2 : R v y (fresh s.heap h₄) := hRy _ fun b o nb e => fresh_get (by
        cases q : s.heap.get? b with
        | none => rfl
        | some o' => obtain ⟨o'', e''⟩ := hal₂ b o' q; rw [show h₂.get? b = none from nb] at e''; cases e'') e
      simpa using Paired.snoc h1 h2
    · obtain ⟨o', e'⟩ := hal₂ b o e
      by_cases hbD : b = D
      · subst hbD; obtain ⟨_, e''⟩ := hl₅; exact ⟨_, e''⟩
      · exact ⟨o', hs₅.extBut b o' hbD (hk₄ b o' e')⟩
  · have hin : vs.length = n := by (first | lia | omega)
    refine W.done _ _ _ (hin ▸ hst') fun h₁ tk₁ hk₁ => ?_
    have gI : g.get? I = none := let ⟨o, e⟩ := aI; hgn _ o e
    exact hR h₁ tk₁ m' ys vs g (hn'.at' fun o e => hk₁ _ o hCw e) (hacc'.at fun o e => hk₁ _ o hDw e) hin hP (fun b o e => hk₁ b o (by simpa using fun q => by rw [q, gI] at e; cases e) (hg b o e)) hgn hF
      fun b o e => hk₁ b o (by simpa using fun q => by rw [q, hIb] at e; cases e) (hb b o e)

/-- what a comprehension leaves: the list, its items' graphs all new -/
structure CompOut (h₀ : Heap) (L : Addr) (m : Str → Option Value) (news : List (Addr × Obj)) (s₁ : Shared) (n : Nat) (P : Nat → Value → Prop) (R : Value → Value → Heap → Prop) (D : Addr) (c : Nat) (ys : Array Value) (vs : List Value) (g h' : Heap) : Prop where
  F : Fr h₀ L h' m
  N : News h₀ L h' ((D, listOf ys c) :: news)
  above : ∀ q ∈ news, q.1 ≠ D
  len : vs.length = n
  items : ∀ j v, vs[j]? = some v → P j v
  sub : Grows g h'
  off : ∀ b o, s₁.heap.get? b = some o → g.get? b = none
  offD : g.get? D = none
  pairs : Paired (fun v y => R v y g) vs ys.toList

theorem comp_but {h₀ : Heap} {L C : Addr} {m : Str → Option Value} {news : List (Addr × Obj)} {s₁ : Shared} {n : Nat} {P : Nat → Value → Prop} {R : Value → Value → Heap → Prop} {D : Addr} {c : Nat} {ys : Array Value} {vs : List Value} {g h' h'' : Heap}
    (O : CompOut h₀ L m news s₁ n P R D c ys vs g h') (hs : Heap.SameBut C h' h'') (hL : L ≠ C) (hn : ∀ p ∈ news, p.1 ≠ C) (hD : D ≠ C) (gC : g.get? C = none) (h0 : h₀.get? C = none) : CompOut h₀ L m news s₁ n P R D c ys vs g h'' :=
  ⟨O.F.change hs (Ne.symm hL) h0, fun p hp => ⟨hs.extBut _ _ (by
      rcases List.mem_cons.mp hp with rfl | hp
      · exact hD
      · exact hn p hp) (O.N p hp).1, (O.N p hp).2⟩, O.above, O.len, O.items, fun b o e => hs.extBut b o (fun q => by rw [q, gC] at e; cases e) (O.sub b o e), O.off, O.offD, O.pairs⟩

theorem comp_block {elt iter : Expr} {x : Str} {px : Pos} {scope : Scope} {cl : List (Str × Addr)} {pos : Pos} {n : Nat} {P : Nat → Value → Prop} {R : Value → Value → Heap → Prop} {xv : Value} {s₁ : Shared}
    {RR : Value → Addr → Result → Shared → Prop} {h₀ : Heap} {L : Addr} {m : Str → Option Value} {news : List (Addr × Obj)}
    (src : Src w A n P xv s₁) (hsz : n ≤ sizeLine) (hmono : ∀ v y g g', Grows g g' → R v y g → R v y g') (he : Elt w A env scope cl x elt P R s₁.heap) (F : Fr h₀ L s₁.heap m) (N : News h₀ L s₁.heap news)
    (hcell : ∀ y ∈ scope.names, y.2 ≠ .cell) (hk : scope.kind = .function) (hx : scope.names.lookup x = some .local)
    (hRR : ∀ D C h' tk m' ys c vs g, CompOut h₀ L m news s₁ n P R D c ys vs g h' → h'.Ns C m' → (∀ b o, s₁.heap.get? b = some o → b ≠ C) → D ≠ C → g.get? C = none → RR (.ref D) C (.ok .next) { s₁ with heap := h', toks := tk }) :
    wpAny (model P0 w) A (pyIter xv) (fun it s₂ => wpAny (model P0 w) A (newList []) (fun acc s₃ => wpAny (model P0 w) A (newFunctionEnv scope env.globals cl [] env.qual none .none (some env)) (fun cenv s₄ =>
      codeAny (model P0 w) A (.compStart (.ListComp elt [⟨.Name x px, iter, [], 0⟩] scope pos) 0 it acc { cenv with scope := relabel scope env }) (RR acc cenv.locals) s₄) E s₃) E s₂) E s₁ := by
  refine src _ _ fun I H tk fp St hgI hsize hI hlive W hst hfp => ?_
  refine wpAny_newObj_type (wpAny_newFunctionEnv hcell (by intro y hy; simp at hy) (fun h₁ hns₁ hsb₁ => ?_) hk)
  dsimp only at hns₁ hsb₁ ⊢
  generalize hH2 : H.push { cls := .type "list", dict := none, data := .seq ([] : List Value).toArray } = H2 at hns₁ hsb₁ ⊢
  have hC : H2.objs.size = H.objs.size + 1 := by rw [← hH2, Heap.size_push]
  have hDC : H.objs.size ≠ H2.objs.size := by rw [hC]; exact Nat.ne_of_lt (Nat.lt_succ_self _)
  have below : ∀ b, b < H.objs.size → b ≠ H2.objs.size ∧ b ≠ H.objs.size := fun b hb => ⟨by rw [hC]; exact Nat.ne_of_lt (Nat.lt_succ_of_lt hb), Nat.ne_of_lt hb⟩
  have hDf : H.objs.size ∉ fp := fun hm => Nat.lt_irrefl _ (hfp _ hm)
  have hCf : H2.objs.size ∉ fp := fun hm => by have := hfp _ hm; rw [hC] at this; exact Nat.lt_irrefl _ (Nat.lt_of_succ_lt this)
  have old : ∀ b o, H.get? b = some o → h₁.get? b = some o := fun b o e => hsb₁.extBut b o (below b (Heap.lt_size e)).1 (Heap.get?_push_of_some _ (hH2 ▸ Heap.get?_push_of_some _ e))
  have hacc : h₁.PlainList H.objs.size #[] := ⟨_, hsb₁.extBut _ _ hDC (Heap.get?_push_of_some _ (hH2 ▸ Heap.get?_push_size _ rfl))⟩
  have hst₁ : St 0 h₁ := W.frame _ _ _ hst fun b _ o e => old b o e
  have hDb : s₁.heap.get? H.objs.size = none := Heap.get?_none_of_le hsize
  have hCb : s₁.heap.get? H2.objs.size = none := Heap.get?_none_of_le (by (first | lia | omega))
  have hbase : Grows s₁.heap h₁ := fun b o e => old b o (hgI b o e)
  have loop : ∀ s₃ : Shared, s₃ = { s₁ with heap := h₁, toks := tk + ([] : List (Str × Value)).length } →
      codeAny (model P0 w) A (.compLoop (.ListComp elt [⟨.Name x px, iter, [], 0⟩] scope pos) 0 (.ref I) (.ref H.objs.size) (compEnvC scope cl H2.objs.size env)) (RR (.ref H.objs.size) H2.objs.size) s₃ := by
    rintro s₃ rfl
    refine comp_loop W hlive hmono he hx hk hDC hDf hCf hI hDb hbase (by (first | lia | omega)) hst₁ hacc hns₁ (fun h' tk' m' ys vs g hnC hpl hlen hP hg hoff hpair hb => ?_) hsz
    obtain ⟨c, hDo⟩ := hpl
    have gD : g.get? H.objs.size = none := let ⟨_, e⟩ := hacc; hoff _ _ e
    have gC : g.get? H2.objs.size = none := let ⟨o, _, _, e, _⟩ := hns₁; hoff _ o e
    have hLD : H.objs.size ≠ L := fun q => by
      obtain ⟨o, _, _, e, _⟩ := F.ns
      rw [← q, hDb] at e; cases e
    refine hRR _ _ h' tk' m' ys c vs g ⟨F.keeps hb, fun p hp => ?_, fun q hq z => ?_, hlen, hP, hg, fun b o e => hoff b o (hbase b o e), gD, hpair⟩ hnC (fun b o e z => by rw [z, hCb] at e; cases e) hDC gC
    · rcases List.mem_cons.mp hp with rfl | hp
      · refine ⟨hDo, hLD, ?_⟩
        cases q : h₀.get? H.objs.size with
        | none => rfl
        | some o => have := F.keep _ o q; rw [hDb] at this; cases this
      · exact ⟨hb _ _ (N p hp).1, (N p hp).2⟩
    · have := (N q hq).1
      rw [z, hDb] at this; cases this
  exact codeAny_compStart_list (loop _ rfl) (W.self 0 _ _ _ hst₁ (loop _ rfl))

/-- what a comprehension asks of the value it walks -/
def CN (w : World) (A : Around) (env : Env) (scope : Scope) (cl : List (Str × Addr)) (x : Str) (elt : Expr) (L : Option Addr) (K : ∀ (_h₀ : Heap) (_L : Addr) (_m : Str → Option Value) (_news : List (Addr × Obj)) (_s₁ : Shared) (_n : Nat) (_P : Nat → Value → Prop) (_R : Value → Value → Heap → Prop), Prop) (xv : Value) (s₁ : Shared) : Prop :=
  ∃ h₀ L' m news n P R, (∀ l, L = some l → L' = l) ∧ Src w A n P xv s₁ ∧ n ≤ sizeLine ∧ (∀ v y g g', Grows g g' → R v y g → R v y g') ∧ Elt w A env scope cl x elt P R s₁.heap ∧ Fr h₀ L' s₁.heap m ∧ News h₀ L' s₁.heap news ∧ K h₀ L' m news s₁ n P R
theorem CN.intro {w : World} {A : Around} {env : Env} {scope : Scope} {cl : List (Str × Addr)} {x : Str} {elt : Expr} {L : Option Addr} {K : ∀ (_h₀ : Heap) (_L : Addr) (_m : Str → Option Value) (_news : List (Addr × Obj)) (_s₁ : Shared) (_n : Nat) (_P : Nat → Value → Prop) (_R : Value → Value → Heap → Prop), Prop} {xv : Value} {s₁ : Shared}
    {h₀ : Heap} {L' : Addr} {m : Str → Option Value} {news : List (Addr × Obj)} {n : Nat} {P : Nat → Value → Prop} (R : Value → Value → Heap → Prop) (hl : ∀ l, L = some l → L' = l) (src : Src w A n P xv s₁) (hz : n ≤ sizeLine) (mono : ∀ v y g g', Grows g g' → R v y g → R v y g')
    (F : Fr h₀ L' s₁.heap m) (N : News h₀ L' s₁.heap news) (he : Elt w A env scope cl x elt P R s₁.heap) (k : K h₀ L' m news s₁ n P R) : CN w A env scope cl x elt L K xv s₁ := ⟨h₀, L', m, news, n, P, R, hl, src, hz, mono, he, F, N, k⟩
theorem comp_eval {elt iter : Expr} {x : Str} {px : Pos} {scope : Scope} {cl : List (Str × Addr)} {pos : Pos} {s : Shared} {Q : Value → Shared → Prop}
    (hclos : closureFor scope env = pure cl) (hcell : ∀ y ∈ scope.names, y.2 ≠ .cell) (hk : scope.kind = .function)
    (hnames : ∀ y ∈ scope.names, y.2 = .local → scope.names.lookup y.1 = some .local) (hx : scope.names.lookup x = some .local)
    (hs : ∀ x, foldedSetIterable iter env x = pure x)
    (h : wpAny (model P0 w) A (eval iter env) (CN w A env scope cl x elt none fun h₀ L m news s₁ n P R => 
      ∀ D h' tk ys c vs g, CompOut h₀ L m news s₁ n P R D c ys vs g h' → Q (.ref D) { s₁ with heap := h', toks := tk }) E s) :
    wpAny (model P0 w) A (eval (.ListComp elt [⟨.Name x px, iter, [], 0⟩] scope pos) env) Q E s := by
  rw [eval_ListComp]
  refine wpAny_comprehension_free (use := none) rfl hs hclos hk hnames (wpAny_mono h (fun xv s₁ h₁ => ?_) fun _ _ e => e)
  obtain ⟨h₀, L, m, news, n, P, R, -, src, hsz, hmono, he, F, N, hQ⟩ := h₁
  refine comp_block (RR := fun acc C => compPost (model P0 w) A E none Q acc C) src hsz hmono he F N hcell hk hx ?_
  intro D C h' tk m' ys c vs g O hnC hbC hDC gC
  refine ⟨m', hnC, fun h'' hs'' => hQ D h'' tk ys c vs g ?_⟩
  exact comp_but O hs'' (fun q => by obtain ⟨o, _, _, e, _⟩ := F.ns; exact hbC _ o e q) (fun p hp => hbC _ _ (N p hp).1) hDC gC (by
    cases q : h₀.get? C with
    | none => rfl
    | some o => exact absurd rfl (hbC C o (F.keep _ _ q)))

theorem comp_assign {elt iter : Expr} {x y : Str} {px py : Pos} {scope : Scope} {cl : List (Str × Addr)} {pos spos : Pos} {s : Shared} {Q : Flow → Shared → Prop}
    (hsw : swapsWith (.ListComp elt [⟨.Name x px, iter, [], 0⟩] scope pos) (some (.Name y py)) spos.line env = pure true)
    (hclos : closureFor scope env = pure cl) (hcell : ∀ y ∈ scope.names, y.2 ≠ .cell) (hk : scope.kind = .function)
    (hnames : ∀ y ∈ scope.names, y.2 = .local → scope.names.lookup y.1 = some .local) (hx : scope.names.lookup x = some .local)
    (hs : ∀ x, foldedSetIterable iter env x = pure x)
    (hy : env.kindOf y = some .local) (hp : (env.scope.kind == .class || (env.scope.kind == .module && env.locals != env.globals)) = false)
    (h : wpAny (model P0 w) A (eval iter env) (CN w A env scope cl x elt (some env.locals) fun h₀ L m news s₁ n P R =>
      ∀ D h' tk ys c vs g, CompOut h₀ L (fun z => if z = y then some (.ref D) else m z) news s₁ n P R D c ys vs g h' → Q .next { s₁ with heap := h', toks := tk }) E s) :
    wpAny (model P0 w) A (exec (.Assign [.Name y py] (.ListComp elt [⟨.Name x px, iter, [], 0⟩] scope pos) spos) env) Q E s := by
  rw [exec_Assign_Name_used _ _ _ _ hsw]
  refine wpAny_bind (wpAny_standAt (wpAny_bind ?_))
  show wpAny _ A (do let _ ← comprehension (.ListComp elt [⟨.Name x px, iter, [], 0⟩] scope pos) scope env _ (newList []) false (eval iter env) (some (assign (.Name y py) env))) _ _ s
  refine wpAny_bind (wpAny_mono (wpAny_comprehension_free (use := some (assign (.Name y py) env)) (Q := fun _ s' => Q .next s') rfl hs hclos hk hnames
    (wpAny_mono h (fun xv s₁ h₁ => ?_) fun _ _ e => e)) (fun _ s' hq => wpAny_pure (wpAny_pure hq)) fun _ _ e => e)
  obtain ⟨h₀, L, m, news, n, P, R, hL, src, hsz, hmono, he, F, N, hQ⟩ := h₁
  obtain rfl := hL _ rfl
  refine comp_block (RR := fun acc C => compPost (model P0 w) A E (some (assign (.Name y py) env)) (fun _ s' => Q .next s') acc C) src hsz hmono he F N hcell hk hx ?_
  intro D C h' tk m' ys c vs g O hnC hbC hDC gC
  have hLC : env.locals ≠ C := fun q => by obtain ⟨o, _, _, e, _⟩ := F.ns; exact hbC _ o e q
  show wpAny _ A (assign (.Name y py) env (.ref D)) _ _ _
  refine wpAny_assign_Name (wpAny_storeName_local hy O.F.ns (fun h₂ hn₂ hs₂ => ?_) hp)
  have gL : g.get? env.locals = none := by obtain ⟨o, _, _, e, _⟩ := F.ns; exact O.off _ o e
  have hL₀ : h₀.get? env.locals = none := Heap.get?_none_of_le O.F.above
  have O₂ : CompOut h₀ env.locals (fun z => if z = y then some (.ref D) else m z) news s₁ n P R D c ys vs g h₂ :=
    ⟨O.F.set hn₂ hs₂, O.N.set hs₂, O.above, O.len, O.items, fun b o e => hs₂.extBut b o (fun q => by rw [q, gL] at e; cases e) (O.sub b o e), O.off, O.offD, O.pairs⟩
  refine ⟨m', hnC.sameBut hs₂ (Ne.symm hLC), fun h'' hs'' => hQ D h'' _ ys c vs g ?_⟩
  exact comp_but O₂ hs'' hLC (fun p hp => hbC _ _ (N p hp).1) hDC gC (by
    cases q : h₀.get? C with
    | none => rfl
    | some o => exact absurd rfl (hbC C o (F.keep _ _ q)))
end
end
section -- CE
/-! what a comprehension walks; names in its block -/
section
variable {w : World} {A : Around} {s₁ : Shared}
theorem src_list {ax : Addr} {items : Array Value} (hh : A.handled = none) (hl : s₁.heap.IsList ax items) : Src w A items.size (fun i v => items[i]? = some v) (.ref ax) s₁ := by
  intro Q E k
  have hlt : ax < s₁.heap.objs.size := by obtain ⟨_, e, _⟩ := hl; exact Heap.lt_size e
  refine wpAny_pyIter_list hl (k s₁.heap.objs.size _ s₁.toks [s₁.heap.objs.size, ax] _ (fun _ _ e => Heap.get?_push_of_some _ e) (by rw [Heap.size_push]; (first | lia | omega)) (Heap.get?_none_of_le (Nat.le_refl _)) (fun i h st => ?_)
    (Walks.list hh s₁.heap.objs.size ax (Nat.ne_of_lt hlt) items) ⟨⟨_, Heap.get?_push_size _ rfl, rfl, rfl⟩, hl.push _⟩ fun b hb => ?_)
  · obtain ⟨o, e, _⟩ := st.1; exact ⟨o, e⟩
  · rw [Heap.size_push]
    simp only [List.mem_cons, List.not_mem_nil, or_false] at hb
    rcases hb with rfl | rfl
    · exact Nat.lt_succ_self _
    · exact Nat.lt_succ_of_lt hlt
theorem src_tuple {ax : Addr} {items : Array Value} (hh : A.handled = none) (hl : s₁.heap.IsTuple ax items) : Src w A items.size (fun i v => items[i]? = some v) (.ref ax) s₁ := by
  intro Q E k
  have hlt : ax < s₁.heap.objs.size := by obtain ⟨_, e, _⟩ := hl; exact Heap.lt_size e
  refine wpAny_pyIter_tuple hl (k s₁.heap.objs.size _ s₁.toks [s₁.heap.objs.size, ax] _ (fun _ _ e => Heap.get?_push_of_some _ e) (by rw [Heap.size_push]; (first | lia | omega)) (Heap.get?_none_of_le (Nat.le_refl _)) (fun i h st => ?_)
    (Walks.tuple hh s₁.heap.objs.size ax (Nat.ne_of_lt hlt) items) ⟨⟨_, Heap.get?_push_size _ rfl, rfl, rfl⟩, hl.at fun o e => Heap.get?_push_of_some _ e⟩ fun b hb => ?_)
  · obtain ⟨o, e, _⟩ := st.1; exact ⟨o, e⟩
  · rw [Heap.size_push]
    simp only [List.mem_cons, List.not_mem_nil, or_false] at hb
    rcases hb with rfl | rfl
    · exact Nat.lt_succ_self _
    · exact Nat.lt_succ_of_lt hlt
theorem src_range {r : Addr} {a b : Int} {t u v : Tok} {n : Nat} (hh : A.handled = none) (hr : IsRange s₁.heap r a b 1 t u v) (hsm : Builtin.Range.small a b 1 = true) (hn : Builtin.Range.rangeSize a b 1 = ((n : Nat) : Int)) :
    Src w A n (fun i v => ∃ t, v = .int (a + i * 1) t) (.ref r) s₁ := by
  intro Q E k
  refine wpAny_pyIter_range hr hsm (k s₁.heap.objs.size _ s₁.toks [s₁.heap.objs.size] _ (fun _ _ e => Heap.get?_push_of_some _ e) (by rw [Heap.size_push]; (first | lia | omega)) (Heap.get?_none_of_le (Nat.le_refl _)) (fun i h st => ⟨_, st⟩)
    (Walks.range hh s₁.heap.objs.size a 1 n) (by show IsRangeIter _ _ _ _ _; rw [hn]; simpa using Heap.get?_push_size _ rfl) fun b hb => ?_)
  rw [Heap.size_push, List.mem_singleton.mp hb]; exact Nat.lt_succ_self _
end
section
variable {M : Model} {A : Around} {E : Value → Shared → Prop} {s : Shared} {K : Frag} {base : Heap} {C : Addr} {m mg mb : Str → Option Value} {scope : Scope} {cl : List (Str × Addr)} {env : Env} {p : Program} {loose : List Str} {x : Str} {pos : Pos} {v : Value} {Q : Value → Shared → Prop}
theorem cn_local (F : Fr base C s.heap m) (hv : m x = some v) (h : Q v s)
    (hk : (compEnvC scope cl C env).scope.kind = .function := by rfl) (hl : (compEnvC scope cl C env).kindOf x = some .local := by rfl) (hd : (x == ("__debug__" : Str)) = false := by decide) :
    wpAny M A (eval (.Name x pos) (compEnvC scope cl C env)) Q E s := wpAny_Name (wpAny_loadName_local hk hl F.ns hv h) hd
theorem cn_cell {c : Addr} {o : Obj} (F : Fr base C s.heap m) (hc : cl.lookup x = some c) (ho : base.get? c = some o) (ho' : o.data = .cell (some v)) (h : Q v s)
    (hk : (compEnvC scope cl C env).scope.kind = .function := by rfl) (hl : (compEnvC scope cl C env).kindOf x = some .cell := by rfl) (hd : (x == ("__debug__" : Str)) = false := by decide) :
    wpAny M A (eval (.Name x pos) (compEnvC scope cl C env)) Q E s := wpAny_Name (wpAny_loadName_cell hk hl hc ⟨o, F.keep _ _ ho, ho'⟩ h) hd
theorem cn_global (F : Fr base C s.heap m) (X : K.In base) (T : TopRead p loose mg mb base) (e : nsIn K mainGlobals x = some (some v)) (h : Q v s) (hg : env.globals = mainGlobals := by rfl)
    (hk : (compEnvC scope cl C env).scope.kind = .function := by rfl) (hx : (compEnvC scope cl C env).kindOf x = some .globalImplicit := by rfl) (hd : (x == ("__debug__" : Str)) = false := by decide) :
    wpAny M A (eval (.Name x pos) (compEnvC scope cl C env)) Q E s :=
  Name_function_global hk hx (loadGlobal_global (env := compEnvC scope cl C env) (show s.heap.Ns env.globals mg from hg ▸ T.g.keeps F.keep) (mg_of X T.g e) h) hd
theorem cn_built (F : Fr base C s.heap m) (X : K.In base) (T : TopRead p loose mg mb base) (e : nsIn K mainGlobals x = some none) (hv : bootBuiltins x = some v) (hn : x ≠ "__name__") (h : Q v s) (hg : env.globals = mainGlobals := by rfl) (hb : env.builtins = builtinsNs := by rfl)
    (hk : (compEnvC scope cl C env).scope.kind = .function := by rfl) (hx : (compEnvC scope cl C env).kindOf x = some .globalImplicit := by rfl) (hd : (x == ("__debug__" : Str)) = false := by decide) :
    wpAny M A (eval (.Name x pos) (compEnvC scope cl C env)) Q E s :=
  Name_function_global hk hx (loadGlobal_builtin (env := compEnvC scope cl C env) (show s.heap.Ns env.globals mg from hg ▸ T.g.keeps F.keep) (mg_none_of X T.g e) (show s.heap.Ns env.builtins mb from hb ▸ T.b.keeps F.keep) ((T.builtins x hn).trans hv) h) hd
end
end
section -- JR
/-! bytes.join of a list of octets -/
def IsB (v : Value) (l : List UInt8) : Prop := ∃ t, v = .bytes ⟨l⟩ t
section
open Builtin Builtin.Bytes
theorem take_quiet (b : Array UInt8) (t : Tok) : takeBufferQuiet? "bytes.join" (.bytes b t) 0 = pure (some (b, none)) := by kernel_rfl
theorem slot_join : Slot "bytes" "join" "bytes.join" :=
  .of (owner := "bytes") (n := "join") (by rw [typeLookup_type, builtinLookup_eq_fast]; kernel_rfl) (by decide +kernel) (by decide +kernel) (by decide +kernel)
    (by first | exact .inl (by decide +kernel) | exact .inr (by decide +kernel)) (by rw [isSubtype_type]; kernel_rfl)
theorem entry_join : entryFor table "bytes.join" = some Builtin.«bytes.join» := entryFor_of_fast (by kernel_rfl)
theorem args_join (a b : Value) : argsOk "bytes.join" ⟨[a, b], []⟩ := by unfold argsOk; kernel_rfl
theorem type_join : typeOf (.builtin "bytes.join") = pure (.type "method_descriptor") := by show builtinType _ = _; rw [builtinType_eq_fast]; kernel_rfl
theorem one_join (a b : Value) : selfAndOne "bytes.join" ⟨[a, b], []⟩ = pure (a, b) := by kernel_rfl
theorem ga_bytes : typeLookup (.type "bytes") "__getattribute__" = pure (some (.builtin "bytes.__getattribute__")) := by rw [typeLookup_type, builtinLookup_eq_fast]; kernel_rfl
theorem canon_ga_bytes : (Manifest.canonical "bytes.__getattribute__" != "object.__getattribute__") = false := by decide +kernel
theorem no_getattr_bytes : typeLookup (.type "bytes") "__getattr__" = pure none := by rw [typeLookup_type, builtinLookup_eq_fast]; kernel_rfl
variable {prog : Program} {w : World} {M : Model} {A : Around} {E : Value → Shared → Prop} {s : Shared}
theorem join_method {b : Array UInt8} {t : Tok} {pl : Sem Bool} {Q : Value × List Value → Shared → Prop} (h : Q (.builtin "bytes.join", [.bytes b t]) s) :
    wpAny M A (getMethod (.bytes b t) (PySem.Str.ofString "join") pl) Q E s :=
  getMethod_value (T := "bytes") (name := PySem.Str.ofString "join") (ga := "bytes.__getattribute__") (id := "bytes.join") (typeIs_bytes s b t) (by intro _ x; cases x) ga_bytes canon_ga_bytes no_getattr_bytes slot_join.lookup type_join h
theorem joined_nil (parts : List (Array UInt8)) (n : Nat) (out : Array UInt8) : (parts.zipIdx n).foldl (fun out (x : Array UInt8 × Nat) => (if x.2 > 0 then out ++ (#[] : Array UInt8) else out) ++ x.1) out = out ++ parts.foldl (· ++ ·) #[] := by
  induction parts generalizing n out with
  | nil => simp
  | cons p r ih =>
    rw [List.zipIdx_cons, List.foldl_cons, ih, List.foldl_cons]
    have e : (if n > 0 then out ++ (#[] : Array UInt8) else out) = out := by split <;> simp
    rw [e]
    have f : ∀ (r : List (Array UInt8)) (a : Array UInt8), r.foldl (· ++ ·) a = a ++ r.foldl (· ++ ·) #[] := by
      intro r
      induction r with
      | nil => intro a; simp
      | cons x r ih => intro a; rw [List.foldl_cons, List.foldl_cons, ih (a ++ x), ih (#[] ++ x), Array.append_assoc]; simp
    rw [f r (#[] ++ p), Array.append_assoc]; simp
theorem fold_flat (ls : List (List UInt8)) : (ls.map fun l => (⟨l⟩ : Array UInt8)).foldl (· ++ ·) #[] = ⟨ls.flatten⟩ := by
  have f : ∀ (r : List (List UInt8)) (a : List UInt8), (r.map fun l => (⟨l⟩ : Array UInt8)).foldl (· ++ ·) ⟨a⟩ = ⟨a ++ r.flatten⟩ := by
    intro r
    induction r with
    | nil => intro a; simp
    | cons x r ih =>
      intro a
      have e : (⟨a⟩ ++ ⟨x⟩ : Array UInt8) = ⟨a ++ x⟩ := by apply Array.toList_inj.mp; simp
      rw [List.map_cons, List.foldl_cons, e, ih, List.flatten_cons, List.append_assoc]
  simpa using f ls []
theorem list_quiet {β : Type} {f : Nat → β → Sem (ForInStep β)} {Q : β → Shared → Prop} (I : Nat → β → Prop) : ∀ (n i : Nat) (b : β), I i b →
    (∀ j b, i ≤ j → j < i + n → I j b → ∀ Q : ForInStep β → Shared → Prop, (∀ b', I (j + 1) b' → Q (.yield b') s) → wpAny M A (f j b) Q E s) → (∀ b, I (i + n) b → Q b s) → wpAny M A (forIn (List.range' i n 1) b f) Q E s
  | 0, i, b, h0, _, k => by
    show wpAny M A (forIn ([] : List Nat) b f) Q E s
    rw [List.forIn_nil]
    exact wpAny_pure (k b h0)
  | n + 1, i, b, h0, step, k => by
    rw [List.range'_succ, List.forIn_cons]
    refine wpAny_bind (step i b (Nat.le_refl _) (by (first | lia | omega)) h0 _ fun b' h1 => ?_)
    exact list_quiet I n (i + 1) b' h1 (fun j b hj hj2 => step j b (by (first | lia | omega)) (by (first | lia | omega))) fun b hb => k b (by rw [show i + (n + 1) = i + 1 + n by (first | lia | omega)]; exact hb)
theorem range_quiet {β : Type} {n : Nat} {f : Nat → β → Sem (ForInStep β)} {Q : β → Shared → Prop} (I : Nat → β → Prop) (b : β) (h0 : I 0 b)
    (step : ∀ j b, j < n → I j b → ∀ Q : ForInStep β → Shared → Prop, (∀ b', I (j + 1) b' → Q (.yield b') s) → wpAny M A (f j b) Q E s) (k : ∀ b, I n b → Q b s) : wpAny M A (forIn [0:n] b f) Q E s := by
  rw [Std.Legacy.Range.forIn_eq_forIn_range']
  have e : ([0:n] : Std.Legacy.Range).size = n := by simp [Std.Legacy.Range.size]
  rw [e]
  exact list_quiet I n 0 b h0 (fun j b _ hj => step j b (by (first | lia | omega))) fun b hb => k b (by rw [Nat.zero_add] at hb; exact hb)
theorem letGo_all {l : List (Value × Option Value)} {keep : List Value} {Q : Unit → Shared → Prop} (hl : ∀ p ∈ l, p.2 = none) (h : Q () s) : wpAny M A (joinLetGo l keep) Q E s := by
  induction l with
  | nil => exact wpAny_pure h
  | cons p r ih =>
    obtain ⟨x, w⟩ := p
    obtain rfl : w = none := hl _ (.head _)
    unfold joinLetGo
    refine wpAny_bind (wpAny_letGo ?_)
    exact ih fun p hp => hl p (.tail _ hp)
theorem paired_get {vs : List Value} {ls : List (List UInt8)} (hb : Paired IsB vs ls) {i : Nat} (hi : i < vs.length) : ∃ t, vs[i]? = some (.bytes ⟨ls.getD i []⟩ t) := by
  induction hb generalizing i with
  | nil => simp at hi
  | cons h _ ih =>
    cases i with
    | zero => obtain ⟨t, rfl⟩ := h; exact ⟨t, rfl⟩
    | succ i => obtain ⟨t, e⟩ := ih (by simpa using hi); exact ⟨t, by simpa using e⟩
theorem join_bytes {D : Addr} {vs : List Value} {ls : List (List UInt8)} {t0 : Tok} {Q : Value → Shared → Prop} (hl : s.heap.IsList D vs.toArray) (hb : Paired IsB vs ls) (hn : vs.length ≤ 1000)
    (hz : ls.flatten.length ≤ 16777216) (h : ∀ t k, Q (.bytes ⟨ls.flatten⟩ t) { s with toks := k }) : wpAny (model prog w) A (call (.builtin "bytes.join") [.bytes #[] t0, .ref D]) Q E s := by
  refine wpAny_call_entry slot_join (typeIs_bytes s _ t0) entry_join ?_ (args_join _ _)
  show wpAny _ _ (joinM .bytes ⟨[.bytes #[] t0, .ref D], []⟩) _ _ s
  obtain ⟨o, ho, hc, n, hd⟩ := id hl
  unfold joinM
  refine wpAny_bind (wpAny_of_eq (one_join _ _) ?_)
  dsimp only
  refine wpAny_bind ?_
  show wpAny _ _ (joinItems (.ref D)) _ _ s
  unfold joinItems
  refine wpAny_bind (wpAny_typeOf hl.typeIs ?_)
  refine bm_if_true (by decide) ?_
  refine wpAny_pure (wpAny_bind (wpAny_seqItems ho hd ?_))
  dsimp only
  have hlen := hb.length
  refine bm_if_true (by decide) ?_
  have inv : ∀ {i : Nat}, i < vs.length → ∃ t, vs.toArray.getD i .none = .bytes ⟨ls.getD i []⟩ t := by
    intro i hi
    obtain ⟨t, e⟩ := paired_get hb hi
    exact ⟨t, by rw [Array.getD_eq_getD_getElem?, List.getElem?_toArray, e]; rfl⟩
  have step : ∀ {j : Nat} {b : Array (Array UInt8)}, j < vs.length → b = ((ls.take j).map fun l => (⟨l⟩ : Array UInt8)).toArray → b.push ⟨ls.getD j []⟩ = ((ls.take (j + 1)).map fun l => (⟨l⟩ : Array UInt8)).toArray := by
    intro j b hj e
    have hj : j < ls.length := hlen ▸ hj
    rw [e, List.push_toArray, List.getD_eq_getElem?_getD, List.getElem?_eq_getElem hj, List.take_succ_eq_append_getElem hj, List.map_append]
    rfl
  have fin : ∀ {b : List (Value × Option Value)} {a : Array (Array UInt8)}, a = ((ls.take vs.length).map fun l => (⟨l⟩ : Array UInt8)).toArray → (∀ p ∈ b, p.2 = none ∧ p.1.onHeap = false) →
      wpAny (model prog w) A.in1 (do
        let sep ← payload (Value.bytes #[] t0)
        if tooLong (Array.foldl (fun x1 x2 => x1 + x2.size) (sep.size * (a.size - 1)) a) = true then do
            unsupported (toString (toString Kind.bytes.name ++ toString ".join") ++ toString ":memory")
            let result ← Kind.bytes.new (joined sep a.toList)
            holding (result :: List.flatMap (fun x => x.fst :: x.snd.toList) b) point
            joinLetGo b [result]
            ret result
          else do
            let result ← Kind.bytes.new (joined sep a.toList)
            holding (result :: List.flatMap (fun x => x.fst :: x.snd.toList) b) point
            joinLetGo b [result]
            ret result) (fun fin s' => ∃ v, fin = Fin.done (Flow.ret v) ∧ Q v s') E s := by
    intro b a ea hb2
    rw [List.take_of_length_le (by (first | lia | omega))] at ea
    subst ea
    refine wpAny_bind (wpAny_of_eq rfl ?_)
    refine bm_if_false ?_ ?_
    · show decide _ = false
      apply decide_eq_false
      have f : ∀ (r : List (List UInt8)) (n : Nat), (r.map fun l => (⟨l⟩ : Array UInt8)).toArray.foldl (fun x1 x2 => x1 + x2.size) n = n + r.flatten.length := by
        intro r n
        rw [List.foldl_toArray]
        induction r generalizing n with
        | nil => simp
        | cons x r ih => rw [List.map_cons, List.foldl_cons, ih, List.flatten_cons, List.length_append]; show n + x.length + _ = _; (first | lia | omega)
      rw [f]
      show ¬ (_ > sizeLine)
      rw [sizeLine_eq]
      have : (#[] : Array UInt8).size = 0 := rfl
      rw [this, Nat.zero_mul]
      (first | lia | omega)
    · have ejoin : joined (#[] : Array UInt8) ((ls.map fun l => (⟨l⟩ : Array UInt8)).toArray).toList = ⟨ls.flatten⟩ := by
          show ((ls.map fun l => (⟨l⟩ : Array UInt8)).zipIdx 0).foldl (fun out (x : Array UInt8 × Nat) => (if x.2 > 0 then out ++ (#[] : Array UInt8) else out) ++ x.1) #[] = _
          rw [joined_nil, fold_flat, Array.empty_append]
      refine wpAny_bind (wpAny_mkBytes (b := joined (#[] : Array UInt8) ((ls.map fun l => (⟨l⟩ : Array UInt8)).toArray).toList) (hb := by rw [ejoin, sizeLine_eq]; exact hz) ?_)
      refine wpAny_bind (wpAny_holding (wpAny_point ?_))
      refine wpAny_bind (letGo_all (fun p hp => (hb2 p hp).1) ?_)
      refine wpAny_pure ⟨_, rfl, ?_⟩
      rw [ejoin]
      exact h _ _
  rcases vs with _ | ⟨x, _ | ⟨y, r⟩⟩
  · show wpAny _ _ (bind (forIn ([0:0] : Std.Legacy.Range) _ _) _) _ _ _
    refine wpAny_bind (range_quiet (fun i b => b.1 = ((ls.take i).map fun l => (⟨l⟩ : Array UInt8)).toArray ∧ ∀ p ∈ b.2, p.2 = none ∧ p.1.onHeap = false) _ ⟨by simp, by simp⟩ (fun j b hj => absurd hj (Nat.not_lt_zero _)) ?_)
    intro b ⟨I1, I2⟩
    exact fin I1 I2
  · clear fin inv step
    obtain ⟨t, l, rfl, rfl⟩ : ∃ t l, x = .bytes ⟨l⟩ t ∧ ls = [l] := by
      cases hb with
      | cons h r => cases r; rename_i hx; obtain ⟨t, rfl⟩ := hx; exact ⟨t, _, rfl, rfl⟩
    show wpAny _ _ (bind (typeOf (.bytes ⟨l⟩ t)) _) _ _ _
    refine wpAny_bind (wpAny_typeOf (typeIs_bytes _ _ _) ?_)
    refine bm_if_true (by decide) ?_
    refine wpAny_bind (wpAny_rule ?_)
    refine wpAny_pure ⟨_, rfl, ?_⟩
    have := h t s.toks
    rw [show [l].flatten = l by simp] at this
    exact this
  · show wpAny _ _ (bind (forIn [0:List.length (x :: y :: r)] _ _) _) _ _ _
    refine wpAny_bind (range_quiet (fun i b => b.1 = ((ls.take i).map fun l => (⟨l⟩ : Array UInt8)).toArray ∧ ∀ p ∈ b.2, p.2 = none ∧ p.1.onHeap = false) _ ⟨by simp, by simp⟩ ?_ ?_)
    · intro j b hj ⟨I1, I2⟩ Q2 k2
      refine wpAny_bind (wpAny_seqItems ho hd ?_)
      dsimp only
      refine bm_if_false ?_ ?_
      · rw [Bool.or_eq_false_iff]
        exact ⟨by decide, by rw [List.any_eq_false]; intro p hp; rw [(I2 p hp).2]; decide⟩
      obtain ⟨t, e⟩ := inv hj
      rw [e]
      refine wpAny_bind (wpAny_holding (wpAny_of_eq (take_quiet _ _) ?_))
      dsimp only
      refine wpAny_bind (wpAny_seqItems ho hd ?_)
      dsimp only
      refine bm_if_false (by simp) ?_
      refine wpAny_pure (k2 _ ⟨step hj I1, ?_⟩)
      intro p hp
      rcases List.mem_append.mp hp with hp | hp
      · exact I2 p hp
      · obtain rfl := List.mem_singleton.mp hp; exact ⟨rfl, rfl⟩
    · intro b ⟨I1, I2⟩
      exact fin I1 I2
end
end
section -- KW
/-! f(*xs, **more) of a tuple and of a dict of at most one name -/
section
variable {prog : Program} {w : World} {A : Around} {E : Value → Shared → Prop} {s : Shared}
theorem merge_map {N D : Addr} {kw : List (Str × Value)} {t : Tok} {n : Nat} {Q : Unit → Shared → Prop} (hD : s.heap.get? D = some (dictOf (kwEs w.params t kw) n)) (hN : s.heap.get? N = some emptyDict) (hne : D ≠ N) (hk : kw.length ≤ 1) (hm : (D == sysModules) = false)
    (h : ∀ h' k, (∀ b o, b ≠ N → s.heap.get? b = some o → h'.get? b = some o) → h'.get? N = some (dictOf (kwEs w.params t kw) k) → Q () { s with heap := h' }) :
    wpAny (model prog w) A (mergeMapping N (.ref D) true) Q E s := by
  unfold mergeMapping
  have hT : s.TypeIs (.ref D) "dict" := ⟨_, hD, rfl⟩
  refine wpAny_bind (wpAny_isInstance (b := true) hT (by rw [isSubtype_type]; kernel_rfl) ?_)
  simp only [if_true]
  refine wpAny_bind (wpAny_specialOf hT PySem.F.slot_dict_iter.lookup (wpAny_bind (wpAny_pure ?_)))
  simp only [beq_self_eq_true]
  rw [hm]
  simp only [Bool.false_eq_true, if_false]
  refine wpAny_bind (wpAny_dictEntries hN rfl ?_)
  refine bm_if_true rfl ?_
  refine wpAny_bind (wpAny_dictEntries hD rfl ?_)
  rw [List.forIn_toArray]
  rcases kw with _ | ⟨x, _ | ⟨y, r⟩⟩
  · unfold kwEs
    rw [List.forIn_nil]
    refine wpAny_bind (wpAny_pure (wpAny_bind (wpAny_dictEntries hD rfl (wpAny_bind (wpAny_dictEpoch hD rfl ?_)))))
    exact wpAny_bind (wpAny_pure (wpAny_pure (h s.heap 0 (fun b o _ e => e) hN)))
  · unfold kwEs kwEs at *
    rw [List.forIn_cons]
    refine wpAny_bind (wpAny_bind (wpAny_pure (wpAny_pure ?_)))
    refine wpAny_bind (wpAny_dictEntries hD rfl (wpAny_bind (wpAny_dictEpoch hD rfl ?_)))
    refine wpAny_bind ?_
    show wpAny _ _ (forIn [0] PUnit.unit _) _ _ _
    rw [List.forIn_cons]
    refine wpAny_bind (wpAny_bind (wpAny_dictEntries hD rfl ?_))
    show wpAny _ _ (bind (holding [Value.str x.1 t, x.2] _) _) _ _ _
    refine wpAny_bind (wpAny_holding ?_)
    have find : ∀ {Q : Option Nat → Shared → Prop}, Q none s → wpAny (model prog w) A (dictFind N (.str x.1 t) (PyData.keyHash w.params x.1)) Q E s := fun q =>
      wpAny_dictFind_of (knd := strKind prog w) (k := x.1) (strKind_is prog w x.1 t) hN rfl (fun e he => by simp at he) (by rw [show Array.findIdx? (fun e : DictEntry => (strKind prog w).is x.1 e.key) #[] = none from by simp]; exact q)
    refine wpAny_bind (find ?_)
    refine bm_if_false rfl ?_
    unfold dictPut
    refine wpAny_bind (find ?_)
    dsimp only
    refine wpAny_updateDictKeys hN rfl ?_
    have hD' : (s.heap.update N (Obj.mapDictKeys fun x_1 => x_1.push ⟨PyData.keyHash w.params x.1, .str x.1 t, x.2⟩)).get? D = some (dictOf (kwEs w.params t [x]) n) := Heap.get?_update_of_ne _ (Ne.symm hne) hD
    refine wpAny_bind (wpAny_dictEpoch hD' rfl ?_)
    refine bm_if_false (by simp) ?_
    refine wpAny_pure (wpAny_pure (wpAny_pure (h _ 1 (fun b o hb e => Heap.get?_update_of_ne _ (Ne.symm hb) e) ?_)))
    rw [Heap.get?_update_self _ hN rfl]
    rfl
  · exact absurd hk (by simp)
theorem merged {f : Value} {y : Sem Value} {D : Addr} {kw : List (Str × Value)} {t : Tok} {n : Nat} {Q : Addr → Shared → Prop}
    (hy : ∀ s' Q, Grows s.heap s'.heap → Q (.ref D) s' → wpAny (model prog w) A y Q E s')
    (hD : s.heap.get? D = some (dictOf (kwEs w.params t kw) n)) (hk : kw.length ≤ 1) (hm : (D == sysModules) = false)
    (h : ∀ h' N k, Grows s.heap h' → h'.get? N = some (dictOf (kwEs w.params t kw) k) → Q N { s with heap := h' }) :
    wpAny (model prog w) A (mergedKeywords f [(none, y)]) Q E s := by
  unfold mergedKeywords
  refine wpAny_bind (wpAny_alloc ?_)
  refine wpAny_bind (wpAny_holding ?_)
  dsimp only
  rw [List.forIn_cons]
  refine wpAny_bind (wpAny_bind ?_)
  show wpAny _ _ (bind (pure ()) _) _ _ _
  refine wpAny_bind (wpAny_pure (wpAny_bind (hy _ _ (fun b o e => Heap.get?_push_of_some _ e) ?_)))
  refine wpAny_bind (wpAny_onRaise (wpAny_holding (wpAny_tryCatch (wpAny_onRaise ?_))))
  have hlt := Heap.lt_size hD
  have hne : D ≠ s.heap.objs.size := Nat.ne_of_lt hlt
  have hD' := Heap.get?_push_of_some emptyDict hD
  have hN : (s.heap.push emptyDict).get? s.heap.objs.size = some emptyDict := Heap.get?_push_size _ rfl
  refine wpAny_mono (merge_map (Q := fun _ s' => ∃ h' k, s' = { s with heap := h' } ∧ Grows s.heap h' ∧ h'.get? s.heap.objs.size = some (dictOf (kwEs w.params t kw) k)) (E := fun _ _ => False) hD' hN hne hk hm fun h' k g e => ⟨h', k, rfl, fun b o e => g b o (Nat.ne_of_lt (Heap.lt_size e)) (Heap.get?_push_of_some _ e), e⟩) ?_ fun _ _ x => x.elim
  rintro - s' ⟨h', k, rfl, g, e⟩
  exact wpAny_pure (wpAny_pure (wpAny_pure (wpAny_pure (h h' _ k g e))))
theorem keywords_in {f : Value} {N : Addr} {kw : List (Str × Value)} {t : Tok} {n : Nat} {Q : List (Str × Value) → Shared → Prop} (hN : s.heap.get? N = some (dictOf (kwEs w.params t kw) n)) (hk : kw.length ≤ 1) (h : Q kw s) :
    wpAny (model prog w) A (keywordsIn f N) Q E s := by
  unfold keywordsIn
  refine wpAny_bind (wpAny_dictEntries hN rfl ?_)
  rw [List.forIn_toArray]
  rcases kw with _ | ⟨x, _ | ⟨y, r⟩⟩
  · exact wpAny_bind (wpAny_pure (wpAny_pure h))
  · unfold kwEs kwEs at *
    rw [List.forIn_cons]
    exact wpAny_bind (wpAny_bind (wpAny_pure (wpAny_pure (wpAny_pure h))))
  · exact absurd hk (by simp)
theorem args_both {f : Value} {x y : Sem Value} {T D : Addr} {items : Array Value} {kw : List (Str × Value)} {t : Tok} {n : Nat} {Q : Args → Shared → Prop}
    (hx : ∀ s' Q, Grows s.heap s'.heap → Q (.ref T) s' → wpAny (model prog w) A x Q E s') (hy : ∀ s' Q, Grows s.heap s'.heap → Q (.ref D) s' → wpAny (model prog w) A y Q E s')
    (hT : s.heap.IsTuple T items) (hz : items.size ≤ sizeLine) (hD : s.heap.get? D = some (dictOf (kwEs w.params t kw) n)) (hk : kw.length ≤ 1) (hm : (D == sysModules) = false)
    (h : ∀ h', Grows s.heap h' → Q ⟨items.toList, kw⟩ { s with heap := h' }) :
    wpAny (model prog w) A (evalArgs f true [(true, x)] [(none, y)]) Q E s := by
  unfold evalArgs
  refine wpAny_bind (hx s _ (fun _ _ e => e) (wpAny_bind (wpAny_pure ?_)))
  refine wpAny_holding ?_
  refine bm_if_false rfl ?_
  refine wpAny_bind (merged (fun s' Q g q => hy s' Q g q) hD hk hm fun h' N k g e => ?_)
  have hT' : h'.IsTuple T items := hT.at fun o e => g T o e
  refine wpAny_bind ?_
  dsimp only
  unfold notIterableAtAll
  refine wpAny_bind (wpAny_bind (wpAny_specialOf (s := { s with heap := h' }) hT'.typeIs PySem.F.slot_tuple_iter.lookup (wpAny_pure ?_)))
  refine bm_if_false rfl ?_
  obtain ⟨o, ho, hc, c, hd⟩ := id hT'
  refine wpAny_holding (wpAny_collect_seq T (.inr rfl) ho hc hd (fun h'' g' => ?_) hz)
  refine wpAny_bind (wpAny_holding (keywords_in (s := { s with heap := h'' }) (g' _ _ e) hk (wpAny_pure ?_)))
  exact h h'' fun b o e => g' b o (g b o e)
/-- the call itself, of a def or of a bound one -/
theorem call_both {f : Value} {first : List Value} {pos : Pos} {x y : Sem Value} {T D : Addr} {items : Array Value} {kw : List (Str × Value)} {t : Tok} {n : Nat} {Q : Value → Shared → Prop} (hkp : ∀ h', Grows s.heap h' → ∃ k, (k = Keeper.frame ∨ k = Keeper.machine ∨ k = Keeper.boundFrame) ∧ Looks (model prog w) h' (keeperOf f) k)
    (hx : ∀ s' Q, Grows s.heap s'.heap → Q (.ref T) s' → wpAny (model prog w) A x Q E s') (hy : ∀ s' Q, Grows s.heap s'.heap → Q (.ref D) s' → wpAny (model prog w) A y Q E s')
    (hT : s.heap.IsTuple T items) (hz : items.size ≤ sizeLine) (hD : s.heap.get? D = some (dictOf (kwEs w.params t kw) n)) (hk : kw.length ≤ 1) (hm : (D == sysModules) = false)
    (h : ∀ h', Grows s.heap h' → wpAny (model prog w) A (call f (first ++ items.toList) kw) Q E { s with heap := h' }) :
    wpAny (model prog w) A (callWith pos f first [(true, x)] [(none, y)]) Q E s := by
  unfold callWith
  refine wpAny_bind (wpAny_holding (args_both hx hy hT hz hD hk hm fun h' g => wpAny_bind (wpAny_standAt ?_)))
  obtain ⟨k, hk', L⟩ := hkp _ g
  dsimp only
  refine wpAny_bind (L.here (s := { s with heap := h' }) ?_)
  have tail : ∀ {t : Sem Value}, wpAny (model prog w) A t Q E { s with heap := h' } → wpAny (model prog w) A (t >>= fun r => holding [r] point >>= fun _ => pure r) Q E { s with heap := h' } :=
    fun ht => wpAny_bind (wpAny_mono ht (fun r s₂ hr => wpAny_bind (wpAny_holding (wpAny_point (wpAny_pure hr)))) fun _ _ x => x)
  have marked (mk : Value) : wpAny (model prog w) A (callMarked mk f (first ++ items.toList) kw) Q E { s with heap := h' } := by unfold callMarked; exact Calls.wpAny_keep (h h' g)
  rcases hk' with rfl | rfl | rfl <;> first | exact tail (marked _) | exact tail (wpAny_operating (h h' g))
end
end
section -- EB
/-! entering def f(self, *args, **kwargs) -/
theorem bind_both {M : Model} {A : Around} {E : Value → Shared → Prop} {s : Shared} {fd : FuncData} {a0 va ka : Arg} {x : Value} {vs : List Value} {kw : List (Str × Value)} {Q : List (Str × Value) → Shared → Prop}
   (hp : fd.params = { posonlyargs := [], args := [a0], vararg := some va, kwonlyargs := [], kw_defaults := [], kwarg := some ka, defaults := [] }) (hd : fd.defaults = .none)
   (hz : vs.length ≤ 1000) (hk : kw = [] ∨ ∃ k v, kw = [(k, v)] ∧ (k == a0.arg) = false)
   (h : wpAny M A (forIn kw PUnit.unit fun x _ => (nsSet (s.heap.objs.size + 1) x.1 x.2 >>= fun _ => pure (ForInStep.yield PUnit.unit))) (fun _ => Q [(a0.arg, x), (va.arg, .ref s.heap.objs.size), (ka.arg, .ref (s.heap.objs.size + 1))]) E { s with heap := (s.heap.push ({ cls := .type "tuple", data := .seq vs.toArray } : Obj)).push emptyDict }) : wpAny M A (bindArgs fd ⟨x :: vs, kw⟩) Q E s := by
  unfold bindArgs
  rw [hp, hd]
  dsimp only [List.map_cons, List.map_nil, List.append_nil, List.nil_append]
  have tail : ∀ (front extra : List (Str × Value)), front = [(a0.arg, x)] → extra.length ≤ 1 → (wpAny M A (forIn extra PUnit.unit fun x _ => (nsSet (s.heap.objs.size + 1) x.1 x.2 >>= fun _ => pure (ForInStep.yield PUnit.unit))) (fun _ => Q [(a0.arg, x), (va.arg, .ref s.heap.objs.size), (ka.arg, .ref (s.heap.objs.size + 1))]) E { s with heap := (s.heap.push ({ cls := .type "tuple", data := .seq vs.toArray } : Obj)).push emptyDict }) →
      wpAny M A (do
        let __do_lift ← newTuple (List.drop 1 (x :: vs))
        if extra.length > sizeLine + 1 then do
            unsupported "dict:memory"
            let d ← alloc { cls := .type "dict", data := .dict #[] }
            forIn extra PUnit.unit fun x _ => (nsSet d x.1 x.2 >>= fun _ => pure (ForInStep.yield PUnit.unit))
            pure (front ++ [(va.arg, __do_lift)] ++ [(ka.arg, .ref d)])
          else do
            let d ← alloc { cls := .type "dict", data := .dict #[] }
            forIn extra PUnit.unit fun x _ => (nsSet d x.1 x.2 >>= fun _ => pure (ForInStep.yield PUnit.unit))
            pure (front ++ [(va.arg, __do_lift)] ++ [(ka.arg, .ref d)])) Q E s := by
    rintro _ extra rfl he h
    refine wpAny_bind (wpAny_newObj_type ?_ (by show (List.drop 1 (x :: vs)).toArray.size ≤ sizeLine; rw [sizeLine_eq]; simpa using Nat.le_trans hz (by decide)))
    rw [if_neg (by rw [sizeLine_eq]; (first | lia | omega))]
    refine wpAny_bind (wpAny_alloc ?_)
    have e : (s.heap.push ({ cls := .type "tuple", data := .seq (List.drop 1 (x :: vs)).toArray } : Obj)).objs.size = s.heap.objs.size + 1 := Heap.size_push ..
    dsimp only
    rw [e]
    exact wpAny_bind (wpAny_mono h (fun _ _ q => wpAny_pure q) fun _ _ z => z)
  rcases hk with rfl | ⟨k, v, rfl, hk⟩
  · rw [List.forIn_nil]
    refine wpAny_bind (wpAny_pure (wpAny_bind (wpAny_of_eq rfl ?_)))
    refine bm_if_false (Bool.and_false _) ?_
    refine bm_if_false (by simp) ?_
    refine wpAny_bind (wpAny_of_eq rfl ?_)
    refine wpAny_bind (wpAny_of_eq rfl ?_)
    refine bm_if_false (by rfl) ?_
    exact tail _ [] (by simp) (by simp) h
  · rw [List.forIn_cons]
    refine wpAny_bind (wpAny_bind (bm_if_false ?_ ?_))
    · simpa using hk
    refine bm_if_true rfl ?_
    refine wpAny_pure ?_
    refine wpAny_pure (wpAny_bind (wpAny_of_eq rfl ?_))
    refine bm_if_false (Bool.and_false _) ?_
    refine bm_if_false (by simp) ?_
    refine wpAny_bind (wpAny_of_eq rfl ?_)
    refine wpAny_bind (wpAny_of_eq rfl ?_)
    refine bm_if_false (by rfl) ?_
    exact tail _ [(k, v)] (by simp) (by simp) h
section
variable {w : World} {A : Around} {s : Shared} {E : Value → Shared → Prop}
theorem ns_fill {D : Addr} {ex : List (Str × Value)} {Q : PUnit → Shared → Prop} (hD : s.heap.get? D = some emptyDict) (hx : ex.length ≤ 1)
    (h : ∀ h' tk n, (∀ b o, b ≠ D → s.heap.get? b = some o → h'.get? b = some o) → h'.objs.size = s.heap.objs.size → h'.get? D = some (dictOf (kwEs w.params s.toks ex) n) → Q ⟨⟩ { s with heap := h', toks := tk }) :
    wpAny (model P0 w) A (forIn ex PUnit.unit fun x _ => (nsSet D x.1 x.2 >>= fun _ => pure (ForInStep.yield PUnit.unit))) Q E s := by
  rcases ex with _ | ⟨x, _ | ⟨y, r⟩⟩
  · rw [List.forIn_nil]
    exact wpAny_pure (h s.heap s.toks 0 (fun b o _ e => e) rfl hD)
  · rw [List.forIn_cons]
    refine wpAny_bind (wpAny_bind ?_)
    unfold nsSet
    refine wpAny_bind (wpAny_bind (wpAny_askSetting (wpAny_pure (wpAny_bind (wpAny_mkText (wpAny_bind (wpAny_loadPart hD ?_)))))))
    refine bm_if_false (by rfl) ?_
    refine wpAny_updatePart hD (wpAny_pure (wpAny_pure ?_))
    refine h _ _ 1 (fun b o hb e => Heap.get?_update_of_ne _ (Ne.symm hb) e) ?_ ?_
    · exact Heap.size_update ..
    · rw [Heap.get?_update_self _ hD rfl]
      rfl
  · exact absurd hx (by simp)

theorem enter_both {K : Frag} {R : Result → Shared → Prop} {name qual : Str} {params : Arguments} {body : List Stmt} {scope : Scope} {cl : List (Str × Addr)} {dV kV doc pm cdv ct oc : Value} {an od : Option Addr} {osl : Array (Option Value)} {f : Addr} {vs : List Value} {a0 va ka : Arg} {x : Value} {ex : List (Str × Value)}
    {h₀ : Heap} {news : List (Addr × Obj)} {p : Program} {loose : List Str} {mg mb : Str → Option Value} {n : Nat} (sub : Grows h₀ s.heap) (hsz : h₀.objs.size ≤ s.heap.objs.size)
    (hnew : ∀ p ∈ news, s.heap.get? p.1 = some p.2 ∧ h₀.get? p.1 = none) (X : K.In h₀) (T : TopRead p loose mg mb h₀) (r : Room (n + 1) A)
    (ho : K.lookup f = some ⟨oc, od, .func (fnX name qual params body scope cl dV kV doc pm an cdv ct), osl⟩) (hcd : codeIn K cdv qual = true)
    (hp : params = { posonlyargs := [], args := [a0], vararg := some va, kwonlyargs := [], kw_defaults := [], kwarg := some ka, defaults := [] }) (hd : dV = .none) (hz : vs.length ≤ 1000) (hx : ex = [] ∨ ∃ k v, ex = [(k, v)] ∧ (k == a0.arg) = false)
    (hloc : ∀ C D, ∀ y ∈ [(a0.arg, x), (va.arg, Value.ref C), (ka.arg, Value.ref D)], scope.names.lookup y.1 = some .local)
    (h : ∀ C D L h₁ tk tok c, Fr h₀ L h₁ (fun y => [(a0.arg, x), (va.arg, Value.ref C), (ka.arg, Value.ref D)].reverse.lookup y) →
      News h₀ L h₁ ((D, dictOf (kwEs w.params tok ex) c) :: (C, ({ cls := .type "tuple", data := .seq vs.toArray } : Obj)) :: news) → (∀ p ∈ news, p.1 < C) → C < D → D < L → (D == sysModules) = false → Room n (A.deeper (envX qual scope L f cdv cl)) → Grows s.heap h₁ →
      _root_.PySem.wpAt (model P0 w) (A.deeper (envX qual scope L f cdv cl)) (.func body (envX qual scope L f cdv cl)) (execs body (envX qual scope L f cdv cl))
        (fun fl s' => R (.ok (.ret (match fl with | .ret v => v | _ => .none))) s') (fun _ _ => False) { s with heap := h₁, toks := tk })
    (hcell : ∀ x ∈ scope.names, x.2 ≠ .cell := by decide) (hco : scope.isCoroutine = false := by rfl) (hgen : scope.isGenerator = false := by rfl) (hk : scope.kind = .function := by rfl) :
    codeAny (model P0 w) A (.call (.ref f) ⟨x :: vs, ex⟩) R s := by
  refine codeAny_call_function (fd := fnX name qual params body scope cl dV kV doc pm an cdv ct) (body := body) r.depth (X.keeps sub _ _ ho) rfl hco hgen rfl (codeRec_of (X.keeps sub) hcd) ?_
  refine bind_both (M := model P0 w) (fd := fnX name qual params body scope cl dV kV doc pm an cdv ct) hp hd hz hx ?_
  have hx : ex.length ≤ 1 := by rcases hx with rfl | ⟨_, _, rfl, _⟩ <;> simp
  generalize hC : ({ cls := .type "tuple", data := .seq vs.toArray } : Obj) = to
  have hs1 : (s.heap.push to).objs.size = s.heap.objs.size + 1 := Heap.size_push ..
  rw [← hs1]
  have hs2 : ((s.heap.push to).push emptyDict).objs.size = s.heap.objs.size + 2 := by rw [Heap.size_push, hs1]
  have eC : ((s.heap.push to).push emptyDict).get? s.heap.objs.size = some to := Heap.get?_push_of_some _ (Heap.get?_push_size _ (by rw [← hC]; rfl))
  have eD : ((s.heap.push to).push emptyDict).get? (s.heap.push to).objs.size = some emptyDict := Heap.get?_push_size _ rfl
  refine ns_fill (s := { s with heap := (s.heap.push to).push emptyDict }) eD hx fun h' tk c keep hsz' eD' => ?_
  have kk : Grows s.heap h' := fun b o e => keep b o (by rw [hs1]; exact Nat.ne_of_lt (Nat.lt_succ_of_lt (Heap.lt_size e))) (Heap.get?_push_of_some _ (Heap.get?_push_of_some _ e))
  have eC' : h'.get? s.heap.objs.size = some to := keep _ _ (by rw [hs1]; exact Nat.ne_of_lt (Nat.lt_succ_self _)) eC
  have hszL : h'.objs.size = s.heap.objs.size + 2 := Eq.trans hsz' hs2
  refine wpAny_newFunctionEnv hcell (hloc _ _) (fun h₁ hns₁ hsb₁ => ⟨(T.nolimit.keeps (fun b o e => kk b o (sub b o e))).fresh _ hsb₁, ks_codeAny_funcAt ?_⟩) hk
  have k1 : ∀ b o, h'.get? b = some o → h₁.get? b = some o := fun b o e => hsb₁.extBut b o (Nat.ne_of_lt (Heap.lt_size e)) (Heap.get?_push_of_some _ e)
  refine ks_wpAt_mono (h s.heap.objs.size (s.heap.push to).objs.size h'.objs.size h₁ _ s.toks c ⟨hns₁, fun b o e => k1 b o (kk b o (sub b o e)), by (first | lia | omega)⟩ ?_ (fun p hp => Heap.lt_size (hnew p hp).1) (by rw [hs1]; exact Nat.lt_succ_self _) (by rw [hszL, hs1]; exact Nat.lt_succ_self _) ?_ (r.deeper _) fun b o e => k1 b o (kk b o e)) (fun _ _ x => x) fun _ _ x => x.elim
  · intro p hp
    have none0 : ∀ b, s.heap.objs.size ≤ b → h₀.get? b = none := fun b hb => Heap.get?_none_of_le (by (first | lia | omega))
    rcases List.mem_cons.mp hp with rfl | hp
    · exact ⟨k1 _ _ eD', by rw [hszL, hs1]; exact Nat.ne_of_lt (Nat.lt_succ_self _), none0 _ (by show _ ≤ (s.heap.push to).objs.size; (first | lia | omega))⟩
    · rcases List.mem_cons.mp hp with rfl | hp
      · exact ⟨by rw [hC]; exact k1 _ _ eC', by rw [hszL]; exact Nat.ne_of_lt (by (first | lia | omega)), none0 _ (Nat.le_refl _)⟩
      · have := hnew p hp
        exact ⟨k1 _ _ (kk _ _ this.1), by rw [hszL]; exact Nat.ne_of_lt (Nat.lt_of_lt_of_le (Heap.lt_size this.1) (by (first | lia | omega))), this.2⟩
  · have l := modules_low (T.nolimit.keeps sub)
    exact beq_eq_false_iff_ne.mpr (Ne.symm (Nat.ne_of_lt (Nat.lt_of_lt_of_le l (by rw [hs1]; exact Nat.le_succ _))))
end
end
section -- MI
local macro_rules | `(tactic| k_inst) => `(tactic| (refine' InstAt.base ?F ?h1 ?h2; (case F => k_asm); (case h1 => assumption); (case h2 => assumption)))
noncomputable abbrev tupObj (vs : List Value) : Obj := { cls := .type "tuple", data := .seq vs.toArray }
/-- what __init__ has left -/
def InitPost (w : World) (s : Shared) (dx : Addr) (vs : List Value) (tap : Bool) (v : Value) (s' : Shared) : Prop :=
  ∃ h' tk T t1 t2, s' = { s with heap := h', toks := tk } ∧ v = .none ∧ (∀ b o, b ≠ dx → s.heap.get? b = some o → h'.get? b = some o) ∧ s.heap.get? T = none ∧ h'.get? T = some (tupObj vs) ∧
    h'.get? dx = some (dictOf [ent w "args" t1 (.ref T), ent w "taproot" t2 (.bool tap)] 2)
theorem init_close {w : World} {s : Shared} {h₀ h' : Heap} {L x dx D T : Addr} {m : Str → Option Value} {o oi : Obj} {vs : List Value} {tap : Bool} {t1 t2 : Tok} {tk : Nat} (hh : hideAll s.heap [x, dx] = h₀) (F : Fr h₀ L h' m)
    (N : News h₀ L h' [(D, o), (T, tupObj vs), (x, oi), (dx, dictOf [ent w "args" t1 (.ref T), ent w "taproot" t2 (.bool tap)] 2)]) (lt : x < T ∧ dx < T) (hx : s.heap.get? x = some oi) :
    InitPost w s dx vs tap .none { s with heap := h', toks := tk } := by
  subst hh
  refine ⟨h', tk, T, t1, t2, rfl, rfl, fun b o hb e => ?_, ?_, (N _ (.tail _ (.head _))).1, (N _ (.tail _ (.tail _ (.tail _ (.head _))))).1⟩
  · by_cases hbx : b = x
    · subst hbx
      rw [hx] at e
      rw [← e]
      exact (N _ (.tail _ (.tail _ (.head _)))).1
    · exact F.keep b o (hideAll_get _ e (by simp only [List.mem_cons, List.not_mem_nil, or_false, not_or]; exact ⟨hbx, hb⟩))
  · cases q : s.heap.get? T with
    | none => rfl
    | some o =>
      have := (N (T, tupObj vs) (.tail _ (.head _))).2.2
      rw [hideAll_get [x, dx] q (by simp only [List.mem_cons, List.not_mem_nil, or_false, not_or]; exact ⟨Ne.symm (Nat.ne_of_lt lt.1), Ne.symm (Nat.ne_of_lt lt.2)⟩)] at this
      cases this
theorem mi_init_f {w : World} {A : Around} {s : Shared} {g : Heap} {C x dx : Addr} {n : Value} {vs : List Value} (W : World0 w g) (sub : Grows g s.heap) (gx : g.get? x = none) (gd : g.get? dx = none)
    (hx : s.heap.get? x = some (instObj C dx)) (hd : s.heap.get? dx = some emptyDict) (hl : dx < x) (hC : C = 1233 ∨ C = 1250 ∨ C = 1274 ∨ C = 1291) (hz : (n :: vs).length ≤ 1000) (r : Room 1 A) :
    codeAny (model P0 w) A (.call (.ref 1142) ⟨.ref x :: n :: vs, []⟩) (fun r s' => ∃ v, r = .ok (.ret v) ∧ InitPost w s dx (n :: vs) false v s') s := by
  have gs : Grows g (hideAll s.heap [x, dx]) := fun b o e => hideAll_get _ (sub b o e) (by
    intro m
    rcases List.mem_cons.mp m with rfl | m
    · rw [gx] at e; cases e
    · obtain rfl := List.mem_singleton.mp m; rw [gd] at e; cases e)
  obtain ⟨X, loose, mg, mb, T⟩ := W.grow gs
  refine' enter_both (news := [(x, instObj C dx), (dx, emptyDict)]) (fun b o => of_hideAll [x, dx]) (Nat.le_of_eq (hideAll_size _ _)) ?hnew X T r ?ho ?hcd ?hp ?hd ?hz ?hx ?hloc ?_ ?c1 ?c2 ?c3 ?c4
  case hnew =>
    intro p hp
    rcases List.mem_cons.mp hp with rfl | hp
    · exact ⟨hx, hideAll_none _ (.head _)⟩
    · obtain rfl := List.mem_singleton.mp hp; exact ⟨hd, hideAll_none _ (.tail _ (.head _))⟩
  case ho => k_is
  case hcd => k_is
  case hp => rfl
  case hd => rfl
  case hz => exact hz
  case hx => exact .inl rfl
  case hloc => exact fun _ _ => locs rfl
  case c1 => decide
  case c2 => rfl
  case c3 => rfl
  case c4 => rfl
  intro C D L h₁ tk tok c F N lt1 lt2 lt3 hm rr gr
  refine _root_.PySem.wpAt_of_wpAny ?_
  generalize hh : hideAll s.heap [x, dx] = h₀ at *
  obtain ⟨o, ho⟩ : ∃ o, o = dictOf (kwEs w.params tok []) c := ⟨_, rfl⟩
  rw [← ho] at N
  have hs : o.IsDictOf (strKind P0 w) [] := ho ▸ kp_isDict tok c List.nodup_nil
  have fs : PyProof.V.FlatPairs PySem.PyData.str [] [] := .nil
  clear ho
  k_lt lt1
  k_lt2 lt2
  k_lt2 lt3
  k_lt2 hl
  rcases hC with rfl | rfl | rfl | rfl
  all_goals
    repeat' (first | walk1 | (dsimp only; walk1))
    exact init_close (by assumption) (by assumption) (by assumption) (by assumption) (by assumption)
theorem mi_init_t {w : World} {A : Around} {s : Shared} {g : Heap} {C x dx : Addr} {n : Value} {vs : List Value} (W : World0 w g) (sub : Grows g s.heap) (gx : g.get? x = none) (gd : g.get? dx = none)
    (hx : s.heap.get? x = some (instObj C dx)) (hd : s.heap.get? dx = some emptyDict) (hl : dx < x) (hC : C = 1233 ∨ C = 1250 ∨ C = 1274 ∨ C = 1291) (hz : (n :: vs).length ≤ 1000) (r : Room 1 A) :
    codeAny (model P0 w) A (.call (.ref 1142) ⟨.ref x :: n :: vs, [(Str.ofString "taproot", .bool true)]⟩) (fun r s' => ∃ v, r = .ok (.ret v) ∧ InitPost w s dx (n :: vs) true v s') s := by
  have gs : Grows g (hideAll s.heap [x, dx]) := fun b o e => hideAll_get _ (sub b o e) (by
    intro m
    rcases List.mem_cons.mp m with rfl | m
    · rw [gx] at e; cases e
    · obtain rfl := List.mem_singleton.mp m; rw [gd] at e; cases e)
  obtain ⟨X, loose, mg, mb, T⟩ := W.grow gs
  refine' enter_both (news := [(x, instObj C dx), (dx, emptyDict)]) (fun b o => of_hideAll [x, dx]) (Nat.le_of_eq (hideAll_size _ _)) ?hnew X T r ?ho ?hcd ?hp ?hd ?hz ?hx ?hloc ?_ ?c1 ?c2 ?c3 ?c4
  case hnew =>
    intro p hp
    rcases List.mem_cons.mp hp with rfl | hp
    · exact ⟨hx, hideAll_none _ (.head _)⟩
    · obtain rfl := List.mem_singleton.mp hp; exact ⟨hd, hideAll_none _ (.tail _ (.head _))⟩
  case ho => k_is
  case hcd => k_is
  case hp => rfl
  case hd => rfl
  case hz => exact hz
  case hx => exact .inr ⟨_, _, rfl, by decide⟩
  case hloc => exact fun _ _ => locs rfl
  case c1 => decide
  case c2 => rfl
  case c3 => rfl
  case c4 => rfl
  intro C D L h₁ tk tok c F N lt1 lt2 lt3 hm rr gr
  refine _root_.PySem.wpAt_of_wpAny ?_
  generalize hh : hideAll s.heap [x, dx] = h₀ at *
  obtain ⟨o, ho⟩ : ∃ o, o = dictOf (kwEs w.params tok [(Str.ofString "taproot", .bool true)]) c := ⟨_, rfl⟩
  rw [← ho] at N
  have hs : o.IsDictOf (strKind P0 w) [(Str.ofString "taproot", .bool true)] := ho ▸ kp_isDict tok c (by simp)
  have fs : PyProof.V.FlatPairs PySem.PyData.str [(Str.ofString "taproot", .bool true)] [(.str (Str.ofString "taproot"), .bool true)] := .cons (by k_flat) .nil
  clear ho
  k_lt lt1
  k_lt2 lt2
  k_lt2 lt3
  k_lt2 hl
  rcases hC with rfl | rfl | rfl | rfl
  all_goals
    repeat' (first | walk1 | (dsimp only; walk1))
    exact init_close (by assumption) (by assumption) (by assumption) (by assumption) (by assumption)
end
section -- SI
local macro_rules | `(tactic| k_inst) => `(tactic| (refine' InstAt.base ?F ?h1 ?h2; (case F => k_asm); (case h1 => assumption); (case h2 => assumption)))
section
variable {w : World} {A : Around} {E : Value → Shared → Prop} {s : Shared} {h₀ : Heap} {L : Addr} {m mg mb : Str → Option Value} {news : List (Addr × Obj)} {K : Frag} {p : Program} {loose : List Str} {x C D f cc cda : Addr} {ox : Obj} {odx : Option Obj}
/-- super() in a def of a class -/
theorem super_node {body : List Stmt} {q : Str} {scope : Scope} {p0 p1 : Pos} {attr : Str} {whole : Sem Value} {fd : FuncData} {ar : Arg} {vs : Array Value} {file : Str} {tf : Tok} {oc ccl cl : Value} {od cdd cld : Option Addr} {osl ccs csl : Array (Option Value)} {cdD : ClassData} {Q : Value → Shared → Prop}
    (F : Fr h₀ L s.heap m) (X₀ : K.In h₀) (N : News h₀ L s.heap news) (T : TopRead p loose mg mb h₀)
    (hf : K.lookup f = some ⟨oc, od, .func fd, osl⟩) (hp : (fd.params.posonlyargs ++ fd.params.args).head? = some ar) (hv : m ar.arg = some (.ref x)) (I : InstAt s.heap x ox C odx)
    (hcode : K.lookup cda = some ⟨ccl, cdd, .fields vs, ccs⟩) (hvs : vs[2]? = some (.str file tf)) (hfile : ((P0.main.file : Str) == file) = true)
    (hcell : K.lookup cc = some ⟨cl, cld, .cell (some (.ref D)), csl⟩) (hD : clsIn K D = some cdD) (hsub : mroIn K C (.ref D) = some true) (hsuper : nsIn K mainGlobals "super" = some none)
    (hat : (attr == ("__class__" : Str)) = false) (hks : scope.names.lookup ("super" : Str) = some .globalImplicit) (hkc : scope.names.lookup ("__class__" : Str) = some .free) (hka : scope.names.lookup ar.arg = some .local) (hk : scope.kind = .function)
    (htop : (P0.main.scope.names.lookup ("super" : Str)).isSome = false) (hboot : bootBuiltins "super" = some (.type "super"))
    (h : ∀ so h', Fr h₀ L h' m → News h₀ L h' ((so, ks_superObj D x C) :: news) → (∀ p ∈ news, p.1 < so) → Grows s.heap h' → Q (.ref so) { s with heap := h' }) :
    _root_.PySem.wpAt (model P0 w) A (.func body (envX q scope L f (.ref cda) [("__class__", cc)])) (attributeBase (.Call (.Name "super" p0) [] [] p1) attr (envX q scope L f (.ref cda) [("__class__", cc)]) whole) Q E s := by
  have X : K.In s.heap := X₀.keeps F.keep
  obtain ⟨hh, g, d, t, os⟩ := s
  have cls : ∃ oD, hh.get? D = some oD ∧ oD.data = .cls cdD := by
    unfold clsIn at hD
    split at hD
    · rename_i ho
      cases hD
      exact ⟨_, X _ _ ho, rfl⟩
    · cases hD
  obtain ⟨oD, hD1, hD2⟩ := cls
  refine ks_wpAt_super_base (env := envX q scope L f (.ref cda) [("__class__", cc)]) hks hkc hat rfl (X _ _ hf) rfl hp rfl (X _ _ hcode) rfl hvs hfile htop ?_
  refine ks_loadName_global hk hks (loadGlobal_builtin (env := envX q scope L f (.ref cda) [("__class__", cc)]) (T.g.keeps F.keep) (mg_none_of X₀ T.g hsuper) (T.b.keeps F.keep) ((T.builtins _ (by decide +kernel)).trans hboot) ⟨rfl, ?_⟩)
  refine wpAny_loadName_free hk hkc rfl ⟨_, X _ _ hcell, rfl⟩ ?_
  refine wpAny_loadName_local hk hka F.ns hv ?_
  refine ks_wpAny_isType_cls hD1 hD2 ⟨rfl, ?_⟩
  refine ks_wpAny_call_super hD1 hD2 I.at_ I.cls (fun c e => ?_) (looks_mroIn X hsub) (fun h' e k => ?_)
  · have := I.no
    unfold notCls at this
    rw [e] at this
    exact Bool.noConfusion this
  · obtain ⟨F', N', l'⟩ := ks_newsPush (s := ⟨hh, g, d, t, os⟩) F N rfl e k
    exact h _ _ F' N' l' k
theorem at_methodKw {M : Model} {c : Code} {env : Env} {o : Expr} {name : Str} {apos pos : Pos} {args : List Expr} {kws : List Keyword} {Q : Value → Shared → Prop}
    (h : _root_.PySem.wpAt M A c (attributeBase o name env (eval o env)) (fun ov s₁ => wpAny M A (getAttr ov name true) (fun f s₂ => wpAny M A (callWith pos f [] (backTo pos (starEach args env)) (backToKw pos (keywordEach kws env))) Q E s₂) E s₁) E s)
    (he : eval (.Call (.Attribute o name apos) args kws pos) env = (do
      let ov ← attributeBase o name env (eval o env)
      standAt apos.atName
      let (f, first) ← holding [ov] (do pure (← getAttr ov name true, []))
      callWith pos f first (backTo pos (starEach args env)) (backToKw pos (keywordEach kws env))) := by rfl) :
    _root_.PySem.wpAt M A c (eval (.Call (.Attribute o name apos) args kws pos) env) Q E s := by
  rw [he]
  refine _root_.PySem.wpAt_bind (_root_.PySem.ks_wpAt_mono h (fun ov s₁ h₁ => _root_.PySem.wpAt_of_wpAny (wpAny_bind (wpAny_standAt (wpAny_bind (wpAny_holding (wpAny_bind (wpAny_mono h₁ (fun f s₂ h₂ => wpAny_pure h₂) fun _ _ x => x))))))) fun _ _ x => x)
theorem super_attr {so D x C f : Addr} {ox : Obj} {odx : Option Obj} {name : Str} {cd : ClassData} {Q : Value → Shared → Prop} (F : Fr h₀ L s.heap m) (X₀ : K.In h₀) (N : News h₀ L s.heap news) (hso : (so, ks_superObj D x C) ∈ news) (I : InstAt s.heap x ox C odx) (ho : nsIn K cStatics "thirdparty.any" = some none)
    (hc : clsIn K C = some cd) (hm : ks_superIn K C D name = some (some (.ref f))) (ht : typeIn K (.ref f) = some (.type "function")) (hn : (name == ("__class__" : Str)) = false)
    (h : ∀ q h', Fr h₀ L h' m → News h₀ L h' ((q, methodObj (.ref f) (.ref x)) :: news) → (∀ p ∈ news, p.1 < q) → Grows s.heap h' → Q (.ref q) { s with heap := h', toks := s.toks + 1 }) : wpAny (model P0 w) A (getAttr (.ref so) name true) Q E s := by
  have X : K.In s.heap := X₀.keeps F.keep
  obtain ⟨hh, g, d, t, os⟩ := s
  unfold ks_superIn at hm
  rw [hc] at hm
  have fn : ∃ of, hh.get? f = some of ∧ of.cls = .type "function" := by
    have ht' : (K.lookup f).map (·.cls) = some (.type "function") := ht
    cases z : K.lookup f with
    | none => rw [z] at ht'; cases ht'
    | some of => rw [z] at ht'; exact ⟨of, X _ _ z, Option.some.inj ht'⟩
  obtain ⟨of, hof, hofc⟩ := fn
  have hso' := (N _ hso).1
  have hC : Looks (model P0 w) hh (mroOf (.ref C)) cd.mro := fun A Q E s k q => wpAny_bind ((looks_clsIn X hc) A _ E s k (wpAny_pure q))
  have hT : ∀ t', (⟨hh, g, d, t', os⟩ : Shared).TypeIs (.ref so) "super" := fun _ => ⟨_, hso', rfl⟩
  have hlk := PySem.F.ks_slot_super_ga.lookup
  unfold getAttr getAttrBy
  refine wpAny_bind (wpAny_mkText (wpAny_holding (wpAny_bind (wpAny_typeOf (hT _) (wpAny_bind (wpAny_of_eq hlk ?_))))))
  show wpAny _ _ (getAttrByItsOwn (.ref so) (.str name t) (.type "super") (.builtin "super.__getattribute__") true true) _ _ _
  unfold getAttrByItsOwn hookBefore callGetattribute boundAndCalled
  refine wpAny_bind (wpAny_of_eq (show (if onTheHeap (.type "super") then typeLookup (.type "super") "__getattr__" else pure none) = pure none from rfl) ?_)
  refine wpAny_bind (wpAny_attempt (wpAny_holding ?_))
  show wpAny _ _ (bindSpecial (.builtin "super.__getattribute__") (.ref so) >>= _) _ _ _
  refine wpAny_bind (wpAny_of_eq (PySem.F.ks_slot_super_ga.bind _) ?_)
  refine wpAny_mono (Q := fun v s' => v = .ref hh.objs.size ∧ s' = ⟨hh.push { cls := .type "method", data := .fields #[.ref f, .ref x] }, g, d, t + 1, os⟩) (E := fun _ _ => False)
    (wpAny_call_entry PySem.F.ks_slot_super_ga (hT _) PySem.F.ks_entry_super_ga (ks_wpAny_super_ga hso' (looks_opaque X ho) hC rfl X hm hof hofc (ks_ne X I hc) hn ⟨_, rfl, rfl, rfl⟩) (PySem.F.ks_gaArgs_super _ _)) (fun v s' hv => ?_) fun _ _ z => z.elim
  obtain ⟨rfl, rfl⟩ := hv
  have k : Grows hh (hh.push (methodObj (.ref f) (.ref x))) := fun b o e => Heap.get?_push_of_some _ e
  obtain ⟨F', N', l'⟩ := ks_newsPush (s := ⟨hh, g, d, t, os⟩) (o := methodObj (.ref f) (.ref x)) F N rfl (Heap.get?_push_at rfl rfl) k
  exact wpAny_pure (h _ _ F' N' l' k)
theorem nm_local {M : Model} {env : Env} {h : Heap} {y : Str} {pos p1 : Pos} {v : Value} {Q : Value → Shared → Prop} (F : Fr h₀ env.locals h m) (hk : env.scope.kind = .function) (hl : env.kindOf y = some .local) (hd : (y == ("__debug__" : Str)) = false) (hv : m y = some v) (g : Grows h s.heap) (q : Q v s) :
    wpAny M A (do let v ← eval (.Name y pos) env; standAt p1; pure v) Q E s :=
  wpAny_bind (wpAny_Name (wpAny_loadName_local hk hl (F.keeps g).ns hv (wpAny_bind (wpAny_standAt (wpAny_pure q)))) hd)
end
theorem Fr.but {h₀ h h' : Heap} {L d : Addr} {m : Str → Option Value} (F : Fr h₀ L h m) (k : ∀ b o, b ≠ d → h.get? b = some o → h'.get? b = some o) (hL : L ≠ d) (h0 : h₀.get? d = none) : Fr h₀ L h' m :=
  ⟨F.ns.at' fun o e => k L o hL e, fun b o e => k b o (by rintro rfl; rw [h0] at e; cases e) (F.keep b o e), F.above⟩
theorem super_done {w : World} {s : Shared} {h₀ : Heap} {L x dx : Addr} {m : Str → Option Value} {oi : Obj} {vs : List Value} {tap : Bool} {v : Value} {s' : Shared} (F : Fr h₀ L s.heap m) (n1 : s.heap.get? x = some oi ∧ x ≠ L ∧ h₀.get? x = none) (n2 : s.heap.get? dx = some emptyDict ∧ dx ≠ L ∧ h₀.get? dx = none) (hl : (x : Nat) ≠ dx) (P : InitPost w s dx vs tap v s') :
    ∃ h' tk T t1 t2, s' = { s with heap := h', toks := tk } ∧ v = .none ∧ Fr h₀ L h' m ∧ News h₀ L h' [(T, tupObj vs), (x, oi), (dx, dictOf [ent w "args" t1 (.ref T), ent w "taproot" t2 (.bool tap)] 2)] ∧ (x ≠ T ∧ dx ≠ T) := by
  obtain ⟨h', tk, T, t1, t2, rfl, rfl, k, hT, eT, ed⟩ := P
  have hTL : T ≠ L := fun q => by obtain ⟨o, _, _, e, _⟩ := F.ns; rw [← q, hT] at e; cases e
  have hT0 : h₀.get? T = none := by
    cases q : h₀.get? T with
    | none => rfl
    | some o => have := F.keep _ _ q; rw [hT] at this; cases this
  have hTx : T ≠ x := fun q => by rw [q, n1.1] at hT; cases hT
  have hTd : T ≠ dx := fun q => by rw [q, n2.1] at hT; cases hT
  refine ⟨h', tk, T, t1, t2, rfl, rfl, Fr.but F k (Ne.symm n2.2.1) n2.2.2, fun p hp => ?_, Ne.symm hTx, Ne.symm hTd⟩
  simp only [List.mem_cons, List.not_mem_nil, or_false] at hp
  rcases hp with rfl | rfl | rfl
  · exact ⟨eT, hTL, hT0⟩
  · exact ⟨k _ _ hl n1.1, n1.2⟩
  · exact ⟨ed, n2.2⟩
theorem init_close2 {w : World} {s : Shared} {h₀ h' : Heap} {L x dx T : Addr} {m : Str → Option Value} {oi : Obj} {vs : List Value} {tap : Bool} {t1 t2 : Tok} {tk : Nat} (hh : hideAll s.heap [x, dx] = h₀) (F : Fr h₀ L h' m)
    (N : News h₀ L h' [(T, tupObj vs), (x, oi), (dx, dictOf [ent w "args" t1 (.ref T), ent w "taproot" t2 (.bool tap)] 2)]) (lt : x ≠ T ∧ dx ≠ T) (hx : s.heap.get? x = some oi) :
    InitPost w s dx vs tap .none { s with heap := h', toks := tk } := by
  subst hh
  refine ⟨h', tk, T, t1, t2, rfl, rfl, fun b o hb e => ?_, ?_, (N _ (.head _)).1, (N _ (.tail _ (.tail _ (.head _)))).1⟩
  · by_cases hbx : b = x
    · subst hbx
      rw [hx] at e
      rw [← e]
      exact (N _ (.tail _ (.head _))).1
    · exact F.keep b o (hideAll_get _ e (by simp only [List.mem_cons, List.not_mem_nil, or_false, not_or]; exact ⟨hbx, hb⟩))
  · cases q : s.heap.get? T with
    | none => rfl
    | some o =>
      have := (N (T, tupObj vs) (.head _)).2.2
      rw [hideAll_get [x, dx] q (by simp only [List.mem_cons, List.not_mem_nil, or_false, not_or]; exact ⟨Ne.symm lt.1, Ne.symm lt.2⟩)] at this
      cases this
theorem multi_init_f {w : World} {A : Around} {s : Shared} {g : Heap} {C x dx : Addr} {n : Value} {vs : List Value} (W : World0 w g) (sub : Grows g s.heap) (gx : g.get? x = none) (gd : g.get? dx = none)
    (hx : s.heap.get? x = some (instObj C dx)) (hd : s.heap.get? dx = some emptyDict) (hl : dx < x) (hC : C = 1233 ∨ C = 1250) (hz : (n :: vs).length ≤ 1000) (r : Room 2 A) :
    codeAny (model P0 w) A (.call (.ref 1210) ⟨.ref x :: n :: vs, []⟩) (fun r s' => ∃ v, r = .ok (.ret v) ∧ InitPost w s dx (n :: vs) false v s') s := by
  have gs : Grows g (hideAll s.heap [x, dx]) := fun b o e => hideAll_get _ (sub b o e) (by
    intro m
    rcases List.mem_cons.mp m with rfl | m
    · rw [gx] at e; cases e
    · obtain rfl := List.mem_singleton.mp m; rw [gd] at e; cases e)
  obtain ⟨X, loose, mg, mb, T⟩ := W.grow gs
  refine' enter_both (news := [(x, instObj C dx), (dx, emptyDict)]) (fun b o => of_hideAll [x, dx]) (Nat.le_of_eq (hideAll_size _ _)) ?hnew X T r ?ho ?hcd ?hp ?hd ?hz ?hx ?hloc ?_ ?c1 ?c2 ?c3 ?c4
  case hnew =>
    intro p hp
    rcases List.mem_cons.mp hp with rfl | hp
    · exact ⟨hx, hideAll_none _ (.head _)⟩
    · obtain rfl := List.mem_singleton.mp hp; exact ⟨hd, hideAll_none _ (.tail _ (.head _))⟩
  case ho => k_is
  case hcd => k_is
  case hp => rfl
  case hd => rfl
  case hz => exact hz
  case hx => exact .inl rfl
  case hloc => exact fun _ _ => locs rfl
  case c1 => decide
  case c2 => rfl
  case c3 => rfl
  case c4 => rfl
  intro T' D L h₁ tk tok c F N lt1 lt2 lt3 hm rr gr
  generalize hh : hideAll s.heap [x, dx] = h₀ at *
  k_lt lt1
  k_lt2 lt2
  k_lt2 lt3
  k_lt2 hl
  rcases hC with rfl | rfl
  all_goals
    refine ks_wpAt_execs_cons ?_
    refine ks_wpAt_Expr_any ?_
    refine at_methodKw ?_
    refine super_node (by k_asm) (by k_asm) (by k_asm) (by k_asm) (by k_is) (by rfl) (by rfl) (InstAt.of_news (by k_asm) (by k_mem) (by k_mem)) (by k_is) (by rfl) (by first | rfl | decide +kernel) (by k_is) (by k_is) (by k_is) (by k_is) (by decide) (by rfl) (by rfl) (by rfl) (by rfl) (by decide +kernel) (by first | boot_by_name | rfl | kernel_rfl) ?_
    intro so h' F' N' l1 g'
    k_lt l1
    refine super_attr (by k_asm) (by k_asm) (by k_asm) (by k_mem) (InstAt.of_news (by k_asm) (by k_mem) (by k_mem)) (by k_is) (by k_is) (by ks_is) (by k_is) (by decide) ?_
    intro q h'' F'' N'' l2 g''
    k_lt l2
    refine call_both (T := T') (D := D) (t := tok) (n := c) (items := (n :: vs).toArray) (kw := []) ?hkp ?hx ?hy ?hT ?hz ?hD (Nat.zero_le _) hm ?_
    case hkp => exact fun h' g => keeps_M (K := Mine.fr.heap_1 w.params) (by k_is) h' ⟨g _ _ (N'' _ (.head _)).1, X.keeps fun b o e => g b o (F''.keep b o e)⟩
    case hx => exact fun s' Q g q => nm_local F'' rfl rfl (by decide) rfl g q
    case hy => exact fun s' Q g q => nm_local F'' rfl rfl (by decide) rfl g q
    case hT => exact ⟨_, (N'' (T', tupObj (n :: vs)) (by k_mem)).1, rfl, _, rfl⟩
    case hz => rw [sizeLine_eq]; exact Nat.le_trans hz (by decide)
    case hD => exact (N'' (D, dictOf (kwEs w.params tok []) c) (by k_mem)).1
    intro h3 g3
    refine call_meth (N''.grown g3) (by k_mem) ?_
    have F3 := F''.keeps g3
    have N3 := N''.grown g3
    refine codeAny_mono (mi_init_f (s := ⟨h3, _, _, _, _⟩) W (fun b o e => F3.keep b o (gs b o e)) gx gd (N3 (x, instObj _ dx) (by k_mem)).1 (N3 (dx, emptyDict) (by k_mem)).1 hl (by decide) hz (by (exact Room.le (by assumption) (by decide)))) ?_
    rintro _ s' ⟨v, rfl, P⟩
    obtain ⟨h4, tk4, T4, t1, t2, rfl, rfl, F4, N4, l4⟩ := super_done F3 (N3 (x, instObj _ dx) (by k_mem)) (N3 (dx, emptyDict) (by k_mem)) (Ne.symm (Nat.ne_of_lt hl)) P
    clear N N' N'' N3 F F' F'' F3
    dsimp only
    repeat' (first | walk1 | (dsimp only; walk1))
    exact init_close2 (by assumption) (by assumption) (by assumption) (by assumption) (by assumption)
theorem multi_init_t {w : World} {A : Around} {s : Shared} {g : Heap} {C x dx : Addr} {n : Value} {vs : List Value} (W : World0 w g) (sub : Grows g s.heap) (gx : g.get? x = none) (gd : g.get? dx = none)
    (hx : s.heap.get? x = some (instObj C dx)) (hd : s.heap.get? dx = some emptyDict) (hl : dx < x) (hC : C = 1274 ∨ C = 1291) (hz : (n :: vs).length ≤ 1000) (r : Room 2 A) :
    codeAny (model P0 w) A (.call (.ref 1210) ⟨.ref x :: n :: vs, [(Str.ofString "taproot", .bool true)]⟩) (fun r s' => ∃ v, r = .ok (.ret v) ∧ InitPost w s dx (n :: vs) true v s') s := by
  have gs : Grows g (hideAll s.heap [x, dx]) := fun b o e => hideAll_get _ (sub b o e) (by
    intro m
    rcases List.mem_cons.mp m with rfl | m
    · rw [gx] at e; cases e
    · obtain rfl := List.mem_singleton.mp m; rw [gd] at e; cases e)
  obtain ⟨X, loose, mg, mb, T⟩ := W.grow gs
  refine' enter_both (news := [(x, instObj C dx), (dx, emptyDict)]) (fun b o => of_hideAll [x, dx]) (Nat.le_of_eq (hideAll_size _ _)) ?hnew X T r ?ho ?hcd ?hp ?hd ?hz ?hx ?hloc ?_ ?c1 ?c2 ?c3 ?c4
  case hnew =>
    intro p hp
    rcases List.mem_cons.mp hp with rfl | hp
    · exact ⟨hx, hideAll_none _ (.head _)⟩
    · obtain rfl := List.mem_singleton.mp hp; exact ⟨hd, hideAll_none _ (.tail _ (.head _))⟩
  case ho => k_is
  case hcd => k_is
  case hp => rfl
  case hd => rfl
  case hz => exact hz
  case hx => exact .inr ⟨_, _, rfl, by decide⟩
  case hloc => exact fun _ _ => locs rfl
  case c1 => decide
  case c2 => rfl
  case c3 => rfl
  case c4 => rfl
  intro T' D L h₁ tk tok c F N lt1 lt2 lt3 hm rr gr
  generalize hh : hideAll s.heap [x, dx] = h₀ at *
  k_lt lt1
  k_lt2 lt2
  k_lt2 lt3
  k_lt2 hl
  rcases hC with rfl | rfl
  all_goals
    refine ks_wpAt_execs_cons ?_
    refine ks_wpAt_Expr_any ?_
    refine at_methodKw ?_
    refine super_node (by k_asm) (by k_asm) (by k_asm) (by k_asm) (by k_is) (by rfl) (by rfl) (InstAt.of_news (by k_asm) (by k_mem) (by k_mem)) (by k_is) (by rfl) (by first | rfl | decide +kernel) (by k_is) (by k_is) (by k_is) (by k_is) (by decide) (by rfl) (by rfl) (by rfl) (by rfl) (by decide +kernel) (by first | boot_by_name | rfl | kernel_rfl) ?_
    intro so h' F' N' l1 g'
    k_lt l1
    refine super_attr (by k_asm) (by k_asm) (by k_asm) (by k_mem) (InstAt.of_news (by k_asm) (by k_mem) (by k_mem)) (by k_is) (by k_is) (by ks_is) (by k_is) (by decide) ?_
    intro q h'' F'' N'' l2 g''
    k_lt l2
    refine call_both (T := T') (D := D) (t := tok) (n := c) (items := (n :: vs).toArray) (kw := [(Str.ofString "taproot", .bool true)]) ?hkp ?hx ?hy ?hT ?hz ?hD (Nat.le_refl _) hm ?_
    case hkp => exact fun h' g => keeps_M (K := Mine.fr.heap_1 w.params) (by k_is) h' ⟨g _ _ (N'' _ (.head _)).1, X.keeps fun b o e => g b o (F''.keep b o e)⟩
    case hx => exact fun s' Q g q => nm_local F'' rfl rfl (by decide) rfl g q
    case hy => exact fun s' Q g q => nm_local F'' rfl rfl (by decide) rfl g q
    case hT => exact ⟨_, (N'' (T', tupObj (n :: vs)) (by k_mem)).1, rfl, _, rfl⟩
    case hz => rw [sizeLine_eq]; exact Nat.le_trans hz (by decide)
    case hD => exact (N'' (D, dictOf (kwEs w.params tok [(Str.ofString "taproot", .bool true)]) c) (by k_mem)).1
    intro h3 g3
    refine call_meth (N''.grown g3) (by k_mem) ?_
    have F3 := F''.keeps g3
    have N3 := N''.grown g3
    refine codeAny_mono (mi_init_t (s := ⟨h3, _, _, _, _⟩) W (fun b o e => F3.keep b o (gs b o e)) gx gd (N3 (x, instObj _ dx) (by k_mem)).1 (N3 (dx, emptyDict) (by k_mem)).1 hl (by decide) hz (by (exact Room.le (by assumption) (by decide)))) ?_
    rintro _ s' ⟨v, rfl, P⟩
    obtain ⟨h4, tk4, T4, t1, t2, rfl, rfl, F4, N4, l4⟩ := super_done F3 (N3 (x, instObj _ dx) (by k_mem)) (N3 (dx, emptyDict) (by k_mem)) (Ne.symm (Nat.ne_of_lt hl)) P
    clear N N' N'' N3 F F' F'' F3
    dsimp only
    repeat' (first | walk1 | (dsimp only; walk1))
    exact init_close2 (by assumption) (by assumption) (by assumption) (by assumption) (by assumption)
end
section -- HA
/-! hasattr of an object that has it not -/
namespace HA
theorem kind : builtinKind "hasattr" = none := by decide +kernel
theorem plain : plainId "hasattr" = true := by decide +kernel
theorem entry : entryFor table "hasattr" = some Builtin.«hasattr» := entryFor_of_tree (by kernel_rfl)
theorem args (a b : Value) : argsOk "hasattr" ⟨[a, b], []⟩ := by unfold argsOk; kernel_rfl
theorem two (a b : Value) : someArgs "hasattr" 2 2 ⟨[a, b], []⟩ = pure [a, b] := by kernel_rfl
end HA
section
open Builtin Builtin.ObjectAttr
variable {w : World} {A : Around} {s : Shared} {E : Value → Shared → Prop} {K : Frag} {x C : Addr} {ox : Obj} {od : Option Obj} {name : Str} {t : Tok} {Q : Value → Shared → Prop} {nm : String}
theorem missing_raises {h : Heap} {g : Array GenState} {d : Drawn} {tk : Nat} {os : OsState} {cd : ClassData} {Q : Value → Shared → Prop} (X : K.In h) (I : InstAt h x ox C od) (hga : findIn K (.ref C) "__getattribute__" = some (some (.builtin "object.__getattribute__"))) (hgb : findIn K (.ref C) "__getattr__" = some none)
    (hf : findObj K C od name = some .missing) (hc : clsIn K C = some cd) (hn : (cd.name.cps.foldl (fun k c => k + (Str.utf8Of c).length) 0 ≤ 100 : Bool) = true) (hl : cd.name.toString.length ≤ 50) (hz : name.length + 100 ≤ sizeLine) (hh : A.handled = none)
    (hq : ∀ h' tk e, Heap.NewAttrErr h h' e (.ref x) name → E (.ref e) ⟨h', g, d, tk, os⟩) :
    wpAny (model P0 w) A (getAttrBy (.ref x) (.str name t) false) Q E ⟨h, g, d, tk, os⟩ := by
  have L0 := I.type (M := model P0 w)
  have L1 := looks_findIn (M := model P0 w) X hga
  have L2 := looks_findIn (M := model P0 w) X hgb
  have L3 := looks_find (M := model P0 w) X I hf
  unfold getAttrBy
  refine wpAny_holding (wpAny_bind (L0.at (wpAny_bind (L1.at ?_))))
  show wpAny _ _ (getAttrEveryday _ _ _) _ _ _
  refine wpAny_bind (wpAny_onRaise (wpAny_runValue (codeAny_builtin PySem.F.plainObj_entry_getattr_hooked ?_)))
  refine wpAny_bind (wpAny_pure (wpAny_bind (L0.at (wpAny_bind (L3.at ?_)))))
  refine wpAny_bind (L2.at ?_)
  show wpAny _ _ (noSuchAttribute (.ref x) name) _ _ _
  unfold noSuchAttribute typeNameOfCut shownTypeOf
  have L5 := looks_clsIn (M := model P0 w) X hc
  refine wpAny_bind (wpAny_bind (wpAny_bind (L0.at ?_)))
  show wpAny _ _ (pure (Value.ref C)) _ _ _
  refine wpAny_pure ?_
  unfold typeNameCut
  refine wpAny_bind (L5.at ?_)
  dsimp only
  rw [if_pos (of_decide_eq_true hn)]
  refine wpAny_pure ?_
  refine wpAny_raiseAttrError hh (fun h' tk e ne => wpAny_pure (hq h' tk e ne)) ?_
  have := attrMsg_fits (pre := "'" ++ cd.name.toString ++ "' object has no attribute '") (name := name) (by simp only [String.length_append]; have e1 : "' object has no attribute '".length ≤ 30 := (by decide); have e2 : "'".length = 1 := (by decide); (first | lia | omega)) hz
  exact this
theorem hasattr_miss {cd : ClassData} (X : K.In s.heap) (I : InstAt s.heap x ox C od) (hga : findIn K (.ref C) "__getattribute__" = some (some (.builtin "object.__getattribute__"))) (hgb : findIn K (.ref C) "__getattr__" = some none)
    (hf : findObj K C od name = some .missing) (hc : clsIn K C = some cd) (hn : (cd.name.cps.foldl (fun k c => k + (Str.utf8Of c).length) 0 ≤ 100 : Bool) = true) (hl : cd.name.toString.length ≤ 50) (hz : name.length + 100 ≤ sizeLine) (hm : mroIn K C (.type "module") = some false) (hh : A.handled = none)
    (hq : ∀ h' tk, Grows s.heap h' → Q (.bool false) { s with heap := h', toks := tk }) :
    wpAny (model P0 w) A (call (.builtin "hasattr") [.ref x, .str name t]) Q E s := by
  obtain ⟨h, g, d, tk, os⟩ := s
  have L0 := I.type (M := model P0 w)
  have Lm : Looks (model P0 w) h (isInstance (.ref x) (.type "module")) false := L0.andThen (looks_mroIn X hm)
  refine call_function_any HA.kind HA.plain HA.entry (HA.args _ _) ?_
  unfold Builtin.«hasattr»
  refine wpAny_bind (wpAny_of_eq (HA.two _ _) ?_)
  dsimp only
  refine wpAny_bind (wpAny_of_eq rfl ?_)
  refine bm_if_false rfl ?_
  refine wpAny_bind (L0.at ?_)
  show wpAny _ _ (bind _ _) _ _ _
  refine wpAny_bind ?_
  show wpAny _ _ (bind (asStr? (.str name t)) _) _ _ _
  refine wpAny_bind (wpAny_pure ?_)
  show wpAny _ _ (bind (isInstance (.ref x) (.type "module")) _) _ _ _
  refine wpAny_bind (Lm.at (wpAny_pure ?_))
  refine bm_if_false rfl ?_
  unfold getAttrBy?
  refine wpAny_bind (wpAny_bind (wpAny_attempt ?_))
  refine missing_raises X I hga hgb hf hc hn hl hz hh fun h' tk' e ne => ?_
  obtain ⟨t', u', he⟩ := ne.there
  refine wpAny_bind (wpAny_isInstance (s := ⟨h', g, d, tk', os⟩) ⟨_, he, rfl⟩ sub_AttributeError (wpAny_pure ?_))
  refine bm_if_false rfl (wpAny_pure ?_)
  exact hq h' tk' ne.keeps
end
end
section -- NM
local macro_rules | `(tactic| k_inst) => `(tactic| (refine' InstAt.base ?F ?h1 ?h2; (case F => k_asm); (case h1 => assumption); (case h2 => assumption)))
section
variable {w : World} {A : Around} {s : Shared} {E : Value → Shared → Prop} {P : Value → Heap → Prop} {C fI : Addr} {rest : List Value} {kw : List (Str × Value)}
theorem Room.make {n : Nat} (r : Room (n + 1) A) : Room n (A.under (.builtin "type.__call__" ⟨.ref C :: rest, kw⟩)) :=
  ⟨r.1, by have := r.2.1; show A.depth + 1 + n ≤ 900; (first | lia | omega), by have := r.2.2; show A.units + 1 + 50 * n ≤ 9000; (first | lia | omega)⟩
/-- C(..): the object is made, its __init__ called -/
theorem make {n : Nat} (W : World0 w s.heap) (r : Room (n + 1) A) (hm : makesIn (fr.heap_1 w.params) C = true) (hi : findIn (fr.heap_1 w.params) (.ref C) "__init__" = some (some (.ref fI))) (hf : typeIn (fr.heap_1 w.params) (.ref fI) = some (.type "function"))
    (h : ∀ (A' : Around) x dx h₁, Room n A' → World0 w h₁ → Grows s.heap h₁ → s.heap.objs.size ≤ h₁.objs.size → s.heap.get? x = none → s.heap.get? dx = none → h₁.get? x = some (instObj C dx) → h₁.get? dx = some emptyDict → dx < x →
      codeAny (model P0 w) A' (.call (.ref fI) ⟨.ref x :: rest, kw⟩) (fun r s' => ∃ v, r = .ok (.ret v) ∧ v = .none ∧ Back s P (.ref x) s') { s with heap := h₁ }) :
    wpAny (model P0 w) A (call (.ref C) rest kw) (Back s P) E s := by
  obtain ⟨hh, g, d, t, os⟩ := s
  have k : Grows hh ((hh.push emptyDict).push (instObj C hh.objs.size)) := fun b o e => Heap.get?_push_of_some _ (Heap.get?_push_of_some _ e)
  refine wpAny_call (make_core (makes_of W.X hm) (looks_findIn W.X hi) (fun self => bind_fn W.X self hf) (.inl rfl) ?_)
  refine codeAny_mono (h _ (hh.objs.size + 1) hh.objs.size _ r.make (W.grow k) k (by rw [Heap.size_push, Heap.size_push]; show hh.objs.size ≤ _; (first | lia | omega)) (Heap.get?_none_of_le (by show hh.objs.size ≤ hh.objs.size + 1; (first | lia | omega))) (Heap.get?_none_of_le (Nat.le_refl _)) ?_ ?_ (Nat.lt_succ_self _)) ?_
  · have := Heap.get?_push_size (hh.push emptyDict) (o := instObj C hh.objs.size) rfl
    rwa [Heap.size_push] at this
  · exact Heap.get?_push_of_some _ (Heap.get?_push_size _ rfl)
  · rintro _ s' ⟨v, rfl, rfl, b⟩
    exact ⟨rfl, b⟩
/-- the same with a plain __init__, walked -/
theorem make_def {n : Nat} {name qual : Str} {params : Arguments} {body : List Stmt} {scope : Scope} {dV kV doc pm cdv ct oc : Value} {an od : Option Addr} {osl : Array (Option Value)} {cl : List (Str × Addr)} {binds : Addr → List (Str × Value)}
    (W : World0 w s.heap) (r : Room (n + 2) A) (hm : makesIn (fr.heap_1 w.params) C = true) (hi : findIn (fr.heap_1 w.params) (.ref C) "__init__" = some (some (.ref fI))) (hf : typeIn (fr.heap_1 w.params) (.ref fI) = some (.type "function"))
    (fits : ∀ x s', World0 w s'.heap → Fits s' (fr.heap_1 w.params) fI ⟨.ref x :: rest, kw⟩ (binds x) name qual params body scope cl dV kV doc pm an cdv ct oc od osl)
    (h : ∀ (A' : Around) x dx L h₁ tk loose mg mb, (fr.heap_1 w.params).In s.heap → TopRead V0 loose mg mb s.heap → Fr s.heap L h₁ (fun y => (binds x).reverse.lookup y) → News s.heap L h₁ [(x, instObj C dx), (dx, emptyDict)] → dx < x → Room n A' → 
      wpAny (model P0 w) A' (execs body (envX qual scope L fI cdv cl))
        (fun fl s' => (match fl with | .ret v => v | _ => .none) = .none ∧ Back s P (.ref x) s') (fun _ _ => False) { s with heap := h₁, toks := tk }) :
    wpAny (model P0 w) A (call (.ref C) rest kw) (Back s P) E s := by
  obtain ⟨X, loose, mg, mb, T⟩ := id W
  refine make W r hm hi hf fun A' x dx h₁ r' W' g hsz nx nd ex ed lt => ?_
  refine enter (h₀ := s.heap) (news := [(x, instObj C dx), (dx, emptyDict)]) g hsz ?_ X T r' (fits x { s with heap := h₁ } W') fun L h₂ F N rr g' => ?_
  · intro p hp
    rcases List.mem_cons.mp hp with rfl | hp
    · exact ⟨ex, nx⟩
    · obtain rfl := List.mem_singleton.mp hp; exact ⟨ed, nd⟩
  · exact wpAny_mono (h _ x dx L h₂ _ loose mg mb X T F N lt rr) (fun fl s' ⟨e, b⟩ => ⟨_, rfl, e, b⟩) fun _ _ z => z
end
theorem NewIn.left {h₀ h₁ h₂ g : Heap} (k : Grows h₁ h₂) (n : NewIn h₀ h₂ g) : NewIn h₀ h₁ g := fun b o e f => n b o e (k b o f)
theorem NewIn.right {h₀ h₁ h₂ g : Heap} (k : Grows h₀ h₁) (n : NewIn h₀ h₂ g) : NewIn h₁ h₂ g := fun b o e f => n b o (by
  cases q : h₀.get? b with
  | none => rfl
  | some o' => rw [k b o' q] at e; cases e) f
theorem NewIn.self (h h' : Heap) : NewIn h h' h' := fun _ _ _ e => e
theorem num_new {w : World} {A : Around} {E : Value → Shared → Prop} {s : Shared} {n : Int} {t : Tok} (W : World0 w s.heap) (r : Room 2 A) :
    wpAny (model P0 w) A (call (.ref 1126) [.int n t]) (Back s (fun v h => ∃ a d t1 t2, v = .ref a ∧ IsNum w h a n d t1 t2)) E s := by
  refine' make_def (binds := fun x => [(Str.ofString "self", .ref x), (Str.ofString "num", .int n t)]) W r ?hm ?hi ?hf ?fits ?_
  case hm => k_is
  case hi => k_is
  case hf => k_is
  case fits => intro x s' W'; ((refine' Fits.mk ?ho ?hcd ?hbind ?hloc ?hcell ?hco ?hgen ?hk; (case ho => k_is); (case hcd => k_is); (case hbind => first | exact BindsTo.of_eq rfl | exact binds_K (World0.X (by assumption)) rfl (by k_is) rfl rfl rfl); (case hloc => rfl); (case hcell => rfl); (case hco => rfl); (case hgen => rfl); (case hk => rfl)))
  intro A' x dx L h₁ tk loose mg mb KX T F N lt rr
  k_lt2 lt
  repeat' (first | walk1 | (dsimp only; walk1))
  rename Fr _ _ _ _ => FF
  rename News _ _ _ _ => NN
  exact Back.of FF ⟨_, _, _, _, rfl, (NN _ (.head _)).1, (NN _ (.tail _ (.head _))).1⟩
theorem pk_new {w : World} {A : Around} {E : Value → Shared → Prop} {s : Shared} {l : List UInt8} {t : Tok} (W : World0 w s.heap) (r : Room 2 A) :
    wpAny (model P0 w) A (call (.ref 953) [.bytes ⟨l⟩ t]) (Back s (fun v h => ∃ a d t1 t2 t3, v = .ref a ∧ ∀ g, NewIn s.heap h g → IsPk w g a l d t1 t2 t3)) E s := by
  refine' make_def (binds := fun x => [(Str.ofString "self", .ref x), (Str.ofString "point", .bytes ⟨l⟩ t), (Str.ofString "compressed", .bool true)]) W r ?hm ?hi ?hf ?fits ?_
  case hm => k_is
  case hi => k_is
  case hf => k_is
  case fits => intro x s' W'; ((refine' Fits.mk ?ho ?hcd ?hbind ?hloc ?hcell ?hco ?hgen ?hk; (case ho => k_is); (case hcd => k_is); (case hbind => first | exact BindsTo.of_eq rfl | exact binds_K (World0.X (by assumption)) rfl (by k_is) rfl rfl rfl); (case hloc => rfl); (case hcell => rfl); (case hco => rfl); (case hgen => rfl); (case hk => rfl)))
  intro A' x dx L h₁ tk loose mg mb KX T F N lt rr
  k_lt2 lt
  repeat' (first | walk1 | (dsimp only; walk1))
  rename Fr _ _ _ _ => FF
  rename News _ _ _ _ => NN
  exact Back.of FF ⟨_, _, _, _, _, rfl, fun g hg => ⟨hg _ _ (NN _ (.head _)).2.2 (NN _ (.head _)).1, hg _ _ (NN _ (.tail _ (.head _))).2.2 (NN _ (.tail _ (.head _))).1⟩⟩
theorem key_new {w : World} {A : Around} {E : Value → Shared → Prop} {s : Shared} {tap : Bool} {l : List UInt8} {pk dp : Addr} {t6 t7 t8 : Tok} (W : World0 w s.heap) (K : IsPk w s.heap pk l dp t6 t7 t8) (r : Room 2 A) :
    wpAny (model P0 w) A (call (.ref 1086) [.ref pk, .none, .none, .bool tap]) (Back s (fun v h => ∃ a d t1 t2 t3 t4 t5, v = .ref a ∧ ∀ g, NewIn s.heap h g → IsPk w g pk l dp t6 t7 t8 → IsKey w g a tap l d pk dp t1 t2 t3 t4 t5 t6 t7 t8)) E s := by
  refine' make_def (binds := fun x => [(Str.ofString "self", .ref x), (Str.ofString "key", .ref pk), (Str.ofString "origin", .none), (Str.ofString "derivation", .none), (Str.ofString "taproot", .bool tap), (Str.ofString "xonly_repr", .bool false)]) W r ?hm ?hi ?hf ?fits ?_
  case hm => k_is
  case hi => k_is
  case hf => k_is
  case fits => intro x s' W'; ((refine' Fits.mk ?ho ?hcd ?hbind ?hloc ?hcell ?hco ?hgen ?hk; (case ho => k_is); (case hcd => k_is); (case hbind => first | exact BindsTo.of_eq rfl | exact binds_K (World0.X (by assumption)) rfl (by k_is) rfl rfl rfl); (case hloc => rfl); (case hcell => rfl); (case hco => rfl); (case hgen => rfl); (case hk => rfl)))
  intro A' x dx L h₁ tk loose mg mb KX T F N lt rr
  k_lt2 lt
  obtain ⟨ko, kd⟩ := K
  repeat' (first | ((with_reducible show wpAny _ _ (call (Value.builtin "hasattr") _ _) _ _ _); ((k_here; (refine' hasattr_miss (K := fr.heap_1 _) ?zzX ?zzI ?zzg1 ?zzg2 ?zzf ?zzc ?zzn ?zzl ?zzz ?zzm ?zzhh ?_; (case zzX => exact Frag.In.keeps (by assumption) (Fr.keep (by assumption))); (case zzI => k_inst); (case zzg1 => k_is); (case zzg2 => k_is); (case zzc => k_is); (case zzm => k_is); (case zzn => decide +kernel); (case zzl => decide +kernel); (case zzz => size_fits); (case zzhh => exact (show Room _ _ by assumption).1); (case zzf => rfl)); intro h' t' g'; (with_reducible rename Fr _ _ _ _ => F'); (with_reducible rename News _ _ _ _ => N'); replace F' := Fr.keeps F' g'; replace N' := News.grown N' g'))) | walk1 | (dsimp only; walk1))
  rename Fr _ _ _ _ => FF
  rename News _ _ _ _ => NN
  exact Back.of FF ⟨_, _, _, _, _, _, _, rfl, fun g hg p => ⟨hg _ _ (NN _ (.head _)).2.2 (NN _ (.head _)).1, hg _ _ (NN _ (.tail _ (.head _))).2.2 (NN _ (.tail _ (.head _))).1, p⟩⟩
/-- a Miniscript of class C: its args and its taproot -/
structure IsMs (w : World) (h : Heap) (C : Addr) (tap : Bool) (vs : List Value) (x dx T : Addr) (t1 t2 : Tok) : Prop where
  o : h.get? x = some (instObj C dx)
  d : h.get? dx = some (dictOf [ent w "args" t1 (.ref T), ent w "taproot" t2 (.bool tap)] 2)
  t : h.get? T = some (tupObj vs)
theorem IsMs.grow {w : World} {h h' : Heap} {C x dx T : Addr} {tap : Bool} {vs : List Value} {t1 t2 : Tok} (M : IsMs w h C tap vs x dx T t1 t2) (g : Grows h h') : IsMs w h' C tap vs x dx T t1 t2 := ⟨g _ _ M.o, g _ _ M.d, g _ _ M.t⟩
def MsAt (w : World) (h : Heap) (C : Addr) (tap : Bool) (vs : List Value) (v : Value) : Prop := ∃ x dx T t1 t2, v = .ref x ∧ IsMs w h C tap vs x dx T t1 t2
theorem ms_of_init {w : World} {s s' : Shared} {h₁ : Heap} {C x dx : Addr} {vs : List Value} {tap : Bool} {v : Value} (g : Grows s.heap h₁) (nd : s.heap.get? dx = none) (ex : h₁.get? x = some (instObj C dx)) (lt : dx < x)
    (P : InitPost w { s with heap := h₁ } dx vs tap v s') : v = .none ∧ Back s (fun v h => MsAt w h C tap vs v) (.ref x) s' := by
  obtain ⟨h', tk, T, t1, t2, rfl, rfl, k, nT, eT, ed⟩ := P
  exact ⟨rfl, h', tk, rfl, fun b o e => k b o (by rintro rfl; rw [nd] at e; cases e) (g b o e), x, dx, T, t1, t2, rfl, k _ _ (Ne.symm (Nat.ne_of_lt lt)) ex, ed, eT⟩
theorem ms_new_f {w : World} {A : Around} {E : Value → Shared → Prop} {s : Shared} {C : Addr} {n : Value} {vs : List Value} (W : World0 w s.heap) (hC : C = 1233 ∨ C = 1250) (hz : (n :: vs).length ≤ 1000) (r : Room 3 A) :
    wpAny (model P0 w) A (call (.ref C) (n :: vs)) (Back s (fun v h => MsAt w h C false (n :: vs) v)) E s := by
  have k : makesIn (fr.heap_1 w.params) C = true ∧ findIn (fr.heap_1 w.params) (.ref C) "__init__" = some (some (.ref 1210)) ∧ typeIn (fr.heap_1 w.params) (.ref 1210) = some (.type "function") := by
    rcases hC with rfl | rfl
    all_goals refine ⟨by k_is, by k_is, by k_is⟩
  refine make W r k.1 k.2.1 k.2.2 fun A' x dx h₁ r' W' g hsz nx nd ex ed lt => ?_
  refine codeAny_mono (multi_init_f (s := { s with heap := h₁ }) W g nx nd ex ed lt hC hz r') ?_
  rintro _ s' ⟨v, rfl, P⟩
  exact ⟨v, rfl, ms_of_init g nd ex lt P⟩
theorem ms_new_t {w : World} {A : Around} {E : Value → Shared → Prop} {s : Shared} {C : Addr} {n : Value} {vs : List Value} (W : World0 w s.heap) (hC : C = 1274 ∨ C = 1291) (hz : (n :: vs).length ≤ 1000) (r : Room 3 A) :
    wpAny (model P0 w) A (call (.ref C) (n :: vs) [(Str.ofString "taproot", .bool true)]) (Back s (fun v h => MsAt w h C true (n :: vs) v)) E s := by
  have k : makesIn (fr.heap_1 w.params) C = true ∧ findIn (fr.heap_1 w.params) (.ref C) "__init__" = some (some (.ref 1210)) ∧ typeIn (fr.heap_1 w.params) (.ref 1210) = some (.type "function") := by
    rcases hC with rfl | rfl
    all_goals refine ⟨by k_is, by k_is, by k_is⟩
  refine make W r k.1 k.2.1 k.2.2 fun A' x dx h₁ r' W' g hsz nx nd ex ed lt => ?_
  refine codeAny_mono (multi_init_t (s := { s with heap := h₁ }) W g nx nd ex ed lt hC hz r') ?_
  rintro _ s' ⟨v, rfl, P⟩
  exact ⟨v, rfl, ms_of_init g nd ex lt P⟩
end
section -- EC
/-! a def whose comprehensions close over its names -/
section
variable {w : World} {A : Around} {s : Shared} {E : Value → Shared → Prop} {P : Value → Heap → Prop}
theorem enterC {n : Nat} {name qual : Str} {params : Arguments} {body : List Stmt} {scope : Scope} {dV kV doc pm cdv ct oc : Value} {an od : Option Addr} {osl : Array (Option Value)} {f : Addr} {vals : List Value} {kw : List (Str × Value)} {binds : List (Str × Value)}
    (W : World0 w s.heap) (r : Room (n + 1) A)
    (ho : (fr.heap_1 w.params).lookup f = some ⟨oc, od, .func (fnX name qual params body scope [] dV kV doc pm an cdv ct), osl⟩) (hcd : codeIn (fr.heap_1 w.params) cdv qual = true)
    (hbind : BindsTo s (fnX name qual params body scope [] dV kV doc pm an cdv ct) ⟨vals, kw⟩ binds) (hkind : (binds.all fun y => scope.names.lookup y.1 == some .local || scope.names.lookup y.1 == some .cell) = true)
    (hnd : ((cellsFrom 0 scope.names []).map (·.1)).Nodup)
    (h : ∀ L h₁ tk cells loose mg mb, (fr.heap_1 w.params).In s.heap → TopRead V0 loose mg mb s.heap → Fr s.heap L h₁ (bindL (envOfC qual scope L f cdv).kindOf binds fun _ => none) → News s.heap L h₁ cells →
      CellsAre (bindC (envOfC qual scope L f cdv).kindOf binds fun _ => none) (cellsFrom (L + 1) scope.names []) cells → Room n (A.deeper (envOfC qual scope L f cdv)) →
      wpAny (model P0 w) (A.deeper (envOfC qual scope L f cdv)) (execs body (envOfC qual scope L f cdv))
        (fun fl s' => Back s P (match fl with | .ret v => v | _ => .none) s') (fun _ _ => False) { s with heap := h₁, toks := tk })
    (hco : scope.isCoroutine = false) (hgen : scope.isGenerator = false) (hk : scope.kind = .function) :
    wpAny (model P0 w) A (call (.ref f) vals kw) (Back s P) E s := by
  obtain ⟨X, loose, mg, mb, T⟩ := W
  refine wpAny_call ?_
  refine codeAny_call_function (fd := fnX name qual params body scope [] dV kV doc pm an cdv ct) (body := body) r.depth (X _ _ ho) rfl hco hgen rfl (codeRec_of X hcd) (hbind _ _ _ _ ?_)
  refine wpAny_newFunctionEnv_cells hk (kindsX hkind _) fun env' he s' x => ?_
  subst he
  refine ⟨T.nolimit.keeps x.toInCall.keep, codeAny_func ?_⟩
  obtain ⟨h₁, tk, rfl, _⟩ := x.done
  obtain ⟨cells, NC, Y⟩ := Cl.news (h₀ := s.heap) (Nat.le_refl _) fun n c hm => ⟨x.cell n c (lookup_of_mem_nodup (cellsFrom_names scope.names 0 (s.heap.objs.size + 1) [] [] rfl ▸ hnd) hm), x.above n c hm⟩
  exact wpAny_mono (h s.heap.objs.size h₁ tk cells loose mg mb X T ⟨x.toInCall.ns, x.toInCall.keep, Nat.le_refl _⟩ NC Y (r.deeper _)) (fun _ _ z => z) fun _ _ z => z.elim
end
end
section -- MK
local macro_rules | `(tactic| k_inst) => `(tactic| (refine' InstAt.base ?F ?h1 ?h2; (case F => k_asm); (case h1 => assumption); (case h2 => assumption)))
section
variable {w : World} {A : Around} {E : Value → Shared → Prop} {s : Shared} {h₀ : Heap}
theorem callWith_KWS {K : Frag} {env : Env} {pos : Pos} {f : Value} {first : List Value} {Q : Value → Shared → Prop} {e : Expr} {rest : List Expr} {kws : List Keyword} (_X : K.In h₀) (hk : keepIn K f = true) (hall : (backToKw pos (keywordEach kws env)).all (·.1.isSome) = true)
    (h : wpAny (model P0 w) A (spliced (backTo pos (starEach (e :: rest) env))) (fun vs s₁ => wpAny (model P0 w) A (evalAll ((backToKw pos (keywordEach kws env)).map (·.2)))
      (fun ks s₂ => K.In s₂.heap ∧ wpAny (model P0 w) A (call f (first ++ vs) (((backToKw pos (keywordEach kws env)).filterMap (·.1)).zip ks)) Q E s₂) E s₁) E s)
    (hst : (backTo pos (starEach (e :: rest) env)).any (·.1) = true := by rfl) (he : starEach (e :: rest) env = (false, eval e env) :: starEach rest env := by rfl) :
    wpAny (model P0 w) A (callWith pos f first (backTo pos (starEach (e :: rest) env)) (backToKw pos (keywordEach kws env))) Q E s := by
  unfold callWith
  refine wpAny_bind (wpAny_holding (evalArgs_kw2 hall (wpAny_mono h (fun vs s₁ h₁ => wpAny_mono h₁ (fun ks s₂ h₂ => wpAny_bind (wpAny_standAt ?_)) fun _ _ x => x) fun _ _ x => x) he))
  obtain ⟨k, hk', L⟩ := keeps_K (M := model P0 w) hk _ h₂.1
  simp only [hst, Bool.true_or]
  refine wpAny_bind (L.here ?_)
  have tail : ∀ {t : Sem Value}, wpAny (model P0 w) A t Q E s₂ → wpAny (model P0 w) A (t >>= fun r => holding [r] point >>= fun _ => pure r) Q E s₂ :=
    fun ht => wpAny_bind (wpAny_mono ht (fun r s₃ hr => wpAny_bind (wpAny_holding (wpAny_point (wpAny_pure hr)))) fun _ _ x => x)
  have marked (mk : Value) : wpAny (model P0 w) A (callMarked mk f (first ++ vs) (((backToKw pos (keywordEach kws env)).filterMap (·.1)).zip ks)) Q E s₂ := by unfold callMarked; exact Calls.wpAny_keep h₂.2
  rcases hk' with rfl | rfl | rfl <;> dsimp only <;> first | exact tail (marked _) | exact tail (wpAny_operating h₂.2)
theorem star_list {D : Addr} {ys : Array Value} {Q : List Value → Shared → Prop} (hl : s.heap.IsList D ys) (hz : ys.size ≤ sizeLine) (h : ∀ h', Grows s.heap h' → Q ys.toList { s with heap := h' }) : StarOf (model P0 w) A E (.ref D) Q s := by
  obtain ⟨o, ho, hc, c, hd⟩ := id hl
  unfold StarOf notIterableAtAll
  exact wpAny_bind (wpAny_specialOf hl.typeIs PySem.F.slot_list_iter.lookup (wpAny_pure ⟨rfl, wpAny_collect_seq D (.inl rfl) ho hc hd (fun h' g => h h' g) hz⟩))
end
theorem News.isListOf {h₀ h : Heap} {L D : Addr} {ys : Array Value} {c : Nat} {r : List (Addr × Obj)} (N : News h₀ L h ((D, PySem.W.listOf ys c) :: r)) : h.IsList D ys := ⟨_, (N _ (.head _)).1, rfl, _, rfl⟩
def KeyAt (w : World) (h : Heap) (tap : Bool) (v : Value) (l : List UInt8) : Prop := ∃ a d pk dp t1 t2 t3 t4 t5 t6 t7 t8, v = .ref a ∧ IsKey w h a tap l d pk dp t1 t2 t3 t4 t5 t6 t7 t8
theorem KeyAt.grow {w : World} {h h' : Heap} {tap : Bool} {v : Value} {l : List UInt8} (k : Grows h h') : KeyAt w h tap v l → KeyAt w h' tap v l
  | ⟨a, d, pk, dp, t1, t2, t3, t4, t5, t6, t7, t8, e, K⟩ => ⟨a, d, pk, dp, t1, t2, t3, t4, t5, t6, t7, t8, e, k _ _ K.o, k _ _ K.d, k _ _ K.pk.o, k _ _ K.pk.d⟩
noncomputable def clsOf (sort tap : Bool) : Addr := if tap then (if sort then 1291 else 1274) else (if sort then 1250 else 1233)
/-- a Miniscript of a number and of keys -/
def Made (w : World) (h : Heap) (C : Addr) (tap : Bool) (need : Int) (ls : List (List UInt8)) (v : Value) : Prop :=
  ∃ na nd n1 n2 ks, MsAt w h C tap (.ref na :: ks) v ∧ IsNum w h na need nd n1 n2 ∧ Paired (KeyAt w h tap) ks ls
theorem isb_at {vs : Array Value} {ls : List (List UInt8)} (hb : Paired IsB vs.toList ls) {i : Nat} {v : Value} (h : vs[i]? = some v) : ∃ l t, v = .bytes ⟨l⟩ t ∧ ls[i]? = some l := by
  rw [← Array.getElem?_toList] at h
  generalize vs.toList = us at hb h
  induction hb generalizing i with
  | nil => simp at h
  | cons hx _ ih =>
    cases i with
    | zero => obtain ⟨t, rfl⟩ := hx; simp at h; exact ⟨_, t, h.symm, rfl⟩
    | succ i => exact ih (by simpa using h)
theorem grows_tr {a b c : Heap} (x : Grows a b) (y : Grows b c) : Grows a c := fun q o e => y q o (x q o e)
theorem isb_inj {l m : List UInt8} {t : Tok} (h : IsB (.bytes ⟨l⟩ t) m) : m = l := by obtain ⟨t', e⟩ := h; cases e; rfl
theorem elt_key {w : World} {h0 h1 h2 g : Heap} {tap : Bool} {l m : List UInt8} {t0 t1 t2 t3 t4 t5 t6 t7 t8 : Tok} {a d pk dp : Addr} (n : NewIn h0 h2 g) (k : ∀ g, NewIn h1 h2 g → IsPk w g pk l dp t6 t7 t8 → IsKey w g a tap l d pk dp t1 t2 t3 t4 t5 t6 t7 t8)
    (p : ∀ g, NewIn h0 h1 g → IsPk w g pk l dp t6 t7 t8) (g1 : Grows h0 h1) (g2 : Grows h1 h2) (b : IsB (.bytes ⟨l⟩ t0) m) : KeyAt w g tap (.ref a) m := by
  obtain rfl := isb_inj b
  exact ⟨_, _, _, _, _, _, _, _, _, _, _, _, rfl, k g (n.right g1) (p g (n.left g2))⟩
theorem made_keys {w : World} {h₀ h' : Heap} {L : Addr} {m : Str → Option Value} {news : List (Addr × Obj)} {s₁ : Shared} {vs ys : Array Value} {ls : List (List UInt8)} {tap : Bool} {D : Addr} {c : Nat} {us : List Value} {g : Heap}
    (O : CompOut h₀ L m news s₁ vs.size (fun i v => vs[i]? = some v) (fun v y g => ∀ l, IsB v l → KeyAt w g tap y l) D c ys us g h') (hb : Paired IsB vs.toList ls) : Paired (KeyAt w h' tap) ys.toList ls := by
  have e : us = vs.toList := by
    apply List.ext_getElem?
    intro i
    by_cases h : i < us.length
    · have := O.items i _ (List.getElem?_eq_getElem h)
      rw [List.getElem?_eq_getElem h, Array.getElem?_toList, this]
    · rw [List.getElem?_eq_none (by (first | lia | omega)), List.getElem?_eq_none (by rw [Array.length_toList]; have := O.len; (first | lia | omega))]
  have p := O.pairs
  rw [e] at p
  have sub := O.sub
  clear O
  generalize vs.toList = us' at hb p
  generalize ys.toList = ys' at p
  clear e
  induction p generalizing ls with
  | nil => cases hb; exact .nil
  | cons h _ ih =>
    cases hb with
    | cons hx hr => exact .cons ((h _ hx).grow sub) (ih hr)
theorem made_end {w : World} {h2 h3 h4 h5 : Heap} {C : Addr} {tap : Bool} {need : Int} {ks : List Value} {ls : List (List UInt8)} {na nd : Addr} {t1 t2 : Tok} {v : Value} (KS : Paired (KeyAt w h2 tap) ks ls) (n : IsNum w h3 na need nd t1 t2) (g23 : Grows h2 h3) (g34 : Grows h3 h4) (g45 : Grows h4 h5)
    (M : MsAt w h5 C tap (.ref na :: ks) v) : Made w h5 C tap need ls v :=
  ⟨na, nd, t1, t2, ks, M, ⟨g45 _ _ (g34 _ _ n.o), g45 _ _ (g34 _ _ n.d)⟩, KS.mono fun _ _ k => k.grow (grows_tr g23 (grows_tr g34 g45))⟩
theorem made_spec {w : World} {A : Around} {E : Value → Shared → Prop} {s : Shared} {sort tap : Bool} {need : Int} {tn : Tok} {D : Addr} {vs : Array Value} {ls : List (List UInt8)} (W : World0 w s.heap) (hl : s.heap.IsList D vs) (hb : Paired IsB vs.toList ls) (hz : ls.length ≤ 4) (r : Room 4 A) :
    wpAny (model P0 w) A (call (.ref 1449) [.bool sort, .bool tap, .int need tn, .ref D]) (Back s (fun v h => Made w h (clsOf sort tap) tap need ls v)) E s := by
  refine' enterC (binds := [(Str.ofString "sort", .bool sort), (Str.ofString "tap", .bool tap), (Str.ofString "need", .int need tn), (Str.ofString "octets", .ref D)]) W r ?ho ?hcd ?hbind ?hkind ?hnd ?_ ?c1 ?c2 ?c3
  case ho => k_is
  case hcd => k_is
  case hbind => exact BindsTo.of_eq rfl
  case hkind => rfl
  case hnd => decide +kernel
  case c1 => rfl
  case c2 => rfl
  case c3 => rfl
  intro L h₁ tk cells loose mg mb KX T F N Y rr
  obtain ⟨o', rfl, d1⟩ := CellsAre.one Y
  replace d1 : o'.data = .cell (some (.bool tap)) := d1
  refine wpAny_execs_cons ?_
  refine' comp_assign ?hsw ?hclos ?hcell ?hk ?hnames ?hx ?hs ?hy ?hp ?_
  case hsw => rfl
  case hclos => rfl
  case hcell => decide
  case hk => rfl
  case hnames => decide
  case hx => rfl
  case hs => intro x; rfl
  case hy => rfl
  case hp => rfl
  walk1
  have hl' := hl.at fun o e => F.keep _ _ e
  have hlen := hb.length
  have hvs : vs.size ≤ 4 := by rw [← Array.length_toList, hlen]; exact hz
  refine' CN.intro (fun v y g => ∀ l, IsB v l → KeyAt w g tap y l) ?hL ?src ?hz ?mono F N ?elt ?_
  case hL => intro l e; exact Option.some.inj e
  case src => exact src_list rr.1 hl'
  case hz => rw [sizeLine_eq]; (first | lia | omega)
  case mono => exact fun v y g g' k R l b => (R l b).grow k
  case elt =>
    intro C i v s₂ m₂ hP hx Fc E₂
    have Nc : News h₁ C s₂.heap [] := News.nil
    have Xc := KX.keeps F.keep
    have Tc := T.keeps F.keep
    have cell := (N _ (.head _)).1
    obtain ⟨l0, t0, rfl, -⟩ := isb_at hb hP
    clear N F KX T
    dsimp only at *
    repeat' (first | ((with_reducible show wpAny _ _ (call (Value.ref 1086) _ _) _ _ _); (with_reducible ((refine' use (key_new ?zzW ?zzK ?zzr) ?zzF ?zzN ?_; (case zzK => assumption); (((case zzW => exact World0.now (by assumption) (by assumption) (by assumption)); (case zzr => (exact Room.le (by assumption) (by decide))); (case zzF => k_asm); (case zzN => k_asm))); intro v' h' tk' g' F' N' e'; obtain ⟨ka', kd', kt1', kt2', kt3', kt4', kt5', e', key'⟩ := e'; subst e')))) | ((with_reducible show wpAny _ _ (call (Value.ref 953) _ _) _ _ _); (with_reducible ((refine' use (pk_new ?zzW ?zzr) ?zzF ?zzN ?_; (((case zzW => exact World0.now (by assumption) (by assumption) (by assumption)); (case zzr => (exact Room.le (by assumption) (by decide))); (case zzF => k_asm); (case zzN => k_asm))); intro v' h' tk' g' F' N' e'; obtain ⟨pa', pd', pt1', pt2', pt3', e', pk'⟩ := e'; subst e'; have pk0' := pk' _ (NewIn.self _ _))))) | ((with_reducible show wpAny _ _ (eval (Expr.Name _ _) _) _ _ _); (with_reducible ((k_here; (with_reducible show wpAny _ _ (eval (Expr.Name _ _) (compEnvC _ _ _ _)) _ _ _); k_dflt (first | (refine' cn_local ?zzF ?zzhv ?_; (case zzF => k_asm); (case zzhv => assumption)) | (refine' cn_cell ?zzF ?zzhc ?zzho ?zzhd ?_; (case zzF => k_asm); (case zzhc => rfl); (case zzho => assumption); (case zzhd => assumption)) | (refine' cn_global (K := fr.heap_1 _) ?zzF ?zzX ?zzT ?zze ?_; (case zzF => k_asm); (case zzX => k_asm); (case zzT => k_asm); (case zze => k_is))))))) | walk1 | (dsimp only; walk1))
    refine' elt_back ?g ?n
    case g => exact grows_tr (by assumption) (by assumption)
    case n => exact fun g n l b => elt_key n (by assumption) (by assumption) (by assumption) (by assumption) b
  intro D₂ h₂ tk₂ ys c₂ us g O
  have KS : Paired (KeyAt w h₂ tap) ys.toList ls := made_keys O hb
  have F₂ := O.F
  have N₂ := O.N
  have hys : ys.size ≤ sizeLine := by rw [← Array.length_toList, KS.length, sizeLine_eq]; (first | lia | omega)
  clear O N F hl'
  dsimp only
  cases tap <;> cases sort
  all_goals
    repeat' (first | ((with_reducible show StarOf _ _ _ _ _ _); (with_reducible ((k_dflt (refine' star_list ?zzhl ?zzhz ?_; (case zzhl => exact News.isListOf (by assumption)); (case zzhz => assumption)); intro h' g'; (with_reducible rename Fr _ _ _ _ => F'); (with_reducible rename News _ _ _ _ => N'); replace F' := Fr.keeps F' g'; replace N' := News.grown N' g')))) | ((with_reducible show wpAny _ _ (call (Value.ref 1126) _ _) _ _ _); (with_reducible ((refine' use (num_new ?zzW ?zzr) ?zzF ?zzN ?_; (((case zzW => exact World0.now (by assumption) (by assumption) (by assumption)); (case zzr => (exact Room.le (by assumption) (by decide))); (case zzF => k_asm); (case zzN => k_asm))); intro v' h' tk' g' F' N' e'; obtain ⟨na', nd', nt1', nt2', e', num'⟩ := e'; subst e')))) | ((with_reducible show wpAny _ _ (callWith _ (Value.ref _) _ _ _) _ _ _); (with_reducible ((k_here; k_dflt (refine' callWith_KWS ?zzk1 ?zzk2 ?zzk3 ?_; (case zzk1 => k_asm); (case zzk2 => k_is); (case zzk3 => exact rfl)))))) | walk1 | (dsimp only; walk1))
  all_goals rw [List.append_nil]
  all_goals
    first
      | refine' use (ms_new_f ?W (by decide) ?hz ?r) ?F ?N ?_
      | refine' use (ms_new_t ?W (by decide) ?hz ?r) ?F ?N ?_
    case hz => rw [List.length_cons, KS.length]; (first | lia | omega)
    (((case W => exact World0.now (by assumption) (by assumption) (by assumption)); (case r => (exact Room.le (by assumption) (by decide))); (case F => k_asm); (case N => k_asm)))
    intro v' h' tk' g' F' N' e'
    exact Back.of F' (made_end KS (by assumption) (by assumption) (by assumption) g' e')
end
section -- CO
/-- what an argument compiles to -/
noncomputable abbrev kc (tap : Bool) (l : List UInt8) : List UInt8 := pre tap ++ short tap l
noncomputable abbrev nb (n : Int) : List UInt8 := [(80 + n).toNat.toUInt8]
def NumExp (w : World) (h : Heap) (v : Value) (e : List UInt8) : Prop := ∃ a n d t1 t2, v = .ref a ∧ IsNum w h a n d t1 t2 ∧ 1 ≤ n ∧ n ≤ 16 ∧ e = nb n
def KeyExp (w : World) (h : Heap) (tap : Bool) (v : Value) (e : List UInt8) : Prop := ∃ l, KeyAt w h tap v l ∧ l.length = 33 ∧ e = kc tap l
def Exp (w : World) (h : Heap) (tap : Bool) (v : Value) (e : List UInt8) : Prop := NumExp w h v e ∨ KeyExp w h tap v e
theorem some_inj {a b : Obj} {o : Option Obj} (x : o = some a) (y : o = some b) : a = b := Option.some.inj (x.symm.trans y)
theorem exp_unique {w : World} {h : Heap} {tap : Bool} {v : Value} {e e' : List UInt8} (x : Exp w h tap v e) (y : Exp w h tap v e') : e = e' := by
  rcases x with ⟨a, n, d, t1, t2, rfl, K, -, -, rfl⟩ | ⟨l, ⟨a, d, pk, dp, t1, t2, t3, t4, t5, t6, t7, t8, rfl, K⟩, -, rfl⟩
  · rcases y with ⟨a', n', d', u1, u2, q, K', -, -, rfl⟩ | ⟨l', ⟨a', d', pk', dp', u1, u2, u3, u4, u5, u6, u7, u8, q, K'⟩, -, rfl⟩
    · cases q
      have e1 := some_inj K.o K'.o
      injection e1 with _ e1
      cases e1
      have e2 := some_inj K.d K'.d
      simp only [dictOf, Obj.mk.injEq, Data.dict.injEq, true_and, and_true] at e2
      injection e2 with e2
      injection e2 with e2 _
      injection e2 with _ _ e2
      injection e2 with e2 _
      rw [e2]
    · cases q
      have e1 := some_inj K.o K'.o
      injection e1 with e1 _
      cases e1
  · rcases y with ⟨a', n', d', u1, u2, q, K', -, -, rfl⟩ | ⟨l', ⟨a', d', pk', dp', u1, u2, u3, u4, u5, u6, u7, u8, q, K'⟩, -, rfl⟩
    · cases q
      have e1 := some_inj K.o K'.o
      injection e1 with e1 _
      cases e1
    · cases q
      have e1 := some_inj K.o K'.o
      injection e1 with _ e1
      cases e1
      have e2 := some_inj K.d K'.d
      simp only [dictOf, Obj.mk.injEq, Data.dict.injEq, true_and, and_true] at e2
      injection e2 with e2
      injection e2 with _ e2
      injection e2 with e2 _
      injection e2 with _ _ e2
      injection e2 with e2
      subst e2
      have e3 := some_inj K.pk.o K'.pk.o
      injection e3 with _ e3
      cases e3
      have e4 := some_inj K.pk.d K'.pk.d
      simp only [dictOf, Obj.mk.injEq, Data.dict.injEq, true_and, and_true] at e4
      injection e4 with e4
      injection e4 with e4 _
      injection e4 with _ _ e4
      injection e4 with e4 _
      injection e4 with e4
      rw [e4]
/-- items and what they compile to -/
theorem comp_pairs {w : World} {h : Heap} {tap : Bool} {items ys : List Value} {es : List (List UInt8)} {f : List UInt8 → List UInt8} (he : Paired (Exp w h tap) items es) (hy : Paired (fun v y => ∃ e, Exp w h tap v e ∧ IsB y (f e)) items ys) : Paired IsB ys (es.map f) := by
  induction he generalizing ys with
  | nil => cases hy; exact .nil
  | cons hx _ ih =>
    cases hy with
    | cons q r =>
      obtain ⟨e, q1, q2⟩ := q
      obtain rfl := exp_unique hx q1
      exact .cons q2 (ih r)
theorem paired_at {R : Value → List UInt8 → Prop} {items : List Value} {es : List (List UInt8)} (h : Paired R items es) {i : Nat} {v : Value} (e : items[i]? = some v) : ∃ x, es[i]? = some x ∧ R v x := by
  induction h generalizing i with
  | nil => simp at e
  | cons hx _ ih =>
    cases i with
    | zero => simp at e; subst e; exact ⟨_, rfl, hx⟩
    | succ i => exact ih (by simpa using e)
/-- the list that a comprehension over known items leaves -/
theorem out_pairs {h₀ h' : Heap} {L : Addr} {m : Str → Option Value} {news : List (Addr × Obj)} {s₁ : Shared} {vs ys : Array Value} {R : Value → Value → Heap → Prop} {D : Addr} {c : Nat} {us : List Value} {g : Heap}
    (O : CompOut h₀ L m news s₁ vs.size (fun i v => vs[i]? = some v) R D c ys us g h') : Paired (fun v y => R v y g) vs.toList ys.toList := by
  have e : us = vs.toList := by
    apply List.ext_getElem?
    intro i
    by_cases h : i < us.length
    · have := O.items i _ (List.getElem?_eq_getElem h)
      rw [List.getElem?_eq_getElem h, Array.getElem?_toList, this]
    · rw [List.getElem?_eq_none (by (first | lia | omega)), List.getElem?_eq_none (by rw [Array.length_toList]; have := O.len; (first | lia | omega))]
  have p := O.pairs
  rw [e] at p
  exact p
theorem Exp.grow {w : World} {h h' : Heap} {tap : Bool} {v : Value} {e : List UInt8} (k : Grows h h') : Exp w h tap v e → Exp w h' tap v e
  | .inl ⟨a, n, d, t1, t2, x, K, y⟩ => .inl ⟨a, n, d, t1, t2, x, ⟨k _ _ K.o, k _ _ K.d⟩, y⟩
  | .inr ⟨l, K, x⟩ => .inr ⟨l, K.grow k, x⟩
theorem made_exp {w : World} {h : Heap} {tap : Bool} {na nd : Addr} {need : Int} {n1 n2 : Tok} {ks : List Value} {ls : List (List UInt8)} (N : IsNum w h na need nd n1 n2) (h0 : 1 ≤ need) (h1 : need ≤ 16) (KS : Paired (KeyAt w h tap) ks ls) (h33 : ∀ l ∈ ls, l.length = 33) :
    Paired (Exp w h tap) (.ref na :: ks) (nb need :: ls.map (kc tap)) := by
  refine .cons (.inl ⟨_, _, _, _, _, rfl, N, h0, h1, rfl⟩) ?_
  clear N
  induction KS with
  | nil => exact .nil
  | cons k _ ih => exact .cons (.inr ⟨_, k, h33 _ (.head _), rfl⟩) (ih fun l hl => h33 l (.tail _ hl))
theorem kc_length {tap : Bool} {l : List UInt8} (h : l.length = 33) : (kc tap l).length ≤ 34 := by
  cases tap
  · simp [kc, pre, short, h]
  · simp [kc, pre, short, h]
theorem flat_le {n : Nat} : ∀ {ls : List (List UInt8)}, (∀ l ∈ ls, l.length ≤ n) → ls.flatten.length ≤ n * ls.length
  | [], _ => by simp
  | l :: r, h => by
    have := flat_le (ls := r) fun x hx => h x (.tail _ hx)
    have := h l (.head _)
    rw [List.flatten_cons, List.length_append, List.length_cons, Nat.mul_succ]
    (first | lia | omega)
theorem kcs_le {tap : Bool} {ls : List (List UInt8)} (h33 : ∀ l ∈ ls, l.length = 33) : ∀ l ∈ ls.map (kc tap), l.length ≤ 34 := fun l hl => by
  obtain ⟨x, hx, rfl⟩ := List.mem_map.mp hl
  exact kc_length (h33 x hx)
end
end
section
local macro_rules | `(tactic| k_inst) => `(tactic| (refine' InstAt.base ?F ?h1 ?h2; (case F => k_asm); (case h1 => assumption); (case h2 => assumption)))
local macro_rules | `(tactic| k_inst) => `(tactic| exact ⟨by assumption, rfl, rfl, by assumption⟩)
section -- C1
theorem tlen {w : World} {A : Around} {E : Value → Shared → Prop} {s : Shared} {T : Addr} {vs : List Value} {n : Nat} {Q : Value → Shared → Prop} (h : s.heap.get? T = some (tupObj vs)) (e : vs.length = n) (hz : n ≤ 1000) (k : ∀ t' k, Q (.int (n : Int) t') { s with toks := k }) :
    wpAny (model P0 w) A (call (.builtin "len") [.ref T]) Q E s := by
  subst e
  exact len_tuple ⟨_, h, rfl, _, rfl⟩ (by show (vs.length : Int) < 2 ^ 63; (first | lia | omega)) (k _ _)
theorem compile_multi {w : World} {A : Around} {E : Value → Shared → Prop} {s : Shared} {x dx T na nd : Addr} {t1 t2 n1 n2 : Tok} {need : Int} {ks : List Value} {ls : List (List UInt8)} (W : World0 w s.heap) (M : IsMs w s.heap 1233 false (.ref na :: ks) x dx T t1 t2) (NM : IsNum w s.heap na need nd n1 n2)
    (KS : Paired (KeyAt w s.heap false) ks ls) (h33 : ∀ l ∈ ls, l.length = 33) (hz : 1 ≤ ls.length ∧ ls.length ≤ 4) (h0 : 1 ≤ need) (h1 : need ≤ 16) (r : Room 8 A) :
    wpAny (model P0 w) A (call (.ref 1215) [.ref x]) (Back s (fun v _ => IsB v ((nb need :: ls.map (kc false)).flatten ++ nb ls.length ++ [174]))) E s := by
  refine' enter0 (binds := [(Str.ofString "self", .ref x)]) W r ?fits ?_
  case fits => ((refine' Fits.mk ?ho ?hcd ?hbind ?hloc ?hcell ?hco ?hgen ?hk; (case ho => k_is); (case hcd => k_is); (case hbind => first | exact BindsTo.of_eq rfl | exact binds_K (World0.X (by assumption)) rfl (by k_is) rfl rfl rfl); (case hloc => rfl); (case hcell => rfl); (case hco => rfl); (case hgen => rfl); (case hk => rfl)))
  intro L h₁ loose mg mb KX Tp F N rr
  obtain ⟨mo, md, mt⟩ := M
  have EX := made_exp NM h0 h1 KS h33
  have hlen := KS.length
  repeat' (first | ((with_reducible show wpAny _ _ (eval (Expr.ListComp _ _ _ _) _) _ _ _); (with_reducible ((k_here; k_dflt (refine' comp_eval ?zzhclos ?zzhcell ?zzhk ?zzhnames ?zzhx ?zzhs ?_; (case zzhclos => rfl); (case zzhcell => decide); (case zzhk => rfl); (case zzhnames => decide); (case zzhx => rfl); (case zzhs => intro x; rfl)))))) | ((with_reducible show wpAny _ _ (getMethod (Value.bytes _ _) _ _) _ _ _); (with_reducible ((k_dflt (refine' join_method ?_))))) | walk1 | (dsimp only; walk1))
  refine' CN.intro (fun v y _ => ∃ e, Exp w s.heap false v e ∧ IsB y e) ?hL ?src ?hz ?mono (by assumption) (by assumption) ?elt ?_
  case hL => intro l e; cases e
  case src => exact src_tuple rr.1 ⟨_, F.keep _ _ mt, rfl, _, rfl⟩
  case hz => rw [sizeLine_eq]; show (Value.ref na :: ks).length ≤ _; rw [List.length_cons, hlen]; (first | lia | omega)
  case mono => exact fun v y g g' k R => R
  case elt =>
    intro C i v s₂ m₂ hP hx Fc E₂
    have Nc : News h₁ C s₂.heap [] := News.nil
    have Xc := KX.keeps F.keep
    have Tc := Tp.keeps F.keep
    obtain ⟨e, -, ex⟩ := paired_at EX (i := i) (v := v) (by rw [← Array.getElem?_toList] at hP; exact hP)
    have ex' := ex
    rcases ex with ⟨a, n, d, u1, u2, rfl, K, k0, k1, rfl⟩ | ⟨l, ⟨a, d, pk, dp, u1, u2, u3, u4, u5, u6, u7, u8, rfl, K⟩, k33, rfl⟩
    · have ko := F.keep _ _ K.o
      have kd := F.keep _ _ K.d
      clear N F KX Tp mo md mt
      dsimp only at *
      repeat' (first | ((with_reducible show wpAny _ _ (call (Value.ref 1109) _ _) _ _ _); (with_reducible ((refine' use (numcomp_spec ?zzW ?zzK ?zzr ?zzh0 ?zzh1) ?zzF ?zzN ?_; (case zzK => exact ⟨by (first | assumption | exact Fr.keep (by assumption) _ _ (by assumption)), by (first | assumption | exact Fr.keep (by assumption) _ _ (by assumption))⟩); (case zzh0 => (first | assumption | (first | lia | omega))); (case zzh1 => (first | assumption | (first | lia | omega))); (((case zzW => exact World0.now (by assumption) (by assumption) (by assumption)); (case zzr => (exact Room.le (by assumption) (by decide))); (case zzF => k_asm); (case zzN => k_asm))); intro v' h' tk' g' F' N' e'; obtain ⟨t', e'⟩ := e'; subst e'; try k_sweep)))) | ((with_reducible show wpAny _ _ (eval (Expr.Name _ _) _) _ _ _); (with_reducible ((k_here; (with_reducible show wpAny _ _ (eval (Expr.Name _ _) (compEnvC _ _ _ _)) _ _ _); k_dflt (first | (refine' cn_local ?zzF ?zzhv ?_; (case zzF => k_asm); (case zzhv => assumption)) | (refine' cn_cell ?zzF ?zzhc ?zzho ?zzhd ?_; (case zzF => k_asm); (case zzhc => rfl); (case zzho => assumption); (case zzhd => assumption)) | (refine' cn_global (K := fr.heap_1 _) ?zzF ?zzX ?zzT ?zze ?_; (case zzF => k_asm); (case zzX => k_asm); (case zzT => k_asm); (case zze => k_is))))))) | walk1 | (dsimp only; walk1))
      exact elt_back (by assumption) fun _ _ => ⟨_, ex', _, rfl⟩
    · have ko := F.keep _ _ K.o
      have kd := F.keep _ _ K.d
      have ko2 := F.keep _ _ K.pk.o
      have kd2 := F.keep _ _ K.pk.d
      clear N F KX Tp mo md mt
      dsimp only at *
      repeat' (first | ((with_reducible show wpAny _ _ (call (Value.ref 1027) _ _) _ _ _); (with_reducible ((refine' use (keycomp_spec ?zzW ?zzK ?zzr ?zzhl) ?zzF ?zzN ?_; (case zzK => exact ⟨Fr.keep (by assumption) _ _ (by assumption), Fr.keep (by assumption) _ _ (by assumption), Fr.keep (by assumption) _ _ (by assumption), Fr.keep (by assumption) _ _ (by assumption)⟩); (case zzhl => assumption); (((case zzW => exact World0.now (by assumption) (by assumption) (by assumption)); (case zzr => (exact Room.le (by assumption) (by decide))); (case zzF => k_asm); (case zzN => k_asm))); intro v' h' tk' g' F' N' e'; obtain ⟨t', e'⟩ := e'; subst e'; try k_sweep)))) | ((with_reducible show wpAny _ _ (eval (Expr.Name _ _) _) _ _ _); (with_reducible ((k_here; (with_reducible show wpAny _ _ (eval (Expr.Name _ _) (compEnvC _ _ _ _)) _ _ _); k_dflt (first | (refine' cn_local ?zzF ?zzhv ?_; (case zzF => k_asm); (case zzhv => assumption)) | (refine' cn_cell ?zzF ?zzhc ?zzho ?zzhd ?_; (case zzF => k_asm); (case zzhc => rfl); (case zzho => assumption); (case zzhd => assumption)) | (refine' cn_global (K := fr.heap_1 _) ?zzF ?zzX ?zzT ?zze ?_; (case zzF => k_asm); (case zzX => k_asm); (case zzT => k_asm); (case zze => k_is))))))) | walk1 | (dsimp only; walk1))
      exact elt_back (by assumption) fun _ _ => ⟨_, ex', _, rfl⟩
  intro D₂ h₂ tk₂ ys c₂ us g O
  have PB : Paired IsB ys.toList (nb need :: ls.map (kc false)) := by
    have := comp_pairs (f := id) EX (out_pairs O)
    simpa using this
  have L1 : ys.toList.length ≤ 1000 := by rw [PB.length]; simp only [List.length_cons, List.length_map]; (first | lia | omega)
  have L2 : (nb need :: ls.map (kc false)).flatten.length ≤ 200 := by
    have := flat_le (kcs_le (tap := false) h33)
    rw [List.length_map] at this
    rw [List.flatten_cons, List.length_append]
    show 1 + _ ≤ _
    (first | lia | omega)
  have F₂ := O.F
  have N₂ := O.N
  clear O N F
  have L3 : (Value.ref na :: ks).length = ls.length + 1 := by rw [List.length_cons, hlen]
  repeat' (first | ((with_reducible show wpAny _ _ (binaryOp Operator.Add (Value.bytes _ _) (Value.bytes _ _)) _ _ _); (with_reducible ((k_dflt (refine' badd ?zzhz ?_; (case zzhz => (first | (simp only [List.length_append, List.length_cons, List.length_nil]; (first | lia | omega)) | (simp only [List.length_append, List.length_cons, List.length_nil] at *; (first | lia | omega)))); intro t' k'))))) | ((with_reducible show wpAny _ _ (call (Value.builtin "bytes.join") _ _) _ _ _); (with_reducible ((k_dflt (refine' join_bytes ?zzhl ?zzhb ?zzhn ?zzhz ?_; (case zzhb => assumption); (case zzhl => exact News.isListOf (by assumption)); (case zzhn => assumption); (case zzhz => first | decide | (first | lia | omega))); intro t' k')))) | ((with_reducible show wpAny _ _ (call (Value.builtin "len") _ _) _ _ _); (with_reducible ((k_here; k_dflt (refine' tlen ?zzh ?zze ?zzz ?_; (case zzh => exact Fr.keep (by assumption) _ _ (by assumption)); (case zze => assumption); (case zzz => (first | lia | omega))); intro t' k')))) | ((with_reducible show wpAny _ _ (call (Value.ref 1109) _ _) _ _ _); (with_reducible ((refine' use (numcomp_spec ?zzW ?zzK ?zzr ?zzh0 ?zzh1) ?zzF ?zzN ?_; (case zzK => exact ⟨by (first | assumption | exact Fr.keep (by assumption) _ _ (by assumption)), by (first | assumption | exact Fr.keep (by assumption) _ _ (by assumption))⟩); (case zzh0 => (first | assumption | (first | lia | omega))); (case zzh1 => (first | assumption | (first | lia | omega))); (((case zzW => exact World0.now (by assumption) (by assumption) (by assumption)); (case zzr => (exact Room.le (by assumption) (by decide))); (case zzF => k_asm); (case zzN => k_asm))); intro v' h' tk' g' F' N' e'; obtain ⟨t', e'⟩ := e'; subst e'; try k_sweep)))) | ((with_reducible show wpAny _ _ (call (Value.ref 1126) _ _) _ _ _); (with_reducible ((refine' use (num_new ?zzW ?zzr) ?zzF ?zzN ?_; (((case zzW => exact World0.now (by assumption) (by assumption) (by assumption)); (case zzr => (exact Room.le (by assumption) (by decide))); (case zzF => k_asm); (case zzN => k_asm))); intro v' h' tk' g' F' N' e'; obtain ⟨na', nd', nt1', nt2', e', no', nod'⟩ := e'; subst e')))) | walk1 | (dsimp only; walk1))
  exact Back.of (by assumption) ⟨_, by rw [show (((ls.length + 1 : Nat) : Int) - 1) = (ls.length : Int) by (first | lia | omega)]⟩
end
section -- SO
/-! sorted of octets -/
open Builtin Builtin.Bytes in
noncomputable def blt (a b : List UInt8) : Bool := order a b == .lt
section
open Builtin Builtin.Bytes
theorem slot_blt : Slot "bytes" "__lt__" "bytes.__lt__" :=
  .of (owner := "bytes") (n := "__lt__") (by rw [typeLookup_type, builtinLookup_eq_fast]; kernel_rfl) (by decide +kernel) (by decide +kernel) (by decide +kernel)
    (by first | exact .inl (by decide +kernel) | exact .inr (by decide +kernel)) (by rw [isSubtype_type]; kernel_rfl)
theorem entry_blt : entryFor table "bytes.__lt__" = some Builtin.«bytes.__lt__» := entryFor_of_fast (by kernel_rfl)
theorem args_blt (a b : Value) : argsOk "bytes.__lt__" ⟨[a, b], []⟩ := by unfold argsOk; kernel_rfl
variable {prog : Program} {w : World} {A : Around} {E : Value → Shared → Prop} {s : Shared}
theorem call_blt {a b : List UInt8} {t u : Tok} {Q : Value → Shared → Prop} (h : Q (.bool (blt a b)) s) : wpAny (model prog w) A (call (.builtin "bytes.__lt__") [.bytes ⟨a⟩ t, .bytes ⟨b⟩ u]) Q E s := by
  refine wpAny_call_entry slot_blt (typeIs_bytes s _ t) entry_blt ?_ (args_blt _ _)
  show wpAny _ _ (isInstance (.bytes ⟨b⟩ u) (.type "bytes") >>= fun r => _) _ _ s
  refine wpAny_bind (wpAny_isInstance (typeIs_bytes s _ u) PySem.F.sub_bytes_bytes ?_)
  exact wpAny_pure ⟨_, rfl, h⟩
theorem oneLt_bytes {a b : List UInt8} {t u : Tok} {Q : Bool → Shared → Prop} (h : Q (blt a b) s) : wpAny (model prog w) A (oneLt' true (.bytes ⟨a⟩ t) (.bytes ⟨b⟩ u)) Q E s := by
  rw [oneLt'_eq]
  simp only [if_true]
  refine wpAny_bind (wpAny_cRoomFor_byValue rfl ?_)
  refine wpAny_bind (wpAny_callSpecialIfBound?_slot (typeIs_bytes s _ t) slot_blt (call_blt ?_))
  exact wpAny_truthy_bool h
end
noncomputable def kasRun {α : Type} (lt : Nat → Nat → Bool) : KasT α → α
  | .ret a => a
  | .ask i j k => kasRun lt (k (lt i j))
noncomputable def kasIn {α : Type} (n : Nat) (lt : Nat → Nat → Bool) : KasT α → Bool
  | .ret _ => true
  | .ask i j k => decide (i < n) && decide (j < n) && kasIn n lt (k (lt i j))
theorem kas_run {α : Type} {cmp : Nat → Nat → (Bool → Shared → Prop) → Shared → Prop} {lt : Nat → Nat → Bool} {s : Shared} {n : Nat} (h : ∀ i j C, i < n → j < n → C (lt i j) s → cmp i j C s) : ∀ (t : KasT α) (Q : α → Shared → Prop), kasIn n lt t = true → Q (kasRun lt t) s → t.kasWp cmp Q s
  | .ret _, _, _, q => q
  | .ask i j k, Q, a, q => by
    simp only [kasIn, Bool.and_eq_true, decide_eq_true_eq] at a
    exact h i j _ a.1.1 a.1.2 (kas_run h (k (lt i j)) Q a.2 q)
theorem kas_same {α : Type} {n : Nat} {lt lt' : Nat → Nat → Bool} (h : ∀ i j, i < n → j < n → lt i j = lt' i j) : ∀ (t : KasT α), kasIn n lt t = true → kasIn n lt' t = true ∧ kasRun lt' t = kasRun lt t
  | .ret _, _ => ⟨rfl, rfl⟩
  | .ask i j k, a => by
    simp only [kasIn, Bool.and_eq_true, decide_eq_true_eq] at a
    have e := h i j a.1.1 a.1.2
    have q := kas_same h (k (lt i j)) a.2
    refine ⟨?_, ?_⟩
    · simp only [kasIn, Bool.and_eq_true, decide_eq_true_eq]
      exact ⟨a.1, e ▸ q.1⟩
    · show kasRun lt' (k (lt' i j)) = kasRun lt (k (lt i j))
      rw [← e]; exact q.2
/-- the order of ranks is the order told -/
noncomputable def okSort (n : Nat) (rs : List Nat) : Bool :=
  let p := (kasRun (fun i j => decide (rs.getD i 0 < rs.getD j 0)) (kas_sort n)).toList
  kasIn n (fun i j => decide (rs.getD i 0 < rs.getD j 0)) (kas_sort n) && p.isPerm (List.range n) && decide (p.Pairwise fun x y => rs.getD x 0 ≤ rs.getD y 0)
theorem ok1 : ∀ a < 1, okSort 1 [a] = true := by decide +kernel
theorem ok2 : ∀ a < 2, ∀ b < 2, okSort 2 [a, b] = true := by decide +kernel
theorem ok3 : ∀ a < 3, ∀ b < 3, ∀ c < 3, okSort 3 [a, b, c] = true := by decide +kernel
theorem ok4 : ∀ a < 4, ∀ b < 4, ∀ c < 4, ∀ d < 4, okSort 4 [a, b, c, d] = true := by decide +kernel
theorem ok_all : ∀ (rs : List Nat), 1 ≤ rs.length → rs.length ≤ 4 → (∀ r ∈ rs, r < rs.length) → okSort rs.length rs = true
  | [a], _, _, h => ok1 a (h a (by simp))
  | [a, b], _, _, h => ok2 a (h a (by simp)) b (h b (by simp))
  | [a, b, c], _, _, h => ok3 a (h a (by simp)) b (h b (by simp)) c (h c (by simp))
  | [a, b, c, d], _, _, h => ok4 a (h a (by simp)) b (h b (by simp)) c (h c (by simp)) d (h d (by simp))
  | [], h, _, _ => absurd h (by simp)
  | _ :: _ :: _ :: _ :: _ :: _, _, h, _ => absurd h (by simp)
theorem count_lt {α : Type} {p q : α → Bool} : ∀ {xs : List α}, (∀ x ∈ xs, p x = true → q x = true) → (∃ x ∈ xs, q x = true ∧ p x = false) → xs.countP p < xs.countP q
  | [], _, ⟨x, hx, _⟩ => by cases hx
  | y :: r, h, ⟨x, hx, h1, h2⟩ => by
    have mono : r.countP p ≤ r.countP q := List.countP_mono_left fun z hz => h z (.tail _ hz)
    rw [List.countP_cons, List.countP_cons]
    rcases List.mem_cons.mp hx with rfl | hx
    · rw [h1, h2]; simp only [if_true, Bool.false_eq_true, if_false]; (first | lia | omega)
    · have := count_lt (xs := r) (fun z hz => h z (.tail _ hz)) ⟨x, hx, h1, h2⟩
      have hy := h y (.head _)
      cases hp : p y
      · simp only [Bool.false_eq_true, if_false]; (first | lia | omega)
      · rw [hy hp]; simp only [if_true]; (first | lia | omega)
section
variable {α : Type} {lt : α → α → Bool} (irr : ∀ a, lt a a = false) (tr : ∀ a b c, lt a b = true → lt b c = true → lt a c = true) (tot : ∀ a b c, lt a b = false → lt b c = false → lt a c = false)
noncomputable def srt (lt : α → α → Bool) (d : α) (xs : List α) : List α := (kasRun (fun i j => lt (xs.getD i d) (xs.getD j d)) (kas_sort xs.length)).toList.map (xs.getD · d)
include irr tr tot
theorem srt_ok (d : α) {xs : List α} (h1 : 1 ≤ xs.length) (h4 : xs.length ≤ 4) :
    kasIn xs.length (fun i j => lt (xs.getD i d) (xs.getD j d)) (kas_sort xs.length) = true ∧ (srt lt d xs).Perm xs ∧ (srt lt d xs).Pairwise (fun a b => lt b a = false) ∧ ∀ i ∈ (kasRun (fun i j => lt (xs.getD i d) (xs.getD j d)) (kas_sort xs.length)).toList, i < xs.length := by
  let rank : α → Nat := fun y => xs.countP fun x => lt x y
  have rlt : ∀ y ∈ xs, rank y < xs.length := fun y hy => by
    have := count_lt (p := fun x => lt x y) (q := fun _ => true) (xs := xs) (fun _ _ _ => rfl) ⟨y, hy, rfl, irr y⟩
    rw [List.countP_true] at this
    exact this
  have riff : ∀ a ∈ xs, ∀ b, lt a b = decide (rank a < rank b) := fun a ha b => by
    cases h : lt a b
    · symm
      apply decide_eq_false
      have : rank b ≤ rank a := List.countP_mono_left fun x _ hx => by
        cases q : lt x a
        · rw [tot x a b q h] at hx; exact hx
        · rfl
      (first | lia | omega)
    · symm
      apply decide_eq_true
      exact count_lt (fun x _ hx => tr x a b hx h) ⟨a, ha, h, irr a⟩
  have ok := ok_all (xs.map rank) (by simpa using h1) (by simpa using h4) (by
    intro r hr
    obtain ⟨y, hy, rfl⟩ := List.mem_map.mp hr
    simpa using rlt y hy)
  rw [List.length_map] at ok
  unfold okSort at ok
  simp only [Bool.and_eq_true, decide_eq_true_eq, List.isPerm_iff] at ok
  obtain ⟨⟨o1, o2⟩, o3⟩ := ok
  have mem : ∀ i, i < xs.length → xs.getD i d ∈ xs := fun i hi => by rw [List.getD_eq_getElem?_getD, List.getElem?_eq_getElem hi]; exact List.getElem_mem hi
  have rk : ∀ i, i < xs.length → (xs.map rank).getD i 0 = rank (xs.getD i d) := fun i hi => by
    rw [List.getD_eq_getElem?_getD, List.getD_eq_getElem?_getD, List.getElem?_map, List.getElem?_eq_getElem hi]; rfl
  have same := kas_same (n := xs.length) (lt' := fun i j => lt (xs.getD i d) (xs.getD j d)) (fun i j hi hj => by rw [rk i hi, rk j hj]; exact (riff _ (mem i hi) _).symm) _ o1
  refine ⟨same.1, ?_, ?_, fun i hi => by rw [same.2] at hi; exact List.mem_range.mp (o2.mem_iff.mp hi)⟩
  · unfold srt
    rw [same.2]
    have e : (List.range xs.length).map (xs.getD · d) = xs := by
      apply List.ext_getElem (by simp)
      intro i hi hi2
      rw [List.getElem_map, List.getElem_range, List.getD_eq_getElem?_getD, List.getElem?_eq_getElem hi2]; rfl
    have := o2.map (xs.getD · d)
    rw [e] at this
    exact this
  · unfold srt
    rw [same.2, List.pairwise_map]
    refine o3.imp_of_mem fun {x y} hx hy h => ?_
    have hx := List.mem_range.mp (o2.mem_iff.mp hx)
    have hy := List.mem_range.mp (o2.mem_iff.mp hy)
    rw [rk x hx, rk y hy] at h
    rw [riff _ (mem y hy)]
    exact decide_eq_false (by (first | lia | omega))
end
end
section -- SB
theorem order_lt : ∀ (a b : List UInt8), blt a b = decide (a < b)
  | [], [] => by simp [blt, Builtin.Bytes.order]
  | [], y :: b => by simp [blt, Builtin.Bytes.order, List.nil_lt_cons]
  | x :: a, [] => by simp [blt, Builtin.Bytes.order]
  | x :: a, y :: b => by
    have ih := order_lt a b
    unfold blt at ih ⊢
    unfold Builtin.Bytes.order
    by_cases h1 : x < y
    · rw [if_pos h1]; simp [List.cons_lt_cons_iff, h1]
    · rw [if_neg h1]
      by_cases h2 : x > y
      · rw [if_pos h2]
        have h3 : x ≠ y := fun e => by subst e; exact absurd h2 (UInt8.lt_irrefl _)
        simp [List.cons_lt_cons_iff, h1, h3]
      · rw [if_neg h2, ih]
        have h3 : x = y := UInt8.le_antisymm (UInt8.not_lt.mp h2) (UInt8.not_lt.mp h1)
        subst h3
        simp [List.cons_lt_cons_iff, UInt8.lt_irrefl]
theorem blt_irr (a : List UInt8) : blt a a = false := by rw [order_lt]; exact decide_eq_false (List.lt_irrefl a)
theorem blt_tr (a b c : List UInt8) (x : blt a b = true) (y : blt b c = true) : blt a c = true := by
  rw [order_lt, decide_eq_true_eq] at *
  exact List.lt_trans x y
theorem blt_tot (a b c : List UInt8) (x : blt a b = false) (y : blt b c = false) : blt a c = false := by
  rw [order_lt, decide_eq_false_iff_not, List.not_lt] at *
  exact List.le_trans y x
theorem blt_anti (a b : List UInt8) (x : blt a b = false) (y : blt b a = false) : a = b := by
  rw [order_lt, decide_eq_false_iff_not, List.not_lt] at *
  exact List.le_antisymm y x
noncomputable abbrev bsort (ls : List (List UInt8)) : List (List UInt8) := srt blt [] ls
theorem bsort_ok {ls : List (List UInt8)} (h1 : 1 ≤ ls.length) (h4 : ls.length ≤ 4) : kasIn ls.length (fun i j => blt (ls.getD i []) (ls.getD j [])) (kas_sort ls.length) = true ∧ (bsort ls).Perm ls ∧ (bsort ls).Pairwise (fun a b => blt b a = false) ∧ ∀ i ∈ (kasRun (fun i j => blt (ls.getD i []) (ls.getD j [])) (kas_sort ls.length)).toList, i < ls.length := srt_ok (lt := blt) blt_irr blt_tr blt_tot [] h1 h4
theorem bsort_perm {ls : List (List UInt8)} (h1 : 1 ≤ ls.length) (h4 : ls.length ≤ 4) : (bsort ls).Perm ls := (bsort_ok h1 h4).2.1
section
variable {prog : Program} {w : World} {A : Around} {E : Value → Shared → Prop} {s : Shared} {h₀ : Heap} {L a : Addr} {m : Str → Option Value} {news : List (Addr × Obj)} {vs : List Value}
theorem list_sort_one {n : Nat} {P : PySem.Fin → Shared → Prop} (F : Fr h₀ L s.heap m) (N : News h₀ L s.heap news) (ho : s.heap.get? a = some (seqObj "list" vs.toArray n)) (haL : a ≠ L) (ha0 : h₀.get? a = none) (hna : ∀ p ∈ news, p.1 ≠ a) (h2 : vs.length < 2)
    (h : ∀ h' c, Fr h₀ L h' m → News h₀ L h' ((a, PySem.W.listOf vs.toArray c) :: news) → P (.done (.ret .none)) { s with heap := h' }) :
    wpAny (model prog w) A (Builtin.«list.sort» ⟨[.ref a], []⟩) P E s := by
  have ha : a < s.heap.objs.size := Heap.lt_size ho
  have s1 := Heap.SameBut.update s.heap a (Obj.mapSeq fun _ => (#[] : Array Value))
  obtain ⟨e1, ho1⟩ : ∃ e1, (s.heap.update a (Obj.mapSeq fun _ => (#[] : Array Value))).get? a = some (seqObj "list" #[] e1) := ⟨_, get?_update_seq ho fun _ => #[]⟩
  have F3 : Fr h₀ L (((s.heap.update a (Obj.mapSeq fun _ => (#[] : Array Value))).push (seqObj "tuple" vs.toArray 0)).push (seqObj "list" #[] 0)) m := ((kas_fr F s1 haL ha0).push _).push _
  have N2 : News h₀ L (((s.heap.update a (Obj.mapSeq fun _ => (#[] : Array Value))).push (seqObj "tuple" vs.toArray 0)).push (seqObj "list" #[] 0)) news :=
    (kas_news N s1 hna).grown fun b x e => Heap.get?_push_of_some _ (Heap.get?_push_of_some _ e)
  have ho3 : (((s.heap.update a (Obj.mapSeq fun _ => (#[] : Array Value))).push (seqObj "tuple" vs.toArray 0)).push (seqObj "list" #[] 0)).get? a = some (seqObj "list" #[] e1) := Heap.get?_push_of_some _ (Heap.get?_push_of_some _ ho1)
  rw [list_sort_plain]
  refine wpAny_bind (listItems_at ho rfl ?_)
  refine wpAny_bind (listUpdate_at ho rfl ?_ (by rw [List.size_toArray, sizeLine_eq]; (first | lia | omega)) (Nat.zero_le _))
  refine wpAny_bind (seqEpoch_at ho1 rfl ?_)
  refine wpAny_bind (wpAny_newTuple ?_ (by show vs.length ≤ _; rw [sizeLine_eq]; (first | lia | omega)))
  refine wpAny_bind (wpAny_newList ?_ (Nat.zero_le _))
  refine wpAny_holding ?_
  show wpAny (model prog w) A _ P E { s with heap := ((s.heap.update a (Obj.mapSeq fun _ => (#[] : Array Value))).push (seqObj "tuple" vs.toArray 0)).push (seqObj "list" #[] 0) }
  generalize hH : (((s.heap.update a (Obj.mapSeq fun _ => (#[] : Array Value))).push (seqObj "tuple" vs.toArray 0)).push (seqObj "list" #[] 0)) = H at F3 N2 ho3 ⊢
  dsimp only
  have hn2 : vs.toArray.size < 2 := by rw [List.size_toArray]; (first | lia | omega)
  rw [if_pos hn2, if_pos hn2]
  refine wpAny_bind (wpAny_pure (wpAny_bind (wpAny_pure ?_)))
  dsimp only
  have hout : (arrOf (SortSt.mk' general' (vs.toArray.zip vs.toArray) #[] 7 none)).map (·.2) = vs.toArray := by
    show (vs.toArray.zip vs.toArray).map (·.2) = vs.toArray
    rcases vs with _ | ⟨x, _ | ⟨y, r⟩⟩
    · simp
    · simp
    · exact absurd h2 (by simp)
  rw [hout]
  have s2 := Heap.SameBut.update H a (Obj.mapSeq fun _ => vs.toArray)
  obtain ⟨c2, hc2⟩ : ∃ c2, (H.update a (Obj.mapSeq fun _ => vs.toArray)).get? a = some (seqObj "list" vs.toArray c2) := ⟨_, get?_update_seq ho3 fun _ => vs.toArray⟩
  refine wpAny_bind (seqEpoch_at ho3 rfl ?_)
  refine wpAny_bind (listUpdate_at ho3 rfl ?_ (Nat.zero_le _) (by rw [List.size_toArray, sizeLine_eq]; (first | lia | omega)))
  simp only [bne_self_eq_false, Bool.false_eq_true, if_false]
  refine wpAny_pure (h _ c2 (kas_fr F3 s2 haL ha0) fun p hp => ?_)
  rcases List.mem_cons.mp hp with rfl | hp
  · exact ⟨hc2, haL, ha0⟩
  · exact ⟨s2.extBut _ _ (hna p hp) (N2 p hp).1, (N2 p hp).2⟩
theorem sorted_one {l : Addr} {Q : Value → Shared → Prop} (F : Fr h₀ L s.heap m) (N : News h₀ L s.heap news) (hl : s.heap.IsList l vs.toArray) (h2 : vs.length < 2)
    (h : ∀ D h' c, Fr h₀ L h' m → News h₀ L h' ((D, PySem.W.listOf vs.toArray c) :: news) → Q (.ref D) { s with heap := h' }) :
    wpAny (model prog w) A (call (.builtin "sorted") [.ref l]) Q E s := by
  refine Calls.call_function_entry kind_sorted plain_sorted entry_sorted (args_sorted1 _) ?_
  unfold Builtin.«sorted»
  refine wpAny_bind (m := checkCount "sorted" 1 1 _) (wpAny_pure ?_)
  refine wpAny_bind (collect_list hl ?_ (by rw [sizeLine_eq]; (first | lia | omega)))
  refine wpAny_bind (wpAny_newList ?_ (by rw [sizeLine_eq]; (first | lia | omega)))
  have hsz : ((s.heap.push (seqObj "list" #[] 0)).update s.heap.objs.size (Obj.mapSeq (· ++ vs.toArray))).objs.size = s.heap.objs.size + 1 := by
    rw [Heap.size_update, size_push']
  have hoL : (((s.heap.push (seqObj "list" #[] 0)).update s.heap.objs.size (Obj.mapSeq (· ++ vs.toArray))).push (seqObj "list" vs.toArray 0)).get? (s.heap.objs.size + 1) = some (seqObj "list" vs.toArray 0) := by
    rw [← hsz]; exact Heap.get?_push_size _ rfl
  have keep : ∀ b o, s.heap.get? b = some o → (((s.heap.push (seqObj "list" #[] 0)).update s.heap.objs.size (Obj.mapSeq (· ++ vs.toArray))).push (seqObj "list" vs.toArray 0)).get? b = some o := fun b o q => by
    have hlt : b < s.heap.objs.size := Heap.lt_size q
    rw [Heap.get?_push_ne _ _ _ (by rw [hsz]; exact Nat.ne_of_lt (Nat.lt_succ_of_lt hlt)), Heap.get?_update_ne _ _ _ _ (Nat.ne_of_lt hlt), Heap.get?_push_ne _ _ _ (Nat.ne_of_lt hlt)]
    exact q
  have hL : L < s.heap.objs.size := F.ns.lt
  show wpAny _ _ _ _ _ { s with heap := ((s.heap.push (seqObj "list" #[] 0)).update s.heap.objs.size (Obj.mapSeq (· ++ vs.toArray))).push (seqObj "list" vs.toArray 0) }
  rw [hsz]
  refine wpAny_bind (wpAny_holding (wpAny_call_entry slot_list_sort ⟨_, hoL, rfl⟩ entry_list_sort ?body (args_list_sort _)))
  case body =>
    exact list_sort_one (s := { s with heap := ((s.heap.push (seqObj "list" #[] 0)).update s.heap.objs.size (Obj.mapSeq (· ++ vs.toArray))).push (seqObj "list" vs.toArray 0) })
      (F.kept keep) (N.grown keep) hoL (Nat.ne_of_gt (Nat.lt_succ_of_lt hL)) (Heap.get?_none_of_le (Nat.le_trans F.above (Nat.le_succ_of_le (Nat.le_of_lt hL))))
      (fun p hp => Nat.ne_of_lt (Nat.lt_succ_of_lt (Heap.lt_size (N p hp).1))) h2 fun h' c F' N' => ⟨_, rfl, wpAny_pure ⟨_, rfl, h _ h' c F' N'⟩⟩
theorem bsort_one (l : List UInt8) : bsort [l] = [l] := by
  have := bsort_perm (ls := [l]) (by simp) (by simp)
  exact List.perm_singleton.mp this
theorem paired_pick {vs : List Value} {ls : List (List UInt8)} (hb : Paired IsB vs ls) : ∀ (p : List Nat), (∀ i ∈ p, i < vs.length) → Paired IsB (p.map fun i => vs.getD i .none) (p.map fun i => ls.getD i [])
  | [], _ => .nil
  | i :: r, h => .cons (by
      obtain ⟨t, e⟩ := paired_get hb (h i (.head _))
      exact ⟨t, by show vs.getD i .none = _; rw [List.getD_eq_getElem?_getD, e]; rfl⟩) (paired_pick hb r fun j hj => h j (.tail _ hj))
theorem sorted_bytes {l : Addr} {ls : List (List UInt8)} {Q : Value → Shared → Prop} (F : Fr h₀ L s.heap m) (N : News h₀ L s.heap news) (hl : s.heap.IsList l vs.toArray) (hb : Paired IsB vs ls) (h1 : 1 ≤ vs.length) (h4 : vs.length ≤ 4)
    (h : ∀ D h' c (out : Array Value), Fr h₀ L h' m → News h₀ L h' ((D, PySem.W.listOf out c) :: news) → Paired IsB out.toList (bsort ls) → Q (.ref D) { s with heap := h' }) :
    wpAny (model prog w) A (call (.builtin "sorted") [.ref l]) Q E s := by
  have hlen := hb.length
  by_cases h2 : 2 ≤ vs.length
  · refine kas_sorted (T := .type "bytes") F N hl h2 (by (first | lia | omega)) (fun h _ _ v hv => ?_) (by decide) fun D e1 h' F' N' lt => ?_
    · obtain ⟨i, hi, rfl⟩ := List.getElem_of_mem hv
      obtain ⟨t, e⟩ := paired_get hb hi
      rw [List.getElem?_eq_getElem hi] at e
      rw [Option.some.inj e]
      exact Looks.of_pure rfl
    · have ok := bsort_ok (ls := ls) (by (first | lia | omega)) (by (first | lia | omega))
      have hin : ∀ i ∈ (kasRun (fun i j => blt (ls.getD i []) (ls.getD j [])) (kas_sort ls.length)).toList, i < vs.length := by
        rw [hlen]; exact ok.2.2.2
      refine kas_run (n := vs.length) (lt := fun i j => blt (ls.getD i []) (ls.getD j [])) (fun i j C hi hj c => ?_) _ _ (by rw [hlen]; exact ok.1) ?_
      · obtain ⟨t, e⟩ := paired_get hb hi
        obtain ⟨u, e'⟩ := paired_get hb hj
        unfold kas_ask
        rw [List.getD_eq_getElem?_getD, List.getD_eq_getElem?_getD, e, e']
        exact oneLt_bytes c
      · refine KasFin.intro F' N' (UpdF.head ?_) fun h'' c F'' N'' => ?_
        · exact fun q hq => Nat.ne_of_lt (lt q hq)
        · refine h D h'' c _ F'' N'' ?_
          have := paired_pick hb _ hin
          rw [hlen]
          exact this
  · refine sorted_one F N hl (by (first | lia | omega)) fun D h' c F' N' => h D h' c _ F' N' ?_
    have e : bsort ls = ls := by
      rcases ls with _ | ⟨x, _ | ⟨y, r⟩⟩
      · exfalso; rw [List.length_nil] at hlen; (first | lia | omega)
      · exact bsort_one x
      · exfalso; rw [List.length_cons, List.length_cons] at hlen; (first | lia | omega)
    rw [e]
    exact hb
end
end
end
section
local macro_rules | `(tactic| k_inst) => `(tactic| (refine' InstAt.base ?F ?h1 ?h2; (case F => k_asm); (case h1 => with_reducible assumption); (case h2 => with_reducible assumption)))
local macro_rules | `(tactic| k_inst) => `(tactic| exact ⟨by with_reducible assumption, rfl, rfl, by with_reducible assumption⟩)
section -- C2
theorem tslice {w : World} {A : Around} {E : Value → Shared → Prop} {s : Shared} {h₀ : Heap} {L T : Addr} {m : Str → Option Value} {news : List (Addr × Obj)} {vs : List Value} {a : Nat} {u : Tok} {value slice : Expr} {Q : Value → Shared → Prop}
    (F : Fr h₀ L s.heap m) (N : News h₀ L s.heap news) (ht : s.heap.get? T = some (tupObj vs)) (h1 : 1 ≤ a) (ha : a ≤ vs.length) (hz : vs.length ≤ 1000)
    (h : ∀ D h', Fr h₀ L h' m → News h₀ L h' ((D, tupObj (vs.drop a)) :: news) → Q (.ref D) { s with heap := h' })
    (hs : subscripted slice false (.ref T) (.ref s.heap.objs.size) = operate [.ref s.heap.objs.size, .ref T] (getItem (.ref T) (.ref s.heap.objs.size)) := by with_unfolding_all rfl) :
    wpAny (model P0 w) A (subscriptTail value slice (.ref T) (.ref s.heap.objs.size)) Q E { s with heap := s.heap.push { cls := .type "slice", data := .fields #[.int (a : Nat) u, .none, .none] } } :=
  kba_turn (value' := PySem.Expr.Name (PySem.Str.ofString "_") ⟨0, 0, 0, 0⟩) (fun _ => rfl) (slice_tuple_from F N ⟨_, ht, rfl, _, rfl⟩ h1 ha (fun h' F' N' => h _ h' F' N') hs (fun _ => rfl) (by rw [sizeLine_eq]; show vs.length ≤ _; (first | lia | omega)))
theorem titem {w : World} {A : Around} {E : Value → Shared → Prop} {s : Shared} {T : Addr} {vs : List Value} {k : Nat} {u : Tok} {x : Value} {value slice : Expr} {Q : Value → Shared → Prop} (ht : s.heap.get? T = some (tupObj vs)) (hk : k < 1000) (hx : vs[k]? = some x) (h : Q x s)
    (hs : subscripted slice false (.ref T) (.int (k : Nat) u) = operate [.ref T, .int (k : Nat) u] (getItem (.ref T) (.int (k : Nat) u)) := by with_unfolding_all rfl) :
    wpAny (model P0 w) A (subscriptTail value slice (.ref T) (.int (k : Nat) u)) Q E s := by
  refine kba_turn (value' := PySem.Expr.Name (PySem.Str.ofString "_") ⟨0, 0, 0, 0⟩) (fun _ => rfl) ?_
  have hlt : k < vs.length := by
    rcases Nat.lt_or_ge k vs.length with q | q
    · exact q
    · rw [List.getElem?_eq_none q] at hx; cases hx
  refine item_tupleL (k := (k : Nat)) (j := k) ⟨_, ht, rfl, _, rfl⟩ (by (first | lia | omega)) (by (first | lia | omega)) ?_ hx h hs (fun _ => rfl)
  unfold seqIndex?
  have h1 : ¬ ((k : Int) < 0) := by (first | lia | omega)
  simp [h1, hlt]
theorem news_nil {b h : Heap} {C : Addr} {m : Str → Option Value} (_F : Fr b C h m) : News b C h [] := News.nil
theorem compile_sorted {w : World} {A : Around} {E : Value → Shared → Prop} {s : Shared} {x dx T na nd : Addr} {t1 t2 n1 n2 : Tok} {need : Int} {ks : List Value} {ls : List (List UInt8)} (W : World0 w s.heap) (M : IsMs w s.heap 1250 false (.ref na :: ks) x dx T t1 t2) (NM : IsNum w s.heap na need nd n1 n2)
    (KS : Paired (KeyAt w s.heap false) ks ls) (h33 : ∀ l ∈ ls, l.length = 33) (hz : 1 ≤ ls.length ∧ ls.length ≤ 4) (h0 : 1 ≤ need) (h1 : need ≤ 16) (r : Room 8 A) :
    wpAny (model P0 w) A (call (.ref 1247) [.ref x]) (Back s (fun v _ => IsB v (nb need ++ (bsort (ls.map (kc false))).flatten ++ nb ls.length ++ [174]))) E s := by
  refine' enter0 (binds := [(Str.ofString "self", .ref x)]) W r ?fits ?_
  case fits => ((refine' Fits.mk ?ho ?hcd ?hbind ?hloc ?hcell ?hco ?hgen ?hk; (case ho => k_is); (case hcd => k_is); (case hbind => first | exact BindsTo.of_eq rfl | exact binds_K (World0.X (by assumption)) rfl (by k_is) rfl rfl rfl); (case hloc => rfl); (case hcell => rfl); (case hco => rfl); (case hgen => rfl); (case hk => rfl)))
  intro L h₁ loose mg mb KX Tp F N rr
  obtain ⟨mo, md, mt⟩ := M
  have EX := made_exp NM h0 h1 KS h33
  have hlen := KS.length
  have no := NM.o
  have nod := NM.d
  repeat' (first | ((with_reducible show wpAny _ _ (call (Value.ref 1109) _ _) _ _ _); (with_reducible ((refine' use (numcomp_spec ?zzW ?zzK ?zzr ?zzh0 ?zzh1) ?zzF ?zzN ?_; (case zzK => exact ⟨by (first | with_reducible assumption | exact Fr.keep (by assumption) _ _ (by with_reducible assumption)), by (first | with_reducible assumption | exact Fr.keep (by assumption) _ _ (by with_reducible assumption))⟩); (case zzh0 => (first | assumption | (first | lia | omega))); (case zzh1 => (first | assumption | (first | lia | omega))); (((case zzW => exact World0.now (by assumption) (by assumption) (by assumption)); (case zzr => (exact Room.le (by assumption) (by decide))); (case zzF => k_asm); (case zzN => k_asm))); intro v' h' tk' g' F' N' e'; obtain ⟨t', e'⟩ := e'; subst e'; try k_sweep)))) | ((with_reducible show wpAny _ _ (eval (Expr.ListComp _ _ _ _) _) _ _ _); (with_reducible ((k_here; k_dflt (refine' comp_eval ?zzhclos ?zzhcell ?zzhk ?zzhnames ?zzhx ?zzhs ?_; (case zzhclos => rfl); (case zzhcell => decide); (case zzhk => rfl); (case zzhnames => decide); (case zzhx => rfl); (case zzhs => intro x; rfl)))))) | ((with_reducible show wpAny _ _ (getMethod (Value.bytes _ _) _ _) _ _ _); (with_reducible ((k_dflt (refine' join_method ?_))))) | ((with_reducible show wpAny _ _ (subscriptTail _ _ _ _) _ _ _); first | (with_reducible ((k_here; (with_reducible show wpAny _ _ (subscriptTail _ _ (Value.ref _) (Value.int _ _)) _ _ _); k_dflt (first | (refine' titem (k := 0) ?zzht ?zzhj ?zzhx ?_; (case zzht => (first | exact Fr.keep (by assumption) _ _ (by with_reducible assumption))); (case zzhj => decide); (case zzhx => rfl)) | (refine' titem (k := 1) ?zzht ?zzhj ?zzhx ?_; (case zzht => (first | exact Fr.keep (by assumption) _ _ (by with_reducible assumption))); (case zzhj => decide); (case zzhx => rfl)))))) | (with_reducible ((k_here; (with_reducible show wpAny _ _ (subscriptTail _ (Expr.Slice _ none none _) (Value.ref _) (Value.ref _)) _ _ _); (with_reducible rename Fr _ _ _ _ => F'); (with_reducible rename News _ _ _ _ => N'); k_dflt (first | (refine' tslice (a := 1) (s := ⟨_, _, _, _, _⟩) F' N' ?zzht ?zzh1 ?zzha ?zzhz ?_; (case zzht => (first | exact Fr.keep (by assumption) _ _ (by with_reducible assumption))); (case zzh1 => decide); (case zzha => (simp only [List.length_cons]; (first | lia | omega))); (case zzhz => (simp only [List.length_cons]; (first | lia | omega)))) | (refine' tslice (a := 2) (s := ⟨_, _, _, _, _⟩) F' N' ?zzht ?zzh1 ?zzha ?zzhz ?_; (case zzht => (first | exact Fr.keep (by assumption) _ _ (by with_reducible assumption))); (case zzh1 => decide); (case zzha => (simp only [List.length_cons]; (first | lia | omega))); (case zzhz => (simp only [List.length_cons]; (first | lia | omega))))); intro D' h' F' N')))) | walk1 | (dsimp only; walk1))
  rename Fr _ _ _ _ => FF
  rename News _ _ _ _ => NN
  have EK : Paired (Exp w s.heap false) ks (ls.map (kc false)) := by cases EX; assumption
  refine' CN.intro (fun v y _ => ∃ e, Exp w s.heap false v e ∧ IsB y e) ?hL ?src ?hz ?mono FF NN ?elt ?_
  case hL => intro l e; cases e
  case src => exact src_tuple rr.1 ⟨_, (NN _ (.head _)).1, rfl, _, rfl⟩
  case hz => rw [sizeLine_eq]; show ks.length ≤ _; (first | lia | omega)
  case mono => exact fun v y g g' k R => R
  case elt =>
    intro C i v s₂ m₂ hP hx Fc E₂
    have Nc := news_nil Fc
    have Xc := KX.keeps FF.keep
    have Tc := Tp.keeps FF.keep
    obtain ⟨e, -, ex⟩ := paired_at EK (i := i) (v := v) (by rw [← Array.getElem?_toList] at hP; exact hP)
    have ex' := ex
    rcases ex with ⟨a, n, d, u1, u2, rfl, K, k0, k1, rfl⟩ | ⟨l, ⟨a, d, pk, dp, u1, u2, u3, u4, u5, u6, u7, u8, rfl, K⟩, k33, rfl⟩
    · have ko := FF.keep _ _ K.o
      have kd := FF.keep _ _ K.d
      (try clear N); (try clear F); clear NN FF KX Tp mo md mt no nod
      dsimp only at *
      repeat' (first | ((with_reducible show wpAny _ _ (call (Value.ref 1109) _ _) _ _ _); (with_reducible ((refine' use (numcomp_spec ?zzW ?zzK ?zzr ?zzh0 ?zzh1) ?zzF ?zzN ?_; (case zzK => exact ⟨by (first | with_reducible assumption | exact Fr.keep (by assumption) _ _ (by with_reducible assumption)), by (first | with_reducible assumption | exact Fr.keep (by assumption) _ _ (by with_reducible assumption))⟩); (case zzh0 => (first | assumption | (first | lia | omega))); (case zzh1 => (first | assumption | (first | lia | omega))); (((case zzW => exact World0.now (by assumption) (by assumption) (by assumption)); (case zzr => (exact Room.le (by assumption) (by decide))); (case zzF => k_asm); (case zzN => k_asm))); intro v' h' tk' g' F' N' e'; obtain ⟨t', e'⟩ := e'; subst e'; try k_sweep)))) | ((with_reducible show wpAny _ _ (eval (Expr.Name _ _) _) _ _ _); (with_reducible ((k_here; (with_reducible show wpAny _ _ (eval (Expr.Name _ _) (compEnvC _ _ _ _)) _ _ _); k_dflt (first | (refine' cn_local ?zzF ?zzhv ?_; (case zzF => k_asm); (case zzhv => assumption)) | (refine' cn_cell ?zzF ?zzhc ?zzho ?zzhd ?_; (case zzF => k_asm); (case zzhc => rfl); (case zzho => assumption); (case zzhd => assumption)) | (refine' cn_global (K := fr.heap_1 _) ?zzF ?zzX ?zzT ?zze ?_; (case zzF => k_asm); (case zzX => k_asm); (case zzT => k_asm); (case zze => k_is))))))) | walk1 | (dsimp only; walk1))
      exact elt_back (by assumption) fun _ _ => ⟨_, ex', _, rfl⟩
    · have ko := FF.keep _ _ K.o
      have kd := FF.keep _ _ K.d
      have ko2 := FF.keep _ _ K.pk.o
      have kd2 := FF.keep _ _ K.pk.d
      (try clear N); (try clear F); clear NN FF KX Tp mo md mt no nod
      dsimp only at *
      repeat' (first | ((with_reducible show wpAny _ _ (call (Value.ref 1027) _ _) _ _ _); (with_reducible ((refine' use (keycomp_spec ?zzW ?zzK ?zzr ?zzhl) ?zzF ?zzN ?_; (case zzK => exact ⟨Fr.keep (by assumption) _ _ (by with_reducible assumption), Fr.keep (by assumption) _ _ (by with_reducible assumption), Fr.keep (by assumption) _ _ (by with_reducible assumption), Fr.keep (by assumption) _ _ (by with_reducible assumption)⟩); (case zzhl => assumption); (((case zzW => exact World0.now (by assumption) (by assumption) (by assumption)); (case zzr => (exact Room.le (by assumption) (by decide))); (case zzF => k_asm); (case zzN => k_asm))); intro v' h' tk' g' F' N' e'; obtain ⟨t', e'⟩ := e'; subst e'; try k_sweep)))) | ((with_reducible show wpAny _ _ (eval (Expr.Name _ _) _) _ _ _); (with_reducible ((k_here; (with_reducible show wpAny _ _ (eval (Expr.Name _ _) (compEnvC _ _ _ _)) _ _ _); k_dflt (first | (refine' cn_local ?zzF ?zzhv ?_; (case zzF => k_asm); (case zzhv => assumption)) | (refine' cn_cell ?zzF ?zzhc ?zzho ?zzhd ?_; (case zzF => k_asm); (case zzhc => rfl); (case zzho => assumption); (case zzhd => assumption)) | (refine' cn_global (K := fr.heap_1 _) ?zzF ?zzX ?zzT ?zze ?_; (case zzF => k_asm); (case zzX => k_asm); (case zzT => k_asm); (case zze => k_is))))))) | walk1 | (dsimp only; walk1))
      exact elt_back (by assumption) fun _ _ => ⟨_, ex', _, rfl⟩
  intro D₂ h₂ tk₂ ys c₂ us g O
  have PB : Paired IsB ys.toList (ls.map (kc false)) := by
    have := comp_pairs (f := id) EK (out_pairs O)
    simpa using this
  have LB : (bsort (ls.map (kc false))).length = ls.length := by
    rw [(bsort_perm (ls := ls.map (kc false)) (by rw [List.length_map]; (first | lia | omega)) (by rw [List.length_map]; (first | lia | omega))).length_eq, List.length_map]
  have LF : (bsort (ls.map (kc false))).flatten.length ≤ 140 := by
    have p := bsort_perm (ls := ls.map (kc false)) (by rw [List.length_map]; (first | lia | omega)) (by rw [List.length_map]; (first | lia | omega))
    have := flat_le (n := 34) (ls := bsort (ls.map (kc false))) fun l hl => kcs_le h33 l (p.mem_iff.mp hl)
    rw [LB] at this
    (first | lia | omega)
  have L3 : (Value.ref na :: ks).length = ls.length + 1 := by rw [List.length_cons, hlen]
  have L0 : ys.toList.length = ls.length := by rw [PB.length, List.length_map]
  have F₂ := O.F
  have N₂ := O.N
  (try clear N); (try clear F); clear O NN FF
  repeat' (first | ((with_reducible show wpAny _ _ (binaryOp Operator.Add (Value.bytes _ _) (Value.bytes _ _)) _ _ _); (with_reducible ((k_dflt (refine' badd ?zzhz ?_; (case zzhz => (first | (simp only [List.length_append, List.length_cons, List.length_nil]; (first | lia | omega)) | (simp only [List.length_append, List.length_cons, List.length_nil] at *; (first | lia | omega)))); intro t' k'))))) | ((with_reducible show wpAny _ _ (call (Value.builtin "bytes.join") _ _) _ _ _); (with_reducible ((k_dflt (refine' join_bytes ?zzhl ?zzhb ?zzhn ?zzhz ?_; (case zzhb => assumption); (case zzhl => exact News.isListOf (by assumption)); (case zzhn => exact Nat.le_trans (Nat.le_of_eq (Paired.length (by assumption))) (by (first | lia | omega))); (case zzhz => first | decide | (first | lia | omega))); intro t' k')))) | ((with_reducible show wpAny _ _ (call (Value.builtin "len") _ _) _ _ _); (with_reducible ((k_here; k_dflt (refine' tlen ?zzh ?zze ?zzz ?_; (case zzh => exact Fr.keep (by assumption) _ _ (by with_reducible assumption)); (case zze => assumption); (case zzz => (first | lia | omega))); intro t' k')))) | ((with_reducible show wpAny _ _ (call (Value.builtin "sorted") _ _) _ _ _); (with_reducible ((k_here; (with_reducible rename Fr _ _ _ _ => F'); (with_reducible rename News _ _ _ _ => N'); k_dflt (refine' sorted_bytes F' N' ?zzhl ?zzhb ?zzh1 ?zzh4 ?_; (case zzhl => exact News.isListOf N'); (case zzhb => assumption); (case zzh1 => first | decide | (first | lia | omega)); (case zzh4 => (first | lia | omega))); intro D' h' c' out' F' N' PB')))) | ((with_reducible show wpAny _ _ (call (Value.ref 1109) _ _) _ _ _); (with_reducible ((refine' use (numcomp_spec ?zzW ?zzK ?zzr ?zzh0 ?zzh1) ?zzF ?zzN ?_; (case zzK => exact ⟨by (first | with_reducible assumption | exact Fr.keep (by assumption) _ _ (by with_reducible assumption)), by (first | with_reducible assumption | exact Fr.keep (by assumption) _ _ (by with_reducible assumption))⟩); (case zzh0 => (first | assumption | (first | lia | omega))); (case zzh1 => (first | assumption | (first | lia | omega))); (((case zzW => exact World0.now (by assumption) (by assumption) (by assumption)); (case zzr => (exact Room.le (by assumption) (by decide))); (case zzF => k_asm); (case zzN => k_asm))); intro v' h' tk' g' F' N' e'; obtain ⟨t', e'⟩ := e'; subst e'; try k_sweep)))) | ((with_reducible show wpAny _ _ (call (Value.ref 1126) _ _) _ _ _); (with_reducible ((refine' use (num_new ?zzW ?zzr) ?zzF ?zzN ?_; (((case zzW => exact World0.now (by assumption) (by assumption) (by assumption)); (case zzr => (exact Room.le (by assumption) (by decide))); (case zzF => k_asm); (case zzN => k_asm))); intro v' h' tk' g' F' N' e'; obtain ⟨na', nd', nt1', nt2', e', no', nod'⟩ := e'; subst e')))) | walk1 | (dsimp only; walk1))
  exact Back.of (by assumption) ⟨_, by rw [show (((ls.length + 1 : Nat) : Int) - 1) = (ls.length : Int) by (first | lia | omega)]; rfl⟩
end
section
section -- C3
/-- what a leaf's multi lays -/
noncomputable def layA (need : Int) : List (List UInt8) → List UInt8
  | [] => []
  | m :: r => m ++ [172] ++ (r.map (· ++ [186])).flatten ++ nb need ++ [156]
theorem compile_multi_a {w : World} {A : Around} {E : Value → Shared → Prop} {s : Shared} {x dx T na nd : Addr} {t1 t2 n1 n2 : Tok} {need : Int} {ks : List Value} {ls : List (List UInt8)} (W : World0 w s.heap) (M : IsMs w s.heap 1274 true (.ref na :: ks) x dx T t1 t2) (NM : IsNum w s.heap na need nd n1 n2)
    (KS : Paired (KeyAt w s.heap true) ks ls) (h33 : ∀ l ∈ ls, l.length = 33) (hz : 1 ≤ ls.length ∧ ls.length ≤ 4) (h0 : 1 ≤ need) (h1 : need ≤ 16) (r : Room 8 A) :
    wpAny (model P0 w) A (call (.ref 1264) [.ref x]) (Back s (fun v _ => IsB v (layA need (ls.map (kc true))))) E s := by
  refine' enter0 (binds := [(Str.ofString "self", .ref x)]) W r ?fits ?_
  case fits => ((refine' Fits.mk ?ho ?hcd ?hbind ?hloc ?hcell ?hco ?hgen ?hk; (case ho => k_is); (case hcd => k_is); (case hbind => first | exact BindsTo.of_eq rfl | exact binds_K (World0.X (by assumption)) rfl (by k_is) rfl rfl rfl); (case hloc => rfl); (case hcell => rfl); (case hco => rfl); (case hgen => rfl); (case hk => rfl)))
  intro L h₁ loose mg mb KX Tp F N rr
  obtain ⟨mo, md, mt⟩ := M
  have EX := made_exp NM h0 h1 KS h33
  have hlen := KS.length
  have no := NM.o
  have nod := NM.d
  rcases KS with _ | ⟨hk0, KR⟩
  · exact absurd hz.1 (by simp)
  rename_i k0 l0 kr lr
  obtain ⟨ka, kd, kp, kq, u1, u2, u3, u4, u5, u6, u7, u8, rfl, K0⟩ := hk0
  have k33 := h33 l0 (.head _)
  have kk : (pre true ++ short true l0).length ≤ 34 := kc_length (tap := true) k33
  have ko1 := K0.o
  have kd1 := K0.d
  have kp1 := K0.pk.o
  have kq1 := K0.pk.d
  simp only [List.length_cons] at hz hlen
  repeat' (first | ((with_reducible show wpAny _ _ (binaryOp Operator.Add (Value.bytes _ _) (Value.bytes _ _)) _ _ _); (with_reducible ((k_dflt (refine' badd ?zzhz ?_; (case zzhz => (first | (simp only [List.length_append, List.length_cons, List.length_nil]; (first | lia | omega)) | (simp only [List.length_append, List.length_cons, List.length_nil] at *; (first | lia | omega)))); intro t' k'))))) | ((with_reducible show wpAny _ _ (call (Value.ref 1027) _ _) _ _ _); (with_reducible ((refine' use (keycomp_spec ?zzW ?zzK ?zzr ?zzhl) ?zzF ?zzN ?_; (case zzK => exact ⟨Fr.keep (by assumption) _ _ (by with_reducible assumption), Fr.keep (by assumption) _ _ (by with_reducible assumption), Fr.keep (by assumption) _ _ (by with_reducible assumption), Fr.keep (by assumption) _ _ (by with_reducible assumption)⟩); (case zzhl => assumption); (((case zzW => exact World0.now (by assumption) (by assumption) (by assumption)); (case zzr => (exact Room.le (by assumption) (by decide))); (case zzF => k_asm); (case zzN => k_asm))); intro v' h' tk' g' F' N' e'; obtain ⟨t', e'⟩ := e'; subst e'; try k_sweep)))) | ((with_reducible show wpAny _ _ (eval (Expr.ListComp _ _ _ _) _) _ _ _); (with_reducible ((k_here; k_dflt (refine' comp_eval ?zzhclos ?zzhcell ?zzhk ?zzhnames ?zzhx ?zzhs ?_; (case zzhclos => rfl); (case zzhcell => decide); (case zzhk => rfl); (case zzhnames => decide); (case zzhx => rfl); (case zzhs => intro x; rfl)))))) | ((with_reducible show wpAny _ _ (getMethod (Value.bytes _ _) _ _) _ _ _); (with_reducible ((k_dflt (refine' join_method ?_))))) | ((with_reducible show wpAny _ _ (subscriptTail _ _ _ _) _ _ _); first | (with_reducible ((k_here; (with_reducible show wpAny _ _ (subscriptTail _ _ (Value.ref _) (Value.int 1 _)) _ _ _); k_dflt (refine' titem (k := 1) ?zzht ?zzhj ?zzhx ?_; (case zzht => (first | exact Fr.keep (by assumption) _ _ (by with_reducible assumption))); (case zzhj => decide); (case zzhx => rfl))))) | (with_reducible ((k_here; (with_reducible show wpAny _ _ (subscriptTail _ (Expr.Slice (some (Expr.Constant (Const.int 2) _ _)) none none _) (Value.ref _) (Value.ref _)) _ _ _); (with_reducible rename Fr _ _ _ _ => F'); (with_reducible rename News _ _ _ _ => N'); k_dflt (refine' tslice (a := 2) (s := ⟨_, _, _, _, _⟩) F' N' ?zzht ?zzh1 ?zzha ?zzhz ?_; (case zzht => (first | exact Fr.keep (by assumption) _ _ (by with_reducible assumption))); (case zzh1 => decide); (case zzha => (simp only [List.length_cons]; (first | lia | omega))); (case zzhz => (simp only [List.length_cons]; (first | lia | omega)))); intro D' h' F' N')))) | walk1 | (dsimp only; walk1))
  rename Fr _ _ _ _ => FF
  rename News _ _ _ _ => NN
  have EK : Paired (Exp w s.heap true) kr (lr.map (kc true)) := by cases EX; rename_i q; cases q; assumption
  refine' CN.intro (fun v y _ => ∃ e, Exp w s.heap true v e ∧ IsB y (e ++ [186])) ?hL ?src ?hz ?mono FF NN ?elt ?_
  case hL => intro l e; cases e
  case src => exact src_tuple rr.1 ⟨_, (NN _ (.head _)).1, rfl, _, rfl⟩
  case hz => rw [sizeLine_eq]; show kr.length ≤ _; (first | lia | omega)
  case mono => exact fun v y g g' k R => R
  case elt =>
    intro C i v s₂ m₂ hP hx Fc E₂
    have Nc := news_nil Fc
    have Xc := KX.keeps FF.keep
    have Tc := Tp.keeps FF.keep
    obtain ⟨e, -, ex⟩ := paired_at EK (i := i) (v := v) (by rw [← Array.getElem?_toList] at hP; exact hP)
    have ex' := ex
    rcases ex with ⟨a, n, d, v1, v2, rfl, K, k0, k1, rfl⟩ | ⟨l, ⟨a, d, pk, dp, v1, v2, v3, v4, v5, v6, v7, v8, rfl, K⟩, q33, rfl⟩
    · have ko := FF.keep _ _ K.o
      have kd := FF.keep _ _ K.d
      (try clear N); (try clear F); clear NN FF KX Tp mo md mt no nod ko1 kd1 kp1 kq1
      dsimp only at *
      repeat' (first | ((with_reducible show wpAny _ _ (binaryOp Operator.Add (Value.bytes _ _) (Value.bytes _ _)) _ _ _); (with_reducible ((k_dflt (refine' badd ?zzhz ?_; (case zzhz => (first | (simp only [List.length_append, List.length_cons, List.length_nil]; (first | lia | omega)) | (simp only [List.length_append, List.length_cons, List.length_nil] at *; (first | lia | omega)))); intro t' k'))))) | ((with_reducible show wpAny _ _ (call (Value.ref 1109) _ _) _ _ _); (with_reducible ((refine' use (numcomp_spec ?zzW ?zzK ?zzr ?zzh0 ?zzh1) ?zzF ?zzN ?_; (case zzK => exact ⟨by (first | with_reducible assumption | exact Fr.keep (by assumption) _ _ (by with_reducible assumption)), by (first | with_reducible assumption | exact Fr.keep (by assumption) _ _ (by with_reducible assumption))⟩); (case zzh0 => (first | assumption | (first | lia | omega))); (case zzh1 => (first | assumption | (first | lia | omega))); (((case zzW => exact World0.now (by assumption) (by assumption) (by assumption)); (case zzr => (exact Room.le (by assumption) (by decide))); (case zzF => k_asm); (case zzN => k_asm))); intro v' h' tk' g' F' N' e'; obtain ⟨t', e'⟩ := e'; subst e'; try k_sweep)))) | ((with_reducible show wpAny _ _ (eval (Expr.Name _ _) _) _ _ _); (with_reducible ((k_here; (with_reducible show wpAny _ _ (eval (Expr.Name _ _) (compEnvC _ _ _ _)) _ _ _); k_dflt (first | (refine' cn_local ?zzF ?zzhv ?_; (case zzF => k_asm); (case zzhv => assumption)) | (refine' cn_cell ?zzF ?zzhc ?zzho ?zzhd ?_; (case zzF => k_asm); (case zzhc => rfl); (case zzho => assumption); (case zzhd => assumption)) | (refine' cn_global (K := fr.heap_1 _) ?zzF ?zzX ?zzT ?zze ?_; (case zzF => k_asm); (case zzX => k_asm); (case zzT => k_asm); (case zze => k_is))))))) | walk1 | (dsimp only; walk1))
      exact elt_back (by assumption) fun _ _ => ⟨_, ex', _, rfl⟩
    · have ko := FF.keep _ _ K.o
      have kd := FF.keep _ _ K.d
      have ko2 := FF.keep _ _ K.pk.o
      have kd2 := FF.keep _ _ K.pk.d
      have qq : (pre true ++ short true l).length ≤ 34 := kc_length (tap := true) q33
      (try clear N); (try clear F); clear NN FF KX Tp mo md mt no nod ko1 kd1 kp1 kq1
      dsimp only at *
      repeat' (first | ((with_reducible show wpAny _ _ (binaryOp Operator.Add (Value.bytes _ _) (Value.bytes _ _)) _ _ _); (with_reducible ((k_dflt (refine' badd ?zzhz ?_; (case zzhz => (first | (simp only [List.length_append, List.length_cons, List.length_nil]; (first | lia | omega)) | (simp only [List.length_append, List.length_cons, List.length_nil] at *; (first | lia | omega)))); intro t' k'))))) | ((with_reducible show wpAny _ _ (call (Value.ref 1027) _ _) _ _ _); (with_reducible ((refine' use (keycomp_spec ?zzW ?zzK ?zzr ?zzhl) ?zzF ?zzN ?_; (case zzK => exact ⟨Fr.keep (by assumption) _ _ (by with_reducible assumption), Fr.keep (by assumption) _ _ (by with_reducible assumption), Fr.keep (by assumption) _ _ (by with_reducible assumption), Fr.keep (by assumption) _ _ (by with_reducible assumption)⟩); (case zzhl => assumption); (((case zzW => exact World0.now (by assumption) (by assumption) (by assumption)); (case zzr => (exact Room.le (by assumption) (by decide))); (case zzF => k_asm); (case zzN => k_asm))); intro v' h' tk' g' F' N' e'; obtain ⟨t', e'⟩ := e'; subst e'; try k_sweep)))) | ((with_reducible show wpAny _ _ (eval (Expr.Name _ _) _) _ _ _); (with_reducible ((k_here; (with_reducible show wpAny _ _ (eval (Expr.Name _ _) (compEnvC _ _ _ _)) _ _ _); k_dflt (first | (refine' cn_local ?zzF ?zzhv ?_; (case zzF => k_asm); (case zzhv => assumption)) | (refine' cn_cell ?zzF ?zzhc ?zzho ?zzhd ?_; (case zzF => k_asm); (case zzhc => rfl); (case zzho => assumption); (case zzhd => assumption)) | (refine' cn_global (K := fr.heap_1 _) ?zzF ?zzX ?zzT ?zze ?_; (case zzF => k_asm); (case zzX => k_asm); (case zzT => k_asm); (case zze => k_is))))))) | walk1 | (dsimp only; walk1))
      exact elt_back (by assumption) fun _ _ => ⟨_, ex', _, rfl⟩
  intro D₂ h₂ tk₂ ys c₂ us g O
  have PB : Paired IsB ys.toList ((lr.map (kc true)).map (· ++ [186])) := comp_pairs (f := (· ++ [186])) EK (out_pairs O)
  have LB : ((lr.map (kc true)).map (· ++ [186])).length = lr.length := by rw [List.length_map, List.length_map]
  have LF : ((lr.map (kc true)).map (· ++ [186])).flatten.length ≤ 140 := by
    have := flat_le (n := 35) (ls := (lr.map (kc true)).map (· ++ [186])) fun l hl => by
      obtain ⟨y, hy, rfl⟩ := List.mem_map.mp hl
      have := kcs_le (tap := true) (ls := lr) (fun l hl => h33 l (.tail _ hl)) y hy
      rw [List.length_append]
      show _ + 1 ≤ _
      (first | lia | omega)
    rw [LB] at this
    (first | lia | omega)
  have F₂ := O.F
  have N₂ := O.N
  (try clear N); (try clear F); clear O NN FF
  repeat' (first | ((with_reducible show wpAny _ _ (binaryOp Operator.Add (Value.bytes _ _) (Value.bytes _ _)) _ _ _); (with_reducible ((k_dflt (refine' badd ?zzhz ?_; (case zzhz => (first | (simp only [List.length_append, List.length_cons, List.length_nil]; (first | lia | omega)) | (simp only [List.length_append, List.length_cons, List.length_nil] at *; (first | lia | omega)))); intro t' k'))))) | ((with_reducible show wpAny _ _ (call (Value.builtin "bytes.join") _ _) _ _ _); (with_reducible ((k_dflt (refine' join_bytes ?zzhl ?zzhb ?zzhn ?zzhz ?_; (case zzhb => assumption); (case zzhl => exact News.isListOf (by assumption)); (case zzhn => exact Nat.le_trans (Nat.le_of_eq (Paired.length (by assumption))) (by (first | lia | omega))); (case zzhz => first | decide | (first | lia | omega))); intro t' k')))) | ((with_reducible show wpAny _ _ (call (Value.ref 1109) _ _) _ _ _); (with_reducible ((refine' use (numcomp_spec ?zzW ?zzK ?zzr ?zzh0 ?zzh1) ?zzF ?zzN ?_; (case zzK => exact ⟨by (first | with_reducible assumption | exact Fr.keep (by assumption) _ _ (by with_reducible assumption)), by (first | with_reducible assumption | exact Fr.keep (by assumption) _ _ (by with_reducible assumption))⟩); (case zzh0 => (first | assumption | (first | lia | omega))); (case zzh1 => (first | assumption | (first | lia | omega))); (((case zzW => exact World0.now (by assumption) (by assumption) (by assumption)); (case zzr => (exact Room.le (by assumption) (by decide))); (case zzF => k_asm); (case zzN => k_asm))); intro v' h' tk' g' F' N' e'; obtain ⟨t', e'⟩ := e'; subst e'; try k_sweep)))) | ((with_reducible show wpAny _ _ (subscriptTail _ _ _ _) _ _ _); (with_reducible ((k_here; (with_reducible show wpAny _ _ (subscriptTail _ _ (Value.ref _) (Value.int 0 _)) _ _ _); k_dflt (refine' titem (k := 0) ?zzht ?zzhj ?zzhx ?_; (case zzht => (first | exact Fr.keep (by assumption) _ _ (by with_reducible assumption))); (case zzhj => decide); (case zzhx => rfl)))))) | walk1 | (dsimp only; walk1))
  exact Back.of (by assumption) ⟨_, rfl⟩
end
section -- C4
section
variable {w : World} {A : Around} {E : Value → Shared → Prop} {s : Shared} {h₀ : Heap} {L l : Addr} {m : Str → Option Value} {news : List (Addr × Obj)} {us : Array Value} {ms : List (List UInt8)} {u : Tok} {value slice : Expr} {Q : Value → Shared → Prop}
theorem News.listAt {h : Heap} {D : Addr} {ys : Array Value} {c : Nat} (N : News h₀ L h news) (hm : (D, PySem.W.listOf ys c) ∈ news) : h.IsList D ys := ⟨_, (N _ hm).1, rfl, _, rfl⟩
theorem bhead (hl : s.heap.IsList l us) (hb : Paired IsB us.toList ms) (h1 : 1 ≤ ms.length) (h : ∀ t, Q (.bytes ⟨ms.getD 0 []⟩ t) s)
    (hs : subscripted slice false (.ref l) (.int 0 u) = operate [.ref l, .int 0 u] (getItem (.ref l) (.int 0 u)) := by with_unfolding_all rfl) :
    wpAny (model P0 w) A (subscriptTail value slice (.ref l) (.int 0 u)) Q E s := by
  obtain ⟨t, e⟩ := paired_get hb (i := 0) (by rw [hb.length]; (first | lia | omega))
  exact item_litK (vs := us.toList) hl (by decide) (by decide) e (h t) hs
theorem btail (F : Fr h₀ L s.heap m) (N : News h₀ L s.heap news) (hl : s.heap.IsList l us) (hz : us.size ≤ 1000)
    (h : ∀ D h', Fr h₀ L h' m → News h₀ L h' ((D, PySem.W.listOf (us.toList.drop 1).toArray 0) :: news) → Q (.ref D) { s with heap := h' })
    (hs : subscripted slice false (.ref l) (.ref s.heap.objs.size) = operate [.ref s.heap.objs.size, .ref l] (getItem (.ref l) (.ref s.heap.objs.size)) := by with_unfolding_all rfl) :
    wpAny (model P0 w) A (subscriptTail value slice (.ref l) (.ref s.heap.objs.size)) Q E { s with heap := s.heap.push { cls := .type "slice", data := .fields #[.int 1 u, .none, .none] } } := by
  refine kba_turn (value' := PySem.Expr.Name (PySem.Str.ofString "_") ⟨0, 0, 0, 0⟩) (fun _ => rfl) ?_
  refine kms_slice_lit (lo := some 1) (hi := none) (zs := us.toList.drop 1) F N hl (.int _ _) .none ?_ (fun D h' F' N' _ => h D h' F' N') hs (fun _ => rfl) (by rw [sizeLine_eq]; (first | lia | omega))
  unfold kms_pick kms_lo kms_hi
  have e : (if (1 : Int) < 0 then us.toList.length - (-(1 : Int)).toNat else min (1 : Int).toNat us.toList.length) = min 1 us.toList.length := by simp
  dsimp only
  rw [e]
  rcases us.toList with _ | ⟨y, r⟩
  · rfl
  · have e2 : min 1 (y :: r).length = 1 := by rw [List.length_cons]; (first | lia | omega)
    rw [e2, List.take_of_length_le (by rw [List.length_drop]; exact Nat.le_refl _)]
end
theorem paired_drop {us : List Value} {ms : List (List UInt8)} (h : Paired IsB us ms) : Paired IsB (us.drop 1) (ms.drop 1) := by cases h <;> first | exact .nil | assumption
theorem layA_ne {need : Int} {ms : List (List UInt8)} (h : 1 ≤ ms.length) : layA need ms = ms.getD 0 [] ++ [172] ++ ((ms.drop 1).map (· ++ [186])).flatten ++ nb need ++ [156] := by
  cases ms with
  | nil => simp at h
  | cons m r => rfl
theorem isb_pairs {items ys : List Value} {es : List (List UInt8)} {f : List UInt8 → List UInt8} (he : Paired IsB items es) (hy : Paired (fun v y => ∃ e, IsB v e ∧ IsB y (f e)) items ys) : Paired IsB ys (es.map f) := by
  induction he generalizing ys with
  | nil => cases hy; exact .nil
  | cons hx _ ih =>
    cases hy with
    | cons q r =>
      obtain ⟨e, q1, q2⟩ := q
      obtain ⟨t, rfl⟩ := hx
      obtain rfl := isb_inj q1
      exact .cons q2 (ih r)
theorem compile_sorted_a {w : World} {A : Around} {E : Value → Shared → Prop} {s : Shared} {x dx T na nd : Addr} {t1 t2 n1 n2 : Tok} {need : Int} {ks : List Value} {ls : List (List UInt8)} (W : World0 w s.heap) (M : IsMs w s.heap 1291 true (.ref na :: ks) x dx T t1 t2) (NM : IsNum w s.heap na need nd n1 n2)
    (KS : Paired (KeyAt w s.heap true) ks ls) (h33 : ∀ l ∈ ls, l.length = 33) (hz : 1 ≤ ls.length ∧ ls.length ≤ 4) (h0 : 1 ≤ need) (h1 : need ≤ 16) (r : Room 8 A) :
    wpAny (model P0 w) A (call (.ref 1288) [.ref x]) (Back s (fun v _ => IsB v (layA need (bsort (ls.map (kc true)))))) E s := by
  refine' enter0 (binds := [(Str.ofString "self", .ref x)]) W r ?fits ?_
  case fits => ((refine' Fits.mk ?ho ?hcd ?hbind ?hloc ?hcell ?hco ?hgen ?hk; (case ho => k_is); (case hcd => k_is); (case hbind => first | exact BindsTo.of_eq rfl | exact binds_K (World0.X (by assumption)) rfl (by k_is) rfl rfl rfl); (case hloc => rfl); (case hcell => rfl); (case hco => rfl); (case hgen => rfl); (case hk => rfl)))
  intro L h₁ loose mg mb KX Tp F N rr
  obtain ⟨mo, md, mt⟩ := M
  have EX := made_exp NM h0 h1 KS h33
  have hlen := KS.length
  have no := NM.o
  have nod := NM.d
  repeat' (first | ((with_reducible show wpAny _ _ (eval (Expr.ListComp _ _ _ _) _) _ _ _); (with_reducible ((k_here; k_dflt (refine' comp_eval ?zzhclos ?zzhcell ?zzhk ?zzhnames ?zzhx ?zzhs ?_; (case zzhclos => rfl); (case zzhcell => decide); (case zzhk => rfl); (case zzhnames => decide); (case zzhx => rfl); (case zzhs => intro x; rfl)))))) | ((with_reducible show wpAny _ _ (subscriptTail _ _ _ _) _ _ _); (with_reducible ((k_here; (with_reducible show wpAny _ _ (subscriptTail _ (Expr.Slice (some (Expr.Constant (Const.int 1) _ _)) none none _) (Value.ref _) (Value.ref _)) _ _ _); (with_reducible rename Fr _ _ _ _ => F'); (with_reducible rename News _ _ _ _ => N'); k_dflt (refine' tslice (a := 1) (s := ⟨_, _, _, _, _⟩) F' N' ?zzht ?zzh1 ?zzha ?zzhz ?_; (case zzht => (first | exact Fr.keep (by assumption) _ _ (by with_reducible assumption))); (case zzh1 => decide); (case zzha => (simp only [List.length_cons]; (first | lia | omega))); (case zzhz => (simp only [List.length_cons]; (first | lia | omega)))); intro D' h' F' N')))) | walk1 | (dsimp only; walk1))
  rename Fr _ _ _ _ => FF
  rename News _ _ _ _ => NN
  have EK : Paired (Exp w s.heap true) ks (ls.map (kc true)) := by cases EX; assumption
  refine' CN.intro (fun v y _ => ∃ e, Exp w s.heap true v e ∧ IsB y e) ?hL ?src ?hz ?mono FF NN ?elt ?_
  case hL => intro l e; cases e
  case src => exact src_tuple rr.1 ⟨_, (NN _ (.head _)).1, rfl, _, rfl⟩
  case hz => rw [sizeLine_eq]; show ks.length ≤ _; (first | lia | omega)
  case mono => exact fun v y g g' k R => R
  case elt =>
    intro C i v s₂ m₂ hP hx Fc E₂
    have Nc := news_nil Fc
    have Xc := KX.keeps FF.keep
    have Tc := Tp.keeps FF.keep
    obtain ⟨e, -, ex⟩ := paired_at EK (i := i) (v := v) (by rw [← Array.getElem?_toList] at hP; exact hP)
    have ex' := ex
    rcases ex with ⟨a, n, d, u1, u2, rfl, K, k0, k1, rfl⟩ | ⟨l, ⟨a, d, pk, dp, u1, u2, u3, u4, u5, u6, u7, u8, rfl, K⟩, k33, rfl⟩
    · have ko := FF.keep _ _ K.o
      have kd := FF.keep _ _ K.d
      (try clear N); (try clear F); clear NN FF KX Tp mo md mt no nod
      dsimp only at *
      repeat' (first | ((with_reducible show wpAny _ _ (call (Value.ref 1109) _ _) _ _ _); (with_reducible ((refine' use (numcomp_spec ?zzW ?zzK ?zzr ?zzh0 ?zzh1) ?zzF ?zzN ?_; (case zzK => exact ⟨by (first | with_reducible assumption | exact Fr.keep (by assumption) _ _ (by with_reducible assumption)), by (first | with_reducible assumption | exact Fr.keep (by assumption) _ _ (by with_reducible assumption))⟩); (case zzh0 => (first | assumption | (first | lia | omega))); (case zzh1 => (first | assumption | (first | lia | omega))); (((case zzW => exact World0.now (by assumption) (by assumption) (by assumption)); (case zzr => (exact Room.le (by assumption) (by decide))); (case zzF => k_asm); (case zzN => k_asm))); intro v' h' tk' g' F' N' e'; obtain ⟨t', e'⟩ := e'; subst e'; try k_sweep)))) | ((with_reducible show wpAny _ _ (eval (Expr.Name _ _) _) _ _ _); (with_reducible ((k_here; (with_reducible show wpAny _ _ (eval (Expr.Name _ _) (compEnvC _ _ _ _)) _ _ _); k_dflt (first | (refine' cn_local ?zzF ?zzhv ?_; (case zzF => k_asm); (case zzhv => assumption)) | (refine' cn_cell ?zzF ?zzhc ?zzho ?zzhd ?_; (case zzF => k_asm); (case zzhc => rfl); (case zzho => assumption); (case zzhd => assumption)) | (refine' cn_global (K := fr.heap_1 _) ?zzF ?zzX ?zzT ?zze ?_; (case zzF => k_asm); (case zzX => k_asm); (case zzT => k_asm); (case zze => k_is))))))) | walk1 | (dsimp only; walk1))
      exact elt_back (by assumption) fun _ _ => ⟨_, ex', _, rfl⟩
    · have ko := FF.keep _ _ K.o
      have kd := FF.keep _ _ K.d
      have ko2 := FF.keep _ _ K.pk.o
      have kd2 := FF.keep _ _ K.pk.d
      (try clear N); (try clear F); clear NN FF KX Tp mo md mt no nod
      dsimp only at *
      repeat' (first | ((with_reducible show wpAny _ _ (call (Value.ref 1027) _ _) _ _ _); (with_reducible ((refine' use (keycomp_spec ?zzW ?zzK ?zzr ?zzhl) ?zzF ?zzN ?_; (case zzK => exact ⟨Fr.keep (by assumption) _ _ (by with_reducible assumption), Fr.keep (by assumption) _ _ (by with_reducible assumption), Fr.keep (by assumption) _ _ (by with_reducible assumption), Fr.keep (by assumption) _ _ (by with_reducible assumption)⟩); (case zzhl => assumption); (((case zzW => exact World0.now (by assumption) (by assumption) (by assumption)); (case zzr => (exact Room.le (by assumption) (by decide))); (case zzF => k_asm); (case zzN => k_asm))); intro v' h' tk' g' F' N' e'; obtain ⟨t', e'⟩ := e'; subst e'; try k_sweep)))) | ((with_reducible show wpAny _ _ (eval (Expr.Name _ _) _) _ _ _); (with_reducible ((k_here; (with_reducible show wpAny _ _ (eval (Expr.Name _ _) (compEnvC _ _ _ _)) _ _ _); k_dflt (first | (refine' cn_local ?zzF ?zzhv ?_; (case zzF => k_asm); (case zzhv => assumption)) | (refine' cn_cell ?zzF ?zzhc ?zzho ?zzhd ?_; (case zzF => k_asm); (case zzhc => rfl); (case zzho => assumption); (case zzhd => assumption)) | (refine' cn_global (K := fr.heap_1 _) ?zzF ?zzX ?zzT ?zze ?_; (case zzF => k_asm); (case zzX => k_asm); (case zzT => k_asm); (case zze => k_is))))))) | walk1 | (dsimp only; walk1))
      exact elt_back (by assumption) fun _ _ => ⟨_, ex', _, rfl⟩
  intro D₂ h₂ tk₂ ys c₂ us g O
  have PB : Paired IsB ys.toList (ls.map (kc true)) := by
    have := comp_pairs (f := id) EK (out_pairs O)
    simpa using this
  have L0 : ys.toList.length = ls.length := by rw [PB.length, List.length_map]
  have pm := bsort_perm (ls := ls.map (kc true)) (by rw [List.length_map]; (first | lia | omega)) (by rw [List.length_map]; (first | lia | omega))
  have LB : (bsort (ls.map (kc true))).length = ls.length := by rw [pm.length_eq, List.length_map]
  have L34 : ∀ l ∈ bsort (ls.map (kc true)), l.length ≤ 34 := fun l hl => kcs_le h33 l (pm.mem_iff.mp hl)
  have LG : ((bsort (ls.map (kc true))).getD 0 []).length ≤ 34 := by
    rw [List.getD_eq_getElem?_getD, List.getElem?_eq_getElem (by (first | lia | omega))]
    exact L34 _ (List.getElem_mem _)
  have F₂ := O.F
  have N₂ := O.N
  (try clear N); (try clear F); clear O NN FF
  repeat' (first | ((with_reducible show wpAny _ _ (subscriptTail _ _ _ _) _ _ _); (with_reducible ((k_here; (with_reducible show wpAny _ _ (subscriptTail (Expr.Name _ _) (Expr.Slice (some (Expr.Constant (Const.int 1) _ _)) none none _) (Value.ref _) (Value.ref _)) _ _ _); (with_reducible rename Fr _ _ _ _ => F'); (with_reducible rename News _ _ _ _ => N'); k_dflt (refine' btail (s := ⟨_, _, _, _, _⟩) F' N' ?zzhl ?zzhz ?_; (case zzhl => exact News.listAt N' (by k_mem)); (case zzhz => assumption)); intro D' h' F' N')))) | ((with_reducible show wpAny _ _ (binaryOp Operator.Add (Value.bytes _ _) (Value.bytes _ _)) _ _ _); (with_reducible ((k_dflt (refine' badd ?zzhz ?_; (case zzhz => (first | (simp only [List.length_append, List.length_cons, List.length_nil]; (first | lia | omega)) | (simp only [List.length_append, List.length_cons, List.length_nil] at *; (first | lia | omega)))); intro t' k'))))) | ((with_reducible show wpAny _ _ (call (Value.builtin "sorted") _ _) _ _ _); (with_reducible ((k_here; (with_reducible rename Fr _ _ _ _ => F'); (with_reducible rename News _ _ _ _ => N'); k_dflt (refine' sorted_bytes F' N' ?zzhl ?zzhb ?zzh1 ?zzh4 ?_; (case zzhl => exact News.isListOf N'); (case zzhb => assumption); (case zzh1 => first | decide | (first | lia | omega)); (case zzh4 => (first | lia | omega))); intro D' h' c' out' F' N' PB'; have LS' : out'.size ≤ 1000 := (by rw [← Array.length_toList, Paired.length PB']; (first | lia | omega)); have LT' : out'.size ≤ sizeLine := (by rw [sizeLine_eq]; (first | lia | omega)))))) | ((with_reducible show wpAny _ _ (call (Value.type "list") _ _) _ _ _); (with_reducible ((k_here; (with_reducible show wpAny _ _ (call (Value.type "list") [Value.ref _]) _ _ _); (with_reducible rename Fr _ _ _ _ => F'); (with_reducible rename News _ _ _ _ => N'); k_dflt (refine' list_copyK F' N' ?zzhl ?_ ?zzz; (case zzhl => exact News.listAt N' (by k_mem)); (case zzz => assumption)); intro D' c' h' F' N' l1; (try k_lt l1); (try k_sweep))))) | ((with_reducible show wpAny _ _ (eval (Expr.ListComp _ _ _ _) _) _ _ _); (with_reducible ((k_here; k_dflt (refine' comp_eval ?zzhclos ?zzhcell ?zzhk ?zzhnames ?zzhx ?zzhs ?_; (case zzhclos => rfl); (case zzhcell => decide); (case zzhk => rfl); (case zzhnames => decide); (case zzhx => rfl); (case zzhs => intro x; rfl)))))) | ((with_reducible show wpAny _ _ (getMethod (Value.bytes _ _) _ _) _ _ _); (with_reducible ((k_dflt (refine' join_method ?_))))) | ((with_reducible show wpAny _ _ (subscriptTail _ _ _ _) _ _ _); (with_reducible ((k_here; (with_reducible show wpAny _ _ (subscriptTail (Expr.Name _ _) _ (Value.ref _) (Value.int 0 _)) _ _ _); k_dflt (refine' bhead ?zzhl ?zzhb ?zzh1 ?_; (case zzhl => exact News.listAt (by assumption) (by k_mem)); (case zzhb => assumption); (case zzh1 => first | decide | (first | lia | omega))); intro t')))) | walk1 | (dsimp only; walk1))
  rename Fr _ _ _ _ => FF
  rename News _ _ _ _ => NN
  rename Paired IsB _ (bsort _) => PS
  have PD := paired_drop PS
  have PL := PD.length
  refine' CN.intro (fun v y _ => ∃ e, IsB v e ∧ IsB y (e ++ [186])) ?hL ?src ?hz ?mono FF NN ?elt ?_
  case hL => intro l e; cases e
  case src => exact src_list rr.1 (News.isListOf NN)
  case hz => rw [sizeLine_eq, List.size_toArray, PL, List.length_drop]; (first | lia | omega)
  case mono => exact fun v y g g' k R => R
  case elt =>
    intro C i v s₂ m₂ hP hx Fc E₂
    have Nc := news_nil Fc
    have Xc := KX.keeps FF.keep
    have Tc := Tp.keeps FF.keep
    obtain ⟨e, he, t, rfl⟩ := paired_at PD (i := i) (v := v) (by rw [← Array.getElem?_toList] at hP; exact hP)
    have le : e.length ≤ 34 := L34 e (List.mem_of_mem_drop (List.mem_of_getElem? he))
    (try clear N); (try clear F); clear NN FF KX Tp mo md mt no nod
    dsimp only at *
    repeat' (first | ((with_reducible show wpAny _ _ (binaryOp Operator.Add (Value.bytes _ _) (Value.bytes _ _)) _ _ _); (with_reducible ((k_dflt (refine' badd ?zzhz ?_; (case zzhz => (first | (simp only [List.length_append, List.length_cons, List.length_nil]; (first | lia | omega)) | (simp only [List.length_append, List.length_cons, List.length_nil] at *; (first | lia | omega)))); intro t' k'))))) | ((with_reducible show wpAny _ _ (eval (Expr.Name _ _) _) _ _ _); (with_reducible ((k_here; (with_reducible show wpAny _ _ (eval (Expr.Name _ _) (compEnvC _ _ _ _)) _ _ _); k_dflt (first | (refine' cn_local ?zzF ?zzhv ?_; (case zzF => k_asm); (case zzhv => assumption)) | (refine' cn_cell ?zzF ?zzhc ?zzho ?zzhd ?_; (case zzF => k_asm); (case zzhc => rfl); (case zzho => assumption); (case zzhd => assumption)) | (refine' cn_global (K := fr.heap_1 _) ?zzF ?zzX ?zzT ?zze ?_; (case zzF => k_asm); (case zzX => k_asm); (case zzT => k_asm); (case zze => k_is))))))) | walk1 | (dsimp only; walk1))
    exact elt_back (fun _ _ e => e) fun _ _ => ⟨e, ⟨t, rfl⟩, _, rfl⟩
  intro D₃ h₃ tk₃ zs c₃ us₃ g₃ O
  have PZ : Paired IsB zs.toList (((bsort (ls.map (kc true))).drop 1).map (· ++ [186])) := by
    exact isb_pairs PD (out_pairs O)
  have LZ : (((bsort (ls.map (kc true))).drop 1).map (· ++ [186])).length ≤ 4 := by rw [List.length_map, List.length_drop]; (first | lia | omega)
  have LF : (((bsort (ls.map (kc true))).drop 1).map (· ++ [186])).flatten.length ≤ 140 := by
    have := flat_le (n := 35) (ls := ((bsort (ls.map (kc true))).drop 1).map (· ++ [186])) fun l hl => by
      obtain ⟨y, hy, rfl⟩ := List.mem_map.mp hl
      have := L34 y (List.mem_of_mem_drop hy)
      rw [List.length_append]
      show _ + 1 ≤ _
      (first | lia | omega)
    (first | lia | omega)
  have F₃ := O.F
  have N₃ := O.N
  rw [layA_ne (by (first | lia | omega))]
  clear O NN FF PD PL PS PB
  repeat' (first | ((with_reducible show wpAny _ _ (binaryOp Operator.Add (Value.bytes _ _) (Value.bytes _ _)) _ _ _); (with_reducible ((k_dflt (refine' badd ?zzhz ?_; (case zzhz => (first | (simp only [List.length_append, List.length_cons, List.length_nil]; (first | lia | omega)) | (simp only [List.length_append, List.length_cons, List.length_nil] at *; (first | lia | omega)))); intro t' k'))))) | ((with_reducible show wpAny _ _ (call (Value.builtin "bytes.join") _ _) _ _ _); (with_reducible ((k_dflt (refine' join_bytes ?zzhl ?zzhb ?zzhn ?zzhz ?_; (case zzhb => assumption); (case zzhl => exact News.isListOf (by assumption)); (case zzhn => exact Nat.le_trans (Nat.le_of_eq (Paired.length (by assumption))) (by (first | lia | omega))); (case zzhz => first | decide | (first | lia | omega))); intro t' k')))) | ((with_reducible show wpAny _ _ (call (Value.ref 1109) _ _) _ _ _); (with_reducible ((refine' use (numcomp_spec ?zzW ?zzK ?zzr ?zzh0 ?zzh1) ?zzF ?zzN ?_; (case zzK => exact ⟨by (first | with_reducible assumption | exact Fr.keep (by assumption) _ _ (by with_reducible assumption)), by (first | with_reducible assumption | exact Fr.keep (by assumption) _ _ (by with_reducible assumption))⟩); (case zzh0 => (first | assumption | (first | lia | omega))); (case zzh1 => (first | assumption | (first | lia | omega))); (((case zzW => exact World0.now (by assumption) (by assumption) (by assumption)); (case zzr => (exact Room.le (by assumption) (by decide))); (case zzF => k_asm); (case zzN => k_asm))); intro v' h' tk' g' F' N' e'; obtain ⟨t', e'⟩ := e'; subst e'; try k_sweep)))) | ((with_reducible show wpAny _ _ (subscriptTail _ _ _ _) _ _ _); (with_reducible ((k_here; (with_reducible show wpAny _ _ (subscriptTail _ _ (Value.ref _) (Value.int 0 _)) _ _ _); k_dflt (refine' titem (k := 0) ?zzht ?zzhj ?zzhx ?_; (case zzht => (first | exact Fr.keep (by assumption) _ _ (by with_reducible assumption))); (case zzhj => decide); (case zzhx => rfl)))))) | walk1 | (dsimp only; walk1))
  exact Back.of (by assumption) ⟨_, rfl⟩
end
section -- CS
theorem keys_now {w : World} {h₀ h : Heap} {L : Addr} {m : Str → Option Value} {tap : Bool} {ks : List Value} {ls : List (List UInt8)} (F : Fr h₀ L h m) (K : Paired (KeyAt w h₀ tap) ks ls) : Paired (KeyAt w h tap) ks ls := K.mono fun _ _ k => k.grow F.keep
/-- the script of keys' codes laid -/
noncomputable def lay (tap : Bool) (need : Int) (ms : List (List UInt8)) : List UInt8 := if tap then layA need ms else nb need ++ ms.flatten ++ nb ms.length ++ [174]
noncomputable def scr (sort tap : Bool) (need : Int) (ls : List (List UInt8)) : List UInt8 := lay tap need (if sort then bsort (ls.map (kc tap)) else ls.map (kc tap))
theorem scr_ff {need : Int} {ls : List (List UInt8)} : (nb need :: ls.map (kc false)).flatten ++ nb ls.length ++ [174] = scr false false need ls := by
  unfold scr lay
  rw [if_neg (by decide), if_neg (by decide), List.flatten_cons, List.length_map]
theorem scr_tf {need : Int} {ls : List (List UInt8)} (hz : 1 ≤ ls.length ∧ ls.length ≤ 4) : nb need ++ (bsort (ls.map (kc false))).flatten ++ nb ls.length ++ [174] = scr true false need ls := by
  unfold scr lay
  rw [if_neg (by decide), if_pos rfl, (bsort_perm (ls := ls.map (kc false)) (by rw [List.length_map]; (first | lia | omega)) (by rw [List.length_map]; (first | lia | omega))).length_eq, List.length_map]
theorem compile_spec {w : World} {A : Around} {E : Value → Shared → Prop} {s : Shared} {sort tap : Bool} {need : Int} {ls : List (List UInt8)} {v : Value} (W : World0 w s.heap) (M : Made w s.heap (clsOf sort tap) tap need ls v) (h33 : ∀ l ∈ ls, l.length = 33) (hz : 1 ≤ ls.length ∧ ls.length ≤ 4) (h0 : 1 ≤ need) (h1 : need ≤ 16) (r : Room 9 A) :
    wpAny (model P0 w) A (call (.ref 1149) [v]) (Back s (fun v _ => IsB v (scr sort tap need ls))) E s := by
  obtain ⟨na, nd, n1, n2, ks, ⟨x, dx, T, t1, t2, rfl, mo, md, mt⟩, ⟨no, nod⟩, KS⟩ := M
  refine' enter0 (binds := [(Str.ofString "self", .ref x)]) W r ?fits ?_
  case fits => ((refine' Fits.mk ?ho ?hcd ?hbind ?hloc ?hcell ?hco ?hgen ?hk; (case ho => k_is); (case hcd => k_is); (case hbind => first | exact BindsTo.of_eq rfl | exact binds_K (World0.X (by assumption)) rfl (by k_is) rfl rfl rfl); (case hloc => rfl); (case hcell => rfl); (case hco => rfl); (case hgen => rfl); (case hk => rfl)))
  intro L h₁ loose mg mb KX Tp F N rr
  cases tap <;> cases sort
  all_goals
    dsimp only [clsOf] at mo
    simp only [if_true, Bool.false_eq_true, if_false] at mo
    repeat' (first | ((with_reducible show wpAny _ _ (call (Value.ref 1288) _ _) _ _ _); (with_reducible ((k_here; (refine' use (compile_sorted_a ?zzW ?zzM ?zzNM ?zzKS ?zzh33 ?zzhz ?zzh0 ?zzh1 ?zzr) ?zzF ?zzN ?_; (case zzM => exact ⟨Fr.keep (by assumption) _ _ (by with_reducible assumption), Fr.keep (by assumption) _ _ (by with_reducible assumption), Fr.keep (by assumption) _ _ (by with_reducible assumption)⟩); (case zzNM => exact ⟨Fr.keep (by assumption) _ _ (by with_reducible assumption), Fr.keep (by assumption) _ _ (by with_reducible assumption)⟩); (case zzKS => exact keys_now (by assumption) (by assumption)); (case zzh33 => assumption); (case zzhz => assumption); (case zzh0 => assumption); (case zzh1 => assumption); (((case zzW => exact World0.now (by assumption) (by assumption) (by assumption)); (case zzr => (exact Room.le (by assumption) (by decide))); (case zzF => k_asm); (case zzN => k_asm)))); intro v' h' tk' g' F' N' e')))) | ((with_reducible show wpAny _ _ (call (Value.ref 1264) _ _) _ _ _); (with_reducible ((k_here; (refine' use (compile_multi_a ?zzW ?zzM ?zzNM ?zzKS ?zzh33 ?zzhz ?zzh0 ?zzh1 ?zzr) ?zzF ?zzN ?_; (case zzM => exact ⟨Fr.keep (by assumption) _ _ (by with_reducible assumption), Fr.keep (by assumption) _ _ (by with_reducible assumption), Fr.keep (by assumption) _ _ (by with_reducible assumption)⟩); (case zzNM => exact ⟨Fr.keep (by assumption) _ _ (by with_reducible assumption), Fr.keep (by assumption) _ _ (by with_reducible assumption)⟩); (case zzKS => exact keys_now (by assumption) (by assumption)); (case zzh33 => assumption); (case zzhz => assumption); (case zzh0 => assumption); (case zzh1 => assumption); (((case zzW => exact World0.now (by assumption) (by assumption) (by assumption)); (case zzr => (exact Room.le (by assumption) (by decide))); (case zzF => k_asm); (case zzN => k_asm)))); intro v' h' tk' g' F' N' e')))) | ((with_reducible show wpAny _ _ (call (Value.ref 1247) _ _) _ _ _); (with_reducible ((k_here; (refine' use (compile_sorted ?zzW ?zzM ?zzNM ?zzKS ?zzh33 ?zzhz ?zzh0 ?zzh1 ?zzr) ?zzF ?zzN ?_; (case zzM => exact ⟨Fr.keep (by assumption) _ _ (by with_reducible assumption), Fr.keep (by assumption) _ _ (by with_reducible assumption), Fr.keep (by assumption) _ _ (by with_reducible assumption)⟩); (case zzNM => exact ⟨Fr.keep (by assumption) _ _ (by with_reducible assumption), Fr.keep (by assumption) _ _ (by with_reducible assumption)⟩); (case zzKS => exact keys_now (by assumption) (by assumption)); (case zzh33 => assumption); (case zzhz => assumption); (case zzh0 => assumption); (case zzh1 => assumption); (((case zzW => exact World0.now (by assumption) (by assumption) (by assumption)); (case zzr => (exact Room.le (by assumption) (by decide))); (case zzF => k_asm); (case zzN => k_asm)))); intro v' h' tk' g' F' N' e')))) | ((with_reducible show wpAny _ _ (call (Value.ref 1215) _ _) _ _ _); (with_reducible ((k_here; (refine' use (compile_multi ?zzW ?zzM ?zzNM ?zzKS ?zzh33 ?zzhz ?zzh0 ?zzh1 ?zzr) ?zzF ?zzN ?_; (case zzM => exact ⟨Fr.keep (by assumption) _ _ (by with_reducible assumption), Fr.keep (by assumption) _ _ (by with_reducible assumption), Fr.keep (by assumption) _ _ (by with_reducible assumption)⟩); (case zzNM => exact ⟨Fr.keep (by assumption) _ _ (by with_reducible assumption), Fr.keep (by assumption) _ _ (by with_reducible assumption)⟩); (case zzKS => exact keys_now (by assumption) (by assumption)); (case zzh33 => assumption); (case zzhz => assumption); (case zzh0 => assumption); (case zzh1 => assumption); (((case zzW => exact World0.now (by assumption) (by assumption) (by assumption)); (case zzr => (exact Room.le (by assumption) (by decide))); (case zzF => k_asm); (case zzN => k_asm)))); intro v' h' tk' g' F' N' e')))) | walk1 | (dsimp only; walk1))
  · skip
    exact Back.of (by assumption) (scr_ff ▸ e')
  · skip
    exact Back.of (by assumption) (scr_tf hz ▸ e')
  · skip
    exact Back.of (by assumption) e'
  · skip
    exact Back.of (by assumption) e'
end
section -- LN
local macro_rules | `(tactic| k_inst) => `(tactic| (refine' InstAt.base ?F ?h1 ?h2; (case F => k_asm); (case h1 => with_reducible assumption); (case h2 => with_reducible assumption)))
local macro_rules | `(tactic| k_inst) => `(tactic| exact ⟨by with_reducible assumption, rfl, rfl, by with_reducible assumption⟩)
theorem Room.in1 {n : Nat} {A : Around} (r : Room (n + 1) A) : Room n A.in1 := ⟨r.1, by have := r.2.1; show A.depth + n ≤ 900; (first | lia | omega), by have := r.2.2; show A.units + 1 + 50 * n ≤ 9000; (first | lia | omega)⟩
theorem kc_len {tap : Bool} {l : List UInt8} (h : l.length = 33) : ((kc tap l).length : Int) = if tap then 33 else 34 := by cases tap <;> simp [kc, pre, short, h]
theorem len_pairs {w : World} {h : Heap} {tap : Bool} {items ys : List Value} {es : List (List UInt8)} (he : Paired (Exp w h tap) items es) (hy : Paired (fun v y => ∃ e, Exp w h tap v e ∧ ∃ t, y = .int (e.length : Int) t) items ys) : IntsAre ys (es.map fun e => (e.length : Int)) := by
  induction he generalizing ys with
  | nil => cases hy; exact .nil
  | cons hx _ ih =>
    cases hy with
    | cons q r =>
      obtain ⟨e, q1, t, rfl⟩ := q
      obtain rfl := exp_unique hx q1
      exact .cons _ _ (ih r)
theorem sum_mine {w : World} {A : Around} {E : Value → Shared → Prop} {s : Shared} {h₀ : Heap} {L l : Addr} {m : Str → Option Value} {news : List (Addr × Obj)} {ys : Array Value} {ns : List Int} {Q : Value → Shared → Prop} (hh : A.handled = none) (F : Fr h₀ L s.heap m) (N : News h₀ L s.heap news) (hl : s.heap.IsList l ys) (hi : IntsAre ys.toList ns)
    (h : ∀ h' tk t', Fr h₀ L h' m → News h₀ L h' news → Q (.int ns.sum t') { s with heap := h', toks := tk }) : wpAny (model P0 w) A (call (.builtin "sum") [.ref l]) Q E s := sumK (vs := ys.toList) hh F N hl hi h
theorem lenargs_spec {w : World} {A : Around} {E : Value → Shared → Prop} {s : Shared} {C : Addr} {tap : Bool} {x dx T na nd : Addr} {t1 t2 n1 n2 : Tok} {need : Int} {ks : List Value} {ls : List (List UInt8)} (W : World0 w s.heap) (hC : C = 1233 ∨ C = 1250 ∨ C = 1274 ∨ C = 1291) (M : IsMs w s.heap C tap (.ref na :: ks) x dx T t1 t2) (NM : IsNum w s.heap na need nd n1 n2)
    (KS : Paired (KeyAt w s.heap tap) ks ls) (h33 : ∀ l ∈ ls, l.length = 33) (hz : 1 ≤ ls.length ∧ ls.length ≤ 4) (h0 : 1 ≤ need) (h1 : need ≤ 16) (r : Room 8 A) :
    wpAny (model P0 w) A (call (.ref 1189) [.ref x]) (Back s (fun v _ => ∃ t, v = .int ((nb need :: ls.map (kc tap)).map (fun e => (e.length : Int))).sum t)) E s := by
  refine' enter0 (binds := [(Str.ofString "self", .ref x)]) W r ?fits ?_
  case fits => ((refine' Fits.mk ?ho ?hcd ?hbind ?hloc ?hcell ?hco ?hgen ?hk; (case ho => k_is); (case hcd => k_is); (case hbind => first | exact BindsTo.of_eq rfl | exact binds_K (World0.X (by assumption)) rfl (by k_is) rfl rfl rfl); (case hloc => rfl); (case hcell => rfl); (case hco => rfl); (case hgen => rfl); (case hk => rfl)))
  intro L h₁ loose mg mb KX Tp F N rr
  obtain ⟨mo, md, mt⟩ := M
  have EX := made_exp NM h0 h1 KS h33
  have hlen := KS.length
  rcases hC with rfl | rfl | rfl | rfl
  all_goals
    repeat' (first | ((with_reducible show wpAny _ _ (eval (Expr.ListComp _ _ _ _) _) _ _ _); (with_reducible ((k_here; k_dflt (refine' comp_eval ?zzhclos ?zzhcell ?zzhk ?zzhnames ?zzhx ?zzhs ?_; (case zzhclos => rfl); (case zzhcell => decide); (case zzhk => rfl); (case zzhnames => decide); (case zzhx => rfl); (case zzhs => intro x; rfl)))))) | walk1 | (dsimp only; walk1))
    rename Fr _ _ _ _ => FF
    rename News _ _ _ _ => NN
    refine' CN.intro (fun v y _ => ∃ e, Exp w s.heap tap v e ∧ ∃ t, y = .int (e.length : Int) t) ?hL ?src ?hz ?mono FF NN ?elt ?_
    case hL => intro l e; cases e
    case src => exact src_tuple rr.1 ⟨_, FF.keep _ _ mt, rfl, _, rfl⟩
    case hz => rw [sizeLine_eq]; show (Value.ref na :: ks).length ≤ _; rw [List.length_cons, hlen]; (first | lia | omega)
    case mono => exact fun v y g g' k R => R
    case elt =>
      intro C i v s₂ m₂ hP hx Fc E₂
      have Nc := news_nil Fc
      have Xc := KX.keeps FF.keep
      have Tc := Tp.keeps FF.keep
      obtain ⟨e, -, ex⟩ := paired_at EX (i := i) (v := v) (by rw [← Array.getElem?_toList] at hP; exact hP)
      have ex' := ex
      rcases ex with ⟨a, n, d, v1, v2, rfl, K, k0, k1, rfl⟩ | ⟨l, ⟨a, d, pk, dp, v1, v2, v3, v4, v5, v6, v7, v8, rfl, K⟩, q33, rfl⟩
      · have ko := FF.keep _ _ K.o
        have kd := FF.keep _ _ K.d
        (try clear N); (try clear F); clear NN FF KX Tp mo md mt
        dsimp only at *
        repeat' (first | ((with_reducible show wpAny _ _ (call (Value.ref 1116) _ _) _ _ _); ((refine' use (numlen_spec ?zzW ?zzK ?zzr ?zzh0 ?zzh1) ?zzF ?zzN ?_; (case zzK => exact ⟨by (first | with_reducible assumption | exact Fr.keep (by assumption) _ _ (by with_reducible assumption)), by (first | with_reducible assumption | exact Fr.keep (by assumption) _ _ (by with_reducible assumption))⟩); (case zzh0 => assumption); (case zzh1 => assumption); (((case zzW => exact World0.now (by assumption) (by assumption) (by assumption)); (case zzr => (first | (first | exact Room.le (by assumption) (by decide) | exact Room.le (Room.in1 (by assumption)) (by decide)) | (exact Room.le (by assumption) (by decide)))); (case zzF => k_asm); (case zzN => k_asm))); intro v' h' tk' g' F' N' e'; obtain ⟨t', e'⟩ := e'; subst e'; refine ⟨⟨by decide, by decide⟩, ?_⟩))) | ((with_reducible show wpAny _ _ (eval (Expr.Name _ _) _) _ _ _); (with_reducible ((k_here; (with_reducible show wpAny _ _ (eval (Expr.Name _ _) (compEnvC _ _ _ _)) _ _ _); k_dflt (first | (refine' cn_local ?zzF ?zzhv ?_; (case zzF => k_asm); (case zzhv => assumption)) | (refine' cn_cell ?zzF ?zzhc ?zzho ?zzhd ?_; (case zzF => k_asm); (case zzhc => rfl); (case zzho => assumption); (case zzhd => assumption)) | (refine' cn_global (K := fr.heap_1 _) ?zzF ?zzX ?zzT ?zze ?_; (case zzF => k_asm); (case zzX => k_asm); (case zzT => k_asm); (case zze => k_is)) | (refine' cn_built (K := fr.heap_1 _) ?zzF ?zzX ?zzT ?zze ?zzv ?zzn ?_; (case zzF => k_asm); (case zzX => k_asm); (case zzT => k_asm); (case zze => k_is); (case zzv => boot_by_name); (case zzn => decide))))))) | walk1 | (dsimp only; walk1))
        exact elt_back (by assumption) fun _ _ => ⟨_, ex', _, rfl⟩
      · have ko := FF.keep _ _ K.o
        have kd := FF.keep _ _ K.d
        have ko2 := FF.keep _ _ K.pk.o
        have kd2 := FF.keep _ _ K.pk.d
        (try clear N); (try clear F); clear NN FF KX Tp mo md mt
        dsimp only at *
        repeat' (first | ((with_reducible show wpAny _ _ (call (Value.ref 991) _ _) _ _ _); ((refine' use (keylen_spec ?zzW ?zzK ?zzr) ?zzF ?zzN ?_; (case zzK => exact ⟨by (first | with_reducible assumption | exact Fr.keep (by assumption) _ _ (by with_reducible assumption)), by (first | with_reducible assumption | exact Fr.keep (by assumption) _ _ (by with_reducible assumption)), by (first | with_reducible assumption | exact Fr.keep (by assumption) _ _ (by with_reducible assumption)), by (first | with_reducible assumption | exact Fr.keep (by assumption) _ _ (by with_reducible assumption))⟩); (((case zzW => exact World0.now (by assumption) (by assumption) (by assumption)); (case zzr => (first | (first | exact Room.le (by assumption) (by decide) | exact Room.le (Room.in1 (by assumption)) (by decide)) | (exact Room.le (by assumption) (by decide)))); (case zzF => k_asm); (case zzN => k_asm))); intro v' h' tk' g' F' N' e'; obtain ⟨t', e'⟩ := e'; subst e'; refine ⟨⟨by (first | decide | (split <;> decide)), by (first | decide | (split <;> decide))⟩, ?_⟩))) | ((with_reducible show wpAny _ _ (eval (Expr.Name _ _) _) _ _ _); (with_reducible ((k_here; (with_reducible show wpAny _ _ (eval (Expr.Name _ _) (compEnvC _ _ _ _)) _ _ _); k_dflt (first | (refine' cn_local ?zzF ?zzhv ?_; (case zzF => k_asm); (case zzhv => assumption)) | (refine' cn_cell ?zzF ?zzhc ?zzho ?zzhd ?_; (case zzF => k_asm); (case zzhc => rfl); (case zzho => assumption); (case zzhd => assumption)) | (refine' cn_global (K := fr.heap_1 _) ?zzF ?zzX ?zzT ?zze ?_; (case zzF => k_asm); (case zzX => k_asm); (case zzT => k_asm); (case zze => k_is)) | (refine' cn_built (K := fr.heap_1 _) ?zzF ?zzX ?zzT ?zze ?zzv ?zzn ?_; (case zzF => k_asm); (case zzX => k_asm); (case zzT => k_asm); (case zze => k_is); (case zzv => boot_by_name); (case zzn => decide))))))) | walk1 | (dsimp only; walk1))
        exact elt_back (by assumption) fun _ _ => ⟨_, ex', _, by rw [kc_len q33]⟩
    intro D₂ h₂ tk₂ ys c₂ us g O
    have PB := len_pairs EX (out_pairs O)
    have F₂ := O.F
    have N₂ := O.N
    (try clear N); (try clear F); clear O NN FF
    repeat' (first | ((with_reducible show wpAny _ _ (call (Value.builtin "sum") _ _) _ _ _); (with_reducible ((k_here; (with_reducible rename Fr _ _ _ _ => F'); (with_reducible rename News _ _ _ _ => N'); k_dflt (refine' sum_mine ?zzhh F' N' ?zzhl ?zzhi ?_; (case zzhh => exact (show Room _ _ by assumption).1); (case zzhl => exact News.isListOf N'); (case zzhi => assumption)); intro h' tk' t' F' N')))) | walk1 | (dsimp only; walk1))
    exact Back.of (by assumption) ⟨_, rfl⟩
end
end
end
section
local macro_rules | `(tactic| k_inst) => `(tactic| (refine' InstAt.base ?F ?h1 ?h2; (case F => k_asm); (case h1 => with_reducible assumption); (case h2 => with_reducible assumption)))
local macro_rules | `(tactic| k_inst) => `(tactic| exact ⟨by with_reducible assumption, rfl, rfl, by with_reducible assumption⟩)
section -- LM
theorem flat_sum (ms : List (List UInt8)) : (ms.map (fun e => (e.length : Int))).sum = (ms.flatten.length : Int) := by
  induction ms with
  | nil => rfl
  | cons m r ih => rw [List.map_cons, List.sum_cons, ih, List.flatten_cons, List.length_append]; (first | lia | omega)
theorem len_multi {w : World} {A : Around} {E : Value → Shared → Prop} {s : Shared} {C : Addr} {x dx T na nd : Addr} {t1 t2 n1 n2 : Tok} {need : Int} {ks : List Value} {ls : List (List UInt8)} (W : World0 w s.heap) (hC : C = 1233 ∨ C = 1250) (M : IsMs w s.heap C false (.ref na :: ks) x dx T t1 t2) (NM : IsNum w s.heap na need nd n1 n2)
    (KS : Paired (KeyAt w s.heap false) ks ls) (h33 : ∀ l ∈ ls, l.length = 33) (hz : 1 ≤ ls.length ∧ ls.length ≤ 4) (h0 : 1 ≤ need) (h1 : need ≤ 16) (r : Room 10 A) :
    wpAny (model P0 w) A (call (.ref 1222) [.ref x]) (Back s (fun v _ => ∃ t, v = .int (((nb need :: ls.map (kc false)).map (fun e => (e.length : Int))).sum + 2) t)) E s := by
  refine' enter0 (binds := [(Str.ofString "self", .ref x)]) W r ?fits ?_
  case fits => ((refine' Fits.mk ?ho ?hcd ?hbind ?hloc ?hcell ?hco ?hgen ?hk; (case ho => k_is); (case hcd => k_is); (case hbind => first | exact BindsTo.of_eq rfl | exact binds_K (World0.X (by assumption)) rfl (by k_is) rfl rfl rfl); (case hloc => rfl); (case hcell => rfl); (case hco => rfl); (case hgen => rfl); (case hk => rfl)))
  intro L h₁ loose mg mb KX Tp F N rr
  obtain ⟨mo, md, mt⟩ := M
  obtain ⟨no, nod⟩ := NM
  have hC' : C = 1233 ∨ C = 1250 ∨ C = 1274 ∨ C = 1291 := by rcases hC with h | h <;> simp [h]
  rcases hC with rfl | rfl
  all_goals
    repeat' (first | ((with_reducible show wpAny _ _ (call (Value.ref 1189) _ _) _ _ _); (with_reducible ((k_here; (refine' use (lenargs_spec ?zzW ?zzhC ?zzM ?zzNM ?zzKS ?zzh33 ?zzhz ?zzh0 ?zzh1 ?zzr) ?zzF ?zzN ?_; (case zzhC => assumption); (case zzM => exact ⟨by (first | with_reducible assumption | exact Fr.keep (by assumption) _ _ (by with_reducible assumption)), by (first | with_reducible assumption | exact Fr.keep (by assumption) _ _ (by with_reducible assumption)), by (first | with_reducible assumption | exact Fr.keep (by assumption) _ _ (by with_reducible assumption))⟩); (case zzNM => exact ⟨by (first | with_reducible assumption | exact Fr.keep (by assumption) _ _ (by with_reducible assumption)), by (first | with_reducible assumption | exact Fr.keep (by assumption) _ _ (by with_reducible assumption))⟩); (case zzKS => exact keys_now (by assumption) (by assumption)); (case zzh33 => assumption); (case zzhz => assumption); (case zzh0 => assumption); (case zzh1 => assumption); (((case zzW => exact World0.now (by assumption) (by assumption) (by assumption)); (case zzr => (first | exact Room.le (by assumption) (by decide) | exact Room.le (Room.in1 (by assumption)) (by decide))); (case zzF => k_asm); (case zzN => k_asm)))); intro v' h' tk' g' F' N' e'; obtain ⟨t', e'⟩ := e'; subst e')))) | walk1 | (dsimp only; walk1))
    exact Back.of (by assumption) ⟨_, rfl⟩
theorem len_multi_a {w : World} {A : Around} {E : Value → Shared → Prop} {s : Shared} {C : Addr} {x dx T na nd : Addr} {t1 t2 n1 n2 : Tok} {need : Int} {ks : List Value} {ls : List (List UInt8)} (W : World0 w s.heap) (hC : C = 1274 ∨ C = 1291) (M : IsMs w s.heap C true (.ref na :: ks) x dx T t1 t2) (NM : IsNum w s.heap na need nd n1 n2)
    (KS : Paired (KeyAt w s.heap true) ks ls) (h33 : ∀ l ∈ ls, l.length = 33) (hz : 1 ≤ ls.length ∧ ls.length ≤ 4) (h0 : 1 ≤ need) (h1 : need ≤ 16) (r : Room 10 A) :
    wpAny (model P0 w) A (call (.ref 1271) [.ref x]) (Back s (fun v _ => ∃ t, v = .int (((nb need :: ls.map (kc true)).map (fun e => (e.length : Int))).sum + ((ls.length + 1 : Nat) : Int)) t)) E s := by
  refine' enter0 (binds := [(Str.ofString "self", .ref x)]) W r ?fits ?_
  case fits => ((refine' Fits.mk ?ho ?hcd ?hbind ?hloc ?hcell ?hco ?hgen ?hk; (case ho => k_is); (case hcd => k_is); (case hbind => first | exact BindsTo.of_eq rfl | exact binds_K (World0.X (by assumption)) rfl (by k_is) rfl rfl rfl); (case hloc => rfl); (case hcell => rfl); (case hco => rfl); (case hgen => rfl); (case hk => rfl)))
  intro L h₁ loose mg mb KX Tp F N rr
  obtain ⟨mo, md, mt⟩ := M
  obtain ⟨no, nod⟩ := NM
  have hC' : C = 1233 ∨ C = 1250 ∨ C = 1274 ∨ C = 1291 := by rcases hC with h | h <;> simp [h]
  have L3 : (Value.ref na :: ks).length = ls.length + 1 := by rw [List.length_cons, KS.length]
  rcases hC with rfl | rfl
  all_goals
    repeat' (first | ((with_reducible show wpAny _ _ (call (Value.builtin "len") _ _) _ _ _); (with_reducible ((k_here; k_dflt (refine' tlen ?zzh ?zze ?zzz ?_; (case zzh => exact Fr.keep (by assumption) _ _ (by with_reducible assumption)); (case zze => assumption); (case zzz => (first | lia | omega))); intro t' k')))) | ((with_reducible show wpAny _ _ (call (Value.ref 1189) _ _) _ _ _); (with_reducible ((k_here; (refine' use (lenargs_spec ?zzW ?zzhC ?zzM ?zzNM ?zzKS ?zzh33 ?zzhz ?zzh0 ?zzh1 ?zzr) ?zzF ?zzN ?_; (case zzhC => assumption); (case zzM => exact ⟨by (first | with_reducible assumption | exact Fr.keep (by assumption) _ _ (by with_reducible assumption)), by (first | with_reducible assumption | exact Fr.keep (by assumption) _ _ (by with_reducible assumption)), by (first | with_reducible assumption | exact Fr.keep (by assumption) _ _ (by with_reducible assumption))⟩); (case zzNM => exact ⟨by (first | with_reducible assumption | exact Fr.keep (by assumption) _ _ (by with_reducible assumption)), by (first | with_reducible assumption | exact Fr.keep (by assumption) _ _ (by with_reducible assumption))⟩); (case zzKS => exact keys_now (by assumption) (by assumption)); (case zzh33 => assumption); (case zzhz => assumption); (case zzh0 => assumption); (case zzh1 => assumption); (((case zzW => exact World0.now (by assumption) (by assumption) (by assumption)); (case zzr => (first | exact Room.le (by assumption) (by decide) | exact Room.le (Room.in1 (by assumption)) (by decide))); (case zzF => k_asm); (case zzN => k_asm)))); intro v' h' tk' g' F' N' e'; obtain ⟨t', e'⟩ := e'; subst e')))) | walk1 | (dsimp only; walk1))
    exact Back.of (by assumption) ⟨_, rfl⟩
end
end
section
local macro_rules | `(tactic| k_inst) => `(tactic| (refine' InstAt.base ?F ?h1 ?h2; (case F => k_asm); (case h1 => with_reducible assumption); (case h2 => with_reducible assumption)))
local macro_rules | `(tactic| k_inst) => `(tactic| exact ⟨by with_reducible assumption, rfl, rfl, by with_reducible assumption⟩)
section -- LP
theorem layA_length {need : Int} {ms : List (List UInt8)} (h : 1 ≤ ms.length) : (layA need ms).length = ms.flatten.length + ms.length + 2 := by
  cases ms with
  | nil => simp at h
  | cons m r =>
    have e : (r.map (· ++ [186])).flatten.length = r.flatten.length + r.length := by
      clear h
      induction r with
      | nil => rfl
      | cons x r ih => simp only [List.map_cons, List.flatten_cons, List.length_append, ih, List.length_cons, List.length_nil]; (first | lia | omega)
    unfold layA
    simp only [List.length_append, e, List.flatten_cons, List.length_cons, List.length_nil]
    (first | lia | omega)
theorem perm_flat {ms ns : List (List UInt8)} (p : ms.Perm ns) : ms.flatten.length = ns.flatten.length := (p.flatten).length_eq
theorem scr_length {sort tap : Bool} {need : Int} {ls : List (List UInt8)} (hz : 1 ≤ ls.length ∧ ls.length ≤ 4) : (scr sort tap need ls).length = (ls.map (kc tap)).flatten.length + (if tap then ls.length + 2 else 3) := by
  have hz' : 1 ≤ (ls.map (kc tap)).length ∧ (ls.map (kc tap)).length ≤ 4 := by rw [List.length_map]; exact hz
  have pm := bsort_perm hz'.1 hz'.2
  have e1 := perm_flat pm
  have e2 := pm.length_eq
  rw [List.length_map] at e2
  unfold scr lay
  cases tap <;> cases sort
  all_goals simp only [if_true, Bool.false_eq_true, if_false]
  · simp only [List.length_append, List.length_cons, List.length_nil]; (first | lia | omega)
  · simp only [List.length_append, List.length_cons, List.length_nil]; (first | lia | omega)
  · rw [layA_length (by rw [List.length_map]; (first | lia | omega)), List.length_map]; (first | lia | omega)
  · rw [layA_length (by (first | lia | omega)), e1, e2]; (first | lia | omega)
end
section -- LQ
theorem sum_len {tap : Bool} {need : Int} (ls : List (List UInt8)) : ((nb need :: ls.map (kc tap)).map (fun e => (e.length : Int))).sum = 1 + ((ls.map (kc tap)).flatten.length : Int) := by
  rw [List.map_cons, List.sum_cons, flat_sum]; rfl
theorem len_made {w : World} {A : Around} {E : Value → Shared → Prop} {s : Shared} {h₀ : Heap} {L : Addr} {m : Str → Option Value} {sort tap : Bool} {need : Int} {ls : List (List UInt8)} {v : Value} (F : Fr h₀ L s.heap m) (X : (fr.heap_1 w.params).In h₀) (W : World0 w s.heap) (M : Made w s.heap (clsOf sort tap) tap need ls v) (h33 : ∀ l ∈ ls, l.length = 33) (hz : 1 ≤ ls.length ∧ ls.length ≤ 4) (h0 : 1 ≤ need) (h1 : need ≤ 16) (r : Room 11 A) :
    wpAny (model P0 w) A (call (.builtin "len") [v]) (Back s (fun u _ => ∃ t, u = .int ((scr sort tap need ls).length : Int) t)) E s := by
  obtain ⟨na, nd, n1, n2, ks, ⟨x, dx, T, t1, t2, rfl, MS⟩, NM, KS⟩ := M
  have hb : (ls.map (kc tap)).flatten.length ≤ 34 * 4 := by
    have := flat_le (kcs_le (tap := tap) h33)
    rw [List.length_map] at this
    (first | lia | omega)
  have SL := scr_length (sort := sort) (tap := tap) (need := need) hz
  have I : InstAt s.heap x (instObj (clsOf sort tap) dx) (clsOf sort tap) (some _) := ⟨MS.o, rfl, rfl, MS.d⟩
  cases tap
  · have hC : clsOf sort false = 1233 ∨ clsOf sort false = 1250 := by cases sort <;> simp [clsOf]
    refine len_K (f := 1222) F X I (by cases sort <;> (dsimp only [clsOf]; simp only [Bool.false_eq_true, if_false, if_true]; k_is)) (by k_is) ?_
    refine wpAny_mono (len_multi W hC MS NM KS h33 hz h0 h1 r.in1) ?_ fun _ _ e => e
    rintro v' s' ⟨h', tk, rfl, g, t, rfl⟩
    rw [sum_len]
    rw [if_neg (by decide)] at SL
    refine ⟨⟨by (first | lia | omega), by (first | lia | omega)⟩, h', _, rfl, g, tk, ?_⟩
    congr 1
    (first | lia | omega)
  · have hC : clsOf sort true = 1274 ∨ clsOf sort true = 1291 := by cases sort <;> simp [clsOf]
    refine len_K (f := 1271) F X I (by cases sort <;> (dsimp only [clsOf]; simp only [Bool.false_eq_true, if_false, if_true]; k_is)) (by k_is) ?_
    refine wpAny_mono (len_multi_a W hC MS NM KS h33 hz h0 h1 r.in1) ?_ fun _ _ e => e
    rintro v' s' ⟨h', tk, rfl, g, t, rfl⟩
    rw [sum_len]
    rw [if_pos rfl] at SL
    refine ⟨⟨by (first | lia | omega), by (first | lia | omega)⟩, h', _, rfl, g, tk, ?_⟩
    congr 1
    (first | lia | omega)
end
section -- TB
/-! int.to_bytes(32, 'big') -/
open PySem.Builtin.Int (intBits)
noncomputable def big32 (x : Int) : List UInt8 := (KTBy.low x 32).reverse
theorem big32_length (x : Int) : (big32 x).length = 32 := by unfold big32; rw [List.length_reverse, KTBy.low_length]
theorem bits256 {x : Int} (h0 : 0 ≤ x) (h1 : x < 2 ^ 256) : intBits x ≤ 256 := by
  refine intBits_le_iff.mpr ?_
  have : ((2 : Int) ^ 256) = ((2 ^ 256 : Nat) : Int) := by decide
  rw [this] at h1
  (first | lia | omega)
theorem to_big32 {prog : Program} {w : World} {A : Around} {E : Value → Shared → Prop} {s : Shared} {x : Int} {t u v : Tok} {Q : Value → Shared → Prop} (h0 : 0 ≤ x) (h1 : x < 2 ^ 256) (h : ∀ t' k', Q (.bytes ⟨big32 x⟩ t') { s with toks := k' }) :
    wpAny (model prog w) A (call (.builtin "int.to_bytes") [.int x t, .int 32 u, .str (PySem.Str.ofString "big") v]) Q E s := by
  refine wpAny_call_entry KTBy.slot (typeIs_int s x t) KTBy.entry ?_ (KTBy.args _ _ _)
  have hb := bits256 h0 h1
  show wpAny _ _ (Builtin.Int.intOfSelf (.int x t) >>= fun y => _) _ _ s
  refine wpAny_bind (wpAny_of_eq (a := x) rfl ?_)
  show wpAny _ _ (Builtin.Int.intBindNamed "to_bytes" ["length", "byteorder", "signed"] 0 2 [.int 32 u, .str (PySem.Str.ofString "big") v] [] >>= fun l => _) _ _ s
  refine wpAny_bind (wpAny_of_eq (a := [some (.int 32 u), some (.str (PySem.Str.ofString "big") v), none]) (by kernel_rfl) ?_)
  show wpAny _ _ (Builtin.Int.intIndex "int.to_bytes" (.int 32 u) >>= fun n => _) _ _ s
  refine wpAny_bind (wpAny_of_eq (a := (32 : Int)) rfl ?_)
  refine KTBy.if_not (by decide) ?_
  refine wpAny_bind (wpAny_of_eq (a := PySem.Str.ofString "big") (by kernel_rfl) ?_)
  refine wpAny_bind (wpAny_of_eq (a := false) rfl ?_)
  refine wpAny_bind (wpAny_of_eq (a := false) (by kernel_rfl) ?_)
  refine wpAny_ite_false (by decide) ?_
  refine wpAny_ite_false (by decide) ?_
  refine wpAny_ite_false (decide_eq_false (show ¬ ((32 : Int) > (sizeLine : Int)) by rw [sizeLine_eq]; (first | lia | omega))) ?_
  refine KTBy.if_not (by show (decide (x < 0) && !false) = false; rw [decide_eq_false (show ¬ x < 0 by (first | lia | omega))]; rfl) ?_
  refine KTBy.if_not (by show (_ && decide ((intBits x : Int) > 8 * (32 : Int))) = false; rw [decide_eq_false (show ¬ ((intBits x : Int) > 8 * (32 : Int)) by (first | lia | omega)), Bool.and_false]) ?_
  refine wpAny_bind (wpAny_mkBytes (wpAny_pure ⟨_, rfl, ?_⟩) (by show (List.reverse (KTBy.low x 32)).length ≤ sizeLine; rw [List.length_reverse, KTBy.low_length, sizeLine_eq]; (first | lia | omega)))
  exact h _ _
end
section -- FB
/-! int.from_bytes(.., 'big') of up to 1000 octets -/
noncomputable def beNat (l : List UInt8) : Nat := l.foldl (fun (acc : Nat) (b : UInt8) => acc * 256 + b.toNat) 0
theorem beNat_lt (l : List UInt8) : beNat l < 256 ^ l.length := by
  have := KFB.fold_lt l 0
  rw [Nat.zero_add, Nat.one_mul] at this
  exact this
section
variable {prog : Program} {w : World} {M : Model} {A : Around} {E : Value → Shared → Prop} {s : Shared}
theorem grownL {n : Nat} {Q : Value → Shared → Prop} (hn : n < 2 ^ 8000) (h : Q (.int (n : Int) s.toks) { s with toks := s.toks + 1 }) : wpAny M A (mkIntGrown (n : Int)) Q E s := by
  unfold mkIntGrown
  have hl : ¬ ((n : Int).natAbs.log2 ≥ bitsLine) := by
    rw [Int.natAbs_natCast]
    have hb : bitsLine = 134217728 := by first | rfl | decide
    by_cases hz : n = 0
    · subst hz
      rw [hb]
      decide
    · have h1 := (Nat.log2_lt hz).mpr hn
      (first | lia | omega)
  rw [if_neg hl]
  exact wpAny_mkInt h
theorem tree_bigL {l : List UInt8} {t u : Tok} {P : PySem.Fin → Shared → Prop} (hl : l.length ≤ 1000) (h : P (.done (.ret (.int (beNat l : Nat) s.toks))) { s with toks := s.toks + 1 }) :
    wpAny M A (Builtin.«int.from_bytes» ⟨[.type "int", .bytes ⟨l⟩ t, .str (PySem.Str.ofString "big") u], []⟩) P E s := by
  have hn : l.foldl (fun (acc : Nat) (b : UInt8) => acc * 256 + b.toNat) 0 < 2 ^ 8000 := by
    have h1 := beNat_lt l
    have h2 : 256 ^ l.length ≤ 256 ^ 1000 := Nat.pow_le_pow_right (by decide) hl
    have h3 : 256 ^ 1000 = 2 ^ 8000 := by rw [show (256 : Nat) = 2 ^ 8 by decide, ← Nat.pow_mul]
    exact Nat.lt_of_lt_of_le h1 (h3 ▸ h2)
  unfold Builtin.«int.from_bytes»
  refine wpAny_bind (wpAny_of_eq (a := true) KFB.type_int ?_)
  refine KFB.if_not rfl ?_
  refine wpAny_bind (wpAny_of_eq (a := true) PySem.F.conv_sub_int ?_)
  refine KFB.if_not rfl ?_
  refine wpAny_bind (wpAny_of_eq (a := [some (.bytes ⟨l⟩ t), some (.str (PySem.Str.ofString "big") u), none]) (by kernel_rfl) ?_)
  refine wpAny_bind (wpAny_of_eq (a := PySem.Str.ofString "big") (by kernel_rfl) ?_)
  refine wpAny_bind (wpAny_of_eq (a := false) rfl ?_)
  refine wpAny_bind (wpAny_of_eq (a := false) (by kernel_rfl) ?_)
  refine wpAny_bind (wpAny_of_eq (a := ⟨l⟩) rfl ?_)
  show wpAny _ _ (mkIntGrown (l.foldl (fun (acc : Int) (b : UInt8) => acc * 256 + (b.toNat : Int)) ((0 : Nat) : Int)) >>= fun v => _) _ _ _
  rw [KFB.foldI_eq]
  refine wpAny_bind (grownL hn ?_)
  refine KFB.if_so (by decide +kernel) ?_
  exact wpAny_bind (wpAny_pure (wpAny_pure h))
theorem call_bigL {h₀ : Heap} {L x : Addr} {news : List (Addr × Obj)} {l : List UInt8} {t u : Tok} {Q : Value → Shared → Prop} (N : News h₀ L s.heap news) (hm : (x, KFB.bound) ∈ news) (hl : l.length ≤ 1000)
    (h : ∀ t' k, Q (.int (beNat l : Nat) t') { s with toks := k }) : wpAny (model prog w) A (call (.ref x) [.bytes ⟨l⟩ t, .str (PySem.Str.ofString "big") u]) Q E s :=
  KFB.call_of (KFB.at_of N hm) (fun z => tree_bigL hl z) (h _ _)
end
end
section -- DG
/-- the hash, as the program makes it -/
noncomputable def hashNat (l : List UInt8) : Int := ((beNat (1 :: l) : Nat) : Int) * ((beNat (1 :: l) : Nat) : Int) * 48181483302151357469556550866566148933
noncomputable def shaP : Int := 2 ^ 255 - 19
noncomputable def sha (l : List UInt8) : List UInt8 := big32 (Int.fmod (hashNat l) shaP)
structure IsSha (w : World) (h : Heap) (a : Addr) (l : List UInt8) (d : Addr) (t1 t2 : Tok) : Prop where
  o : h.get? a = some (instObj 58 d)
  d : h.get? d = some (dictOf [ent w "data" t1 (.bytes ⟨l⟩ t2)] 1)
theorem mul_ok {a b : Int} {n m : Nat} (ha : Builtin.Int.intBits a ≤ n) (hb : Builtin.Int.intBits b ≤ m) (h : n + m ≤ 100000) : IntMulOk a b := by
  unfold IntMulOk
  intro q
  simp only [Bool.and_eq_true] at q
  have := q.2
  unfold Builtin.Int.intTooBig at this
  have hbl : bitsLine = 134217728 := by first | rfl | decide
  rw [hbl] at this
  simp only [decide_eq_true_eq] at this
  (first | lia | omega)
theorem bits_nat {x : Nat} {n : Nat} (h : x < 2 ^ n) : Builtin.Int.intBits (x : Int) ≤ n := by
  refine intBits_le_iff.mpr ?_
  (first | lia | omega)
theorem to_sha {w : World} {A : Around} {E : Value → Shared → Prop} {s : Shared} {l : List UInt8} {t u v : Tok} {Q : Value → Shared → Prop} (h : ∀ t' k', Q (.bytes ⟨sha l⟩ t') { s with toks := k' }) :
    wpAny (model P0 w) A (call (.builtin "int.to_bytes") [.int (Int.fmod (((beNat (1 :: l) : Nat) : Int) * ((beNat (1 :: l) : Nat) : Int) * 48181483302151357469556550866566148933) (2 ^ 255 - 19)) t, .int 32 u, .str (PySem.Str.ofString "big") v]) Q E s :=
  to_big32 (Int.fmod_nonneg_of_pos _ (by decide)) (Int.lt_trans (Int.fmod_lt_of_pos _ (by decide)) (by decide)) h
theorem digest_spec {w : World} {A : Around} {E : Value → Shared → Prop} {s : Shared} {a d : Addr} {l : List UInt8} {t1 t2 : Tok} (W : World0 w s.heap) (K : IsSha w s.heap a l d t1 t2) (hl : l.length ≤ 900) (r : Room 1 A) :
    wpAny (model P0 w) A (call (.ref 55) [.ref a]) (Back s (fun v _ => IsB v (sha l))) E s := by
  refine' enter0 (binds := [(Str.ofString "self", .ref a)]) W r ?fits ?_
  case fits => ((refine' Fits.mk ?ho ?hcd ?hbind ?hloc ?hcell ?hco ?hgen ?hk; (case ho => k_is); (case hcd => k_is); (case hbind => first | exact BindsTo.of_eq rfl | exact binds_K (World0.X (by assumption)) rfl (by k_is) rfl rfl rfl); (case hloc => rfl); (case hcell => rfl); (case hco => rfl); (case hgen => rfl); (case hk => rfl)))
  intro L h₁ loose mg mb KX T F N rr
  obtain ⟨ko, kd⟩ := K
  have B1 : beNat (1 :: l) < 2 ^ (8 * (l.length + 1)) := by
    have := beNat_lt (1 :: l)
    rwa [List.length_cons, show (256 : Nat) = 2 ^ 8 by decide, ← Nat.pow_mul] at this
  have I1 := bits_nat B1
  have M1 : IntMulOk ((beNat (1 :: l) : Nat) : Int) ((beNat (1 :: l) : Nat) : Int) := mul_ok I1 I1 (by (first | lia | omega))
  have M2 : IntMulOk (((beNat (1 :: l) : Nat) : Int) * ((beNat (1 :: l) : Nat) : Int)) 48181483302151357469556550866566148933 := by
    have B2 : beNat (1 :: l) * beNat (1 :: l) < 2 ^ (8 * (l.length + 1) + 8 * (l.length + 1)) := by
      rw [Nat.pow_add]
      exact Nat.mul_lt_mul'' B1 B1
    have I2 := bits_nat B2
    rw [Int.natCast_mul] at I2
    exact mul_ok (m := 126) I2 (intBits_le_iff.mpr (by decide)) (by (first | lia | omega))
  have P1 : (0 : Int) ≤ Int.fmod (hashNat l) shaP := Int.fmod_nonneg_of_pos _ (by decide)
  have P2 : Int.fmod (hashNat l) shaP < 2 ^ 256 := Int.lt_trans (Int.fmod_lt_of_pos _ (by decide)) (by decide)
  repeat' (first | ((with_reducible show wpAny _ _ (binaryOp Operator.Add (Value.bytes _ _) (Value.bytes _ _)) _ _ _); (with_reducible ((k_dflt (refine' badd ?zzhz ?_; (case zzhz => (first | (simp only [List.length_append, List.length_cons, List.length_nil]; (first | lia | omega)) | (simp only [List.length_append, List.length_cons, List.length_nil] at *; (first | lia | omega)))); intro t' k'))))) | ((with_reducible show wpAny _ _ (binaryOp Operator.Mult (Value.int _ _) (Value.int _ _)) _ _ _); (with_reducible ((k_dflt (refine' PyProof.Rows.mul_int ?_ ?zzhm; (case zzhm => assumption)))))) | ((with_reducible show wpAny _ _ (call (Value.builtin "int.to_bytes") _ _) _ _ _); (with_reducible ((k_dflt (refine' to_sha ?_); intro t' k')))) | ((with_reducible show wpAny _ _ (call (Value.ref _) _ _) _ _ _); (with_reducible ((k_here; (with_reducible show wpAny _ _ (call (Value.ref _) [Value.bytes _ _, Value.str _ _]) _ _ _); (with_reducible rename News _ _ _ _ => N'); k_dflt (refine' call_bigL N' ?zzhm ?zzhl ?_; (case zzhm => k_mem); (case zzhl => (first | (simp only [List.length_cons, List.length_append, List.length_nil]; (first | lia | omega)) | (simp only [List.length_cons, List.length_append, List.length_nil] at *; (first | lia | omega))))); intro t' k')))) | walk1 | (dsimp only; walk1))
  exact Back.of (by assumption) ⟨_, rfl⟩
end
section -- DH
theorem sha_length (l : List UInt8) : (sha l).length = 32 := big32_length _
theorem sha_new {w : World} {A : Around} {E : Value → Shared → Prop} {s : Shared} {l : List UInt8} {t : Tok} (W : World0 w s.heap) (r : Room 2 A) :
    wpAny (model P0 w) A (call (.ref 58) [.bytes ⟨l⟩ t]) (Back s (fun v h => ∃ a d t1 t2, v = .ref a ∧ IsSha w h a l d t1 t2)) E s := by
  refine' make_def (binds := fun x => [(Str.ofString "self", .ref x), (Str.ofString "data", .bytes ⟨l⟩ t)]) W r ?hm ?hi ?hf ?fits ?_
  case hm => k_is
  case hi => k_is
  case hf => k_is
  case fits => intro x s' W'; ((refine' Fits.mk ?ho ?hcd ?hbind ?hloc ?hcell ?hco ?hgen ?hk; (case ho => k_is); (case hcd => k_is); (case hbind => first | exact BindsTo.of_eq rfl | exact binds_K (World0.X (by assumption)) rfl (by k_is) rfl rfl rfl); (case hloc => rfl); (case hcell => rfl); (case hco => rfl); (case hgen => rfl); (case hk => rfl)))
  intro A' x dx L h₁ tk loose mg mb KX T F N lt rr
  k_lt2 lt
  repeat' (first | walk1 | (dsimp only; walk1))
  rename Fr _ _ _ _ => FF
  rename News _ _ _ _ => NN
  exact Back.of FF ⟨_, _, _, _, rfl, (NN _ (.head _)).1, (NN _ (.tail _ (.head _))).1⟩
theorem static_spec {w : World} {A : Around} {E : Value → Shared → Prop} {s : Shared} {l : List UInt8} {t : Tok} (W : World0 w s.heap) (r : Room 3 A) :
    wpAny (model P0 w) A (call (.ref 77) [.bytes ⟨l⟩ t]) (Back s (fun v h => ∃ a d t1 t2, v = .ref a ∧ IsSha w h a l d t1 t2)) E s := by
  refine' enter0 (binds := [(Str.ofString "data", .bytes ⟨l⟩ t)]) W r ?fits ?_
  case fits => ((refine' Fits.mk ?ho ?hcd ?hbind ?hloc ?hcell ?hco ?hgen ?hk; (case ho => k_is); (case hcd => k_is); (case hbind => first | exact BindsTo.of_eq rfl | exact binds_K (World0.X (by assumption)) rfl (by k_is) rfl rfl rfl); (case hloc => rfl); (case hcell => rfl); (case hco => rfl); (case hgen => rfl); (case hk => rfl)))
  intro L h₁ loose mg mb KX T F N rr
  repeat' (first | ((with_reducible show wpAny _ _ (call (Value.ref 58) _ _) _ _ _); (with_reducible ((refine' use (sha_new ?zzW ?zzr) ?zzF ?zzN ?_; (((case zzW => exact World0.now (by assumption) (by assumption) (by assumption)); (case zzr => (first | exact Room.le (by assumption) (by decide) | exact Room.le (Room.in1 (by assumption)) (by decide))); (case zzF => k_asm); (case zzN => k_asm))); intro v' h' tk' g' F' N' e'; obtain ⟨sa', sd', st1', st2', e', so', sod'⟩ := e'; subst e')))) | walk1 | (dsimp only; walk1))
  exact Back.of (by assumption) ⟨_, _, _, _, rfl, by assumption, by assumption⟩
end
section
section -- DI
theorem sha256_spec {w : World} {A : Around} {E : Value → Shared → Prop} {s : Shared} {l : List UInt8} {t : Tok} (W : World0 w s.heap) (hl : l.length ≤ 900) (r : Room 5 A) :
    wpAny (model P0 w) A (call (.ref 1307) [.bytes ⟨l⟩ t]) (Back s (fun v _ => IsB v (sha l))) E s := by
  refine' enter0 (binds := [(Str.ofString "msg", .bytes ⟨l⟩ t)]) W r ?fits ?_
  case fits => ((refine' Fits.mk ?ho ?hcd ?hbind ?hloc ?hcell ?hco ?hgen ?hk; (case ho => k_is); (case hcd => k_is); (case hbind => first | exact BindsTo.of_eq rfl | exact binds_K (World0.X (by assumption)) rfl (by k_is) rfl rfl rfl); (case hloc => rfl); (case hcell => rfl); (case hco => rfl); (case hgen => rfl); (case hk => rfl)))
  intro L h₁ loose mg mb KX T F N rr
  repeat' (first | ((with_reducible show wpAny _ _ (call (Value.ref 77) _ _) _ _ _); (with_reducible ((refine' use (static_spec ?zzW ?zzr) ?zzF ?zzN ?_; (((case zzW => exact World0.now (by assumption) (by assumption) (by assumption)); (case zzr => (first | exact Room.le (by assumption) (by decide) | exact Room.le (Room.in1 (by assumption)) (by decide))); (case zzF => k_asm); (case zzN => k_asm))); intro v' h' tk' g' F' N' e'; obtain ⟨sa', sd', st1', st2', e', so', sod'⟩ := e'; subst e')))) | ((with_reducible show wpAny _ _ (call (Value.ref 55) _ _) _ _ _); ((refine' use (digest_spec ?zzW ?zzK ?zzhl ?zzr) ?zzF ?zzN ?_; (case zzK => exact ⟨by (first | with_reducible assumption | exact Fr.keep (by assumption) _ _ (by with_reducible assumption)), by (first | with_reducible assumption | exact Fr.keep (by assumption) _ _ (by with_reducible assumption))⟩); (case zzhl => (first | lia | omega)); (((case zzW => exact World0.now (by assumption) (by assumption) (by assumption)); (case zzr => (first | exact Room.le (by assumption) (by decide) | exact Room.le (Room.in1 (by assumption)) (by decide))); (case zzF => k_asm); (case zzN => k_asm))); intro v' h' tk' g' F' N' e'; obtain ⟨t', e'⟩ := e'; subst e'))) | walk1 | (dsimp only; walk1))
  all_goals trace_state
  exact Back.of (by assumption) ⟨_, rfl⟩
end
end
section
section -- DJ
noncomputable def rip (l : List UInt8) : List UInt8 := (sha (([114, 105, 112, 101, 109, 100, 49, 54, 48] : List UInt8) ++ l)).take 20
theorem rip_spec {w : World} {A : Around} {E : Value → Shared → Prop} {s : Shared} {l : List UInt8} {t : Tok} (W : World0 w s.heap) (hl : l.length ≤ 800) (r : Room 5 A) :
    wpAny (model P0 w) A (call (.ref 94) [.bytes ⟨l⟩ t]) (Back s (fun v _ => IsB v (rip l))) E s := by
  refine' enter0 (binds := [(Str.ofString "msg", .bytes ⟨l⟩ t)]) W r ?fits ?_
  case fits => ((refine' Fits.mk ?ho ?hcd ?hbind ?hloc ?hcell ?hco ?hgen ?hk; (case ho => k_is); (case hcd => k_is); (case hbind => first | exact BindsTo.of_eq rfl | exact binds_K (World0.X (by assumption)) rfl (by k_is) rfl rfl rfl); (case hloc => rfl); (case hcell => rfl); (case hco => rfl); (case hgen => rfl); (case hk => rfl)))
  intro L h₁ loose mg mb KX T F N rr
  have SL := fun x => sha_length x
  repeat' (first | ((with_reducible show wpAny _ _ (binaryOp Operator.Add (Value.bytes _ _) (Value.bytes _ _)) _ _ _); (with_reducible ((k_dflt (refine' badd ?zzhz ?_; (case zzhz => (first | (simp only [List.length_append, List.length_cons, List.length_nil]; (first | lia | omega)) | (simp only [List.length_append, List.length_cons, List.length_nil] at *; (first | lia | omega)))); intro t' k'))))) | ((with_reducible show wpAny _ _ (call (Value.ref 58) _ _) _ _ _); (with_reducible ((refine' use (sha_new ?zzW ?zzr) ?zzF ?zzN ?_; (((case zzW => exact World0.now (by assumption) (by assumption) (by assumption)); (case zzr => (first | exact Room.le (by assumption) (by decide) | exact Room.le (Room.in1 (by assumption)) (by decide))); (case zzF => k_asm); (case zzN => k_asm))); intro v' h' tk' g' F' N' e'; obtain ⟨sa', sd', st1', st2', e', so', sod'⟩ := e'; subst e')))) | ((with_reducible show wpAny _ _ (call (Value.ref 55) _ _) _ _ _); ((refine' use (digest_spec ?zzW ?zzK ?zzhl ?zzr) ?zzF ?zzN ?_; (case zzK => exact ⟨by (first | with_reducible assumption | exact Fr.keep (by assumption) _ _ (by with_reducible assumption)), by (first | with_reducible assumption | exact Fr.keep (by assumption) _ _ (by with_reducible assumption))⟩); (case zzhl => first | (first | lia | omega) | (first | (simp only [List.length_append, List.length_cons, List.length_nil]; (first | lia | omega)) | (simp only [List.length_append, List.length_cons, List.length_nil] at *; (first | lia | omega)))); (((case zzW => exact World0.now (by assumption) (by assumption) (by assumption)); (case zzr => (first | exact Room.le (by assumption) (by decide) | exact Room.le (Room.in1 (by assumption)) (by decide))); (case zzF => k_asm); (case zzN => k_asm))); intro v' h' tk' g' F' N' e'; obtain ⟨t', e'⟩ := e'; subst e'))) | ((with_reducible show wpAny _ _ (subscriptTail _ _ _ _) _ _ _); ((k_here; (with_reducible show wpAny _ _ (subscriptTail _ (Expr.Slice _ _ none _) (Value.bytes _ _) (Value.ref _)) _ _ _); (with_reducible rename Fr _ _ _ _ => F'); (with_reducible rename News _ _ _ _ => N'); (refine' bslice (s := ⟨_, _, _, _, _⟩) F' N' ?zzhl ?zzhu ?zzhz ?zze ?_; (case zzhl => constructor); (case zzhu => constructor); (case zze => first | exact picked_mid _ _ _ | exact picked_from _ _ | exact picked_to _ _); (case zzhz => first | (rw [sha_length]; decide) | (first | lia | omega))); intro h' t' k' F' N'; try k_sweep))) | walk1 | (dsimp only; walk1))
  exact Back.of (by assumption) ⟨_, rfl⟩
end
section
section -- DK
noncomputable def h160 (l : List UInt8) : List UInt8 := rip (sha l)
theorem h160_spec {w : World} {A : Around} {E : Value → Shared → Prop} {s : Shared} {l : List UInt8} {t : Tok} (W : World0 w s.heap) (hl : l.length ≤ 800) (r : Room 6 A) :
    wpAny (model P0 w) A (call (.ref 1300) [.bytes ⟨l⟩ t]) (Back s (fun v _ => IsB v (h160 l))) E s := by
  refine' enter0 (binds := [(Str.ofString "msg", .bytes ⟨l⟩ t)]) W r ?fits ?_
  case fits => ((refine' Fits.mk ?ho ?hcd ?hbind ?hloc ?hcell ?hco ?hgen ?hk; (case ho => k_is); (case hcd => k_is); (case hbind => first | exact BindsTo.of_eq rfl | exact binds_K (World0.X (by assumption)) rfl (by k_is) rfl rfl rfl); (case hloc => rfl); (case hcell => rfl); (case hco => rfl); (case hgen => rfl); (case hk => rfl)))
  intro L h₁ loose mg mb KX T F N rr
  repeat' (first | ((with_reducible show wpAny _ _ (call (Value.ref 77) _ _) _ _ _); (with_reducible ((refine' use (static_spec ?zzW ?zzr) ?zzF ?zzN ?_; (((case zzW => exact World0.now (by assumption) (by assumption) (by assumption)); (case zzr => (first | exact Room.le (by assumption) (by decide) | exact Room.le (Room.in1 (by assumption)) (by decide))); (case zzF => k_asm); (case zzN => k_asm))); intro v' h' tk' g' F' N' e'; obtain ⟨sa', sd', st1', st2', e', so', sod'⟩ := e'; subst e')))) | ((with_reducible show wpAny _ _ (call (Value.ref 94) _ _) _ _ _); ((refine' use (rip_spec ?zzW ?zzhl ?zzr) ?zzF ?zzN ?_; (case zzhl => first | (first | lia | omega) | (rw [sha_length]; decide)); (((case zzW => exact World0.now (by assumption) (by assumption) (by assumption)); (case zzr => (first | exact Room.le (by assumption) (by decide) | exact Room.le (Room.in1 (by assumption)) (by decide))); (case zzF => k_asm); (case zzN => k_asm))); intro v' h' tk' g' F' N' e'; obtain ⟨t', e'⟩ := e'; subst e'))) | ((with_reducible show wpAny _ _ (call (Value.ref 55) _ _) _ _ _); ((refine' use (digest_spec ?zzW ?zzK ?zzhl ?zzr) ?zzF ?zzN ?_; (case zzK => exact ⟨by (first | with_reducible assumption | exact Fr.keep (by assumption) _ _ (by with_reducible assumption)), by (first | with_reducible assumption | exact Fr.keep (by assumption) _ _ (by with_reducible assumption))⟩); (case zzhl => first | (first | lia | omega) | (first | (simp only [List.length_append, List.length_cons, List.length_nil]; (first | lia | omega)) | (simp only [List.length_append, List.length_cons, List.length_nil] at *; (first | lia | omega)))); (((case zzW => exact World0.now (by assumption) (by assumption) (by assumption)); (case zzr => (first | exact Room.le (by assumption) (by decide) | exact Room.le (Room.in1 (by assumption)) (by decide))); (case zzF => k_asm); (case zzN => k_asm))); intro v' h' tk' g' F' N' e'; obtain ⟨t', e'⟩ := e'; subst e'))) | walk1 | (dsimp only; walk1))
  exact Back.of (by assumption) ⟨_, rfl⟩
structure IsScript (w : World) (h : Heap) (a : Addr) (l : List UInt8) (d : Addr) (t1 t2 : Tok) : Prop where
  o : h.get? a = some (instObj 1400 d)
  d : h.get? d = some (dictOf [ent w "data" t1 (.bytes ⟨l⟩ t2)] 1)
theorem script_new {w : World} {A : Around} {E : Value → Shared → Prop} {s : Shared} {l : List UInt8} {t : Tok} (W : World0 w s.heap) (r : Room 2 A) :
    wpAny (model P0 w) A (call (.ref 1400) [.bytes ⟨l⟩ t]) (Back s (fun v h => ∃ a d t1 t2, v = .ref a ∧ IsScript w h a l d t1 t2)) E s := by
  refine' make_def (binds := fun x => [(Str.ofString "self", .ref x), (Str.ofString "data", .bytes ⟨l⟩ t)]) W r ?hm ?hi ?hf ?fits ?_
  case hm => k_is
  case hi => k_is
  case hf => k_is
  case fits => intro x s' W'; ((refine' Fits.mk ?ho ?hcd ?hbind ?hloc ?hcell ?hco ?hgen ?hk; (case ho => k_is); (case hcd => k_is); (case hbind => first | exact BindsTo.of_eq rfl | exact binds_K (World0.X (by assumption)) rfl (by k_is) rfl rfl rfl); (case hloc => rfl); (case hcell => rfl); (case hco => rfl); (case hgen => rfl); (case hk => rfl)))
  intro A' x dx L h₁ tk loose mg mb KX T F N lt rr
  k_lt2 lt
  repeat' (first | walk1 | (dsimp only; walk1))
  rename Fr _ _ _ _ => FF
  rename News _ _ _ _ => NN
  exact Back.of FF ⟨_, _, _, _, rfl, (NN _ (.head _)).1, (NN _ (.tail _ (.head _))).1⟩
end
section -- LV
/-! a for over a list or tuple that stood when the def was entered -/
def TurnJ (h₀ : Heap) (L : Addr) (J : (Str → Option Value) → Prop) (own : List (Addr × Obj)) (s₁ : Shared) (Q : Flow → Shared → Prop) (f : Flow) (s₂ : Shared) : Prop :=
  match f with
  | .ret v => Q (.ret v) s₂
  | .brk => Q .next s₂
  | _ => ∃ h' tk m' news', s₂ = { s₁ with heap := h', toks := tk } ∧ Fr h₀ L h' m' ∧ News h₀ L h' news' ∧ (∀ p ∈ own, p ∈ news') ∧ J m'
section
variable {w : World} {A : Around} {E : Value → Shared → Prop} {s : Shared} {env : Env} {h₀ : Heap} {x : Str} {body : List Stmt} {Q : Flow → Shared → Prop}
theorem loop_seq {I l : Addr} {n : Nat} {P : Nat → Value → Prop} {St : Nat → Heap → Prop} {m₀ : Str → Option Value} (J : Nat → (Str → Option Value) → Prop)
    (W : Walks P0 w A I [I, l] [I] n P St) (hLI : env.locals ≠ I) (hLl : env.locals ≠ l) (hI : h₀.get? I = none) (st : St 0 s.heap) (F : Fr h₀ env.locals s.heap m₀) (h0 : J 0 m₀)
    (turn : ∀ i v m₁ h tk own, i < n → P i v → J i m₁ → Fr h₀ env.locals h (fun y => if y = x then some v else m₁ y) → News h₀ env.locals h own →
      wpAny (model P0 w) A (execs body env) (TurnJ h₀ env.locals (J (i + 1)) own { s with heap := h, toks := tk } Q) E { s with heap := h, toks := tk })
    (done : ∀ h' tk m', Fr h₀ env.locals h' m' → News h₀ env.locals h' [] → J n m' → Q .next { s with heap := h', toks := tk }) : LoopAtV P0 w A h₀ env x body Q E (.ref I) s := by
  refine ⟨I, [I, l], [I], n, P, St, m₀, [], fun i m news => news = [] ∧ J i m, rfl, W, ?_, ?_, ?_, st, F, News.nil, ⟨rfl, h0⟩, ?_, ?_⟩
  · intro hm
    rcases List.mem_cons.mp hm with e | e
    · exact hLI e
    · exact hLl (List.mem_singleton.mp e)
  · intro b hb; rw [List.mem_singleton.mp hb]; exact hI
  · intro p hp; exact absurd hp List.not_mem_nil
  · rintro i v m₁ news₁ s₁ own ⟨hh', tk', rfl⟩ hin hP ⟨rfl, hJ⟩ hoff _ _ _ _ F₁ N₁
    refine wpAny_mono (turn i v m₁ hh' tk' own hin hP hJ F₁ (by simpa using N₁)) (fun f s₂ p => ?_) fun _ _ e => e
    have fin : (∃ h' tk m' news', s₂ = { s with heap := h', toks := tk } ∧ Fr h₀ env.locals h' m' ∧ News h₀ env.locals h' news' ∧ (∀ p ∈ own, p ∈ news') ∧ J (i + 1) m') → LoopStepU h₀ env.locals [I] own (fun m news => news = [] ∧ J (i + 1) m) { s with heap := hh', toks := tk' } .next s₂ := by
      rintro ⟨h', tk, m', news', e, F', N', hn, hm⟩
      exact ⟨rfl, h', tk, m', [], e, F', (fun p hp => N' p (hn p (by simpa using hp))), hoff, rfl, hm⟩
    cases f with
    | ret v => exact .ret p
    | brk => exact .brk p
    | next => exact .next (fin p)
    | cont => exact .cont (fin p)
  · rintro h' tk m' news' F' N' _ ⟨rfl, hJ⟩
    exact done h' tk m' F' N' hJ
theorem for_list {l : Addr} {items : Array Value} {m₀ : Str → Option Value} (J : Nat → (Str → Option Value) → Prop) (hh : A.handled = none) (hl : h₀.IsList l items) (F : Fr h₀ env.locals s.heap m₀) (h0 : J 0 m₀)
    (turn : ∀ i v m₁ h tk own, i < items.size → items[i]? = some v → J i m₁ → Fr h₀ env.locals h (fun y => if y = x then some v else m₁ y) → News h₀ env.locals h own →
      wpAny (model P0 w) A (execs body env) (TurnJ h₀ env.locals (J (i + 1)) own { s with heap := h, toks := tk } Q) E { s with heap := h, toks := tk })
    (done : ∀ h' tk m', Fr h₀ env.locals h' m' → News h₀ env.locals h' [] → J items.size m' → Q .next { s with heap := h', toks := tk }) :
    wpAny (model P0 w) A (pyIter (.ref l)) (fun it s₂ => LoopAtV P0 w A h₀ env x body Q E it s₂) E s := by
  have hls : s.heap.IsList l items := hl.at fun o e => F.keep l o e
  obtain ⟨ol, hol, _⟩ := id hl
  have hlt : l < h₀.objs.size := Heap.lt_size hol
  have hne : l ≠ s.heap.objs.size := Nat.ne_of_lt (Nat.lt_trans (Nat.lt_of_lt_of_le hlt F.above) F.ns.lt)
  refine wpAny_pyIter_list hls ?_
  exact loop_seq (s := { s with heap := _, toks := _ }) J (Walks.list hh s.heap.objs.size l hne items) (Nat.ne_of_lt F.ns.lt) (fun e => absurd (Nat.lt_of_lt_of_le hlt F.above) (by rw [e]; exact Nat.lt_irrefl _)) (next_is_new F)
    ⟨⟨_, Heap.get?_push_size _ rfl, rfl, rfl⟩, hls.at fun o e => Heap.get?_push_of_some _ e⟩ (F.push _) h0 turn done
theorem for_tuple {l : Addr} {items : Array Value} {m₀ : Str → Option Value} (J : Nat → (Str → Option Value) → Prop) (hh : A.handled = none) (hl : h₀.IsTuple l items) (F : Fr h₀ env.locals s.heap m₀) (h0 : J 0 m₀)
    (turn : ∀ i v m₁ h tk own, i < items.size → items[i]? = some v → J i m₁ → Fr h₀ env.locals h (fun y => if y = x then some v else m₁ y) → News h₀ env.locals h own →
      wpAny (model P0 w) A (execs body env) (TurnJ h₀ env.locals (J (i + 1)) own { s with heap := h, toks := tk } Q) E { s with heap := h, toks := tk })
    (done : ∀ h' tk m', Fr h₀ env.locals h' m' → News h₀ env.locals h' [] → J items.size m' → Q .next { s with heap := h', toks := tk }) :
    wpAny (model P0 w) A (pyIter (.ref l)) (fun it s₂ => LoopAtV P0 w A h₀ env x body Q E it s₂) E s := by
  have hls : s.heap.IsTuple l items := hl.at fun o e => F.keep l o e
  obtain ⟨ol, hol, _⟩ := id hl
  have hlt : l < h₀.objs.size := Heap.lt_size hol
  have hne : l ≠ s.heap.objs.size := Nat.ne_of_lt (Nat.lt_trans (Nat.lt_of_lt_of_le hlt F.above) F.ns.lt)
  refine wpAny_pyIter_tuple hls ?_
  exact loop_seq (s := { s with heap := _, toks := _ }) J (Walks.tuple hh s.heap.objs.size l hne items) (Nat.ne_of_lt F.ns.lt) (fun e => absurd (Nat.lt_of_lt_of_le hlt F.above) (by rw [e]; exact Nat.lt_irrefl _)) (next_is_new F)
    ⟨⟨_, Heap.get?_push_size _ rfl, rfl, rfl⟩, hls.at fun o e => Heap.get?_push_of_some _ e⟩ (F.push _) h0 turn done
end
end
section -- QB
/-! two lists of octets compared -/
open PySem.SeqAt PySem.SeqRoads2 in
theorem eqat_bytes {A : Around} {s : Shared} (b c : List UInt8) (t u : Tok) : EqAt A s (.bytes ⟨b⟩ t) (.bytes ⟨c⟩ u) (decide (b = c)) := by
  intro prog w E Q h
  unfold eqBool
  refine wpAny_holding ?_
  refine wpAny_ite_split (fun hab => ?_) (fun hab => ?_)
  · have e : b = c := by have := eq_of_beq hab; injection this with e1 _; injection e1
    subst e
    exact wpAny_bind (wpAny_rule (wpAny_pure (by simpa using h)))
  · refine wpAny_bind (richCompare_gives (typeIs_bytes s ⟨b⟩ t) (typeIs_bytes s ⟨c⟩ u) FB.slot_bytes_eq FB.entry_bytes_eq (FB.args_bytes_eq_2 _ _) (gives_bytes_eq ⟨b⟩ ⟨c⟩ t u) (by simp [Made.takes]) (wpAny_truthy_bool ?_))
    have e : ((⟨b⟩ : Array UInt8).toList == (⟨c⟩ : Array UInt8).toList) = decide (b = c) := by
      show (b == c) = _
      by_cases q : b = c
      · rw [q]; simp
      · rw [decide_eq_false q]; simpa using q
    rw [e]; exact h
theorem all_dec {ls ms : List (List UInt8)} (e : ls.length = ms.length) : ((List.range ls.length).all fun j => decide (ls.getD j [] = ms.getD j [])) = decide (ls = ms) := by
  by_cases q : ls = ms
  · subst q; simp
  · rw [decide_eq_false q, List.all_eq_false]
    have : ∃ j, j < ls.length ∧ ls.getD j [] ≠ ms.getD j [] := by
      refine Classical.byContradiction fun n => q (List.ext_getElem e fun j h1 h2 => ?_)
      refine Classical.byContradiction fun d => n ⟨j, h1, ?_⟩
      rwa [List.getD_eq_getElem?_getD, List.getD_eq_getElem?_getD, List.getElem?_eq_getElem h1, List.getElem?_eq_getElem h2]
    obtain ⟨j, h1, h2⟩ := this
    exact ⟨j, List.mem_range.mpr h1, by simpa using h2⟩
section
variable {prog : Program} {w : World} {A : Around} {E : Value → Shared → Prop} {s : Shared} {a b : Addr} {xs ys : Array Value} {ls ms : List (List UInt8)} {Q : Value → Shared → Prop}
theorem at_pair (hx : Paired IsB xs.toList ls) (j : Nat) (h : j < xs.size) : ∃ t, xs[j] = .bytes ⟨ls.getD j []⟩ t := by
  obtain ⟨t, e⟩ := paired_get hx (i := j) (by simpa using h)
  refine ⟨t, ?_⟩
  rw [Array.getElem?_toList, Array.getElem?_eq_getElem h] at e
  exact Option.some.inj e
theorem eqats (hx : Paired IsB xs.toList ls) (hy : Paired IsB ys.toList ms) (j : Nat) (h1 : j < xs.size) (h2 : j < ys.size) : SeqAt.EqAt A.in1 s xs[j] ys[j] (decide (ls.getD j [] = ms.getD j [])) := by
  obtain ⟨t, e⟩ := at_pair hx j h1
  obtain ⟨u, f⟩ := at_pair hy j h2
  rw [e, f]
  exact eqat_bytes _ _ _ _
theorem bl_eq (ha : s.heap.IsList a xs) (hb : s.heap.IsList b ys) (hx : Paired IsB xs.toList ls) (hy : Paired IsB ys.toList ms) (hu : A.units < cLine) (h : Q (.bool (decide (ls = ms))) s) : wpAny (model prog w) A (compareOp .Eq (.ref a) (.ref b)) Q E s := by
  have lx : xs.size = ls.length := by rw [← Array.length_toList, hx.length]
  have ly : ys.size = ms.length := by rw [← Array.length_toList, hy.length]
  by_cases hz : xs.size = ys.size
  · refine SeqAt.eq_listAt ha hb hz hu (eqats hx hy) ?_
    rw [lx, all_dec (by (first | lia | omega))]; exact h
  · refine SeqAt.eq_list_lengthsAt ha hb (by simpa using hz) hu ?_
    rwa [decide_eq_false (fun e => hz (by rw [lx, ly, e]))] at h
theorem bl_ne (ha : s.heap.IsList a xs) (hb : s.heap.IsList b ys) (hx : Paired IsB xs.toList ls) (hy : Paired IsB ys.toList ms) (hu : A.units < cLine) (h : Q (.bool (!decide (ls = ms))) s) : wpAny (model prog w) A (compareOp .NotEq (.ref a) (.ref b)) Q E s := by
  have lx : xs.size = ls.length := by rw [← Array.length_toList, hx.length]
  have ly : ys.size = ms.length := by rw [← Array.length_toList, hy.length]
  by_cases hz : xs.size = ys.size
  · refine SeqAt.RcNeAt.lists ha hb hz hu (eqats hx hy) prog w E Q ?_
    rw [lx, all_dec (by (first | lia | omega))]; exact h
  · refine SeqAt.RcNeAt.lists_lengths ha hb (by simpa using hz) hu prog w E Q ?_
    rwa [decide_eq_false (fun e => hz (by rw [lx, ly, e]))] at h
theorem nil_ne (ha : s.heap.IsList a xs) (hb : s.heap.IsList b #[]) (hx : Paired IsB xs.toList []) (hu : A.units < cLine) (h : Q (.bool false) s) : wpAny (model prog w) A (compareOp .NotEq (.ref a) (.ref b)) Q E s :=
  bl_ne ha hb hx .nil hu h
theorem cons_ne {l : List UInt8} (ha : s.heap.IsList a xs) (hb : s.heap.IsList b #[]) (hx : Paired IsB xs.toList (l :: ls)) (hu : A.units < cLine) (h : Q (.bool true) s) : wpAny (model prog w) A (compareOp .NotEq (.ref a) (.ref b)) Q E s :=
  bl_ne ha hb hx .nil hu (by simpa using h)
end
end
section
section -- DL
theorem rip_length (l : List UInt8) : (rip l).length = 20 := by unfold rip; rw [List.length_take, sha_length]; rfl
theorem h160_length (l : List UInt8) : (h160 l).length = 20 := rip_length _
theorem h160_spec2 {w : World} {A : Around} {E : Value → Shared → Prop} {s : Shared} {l x : List UInt8} {t : Tok} (W : World0 w s.heap) (hl : l.length ≤ 800) (r : Room 6 A) (hx : h160 l = x) :
    wpAny (model P0 w) A (call (.ref 1300) [.bytes ⟨l⟩ t]) (Back s (fun v _ => IsB v x)) E s := hx ▸ h160_spec W hl r
theorem sha256_spec2 {w : World} {A : Around} {E : Value → Shared → Prop} {s : Shared} {l x : List UInt8} {t : Tok} (W : World0 w s.heap) (hl : l.length ≤ 900) (r : Room 5 A) (hx : sha l = x) :
    wpAny (model P0 w) A (call (.ref 1307) [.bytes ⟨l⟩ t]) (Back s (fun v _ => IsB v x)) E s := hx ▸ sha256_spec W hl r
def ScriptAt (w : World) (h : Heap) (v : Value) (l : List UInt8) : Prop := ∃ a d t1 t2, v = .ref a ∧ IsScript w h a l d t1 t2
theorem p2sh_spec {w : World} {A : Around} {E : Value → Shared → Prop} {s : Shared} {a d : Addr} {l : List UInt8} {t1 t2 : Tok} (W : World0 w s.heap) (K : IsScript w s.heap a l d t1 t2) (hl : l.length ≤ 800) (r : Room 7 A) :
    wpAny (model P0 w) A (call (.ref 1409) [.ref a]) (Back s (fun v h => ScriptAt w h v ([169, 20] ++ h160 l ++ [135]))) E s := by
  refine' enter0 (binds := [(Str.ofString "script", .ref a)]) W r ?fits ?_
  case fits => ((refine' Fits.mk ?ho ?hcd ?hbind ?hloc ?hcell ?hco ?hgen ?hk; (case ho => k_is); (case hcd => k_is); (case hbind => first | exact BindsTo.of_eq rfl | exact binds_K (World0.X (by assumption)) rfl (by k_is) rfl rfl rfl); (case hloc => rfl); (case hcell => rfl); (case hco => rfl); (case hgen => rfl); (case hk => rfl)))
  intro L h₁ loose mg mb KX T F N rr
  obtain ⟨ko, kd⟩ := K
  have h20 := h160_length l
  obtain ⟨x, hx⟩ : ∃ x, h160 l = x := ⟨_, rfl⟩
  rw [hx] at h20
  rw [hx]
  repeat' (first | ((with_reducible show wpAny _ _ (binaryOp Operator.Add (Value.bytes _ _) (Value.bytes _ _)) _ _ _); (with_reducible ((k_dflt (refine' badd ?zzhz ?_; (case zzhz => (first | (simp only [List.length_append, List.length_cons, List.length_nil]; (first | lia | omega)) | (simp only [List.length_append, List.length_cons, List.length_nil] at *; (first | lia | omega)))); intro t' k'))))) | ((with_reducible show wpAny _ _ (call (Value.ref 1400) _ _) _ _ _); (with_reducible ((refine' use (script_new ?zzW ?zzr) ?zzF ?zzN ?_; (((case zzW => exact World0.now (by assumption) (by assumption) (by assumption)); (case zzr => (first | exact Room.le (by assumption) (by decide) | exact Room.le (Room.in1 (by assumption)) (by decide))); (case zzF => k_asm); (case zzN => k_asm))); intro v' h' tk' g' F' N' e'; obtain ⟨sc', sd', st1', st2', e', so', sod'⟩ := e'; subst e')))) | ((with_reducible show wpAny _ _ (call (Value.ref 1300) _ _) _ _ _); ((refine' use (h160_spec2 ?zzW ?zzhl ?zzr ?zzhx) ?zzF ?zzN ?_; (case zzhl => first | (first | lia | omega) | (rw [sha_length]; decide)); (case zzhx => with_reducible assumption); (((case zzW => exact World0.now (by assumption) (by assumption) (by assumption)); (case zzr => (first | exact Room.le (by assumption) (by decide) | exact Room.le (Room.in1 (by assumption)) (by decide))); (case zzF => k_asm); (case zzN => k_asm))); intro v' h' tk' g' F' N' e'; obtain ⟨t', e'⟩ := e'; subst e'))) | walk1 | (dsimp only; walk1))
  exact Back.of (by assumption) ⟨_, _, _, _, rfl, by assumption, by assumption⟩
theorem p2wsh_spec {w : World} {A : Around} {E : Value → Shared → Prop} {s : Shared} {a d : Addr} {l : List UInt8} {t1 t2 : Tok} (W : World0 w s.heap) (K : IsScript w s.heap a l d t1 t2) (hl : l.length ≤ 800) (r : Room 7 A) :
    wpAny (model P0 w) A (call (.ref 1416) [.ref a]) (Back s (fun v h => ScriptAt w h v ([0, 32] ++ sha l))) E s := by
  refine' enter0 (binds := [(Str.ofString "script", .ref a)]) W r ?fits ?_
  case fits => ((refine' Fits.mk ?ho ?hcd ?hbind ?hloc ?hcell ?hco ?hgen ?hk; (case ho => k_is); (case hcd => k_is); (case hbind => first | exact BindsTo.of_eq rfl | exact binds_K (World0.X (by assumption)) rfl (by k_is) rfl rfl rfl); (case hloc => rfl); (case hcell => rfl); (case hco => rfl); (case hgen => rfl); (case hk => rfl)))
  intro L h₁ loose mg mb KX T F N rr
  obtain ⟨ko, kd⟩ := K
  have h20 := sha_length l
  obtain ⟨x, hx⟩ : ∃ x, sha l = x := ⟨_, rfl⟩
  rw [hx] at h20
  rw [hx]
  repeat' (first | ((with_reducible show wpAny _ _ (binaryOp Operator.Add (Value.bytes _ _) (Value.bytes _ _)) _ _ _); (with_reducible ((k_dflt (refine' badd ?zzhz ?_; (case zzhz => (first | (simp only [List.length_append, List.length_cons, List.length_nil]; (first | lia | omega)) | (simp only [List.length_append, List.length_cons, List.length_nil] at *; (first | lia | omega)))); intro t' k'))))) | ((with_reducible show wpAny _ _ (call (Value.ref 1400) _ _) _ _ _); (with_reducible ((refine' use (script_new ?zzW ?zzr) ?zzF ?zzN ?_; (((case zzW => exact World0.now (by assumption) (by assumption) (by assumption)); (case zzr => (first | exact Room.le (by assumption) (by decide) | exact Room.le (Room.in1 (by assumption)) (by decide))); (case zzF => k_asm); (case zzN => k_asm))); intro v' h' tk' g' F' N' e'; obtain ⟨sc', sd', st1', st2', e', so', sod'⟩ := e'; subst e')))) | ((with_reducible show wpAny _ _ (call (Value.ref 1307) _ _) _ _ _); ((refine' use (sha256_spec2 ?zzW ?zzhl ?zzr ?zzhx) ?zzF ?zzN ?_; (case zzhl => first | (first | lia | omega) | (first | (simp only [List.length_append, List.length_cons, List.length_nil]; (first | lia | omega)) | (simp only [List.length_append, List.length_cons, List.length_nil] at *; (first | lia | omega)))); (case zzhx => with_reducible assumption); (((case zzW => exact World0.now (by assumption) (by assumption) (by assumption)); (case zzr => (first | exact Room.le (by assumption) (by decide) | exact Room.le (Room.in1 (by assumption)) (by decide))); (case zzF => k_asm); (case zzN => k_asm))); intro v' h' tk' g' F' N' e'; obtain ⟨t', e'⟩ := e'; subst e'))) | walk1 | (dsimp only; walk1))
  exact Back.of (by assumption) ⟨_, _, _, _, rfl, by assumption, by assumption⟩

end
section -- OC
open PySem.Builtin.Int (intBits)
noncomputable def octC : Int := 16395309179817738009521987751666139093583423331470737840399399094199505546377
noncomputable def oct (n : Int) : List UInt8 := (2 + Int.fmod n 2).toNat.toUInt8 :: big32 (Int.fmod (n * octC) (2 ^ 256))
theorem oct_length (n : Int) : (oct n).length = 33 := by unfold oct; rw [List.length_cons, big32_length]
theorem to_oct {w : World} {A : Around} {E : Value → Shared → Prop} {s : Shared} {n : Int} {t u v : Tok} {Q : Value → Shared → Prop} (h : ∀ t' k', Q (.bytes ⟨big32 (Int.fmod (n * octC) (2 ^ 256))⟩ t') { s with toks := k' }) :
    wpAny (model P0 w) A (call (.builtin "int.to_bytes") [.int (Int.fmod (n * octC) (2 ^ 256)) t, .int 32 u, .str (PySem.Str.ofString "big") v]) Q E s :=
  to_big32 (Int.fmod_nonneg_of_pos _ (by decide)) (Int.fmod_lt_of_pos _ (by decide)) h
theorem octets_spec {w : World} {A : Around} {E : Value → Shared → Prop} {s : Shared} {n : Int} {t : Tok} (W : World0 w s.heap) (hb : intBits n ≤ 2000000) (r : Room 1 A) :
    wpAny (model P0 w) A (call (.ref 1437) [.int n t]) (Back s (fun v _ => IsB v (oct n))) E s := by
  refine' enter0 (binds := [(Str.ofString "number", .int n t)]) W r ?fits ?_
  case fits => ((refine' Fits.mk ?ho ?hcd ?hbind ?hloc ?hcell ?hco ?hgen ?hk; (case ho => k_is); (case hcd => k_is); (case hbind => first | exact BindsTo.of_eq rfl | exact binds_K (World0.X (by assumption)) rfl (by k_is) rfl rfl rfl); (case hloc => rfl); (case hcell => rfl); (case hco => rfl); (case hgen => rfl); (case hk => rfl)))
  intro L h₁ loose mg mb KX T F N rr
  have M1 : IntMulOk n 16395309179817738009521987751666139093583423331470737840399399094199505546377 := mulOk_of_bits (n := 256) hb (intBits_le_iff.mpr (by decide)) (by (first | lia | omega))
  have Q0 := Int.fmod_nonneg_of_pos n (show (0 : Int) < 2 by decide)
  have Q1 := Int.fmod_lt_of_pos n (show (0 : Int) < 2 by decide)
  repeat' (first | ((with_reducible show wpAny _ _ (binaryOp Operator.Add (Value.bytes _ _) (Value.bytes _ _)) _ _ _); (with_reducible ((k_dflt (refine' badd ?zzhz ?_; (case zzhz => (rw [List.length_map, big32_length, List.length_cons, List.length_nil]; decide)); intro t' k'))))) | ((with_reducible show wpAny _ _ (binaryOp Operator.Mult (Value.int _ _) (Value.int _ _)) _ _ _); (with_reducible ((k_dflt (refine' PyProof.Rows.mul_int ?_ ?zzhm; (case zzhm => assumption)))))) | ((with_reducible show wpAny _ _ (call (Value.builtin "int.to_bytes") _ _) _ _ _); (with_reducible ((k_dflt (refine' to_oct ?_); intro t' k')))) | ((with_reducible show wpAny _ _ (call (Value.type "bytes") _ _) _ _ _); (with_reducible ((k_here; (with_reducible show wpAny _ _ (call (Value.type "bytes") [Value.ref _]) _ _ _); k_dflt (refine' bmake ?zzF ?zzN ?zzm ?zzi ?zzr ?zzz ?zzhh ?_; (case zzF => k_asm); (case zzN => k_asm); (case zzm => k_mem); (case zzi => l_ints); (case zzr => ((intro n hn; simp only [List.mem_cons, List.not_mem_nil, or_false] at hn; (first | lia | omega)))); (case zzz => exact Nat.le_of_ble_eq_true rfl); (case zzhh => exact (show Room _ _ by assumption).1)); intro h' t' k' F' N'; try k_sweep)))) | walk1 | (dsimp only; walk1))
  exact Back.of (by assumption) ⟨_, rfl⟩

end
section
section -- MS
theorem noI_bytes_add : typeLookup (.type "bytes") (dunderI "add") = pure none := by rw [typeLookup_type, builtinLookup_eq_fast]; kernel_rfl
theorem ibadd {prog : Program} {w : World} {A : Around} {E : Value → Shared → Prop} {s : Shared} {b c : List UInt8} {t u : Tok} {Q : Value → Shared → Prop} (hsz : b.length + c.length ≤ 16777216) (h : ∀ t' k, Q (.bytes ⟨b ++ c⟩ t') { s with toks := k }) :
    wpAny (model prog w) A (inplaceOp .Add (.bytes ⟨b⟩ t) (.bytes ⟨c⟩ u)) Q E s := by
  refine iconcat_gives (typeIs_bytes s ⟨b⟩ t) (typeIs_bytes s ⟨c⟩ u) noI_bytes_add KBy.noFill_bytes_add KBy.seq_bytes_add FB.slot_bytes_add FB.entry_bytes_add (FB.args_bytes_add_2 _ _) (KBy.gives_bytes_add (KBy.tooLong_not (show (⟨b⟩ : Array UInt8).size + (⟨c⟩ : Array UInt8).size ≤ 16777216 from hsz))) ?_
  have ea : (⟨b⟩ ++ ⟨c⟩ : Array UInt8) = ⟨b ++ c⟩ := by apply Array.toList_inj.mp; simp
  by_cases hb : (⟨b⟩ : Array UInt8).isEmpty = true
  · rw [if_pos hb]
    have e : b = [] := by simpa using hb
    subst e
    exact h u s.toks
  · rw [if_neg hb]
    by_cases hc : (⟨c⟩ : Array UInt8).isEmpty = true
    · rw [if_pos hc]
      have e : c = [] := by simpa using hc
      subst e
      have := h t s.toks
      rw [List.append_nil] at this
      exact this
    · rw [if_neg hc, ea]
      exact ⟨by rw [sizeLine_eq]; show (b ++ c).length ≤ _; rw [List.length_append]; exact hsz, h _ _⟩
def PkAt (w : World) (h : Heap) (v : Value) (l : List UInt8) : Prop := ∃ a d t1 t2 t3, v = .ref a ∧ IsPk w h a l d t1 t2 t3
theorem paired_pk {w : World} {h : Heap} {vs : Array Value} {ls : List (List UInt8)} (hp : Paired (PkAt w h) vs.toList ls) {i : Nat} {v : Value} (e : vs[i]? = some v) : ∃ l, ls[i]? = some l ∧ PkAt w h v l := paired_at hp (by rwa [Array.getElem?_toList])
theorem lk_step {ls : List (List UInt8)} {i : Nat} {l : List UInt8} (e : ls[i]? = some l) (m : Int) : nb m ++ ((ls.take i).map (kc false)).flatten ++ ([33] ++ l) = nb m ++ ((ls.take (i + 1)).map (kc false)).flatten := by
  have hi : i < ls.length := by
    rcases Nat.lt_or_ge i ls.length with h | h
    · exact h
    · rw [List.getElem?_eq_none h] at e; cases e
  rw [List.getElem?_eq_getElem hi] at e
  rw [List.take_succ_eq_append_getElem hi, List.map_append, List.flatten_append, List.append_assoc, Option.some.inj e]
  simp [kc, pre, short]
def MsJ (m : Int) (ls : List (List UInt8)) (i : Nat) (m' : Str → Option Value) : Prop := ∃ (r : Str → Option Value) (d : List UInt8) (t tn : Tok), m' = (fun y => if y = PySem.Str.ofString "data" then some (Value.bytes ⟨d⟩ t) else if y = PySem.Str.ofString "n" then some (.int (ls.length : Int) tn) else r y) ∧ d = nb m ++ ((ls.take i).map (kc false)).flatten
theorem TurnJ.next {h₀ : Heap} {L : Addr} {J : (Str → Option Value) → Prop} {own news' : List (Addr × Obj)} {s₁ : Shared} {Q : Flow → Shared → Prop} {h' : Heap} {tk : Nat} {m' : Str → Option Value} (F : Fr h₀ L h' m') (N : News h₀ L h' news') (hn : ∀ p ∈ own, p ∈ news') (j : J m') :
    TurnJ h₀ L J own s₁ Q .next { s₁ with heap := h', toks := tk } := ⟨h', tk, m', news', rfl, F, N, hn, j⟩
theorem MsJ.intro {m : Int} {ls : List (List UInt8)} {i : Nat} {m' : Str → Option Value} {d : List UInt8} {t tn : Tok} (h1 : m' (PySem.Str.ofString "data") = some (.bytes ⟨d⟩ t)) (h2 : m' (PySem.Str.ofString "n") = some (.int (ls.length : Int) tn)) (e : d = nb m ++ ((ls.take i).map (kc false)).flatten) : MsJ m ls i m' := by
  refine ⟨m', d, t, tn, ?_, e⟩
  funext y
  by_cases q : y = PySem.Str.ofString "data"
  · rw [if_pos q, q, h1]
  · rw [if_neg q]
    by_cases q2 : y = PySem.Str.ofString "n"
    · rw [if_pos q2, q2, h2]
    · rw [if_neg q2]
theorem multisig_spec {w : World} {A : Around} {E : Value → Shared → Prop} {s : Shared} {m : Int} {t : Tok} {D : Addr} {vs : Array Value} {ls : List (List UInt8)} (W : World0 w s.heap) (hl : s.heap.IsList D vs) (hp : Paired (PkAt w s.heap) vs.toList ls)
    (h33 : ∀ l ∈ ls, l.length = 33) (hz : 1 ≤ ls.length ∧ ls.length ≤ 4) (h0 : 1 ≤ m) (h1 : m ≤ ls.length) (r : Room 4 A) :
    wpAny (model P0 w) A (call (.ref 1423) [.int m t, .ref D]) (Back s (fun v h => ScriptAt w h v (nb m ++ (ls.map (kc false)).flatten ++ nb ls.length ++ [174]))) E s := by
  obtain ⟨out, hout⟩ : ∃ x, nb m ++ (ls.map (kc false)).flatten ++ nb ls.length ++ [174] = x := ⟨_, rfl⟩
  rw [hout]
  refine' enter0 (binds := [(Str.ofString "m", .int m t), (Str.ofString "pubkeys", .ref D)]) W r ?fits ?_
  case fits => ((refine' Fits.mk ?ho ?hcd ?hbind ?hloc ?hcell ?hco ?hgen ?hk; (case ho => k_is); (case hcd => k_is); (case hbind => first | exact BindsTo.of_eq rfl | exact binds_K (World0.X (by assumption)) rfl (by k_is) rfl rfl rfl); (case hloc => rfl); (case hcell => rfl); (case hco => rfl); (case hgen => rfl); (case hk => rfl)))
  intro L h₁ loose mg mb KX T F N rr
  have hvs : vs.size = ls.length := by rw [← Array.length_toList, hp.length]
  have tk_le : ∀ i, ((ls.take i).map (kc false)).flatten.length ≤ 34 * 4 := by
    intro i
    have := flat_le (kcs_le (tap := false) (ls := ls.take i) fun l hl => h33 l (List.mem_of_mem_take hl))
    rw [List.length_map, List.length_take] at this
    (first | lia | omega)
  repeat' (first | ((with_reducible show wpAny _ _ (call (Value.type "bytes") _ _) _ _ _); (with_reducible ((k_here; (with_reducible show wpAny _ _ (call (Value.type "bytes") [Value.ref _]) _ _ _); k_dflt (refine' bmake ?zzF ?zzN ?zzm ?zzi ?zzr ?zzz ?zzhh ?_; (case zzF => k_asm); (case zzN => k_asm); (case zzm => k_mem); (case zzi => l_ints); (case zzr => ((intro n hn; simp only [List.mem_cons, List.not_mem_nil, or_false] at hn; (first | lia | omega)))); (case zzz => exact Nat.le_of_ble_eq_true rfl); (case zzhh => exact (show Room _ _ by assumption).1)); intro h' t' k' F' N'; try k_sweep)))) | walk1 | (dsimp only; walk1))
  refine For_invV s.heap (by rfl) (by rfl) ?_
  walk1
  rename Fr _ _ _ _ => F
  refine for_list (MsJ m ls) rr.1 hl F ?h0 ?turn ?done
  case h0 => exact MsJ.intro rfl (by rw [← hvs]; rfl) (by simp)
  case turn =>
    intro i v m₁ h tk own hi hv hJ F N
    obtain ⟨l, el, a, d, t1, t2, t3, rfl, ko, kd⟩ := paired_pk hp hv
    have l33 := h33 l (List.mem_of_getElem? el)
    obtain ⟨r, dd, td, tn, rfl, ed⟩ := hJ
    have dl : dd.length ≤ 1000 := by rw [ed, List.length_append]; have := tk_le i; simp only [nb, List.length_cons, List.length_nil]; (first | lia | omega)
    repeat' (first | ((with_reducible show wpAny _ _ (binaryOp Operator.Add (Value.bytes _ _) (Value.bytes _ _)) _ _ _); (with_reducible ((k_dflt (refine' badd ?zzhz ?_; (case zzhz => (simp only [List.length_append, List.length_cons, List.length_nil, List.length_map]; (first | lia | omega))); intro t' k'))))) | ((with_reducible show wpAny _ _ (inplaceOp Operator.Add (Value.bytes _ _) (Value.bytes _ _)) _ _ _); (with_reducible ((k_dflt (refine' ibadd ?zzhz ?_; (case zzhz => (simp only [List.length_append, List.length_cons, List.length_nil, List.length_map]; (first | lia | omega))); intro t' k'))))) | ((with_reducible show wpAny _ _ (call (Value.builtin "len") _ _) _ _ _); (with_reducible ((k_here; (with_reducible show wpAny _ _ (call _ [Value.bytes _ _]) _ _ _); k_dflt (refine' blen ?zze ?zzz ?_; (case zze => with_reducible assumption); (case zzz => (first | lia | omega))); intro t' k')))) | ((with_reducible show wpAny _ _ (call (Value.ref 893) _ _) _ _ _); (with_reducible ((refine' use (pksec_spec ?zzW ?zzK ?zzr) ?zzF ?zzN ?_; (case zzK => exact ⟨by (first | with_reducible assumption | exact Fr.keep (by assumption) _ _ (by with_reducible assumption)), by (first | with_reducible assumption | exact Fr.keep (by assumption) _ _ (by with_reducible assumption))⟩); (((case zzW => exact World0.now (by assumption) (by assumption) (by assumption)); (case zzr => (first | exact Room.le (by assumption) (by decide) | exact Room.le (Room.in1 (by assumption)) (by decide))); (case zzF => k_asm); (case zzN => k_asm))); intro v' h' tk' g' F' N' e'; subst e'; try k_sweep)))) | ((with_reducible show wpAny _ _ (call (Value.type "bytes") _ _) _ _ _); (with_reducible ((k_here; (with_reducible show wpAny _ _ (call (Value.type "bytes") [Value.ref _]) _ _ _); k_dflt (refine' bmake ?zzF ?zzN ?zzm ?zzi ?zzr ?zzz ?zzhh ?_; (case zzF => k_asm); (case zzN => k_asm); (case zzm => k_mem); (case zzi => l_ints); (case zzr => ((intro n hn; simp only [List.mem_cons, List.not_mem_nil, or_false] at hn; (first | lia | omega)))); (case zzz => exact Nat.le_of_ble_eq_true rfl); (case zzhh => exact (show Room _ _ by assumption).1)); intro h' t' k' F' N'; try k_sweep)))) | walk1 | (dsimp only; walk1))
    exact TurnJ.next (by assumption) (by assumption) (fun p hp => .tail _ hp) (MsJ.intro rfl rfl (by rw [ed]; exact lk_step el m))
  case done =>
    intro h tk m' F N hJ
    obtain ⟨r, dd, td, tn, rfl, ed⟩ := hJ
    have dl : dd.length ≤ 1000 := by rw [ed, List.length_append]; have := tk_le vs.size; simp only [nb, List.length_cons, List.length_nil]; (first | lia | omega)
    dsimp only
    repeat' (first | ((with_reducible show wpAny _ _ (inplaceOp Operator.Add (Value.bytes _ _) (Value.bytes _ _)) _ _ _); (with_reducible ((k_dflt (refine' ibadd ?zzhz ?_; (case zzhz => (simp only [List.length_append, List.length_cons, List.length_nil, List.length_map]; (first | lia | omega))); intro t' k'))))) | ((with_reducible show wpAny _ _ (call (Value.ref 1400) _ _) _ _ _); (with_reducible ((refine' use (script_new ?zzW ?zzr) ?zzF ?zzN ?_; (((case zzW => exact World0.now (by assumption) (by assumption) (by assumption)); (case zzr => (first | exact Room.le (by assumption) (by decide) | exact Room.le (Room.in1 (by assumption)) (by decide))); (case zzF => k_asm); (case zzN => k_asm))); intro v' h' tk' g' F' N' e'; obtain ⟨sc', sd', st1', st2', e', so', sod'⟩ := e'; subst e')))) | ((with_reducible show wpAny _ _ (call (Value.type "bytes") _ _) _ _ _); (with_reducible ((k_here; (with_reducible show wpAny _ _ (call (Value.type "bytes") [Value.ref _]) _ _ _); k_dflt (refine' bmake ?zzF ?zzN ?zzm ?zzi ?zzr ?zzz ?zzhh ?_; (case zzF => k_asm); (case zzN => k_asm); (case zzm => k_mem); (case zzi => l_ints); (case zzr => ((intro n hn; simp only [List.mem_cons, List.not_mem_nil, or_false] at hn; (first | lia | omega)))); (case zzz => exact Nat.le_of_ble_eq_true rfl); (case zzhh => exact (show Room _ _ by assumption).1)); intro h' t' k' F' N'; try k_sweep)))) | walk1 | (dsimp only; walk1))
    have e2 : dd ++ [(80 + (ls.length : Int)).toNat.toUInt8, (174 : Int).toNat.toUInt8] = out := by
      rw [← hout, ed, hvs, List.take_length]; simp [nb]
    rw [← e2]
    exact Back.of (by assumption) ⟨_, _, _, _, rfl, by with_reducible assumption, by assumption⟩

end
section -- MX
theorem Room.cl {n : Nat} {A : Around} (r : Room n A) : A.units < cLine := by have := r.2.2; show A.units < 9900; (first | lia | omega)
theorem llen {w : World} {A : Around} {E : Value → Shared → Prop} {s : Shared} {T : Addr} {vs : Array Value} {n : Nat} {Q : Value → Shared → Prop} (h : s.heap.IsList T vs) (e : vs.size = n) (hz : n ≤ 1000) (k : ∀ t' k, Q (.int (n : Int) t') { s with toks := k }) :
    wpAny (model P0 w) A (call (.builtin "len") [.ref T]) Q E s := by
  subst e
  exact len_list h (by (first | lia | omega)) (k _ _)
section
variable {w : World} {A : Around} {E : Value → Shared → Prop} {Q : Flow → Shared → Prop} {s : Shared} {env : Env} {h₀ : Heap} {L : Addr}
theorem while_same {test : Expr} {body : List Stmt} {pos : Pos} {m : Str → Option Value} {news : List (Addr × Obj)} (J : Nat → List (Addr × Obj) → Prop) {n₀ : Nat}
    (F : Fr h₀ L s.heap m) (N : News h₀ L s.heap news) (hJ : J n₀ news)
    (turn : ∀ n news₁ h₁ tk₁, Fr h₀ L h₁ m → News h₀ L h₁ news₁ → J n news₁ →
      wpAny (model P0 w) A (isTrue test env (eval test env)) (fun b s₂ =>
        if b = true then wpAny (model P0 w) A (execs body env) (WhileStep h₀ L s (fun n m' news => m' = m ∧ J n news) n) E s₂ else Q .next s₂) E { s with heap := h₁, toks := tk₁ })
    (hE : PassesOwn (model P0 w) A env E := by passes_own) :
    wpAny (model P0 w) A (exec (.While test body [] pos) env) Q E s :=
  While_inv (fun n m' news => m' = m ∧ J n news) F N ⟨rfl, hJ⟩ (fun n m₁ news₁ h₁ tk₁ F₁ N₁ ⟨e, j⟩ => by subst e; exact turn n news₁ h₁ tk₁ F₁ N₁ j) hE
end
def MxJ (ls : List (List UInt8)) (D1 D2 : Addr) (n : Nat) (news : List (Addr × Obj)) : Prop :=
  ∃ c1 c2 us os ms vs, news = [(D2, PySem.W.listOf os c2), (D1, PySem.W.listOf us c1)] ∧ D1 ≠ D2 ∧ n = ms.length ∧ Paired IsB us.toList ms ∧ Paired IsB os.toList vs ∧ (vs ++ ms).Perm ls
theorem while_mx {w : World} {A : Around} {E : Value → Shared → Prop} {Q : Flow → Shared → Prop} {s : Shared} {env : Env} {h₀ : Heap} {L D1 D2 : Addr} {test : Expr} {body : List Stmt} {pos : Pos} {m : Str → Option Value} {us : Array Value} {c1 c2 : Nat} {ls : List (List UInt8)}
    (F : Fr h₀ L s.heap m) (N : News h₀ L s.heap [(D2, PySem.W.listOf #[] c2), (D1, PySem.W.listOf us c1)]) (lt : D1 < D2) (hx : Paired IsB us.toList ls)
    (turn : ∀ n news₁ h₁ tk₁, Fr h₀ L h₁ m → News h₀ L h₁ news₁ → MxJ ls D1 D2 n news₁ →
      wpAny (model P0 w) A (isTrue test env (eval test env)) (fun b s₂ =>
        if b = true then wpAny (model P0 w) A (execs body env) (WhileStep h₀ L s (fun n m' news => m' = m ∧ MxJ ls D1 D2 n news) n) E s₂ else Q .next s₂) E { s with heap := h₁, toks := tk₁ })
    (hE : PassesOwn (model P0 w) A env E) :
    wpAny (model P0 w) A (exec (.While test body [] pos) env) Q E s :=
  while_same (MxJ ls D1 D2) F N ⟨c1, c2, us, #[], ls, [], rfl, Nat.ne_of_lt lt, rfl, hx, .nil, List.Perm.refl _⟩ turn hE
theorem paired_cut {us : Array Value} {ms : List (List UInt8)} (h : Paired IsB us.toList ms) {k : Nat} (hk : k < ms.length) : ∃ p y q mp my mq, us = (p ++ y :: q).toArray ∧ p.length = k ∧ ms = mp ++ my :: mq ∧ IsB y my ∧ Paired IsB (p ++ q) (mp ++ mq) := by
  obtain ⟨ul⟩ := us
  replace h : Paired IsB ul ms := h
  induction k generalizing ul ms with
  | zero =>
    cases h with
    | nil => simp at hk
    | cons x r => exact ⟨[], _, _, [], _, _, rfl, rfl, rfl, x, r⟩
  | succ k ih =>
    cases h with
    | nil => simp at hk
    | cons x r =>
      obtain ⟨p, y, q, mp, my, mq, e1, e2, e3, e4, e5⟩ := ih (by simpa using hk) _ r
      simp only [Array.mk.injEq] at e1
      exact ⟨_ :: p, y, q, _ :: mp, my, mq, by rw [e1]; rfl, by simp [e2], by rw [e3]; rfl, e4, .cons x e5⟩
theorem paired_app {R : Value → List UInt8 → Prop} {a b : List Value} {c d : List (List UInt8)} (x : Paired R a c) (y : Paired R b d) : Paired R (a ++ b) (c ++ d) := by
  induction x with
  | nil => exact y
  | cons h _ ih => exact .cons h ih
theorem kl_cut_at : ∀ (p : List Value) (y : Value) (q : List Value), kl_cut (p ++ y :: q) p.length = some (p, y, q)
  | [], _, _ => rfl
  | x :: p, y, q => by
    show (kl_cut (x :: (p ++ y :: q)) (p.length + 1)) = _
    simp only [kl_cut, kl_cut_at p y q, Option.map_some]
theorem pop_two {w : World} {A : Around} {E : Value → Shared → Prop} {s : Shared} {h₀ : Heap} {L T D1 D2 : Addr} {m : Str → Option Value} {oT o2 : Obj} {its : Array Value} {n : Nat} {ms : List (List UInt8)} {i : Int} {u : Tok} {Q : Value → Shared → Prop}
    (F : Fr h₀ L s.heap m) (N : News h₀ L s.heap [(T, oT), (D2, o2), (D1, PySem.W.listOf its n)]) (hne : D1 ≠ D2) (hx : Paired IsB its.toList ms) (h0 : 0 ≤ i) (h1 : i < (ms.length : Int)) (hz : ms.length ≤ 1000)
    (h : ∀ h' y my p mp q mq, ms = mp ++ my :: mq → IsB y my → Paired IsB (p ++ q) (mp ++ mq) → Fr h₀ L h' m → News h₀ L h' [(D2, o2), (D1, PySem.W.listOf (p ++ q).toArray (n + 1))] → Q y { s with heap := h' }) :
    wpAny (model P0 w) A (call (.builtin "list.pop") [.ref D1, .int i u]) Q E s := by
  have hlen := hx.length
  obtain ⟨p, y, q, mp, my, mq, rfl, e2, e3, e4, e5⟩ := paired_cut hx (k := i.toNat) (by (first | lia | omega))
  have hs : (p ++ y :: q).toArray.size = ms.length := by rw [← hlen]; rfl
  refine kl_popAt F (fun r hr => N r (.tail _ hr)) ?hf ?hk (kl_cut_at p y q) (.tail (Ne.symm hne) (.head fun _ z => absurd z List.not_mem_nil)) ?hz fun h' F' N' => h h' y my p mp q mq e3 e4 e5 F' N'
  case hf => unfold Builtin.List.listFitsIndex; simp only [Bool.and_eq_true, decide_eq_true_eq]; (first | lia | omega)
  case hk => rw [seqIndex_of h0 (by rw [hs]; exact h1), e2]
  case hz => rw [hlen, sizeLine_eq]; (first | lia | omega)
def Stop (p : Prop) : Prop := p
theorem Stop.go {p : Prop} (h : Stop p) : p := h
theorem mixed_spec {w : World} {A : Around} {E : Value → Shared → Prop} {s : Shared} {a D : Addr} {svs : List Value} {ns : List Int} {p : Int} {t : Tok} {us : Array Value} {ls : List (List UInt8)} (W : World0 w s.heap) (hl : s.heap.IsList a svs.toArray) (hi : IntsAre svs ns) (h63 : ns.length ≤ 63)
    (h0 : 0 ≤ p) (h1 : p ≤ 50) (hr : s.heap.IsList D us) (hb : Paired IsB us.toList ls) (hz : ls.length ≤ 4) (r : Room 2 A) :
    wpAny (model P0 w) A (call (.ref 1444) [.ref a, .int p t, .ref D]) (Back s (fun v h => ∃ D' c ys ms, v = .ref D' ∧ h.get? D' = some (PySem.W.listOf ys c) ∧ s.heap.get? D' = none ∧ Paired IsB ys.toList ms ∧ ms.Perm ls)) E s := by
  refine' enter0 (binds := [(Str.ofString "script", .ref a), (Str.ofString "place", .int p t), (Str.ofString "row", .ref D)]) W r ?fits ?_
  case fits => ((refine' Fits.mk ?ho ?hcd ?hbind ?hloc ?hcell ?hco ?hgen ?hk; (case ho => k_is); (case hcd => k_is); (case hbind => first | exact BindsTo.of_eq rfl | exact binds_K (World0.X (by assumption)) rfl (by k_is) rfl rfl rfl); (case hloc => rfl); (case hcell => rfl); (case hco => rfl); (case hgen => rfl); (case hk => rfl)))
  intro L h₁ loose mg mb KX T F N rr
  have hus : us.size = ls.length := by rw [← Array.length_toList, hb.length]
  repeat' (first | ((with_reducible show wpAny _ _ (exec (Stmt.While _ _ _ _) _) _ _ _); (with_reducible ((k_here; refine Stop.go ?_)))) | ((with_reducible show wpAny _ _ (call (Value.type "list") _ _) _ _ _); (with_reducible ((k_here; (with_reducible rename Fr _ _ _ _ => F'); (with_reducible rename News _ _ _ _ => N'); k_dflt (refine' list_copyK F' N' ?zzhl ?_ ?zzhz; (case zzhl => exact Heap.IsList.at (by with_reducible assumption) (Fr.keep F' _)); (case zzhz => (rw [sizeLine_eq]; (first | lia | omega)))); intro D' c' h' F' N' lt')))) | walk1 | (dsimp only; walk1))
  rename Fr _ _ _ _ => F
  rename News _ _ _ _ => N
  unfold Stop
  refine' while_mx F N ?lt hb ?turn ?hE
  case hE => passes_own
  case lt => assumption
  case turn =>
    rintro n news₁ h tk F N ⟨c1, c2, us, os, ms, vs, rfl, hne, hn, hx, hy, hp⟩
    have hus : us.size = ms.length := by rw [← Array.length_toList, hx.length]
    have hos : os.size = vs.length := by rw [← Array.length_toList, hy.length]
    have hlen := hp.length_eq
    rw [List.length_append] at hlen
    cases ms with
    | nil =>
      repeat' (first | ((with_reducible show wpAny _ _ (compareOp CmpOp.NotEq (Value.ref _) (Value.ref _)) _ _ _); (with_reducible ((k_here; k_dflt (first | (refine' cons_ne ?zzha ?zzhb ?zzhx ?zzhu ?_; (case zzhx => with_reducible assumption); (case zzha => exact News.listAt (by assumption) (by k_mem)); (case zzhb => exact News.listAt (by assumption) (by k_mem)); (case zzhu => exact Room.cl (by assumption))) | (refine' nil_ne ?zzha ?zzhb ?zzhx ?zzhu ?_; (case zzhx => with_reducible assumption); (case zzha => exact News.listAt (by assumption) (by k_mem)); (case zzhb => exact News.listAt (by assumption) (by k_mem)); (case zzhu => exact Room.cl (by assumption)))))))) | walk1 | (dsimp only; walk1))
      rename Fr _ _ _ _ => F2
      rename News _ _ _ _ => N2
      dsimp only
      exact Back.of F2 ⟨_, _, _, _, rfl, (N2 _ (.tail _ (.head _))).1, (N2 _ (.tail _ (.head _))).2.2, hy, by simpa using hp⟩

    | cons m0 mr =>
      obtain ⟨k, hk⟩ : ∃ k, (m0 :: mr).length = k := ⟨_, rfl⟩
      have hk1 : 1 ≤ k := by rw [← hk]; exact Nat.succ_le_succ (Nat.zero_le _)
      rw [hk] at hus hlen hn
      have b1 := Int.fmod_nonneg_of_pos (num ns (p + (k : Int))) (show (0 : Int) < (k : Int) by (first | lia | omega))
      have b2 := Int.fmod_lt_of_pos (num ns (p + (k : Int))) (show (0 : Int) < (k : Int) by (first | lia | omega))
      repeat' (first | ((with_reducible show wpAny _ _ (compareOp CmpOp.NotEq (Value.ref _) (Value.ref _)) _ _ _); (with_reducible ((k_here; k_dflt (first | (refine' cons_ne ?zzha ?zzhb ?zzhx ?zzhu ?_; (case zzhx => with_reducible assumption); (case zzha => exact News.listAt (by assumption) (by k_mem)); (case zzhb => exact News.listAt (by assumption) (by k_mem)); (case zzhu => exact Room.cl (by assumption))) | (refine' nil_ne ?zzha ?zzhb ?zzhx ?zzhu ?_; (case zzhx => with_reducible assumption); (case zzha => exact News.listAt (by assumption) (by k_mem)); (case zzhb => exact News.listAt (by assumption) (by k_mem)); (case zzhu => exact Room.cl (by assumption)))))))) | ((with_reducible show wpAny _ _ (call (Value.builtin "len") _ _) _ _ _); (with_reducible ((k_here; k_dflt (refine' llen ?zzh ?zze ?zzz ?_; (case zzh => exact News.listAt (by assumption) (by k_mem)); (case zze => with_reducible assumption); (case zzz => (first | lia | omega))); intro t' k')))) | ((with_reducible show wpAny _ _ (call (Value.ref 1430) _ _) _ _ _); (with_reducible ((refine' use (number_spec ?zzW ?zzhl ?zzhi ?zzh63 ?zzh0 ?zzhp ?zzr) ?zzF ?zzN ?_; (case zzhl => exact Heap.IsList.at (by with_reducible assumption) (Fr.keep (by assumption) _)); (case zzhi => with_reducible assumption); (case zzh63 => with_reducible assumption); (case zzh0 => first | decide | (first | lia | omega)); (case zzhp => first | decide | (first | lia | omega)); (((case zzW => exact World0.now (by assumption) (by assumption) (by assumption)); (case zzr => (first | exact Room.le (by assumption) (by decide) | exact Room.le (Room.in1 (by assumption)) (by decide))); (case zzF => k_asm); (case zzN => k_asm))); intro v' h' tk' g' F' N' e'; obtain ⟨t', e'⟩ := e'; subst e')))) | walk1 | (dsimp only; walk1))
      rename Fr _ _ _ _ => F2
      rename News _ _ _ _ => N2
      refine' pop_two F2 N2 hne hx b1 (by rw [hk]; exact b2) (by rw [hk]; (first | lia | omega)) ?_
      intro h' y my q1 mp q2 mq e3 e4 e5 F3 N3
      repeat' (first | walk1 | (dsimp only; walk1))
      rename Fr _ _ _ _ => F3
      rename News _ _ _ _ => N3
      refine WhileStep.intro F3 N3 ?lt ⟨rfl, _, _, _, _, mp ++ mq, vs ++ [my], rfl, hne, rfl, e5, ?pb, ?pm⟩
      case lt => rw [hn, ← hk, e3]; simp
      case pb => rw [Array.toList_push]; exact paired_app hy (.cons e4 .nil)
      case pm =>
        refine List.Perm.trans ?_ hp
        rw [e3, List.append_assoc]
        exact List.Perm.append_left _ (by simpa using (List.perm_middle (a := my) (l₁ := mp) (l₂ := mq)).symm)

end
section -- VF
def ArgAt (w : World) (h : Heap) (v : Value) : Prop := (∃ a n d t1 t2, v = .ref a ∧ IsNum w h a n d t1 t2) ∨ ∃ tap l, KeyAt w h tap v l
theorem keys_mem {w : World} {h : Heap} {tap : Bool} {ks : List Value} {ls : List (List UInt8)} (KS : Paired (KeyAt w h tap) ks ls) : ∀ v ∈ ks, ∃ l, KeyAt w h tap v l := by
  induction KS with
  | nil => intro v hv; simp at hv
  | cons h _ ih =>
    intro v hv
    rcases List.mem_cons.mp hv with rfl | hv
    · exact ⟨_, h⟩
    · exact ih v hv
theorem args_at {w : World} {h : Heap} {tap : Bool} {na nd : Addr} {need : Int} {n1 n2 : Tok} {ks : List Value} {ls : List (List UInt8)} (N : IsNum w h na need nd n1 n2) (KS : Paired (KeyAt w h tap) ks ls) : ∀ v ∈ (Value.ref na :: ks), ArgAt w h v := by
  intro v hv
  rcases List.mem_cons.mp hv with rfl | hv
  · exact .inl ⟨_, _, _, _, _, rfl, N⟩
  · exact .inr ⟨tap, keys_mem KS v hv⟩
theorem enter0c {w : World} {A : Around} {s : Shared} {name qual : Str} {params : Arguments} {body : List Stmt} {scope : Scope} {dV kV doc pm cdv ct oc : Value} {an od : Option Addr} {osl : Array (Option Value)} {f : Addr} {binds : List (Str × Value)} {cl : List (Str × Addr)} {n : Nat} {P : Value → Heap → Prop} {vals : List Value} {kw : List (Str × Value)} (W : World0 w s.heap) (r : Room (n + 1) A)
    (fits : Fits s (fr.heap_1 w.params) f ⟨vals, kw⟩ binds name qual params body scope cl dV kV doc pm an cdv ct oc od osl)
    (h : ∀ L h₁ loose mg mb, (fr.heap_1 w.params).In s.heap → TopRead V0 loose mg mb s.heap → Fr s.heap L h₁ (fun y => binds.reverse.lookup y) → News s.heap L h₁ [] → Room n (A.deeper (envX qual scope L f cdv cl)) →
      wpAny (model P0 w) (A.deeper (envX qual scope L f cdv cl)) (execs body (envX qual scope L f cdv cl))
        (fun fl s' => Back s P (match fl with | .ret v => v | _ => .none) s') (fun _ _ => False) { s with heap := h₁, toks := s.toks + binds.length }) :
    codeAny (model P0 w) A (.call (.ref f) ⟨vals, kw⟩) (fun r s' => ∃ v, r = .ok (.ret v) ∧ Back s P v s') s := by
  obtain ⟨X, loose, mg, mb, T⟩ := W
  exact enter (fun _ _ e => e) (Nat.le_refl _) (fun _ hp => absurd hp List.not_mem_nil) X T r fits fun L h₁ F N rr _ => wpAny_mono (h L h₁ loose mg mb X T F N rr) (fun _ _ x => ⟨_, rfl, x⟩) fun _ _ x => x
theorem mverify_code {w : World} {A : Around} {s : Shared} {C : Addr} {tap : Bool} {x dx T : Addr} {t1 t2 : Tok} {vs : List Value} (W : World0 w s.heap) (hC : C = 1233 ∨ C = 1250 ∨ C = 1274 ∨ C = 1291) (M : IsMs w s.heap C tap vs x dx T t1 t2)
    (hv : ∀ v ∈ vs, ArgAt w s.heap v) (r : Room 2 A) :
    codeAny (model P0 w) A (.call (.ref 1156) ⟨[.ref x], []⟩) (fun r s' => ∃ v, r = .ok (.ret v) ∧ Back s (fun v _ => v = .none) v s') s := by
  refine' enter0c (binds := [(Str.ofString "self", .ref x)]) W r ?fits ?_
  case fits => ((refine' Fits.mk ?ho ?hcd ?hbind ?hloc ?hcell ?hco ?hgen ?hk; (case ho => k_is); (case hcd => k_is); (case hbind => first | exact BindsTo.of_eq rfl | exact binds_K (World0.X (by assumption)) rfl (by k_is) rfl rfl rfl); (case hloc => rfl); (case hcell => rfl); (case hco => rfl); (case hgen => rfl); (case hk => rfl)))
  intro L h₁ loose mg mb KX Tp F N rr
  obtain ⟨mo, md, mt⟩ := M
  rcases hC with rfl | rfl | rfl | rfl
  all_goals
    refine wpAny_execs_cons ?_
    refine For_invV s.heap (by rfl) (by rfl) ?_
    repeat' (first | walk1 | (dsimp only; walk1))
    rename Fr _ _ _ _ => FF
    refine for_tuple (fun _ _ => True) rr.1 ⟨_, mt, rfl, _, rfl⟩ FF trivial ?turn ?done
    case turn =>
      intro i v m₁ h tk own hi hp _ F2 N2
      have hm : v ∈ vs := by rw [List.getElem?_toArray] at hp; exact List.mem_of_getElem? hp
      rcases hv v hm with ⟨a, n, d, v1, v2, rfl, K⟩ | ⟨tap', l, a, d, pk, dp, v1, v2, v3, v4, v5, v6, v7, v8, rfl, K⟩
      all_goals
        obtain ⟨ko, kd⟩ := K
        (try clear N FF F)
        repeat' (first | walk1 | (dsimp only; walk1))
        exact TurnJ.next (by assumption) (by assumption) (fun p hp => hp) trivial
    case done =>
      intro h tk m' F2 N2 _
      dsimp only
      repeat' (first | walk1 | (dsimp only; walk1))
      exact Back.of (by assumption) rfl

end
section -- VG
section
variable {w : World} {A : Around} {E : Value → Shared → Prop} {s' : Shared} {base g g₂ h : Heap} {outer : List Env} {L e t : Addr} {m : Str → Option Value} {Q : Unit → Shared → Prop} {env : Env}
theorem frames_mem {b : Addr} (hf : env.frame = some L) (hm : b ∈ (env :: outer).filterMap (·.frame)) : b = L ∨ b ∈ outer.filterMap (·.frame) := by
  rw [List.filterMap_cons, hf] at hm
  exact List.mem_cons.mp hm
theorem leave_raiseX {M : Model} {cls : Value} {vs : List Value} (K : Below A base outer g) (hx : Heap.MadeExcOf h s'.heap e cls vs) (F : Fr g L h m) (hf : env.frame = some L) (hk : env.scope.kind = .function)
    (hQ : ∀ h' t, RaisedS base g outer e cls t vs [] h' → g.UpToSlots h' → Q () { s' with heap := h' }) :
    wpAny M (A.deeper env) (leaving env (.ref e)) Q E s' := by
  have K' := pushX K F hf hk
  have hin : ∀ env' ∈ (env :: outer), ∀ b, env'.frame = some b → b ∈ (env :: outer).filterMap (·.frame) := fun env' he b hb => List.mem_filterMap.mpr ⟨env', he, hb⟩
  have st : base.StaysIn (hideAll h ((env :: outer).filterMap (·.frame))) := fun b o q => hideAll_get _ (K'.stays b o q) fun hm => by
    rw [(K'.frames.mem hm).1] at q; cases q
  have sg : ∀ b o, g.get? b = some o → b ∉ outer.filterMap (·.frame) → (hideAll h ((env :: outer).filterMap (·.frame))).get? b = some o := fun b o q nm => hideAll_get _ (F.keep b o q) fun hm => by
    rcases frames_mem hf hm with z | z
    · rw [z, kts_self F] at q
      cases q
    · exact nm z
  exact wpAny_leaves_madeW K'.stack hf (fun b o q => of_hideAll _ q) (funFrames_hide K'.frames hin) hx fun h' t x1 x2 x3 x4 =>
    hQ h' t ⟨⟨_, st, sg, (fun _ hq => absurd hq List.not_mem_nil), x1, x3⟩, x2⟩ (((Heap.UpToSlots.of_keeps F.keep).trans (Heap.UpToSlots.of_keeps hx.keeps)).trans x4)
theorem ld_x {x : Str} {pos : Pos} {C : Addr} {bm : List Value} {newId : String} {mg : Str → Option Value} {h₀ : Heap} {s : Shared} {Q : Value → Shared → Prop} {M : Model} (F : Fr h₀ L s.heap m) (hg : h₀.Ns mainGlobals mg) (O : OwnCls x C bm newId mg h₀) (h : Q (.ref C) s)
    (hgl : env.globals = mainGlobals) (hk : env.scope.kind = .function) (hx : env.kindOf x = some .globalImplicit) (hd : (x == ("__debug__" : Str)) = false) :
    wpAny M A (eval (.Name x pos) env) Q E s :=
  Calls.Name_function_global hk hx (Calls.loadGlobal_global (env := env) (show s.heap.Ns env.globals mg from hgl ▸ hg.keeps F.keep) O.bound h) hd
theorem Raise_x {h₀ : Heap} {mg : Str → Option Value} {prog : Program} {x : Str} {C : Addr} {B newId initId : String} {bm : List Value} {np cpos pos : Pos} {s : Shared} {Q : Flow → Shared → Prop} {e₀ : Expr} {rest : List Expr} (F : Fr h₀ L s.heap m) (hg : h₀.Ns mainGlobals mg) (O : OwnCls x C bm newId mg h₀) (FB : ExcBaseFacts B newId initId bm) (hh : A.handled = none)
    (h : wpAny (model prog w) A (spliced (backTo cpos (starEach (e₀ :: rest) env))) (fun vs s₂ => vs.length ≤ sizeLine ∧ (∀ b o, h₀.get? b = some o → s₂.heap.get? b = some o) ∧
      ∀ h' e, Heap.MadeExcOf s₂.heap h' e (.ref C) vs → E (.ref e) { s₂ with heap := h' }) E s)
    (hgl : env.globals = mainGlobals)
    (he : starEach (e₀ :: rest) env = (false, eval e₀ env) :: starEach rest env)
    (hplain : (backTo cpos (starEach rest env)).any (·.1) = false)
    (hk : env.scope.kind = .function) (hx : env.kindOf x = some .globalImplicit) (hd : (x == ("__debug__" : Str)) = false) :
    wpAny (model prog w) A (exec (.Raise (some (.Call (.Name x np) (e₀ :: rest) [] cpos)) none pos) env) Q E s := by
  obtain ⟨tl, N, nm, q, bs, hdct, sn, sub, ab, col, dd, k0, k1, k2, k3, k5, mN, hC, hN, hni, T⟩ := O.obj
  refine wpAny_Raise_call_subT (C := C) (nm := nm) (q := q) (N := N) (bs := bs) (bm := tl) (hdct := hdct) (sn := sn) (sub := sub) (ab := ab) (col := col) (dd := dd) (k0 := k0) (k1 := k1) (k2 := k2) (k3 := k3) (k5 := k5)
    FB (mN := mN) (T.hasType FB.hasBase) hh (by rw [he]; show (false || (backTo cpos (starEach rest env)).any (·.1)) = false; rw [hplain]; rfl) hni (ld_x F hg O ⟨rfl, ?_⟩ hgl hk hx hd)
  rw [he] at h ⊢
  exact Calls.evalArgs_plain (wpAny_mono h (fun vs s₂ h₂ => ⟨rfl, h₂.1, h₂.2.1 _ _ hC, hN.keeps h₂.2.1, T.keeps h₂.2.1, h₂.2.2⟩) fun _ _ y => y)
end

end
section -- VH
theorem enterAt {w : World} {A : Around} {s : Shared} {R : Result → Shared → Prop} {name qual : Str} {params : Arguments} {body : List Stmt} {scope : Scope} {dV kV doc pm cdv ct oc : Value} {an od : Option Addr} {osl : Array (Option Value)} {f : Addr} {binds : List (Str × Value)} {cl : List (Str × Addr)} {n : Nat} {vals : List Value} {kw : List (Str × Value)} (W : World0 w s.heap) (r : Room (n + 1) A)
    (fits : Fits s (fr.heap_1 w.params) f ⟨vals, kw⟩ binds name qual params body scope cl dV kV doc pm an cdv ct oc od osl)
    (h : ∀ L h₁ loose mg mb, (fr.heap_1 w.params).In s.heap → TopRead V0 loose mg mb s.heap → Fr s.heap L h₁ (fun y => binds.reverse.lookup y) → News s.heap L h₁ [] → Room n (A.deeper (envX qual scope L f cdv cl)) →
      _root_.PySem.wpAt (model P0 w) (A.deeper (envX qual scope L f cdv cl)) (.func body (envX qual scope L f cdv cl)) (execs body (envX qual scope L f cdv cl))
        (fun fl s' => R (.ok (.ret (match fl with | .ret v => v | _ => .none))) s') (fun e s' => wpAny (model P0 w) (A.deeper (envX qual scope L f cdv cl)) (leaving (envX qual scope L f cdv cl) e) (fun _ s'' => R (.error e) s'') (fun e' s'' => R (.error e') s'') s') { s with heap := h₁, toks := s.toks + binds.length }) :
    codeAny (model P0 w) A (.call (.ref f) ⟨vals, kw⟩) R s := by
  obtain ⟨X, loose, mg, mb, T⟩ := W
  obtain ⟨ho, hcd, hbind, hloc, hcell, hco, hgen, hk⟩ := fits
  exact ks_codeAny_call_defAt (fd := fnX name qual params body scope cl dV kV doc pm an cdv ct) (body := body) (binds := binds) r.depth (X _ _ ho) rfl T.nolimit (codeRec_of X hcd) rfl hbind
    (fun x hx => of_decide_eq_true (List.all_eq_true.mp hcell x hx)) (locs hloc)
    (fun h₁ hns hk₁ => h s.heap.objs.size h₁ loose mg mb X T ⟨hns, hk₁, Nat.le_refl _⟩ News.nil (r.deeper _)) hco hgen hk
theorem meth_use {w : World} {A : Around} {s : Shared} {E : Value → Shared → Prop} {h₀ : Heap} {L q f : Addr} {x : Value} {m : Str → Option Value} {news : List (Addr × Obj)} {P : Value → Heap → Prop} {Q : Value → Shared → Prop} (N : News h₀ L s.heap news) (hm : (q, methodObj (.ref f) x) ∈ news) (F : Fr h₀ L s.heap m)
    (h : codeAny (model P0 w) A (.call (.ref f) ⟨[x], []⟩) (fun r s' => ∃ v, r = .ok (.ret v) ∧ Back s P v s') s)
    (k : ∀ v h' tk, Grows s.heap h' → Fr h₀ L h' m → News h₀ L h' news → P v h' → Q v { s with heap := h', toks := tk }) : wpAny (model P0 w) A (call (.ref q) []) Q E s := by
  refine call_meth N hm ?_
  refine codeAny_mono h ?_
  rintro _ s' ⟨v, rfl, h', tk, rfl, g, p⟩
  exact k v h' tk g (F.keeps g) (N.grown g) p
theorem ArgAt.grow {w : World} {h h' : Heap} {v : Value} (k : Grows h h') : ArgAt w h v → ArgAt w h' v
  | .inl ⟨a, n, d, t1, t2, e, K⟩ => .inl ⟨a, n, d, t1, t2, e, k _ _ K.o, k _ _ K.d⟩
  | .inr ⟨tap, l, K⟩ => .inr ⟨tap, l, K.grow k⟩
theorem args_get {w : World} {A : Around} {E : Value → Shared → Prop} {s : Shared} {h₀ : Heap} {L : Addr} {m : Str → Option Value} {mg mb : Str → Option Value} {loose : List Str} {C : Addr} {tap pl : Bool} {vs : List Value} {x dx T : Addr} {t1 t2 : Tok} {Q : Value → Shared → Prop} (hC : C = 1233 ∨ C = 1250 ∨ C = 1274 ∨ C = 1291) (F : Fr h₀ L s.heap m) (X : (fr.heap_1 w.params).In h₀) (Tp : TopRead V0 loose mg mb h₀) (M : IsMs w h₀ C tap vs x dx T t1 t2) (h : Q (.ref T) { s with toks := s.toks + 1 }) :
    wpAny (model P0 w) A (getAttr (.ref x) (PySem.Str.ofString "args") pl) Q E s := by
  obtain ⟨mo, md, mt⟩ := M
  rcases hC with rfl | rfl | rfl | rfl
  all_goals
    walk1
    exact h
theorem sub_ok {w : World} {C : Addr} (hC : C = 1233 ∨ C = 1250 ∨ C = 1274 ∨ C = 1291) : mroIn (fr.heap_1 w.params) C (.ref 1233) = some true := by
  rcases hC with rfl | rfl | rfl | rfl <;> k_is
theorem super_ok {w : World} {C : Addr} (hC : C = 1233 ∨ C = 1250 ∨ C = 1274 ∨ C = 1291) : ks_superIn (fr.heap_1 w.params) C 1233 (PySem.Str.ofString "verify") = some (some (.ref 1156)) := by
  rcases hC with rfl | rfl | rfl | rfl <;> ks_is
theorem share {H G : Prop} {n : Nat → Prop} (lem : H → ∀ tk, n tk) (main : (H → ∀ tk, n tk) → G) : G := main lem
theorem tok_anyV {α : Type} {M : Model} {A : Around} {t : Sem α} {Q : α → Shared → Prop} {E : Value → Shared → Prop} {s : Shared} {h : Heap} {tk : Nat} (H : ∀ tk', wpAny M A t Q E { s with heap := h, toks := tk' }) : wpAny M A t Q E { s with heap := h, toks := tk } := H tk
theorem verify_code {w : World} {A : Around} {s : Shared} {R : Result → Shared → Prop} {base : Heap} {outer : List Env} {C : Addr} {tap : Bool} {x dx T na nd : Addr} {t1 t2 n1 n2 : Tok} {need : Int} {ks : List Value} {ls : List (List UInt8)} (W : World0 w s.heap) (K : Below A base outer s.heap) (hC : C = 1233 ∨ C = 1250 ∨ C = 1274 ∨ C = 1291) (M : IsMs w s.heap C tap (.ref na :: ks) x dx T t1 t2)
    (NM : IsNum w s.heap na need nd n1 n2) (KS : Paired (KeyAt w s.heap tap) ks ls) (hz : 1 ≤ ls.length ∧ ls.length ≤ 4) (h0 : 0 ≤ need) (h1 : need ≤ 100) (r : Room 4 A)
    (hok : 1 ≤ need ∧ need ≤ ls.length → ∀ h' tk, Grows s.heap h' → R (.ok (.ret .none)) { s with heap := h', toks := tk })
    (hno : ¬ (1 ≤ need ∧ need ≤ ls.length) → ∀ e h' t vs tk, RaisedS base s.heap outer e (.ref 813) t vs [] h' → s.heap.UpToSlots h' → R (.error (.ref e)) { s with heap := h', toks := tk }) :
    codeAny (model P0 w) A (.call (.ref 1230) ⟨[.ref x], []⟩) R s := by
  refine' enterAt (binds := [(Str.ofString "self", .ref x)]) W r ?fits ?_
  case fits => ((refine' Fits.mk ?ho ?hcd ?hbind ?hloc ?hcell ?hco ?hgen ?hk; (case ho => k_is); (case hcd => k_is); (case hbind => first | exact BindsTo.of_eq rfl | exact binds_K (World0.X (by assumption)) rfl (by k_is) rfl rfl rfl); (case hloc => rfl); (case hcell => rfl); (case hco => rfl); (case hgen => rfl); (case hk => rfl)))
  intro L h₁ loose mg mb KX Tp F N rr
  have M' := M
  have AA := args_at NM KS
  obtain ⟨mo, md, mt⟩ := M
  obtain ⟨no, nd'⟩ := NM
  have hn : (Value.ref na :: ks).length = ls.length + 1 := by rw [List.length_cons, KS.length]
  repeat' (first | (ks_step "execs cons"; refine ks_wpAt_execs_cons ?_) | (ks_step "exec Expr"; refine ks_wpAt_Expr_any ?_) | (ks_step "eval Call"; refine ks_wpAt_MethodCall ?_) | ((with_reducible show wpAny _ _ (getMethod (Value.ref _) _ _) _ _ _); (with_reducible ((k_here; ks_any; k_dflt (refine' ks_method ?zzk1 ?zzk2 ?zzk3 ?zzk4 ?zzk5 ?zzk6 ?zzk7 ?zzk8 ?zzk9 ?_; (case zzk1 => k_asm); (case zzk2 => k_asm); (case zzk3 => k_asm); (case zzk4 => k_mem); (case zzk5 => k_inst); (case zzk6 => k_is); (case zzk7 => exact super_ok (by with_reducible assumption)); (case zzk8 => k_is); (case zzk9 => decide); intro q' h' F' N' l1; (try k_lt l1)))))) | (skip; (with_reducible ((ks_step "attributeBase Call"; k_here; k_dflt (refine super_node (by k_asm) (by k_asm) (by k_asm) (by k_asm) (by k_is) (by rfl) (by rfl) (by k_inst) (by k_is) (by rfl) (by first | rfl | decide +kernel) (by k_is) (by k_is) (by exact sub_ok (by with_reducible assumption)) (by k_is) (by decide) (by rfl) (by rfl) (by rfl) (by rfl) (by decide +kernel) (by first | boot_by_name | rfl | kernel_rfl) ?_; intro so' h' F' N' l1 g'; (try k_lt l1)))))) | walk1 | (dsimp only; walk1))
  rename Fr _ _ _ _ => F1
  rename News _ _ _ _ => N1
  refine' meth_use N1 (.head _) F1 (mverify_code (World0.now F1 KX Tp) hC (M'.grow F1.keep) (fun v hv => (AA v hv).grow F1.keep) (Room.le rr (by decide))) ?_
  rintro _ h' tk g' F2 N2 rfl
  (try clear F1 N1)
  apply share (H := ¬ (1 ≤ need ∧ need ≤ (ls.length : Int)))
  case main =>
    intro HR
    repeat' (first | ((with_reducible show wpAny _ _ (exec (Stmt.Raise _ _ _) _) _ _ _); refine Stop.go ?_) | ((with_reducible show wpAny _ _ (call (Value.builtin "len") _ _) _ _ _); (with_reducible ((k_here; k_dflt (refine' tlen ?zzh ?zze ?zzz ?_; (case zzh => exact Fr.keep (by assumption) _ _ (by with_reducible assumption)); (case zze => assumption); (case zzz => (first | lia | omega))); intro t' k')))) | ((with_reducible show wpAny _ _ (getAttr (Value.ref _) _ _) _ _ _); (with_reducible ((refine' args_get ?zzhC ?zzF ?zzX ?zzTp ?zzM ?_; (case zzM => with_reducible assumption); (case zzhC => with_reducible assumption); (case zzF => k_asm); (case zzX => k_asm); (case zzTp => k_asm))))) | ((with_reducible show wpAny _ _ (subscriptTail _ _ _ _) _ _ _); (with_reducible ((k_here; (with_reducible show wpAny _ _ (subscriptTail _ _ (Value.ref _) (Value.int 0 _)) _ _ _); k_dflt (refine' titem (k := 0) ?zzht ?zzhj ?zzhx ?_; (case zzht => (first | exact Fr.keep (by assumption) _ _ (by with_reducible assumption))); (case zzhj => decide); (case zzhx => rfl)))))) | walk1 | (dsimp only; walk1))
    · unfold Stop
      refine tok_anyV (s := s) ?_
      exact HR (by lia)
    · unfold Stop
      refine tok_anyV (s := s) ?_
      exact HR (by lia)
    · exact hok (by (first | lia | omega)) _ _ (Fr.keep (by assumption))
  intro hneg tk2
  repeat' (first | ((with_reducible show wpAny _ _ (exec (Stmt.Raise _ _ _) _) _ _ _); (with_reducible ((k_here; k_dflt (refine' Raise_x ?zzF ?zzg ?zzO PySem.F.excBase_Exception ?zzh ?_ ?zzgl ?zza ?zzb ?zzc ?zzd ?zze; (case zzF => k_asm); (case zzg => exact TopRead.g (by k_asm)); (case zzO => exact own_of_in (by k_asm) (by k_asm) (by k_is) (by k_exc)); (case zzh => exact (show Room _ _ by assumption).1); (case zzgl => rfl); (case zza => rfl); (case zzb => rfl); (case zzc => rfl); (case zzd => rfl); (case zze => decide)))))) | ((with_reducible show wpAny _ _ (call (Value.builtin "len") _ _) _ _ _); (with_reducible ((k_here; k_dflt (refine' tlen ?zzh ?zze ?zzz ?_; (case zzh => exact Fr.keep (by assumption) _ _ (by with_reducible assumption)); (case zze => assumption); (case zzz => (first | lia | omega))); intro t' k')))) | ((with_reducible show wpAny _ _ (getAttr (Value.ref _) _ _) _ _ _); (with_reducible ((refine' args_get ?zzhC ?zzF ?zzX ?zzTp ?zzM ?_; (case zzM => with_reducible assumption); (case zzhC => with_reducible assumption); (case zzF => k_asm); (case zzX => k_asm); (case zzTp => k_asm))))) | ((with_reducible show wpAny _ _ (subscriptTail _ _ _ _) _ _ _); (with_reducible ((k_here; (with_reducible show wpAny _ _ (subscriptTail _ _ (Value.ref _) (Value.int 0 _)) _ _ _); k_dflt (refine' titem (k := 0) ?zzht ?zzhj ?zzhx ?_; (case zzht => (first | exact Fr.keep (by assumption) _ _ (by with_reducible assumption))); (case zzhj => decide); (case zzhx => rfl)))))) | walk1 | (dsimp only; walk1))
  · exact leave_raiseX K (by assumption) (by assumption) rfl rfl fun h' t R' U' => hno hneg _ _ _ _ _ R' U'

end
section -- VL
theorem enterR {w : World} {A : Around} {s : Shared} {R : Result → Shared → Prop} {name qual : Str} {params : Arguments} {body : List Stmt} {scope : Scope} {dV kV doc pm cdv ct oc : Value} {an od : Option Addr} {osl : Array (Option Value)} {f : Addr} {binds : List (Str × Value)} {cl : List (Str × Addr)} {n : Nat} {vals : List Value} {kw : List (Str × Value)} (W : World0 w s.heap) (r : Room (n + 1) A)
    (fits : Fits s (fr.heap_1 w.params) f ⟨vals, kw⟩ binds name qual params body scope cl dV kV doc pm an cdv ct oc od osl)
    (h : ∀ L h₁ loose mg mb, (fr.heap_1 w.params).In s.heap → TopRead V0 loose mg mb s.heap → Fr s.heap L h₁ (fun y => binds.reverse.lookup y) → News s.heap L h₁ [] → Room n (A.deeper (envX qual scope L f cdv cl)) →
      wpAny (model P0 w) (A.deeper (envX qual scope L f cdv cl)) (execs body (envX qual scope L f cdv cl))
        (fun fl s' => R (.ok (.ret (match fl with | .ret v => v | _ => .none))) s') (fun e s' => wpAny (model P0 w) (A.deeper (envX qual scope L f cdv cl)) (leaving (envX qual scope L f cdv cl) e) (fun _ s'' => R (.error e) s'') (fun e' s'' => R (.error e') s'') s') { s with heap := h₁, toks := s.toks + binds.length }) :
    codeAny (model P0 w) A (.call (.ref f) ⟨vals, kw⟩) R s := by
  obtain ⟨X, loose, mg, mb, T⟩ := W
  obtain ⟨ho, hcd, hbind, hloc, hcell, hco, hgen, hk⟩ := fits
  exact codeAny_call_def (fd := fnX name qual params body scope cl dV kV doc pm an cdv ct) (body := body) (binds := binds) r.depth (X _ _ ho) rfl T.nolimit (codeRec_of X hcd) rfl hbind
    (fun x hx => of_decide_eq_true (List.all_eq_true.mp hcell x hx)) (locs hloc)
    (fun h₁ hns hk₁ => h s.heap.objs.size h₁ loose mg mb X T ⟨hns, hk₁, Nat.le_refl _⟩ News.nil (r.deeper _)) hco hgen hk
theorem verify_get {w : World} {A : Around} {E : Value → Shared → Prop} {s : Shared} {h₀ : Heap} {L : Addr} {m : Str → Option Value} {mg mb : Str → Option Value} {loose : List Str} {C : Addr} {tap : Bool} {pl : Sem Bool} {vs : List Value} {x dx T : Addr} {t1 t2 : Tok} {Q : Value × List Value → Shared → Prop} (hC : C = 1233 ∨ C = 1250 ∨ C = 1274 ∨ C = 1291) (F : Fr h₀ L s.heap m) (X : (fr.heap_1 w.params).In h₀) (Tp : TopRead V0 loose mg mb h₀) (M : IsMs w h₀ C tap vs x dx T t1 t2) (h : Q (.ref 1230, [.ref x]) s) :
    wpAny (model P0 w) A (getMethod (.ref x) (PySem.Str.ofString "verify") pl) Q E s := by
  obtain ⟨mo, md, mt⟩ := M
  rcases hC with rfl | rfl | rfl | rfl
  all_goals
    walk1
    exact h
theorem let_spec {w : World} {A : Around} {s : Shared} {E : Value → Shared → Prop} {Q : Value → Shared → Prop} {base : Heap} {outer : List Env} {loose : List Str} {mean : ExcName → Option Value} {mg mb : Str → Option Value} {sort tap : Bool} {need : Int} {ls : List (List UInt8)} {v : Value} (W : World0 w s.heap) (K : Below A base outer s.heap) (XB : (fr.heap_1 w.params).In base) (TB : Top V0 loose mean mg mb base) (D : KtsDicts (outer.filterMap (·.frame)) s.heap)
    (M : Made w s.heap (clsOf sort tap) tap need ls v) (hz : 1 ≤ ls.length ∧ ls.length ≤ 4) (h0 : 0 ≤ need) (h1 : need ≤ 100) (r : Room 6 A)
    (k : ∀ h' g' tk, KtsTurn (outer.filterMap (·.frame)) s.heap g' → Grows g' h' → Q (.bool (decide (1 ≤ need ∧ need ≤ (ls.length : Int)))) { s with heap := h', toks := tk }) :
    wpAny (model P0 w) A (call (.ref 1456) [v]) Q E s := by
  obtain ⟨na, nd, n1, n2, ks, ⟨x, dx, T, t1, t2, rfl, MS⟩, NM, KS⟩ := M
  refine wpAny_call ?_
  refine' enterR (binds := [(Str.ofString "made", .ref x)]) W r ?fits ?_
  case fits => ((refine' Fits.mk ?ho ?hcd ?hbind ?hloc ?hcell ?hco ?hgen ?hk; (case ho => k_is); (case hcd => k_is); (case hbind => first | exact BindsTo.of_eq rfl | exact binds_K (World0.X (by assumption)) rfl (by k_is) rfl rfl rfl); (case hloc => rfl); (case hcell => rfl); (case hco => rfl); (case hgen => rfl); (case hk => rfl)))
  intro L h₁ loose2 mg2 mb2 KX Tp F N rr
  have MS' := MS
  obtain ⟨mo, md, mt⟩ := MS
  have hC : clsOf sort tap = 1233 ∨ clsOf sort tap = 1250 ∨ clsOf sort tap = 1274 ∨ clsOf sort tap = 1291 := by cases sort <;> cases tap <;> simp [clsOf]
  generalize clsOf sort tap = C at *
  refine wpAny_execs_cons ?_
  refine wpAny_Try_except ?_
  repeat' (first | ((with_reducible show wpAny _ _ (getMethod (Value.ref _) _ _) _ _ _); (with_reducible ((refine' verify_get ?zzhC ?zzF ?zzX ?zzTp ?zzM ?_; (case zzM => with_reducible assumption); (case zzhC => with_reducible assumption); (case zzF => k_asm); (case zzX => k_asm); (case zzTp => k_asm))))) | walk1 | (dsimp only; walk1))
  rename Fr _ _ _ _ => F1
  refine wpAny_call (verify_code (World0.now F1 KX Tp) (pushX K F1 rfl rfl) hC (MS'.grow F1.keep) ⟨F1.keep _ _ NM.o, F1.keep _ _ NM.d⟩ (KS.mono fun _ _ q => q.grow F1.keep) hz h0 h1 (Room.le rr (by decide)) ?ok ?no)
  case ok =>
    intro hv h' tk g
    have F2 := F1.keeps g
    have N2 : News s.heap L h' [] := News.nil
    (try clear F1)
    repeat' (first | walk1 | (dsimp only; walk1))
    have q := k h' s.heap tk KtsTurn.refl F2.keep
    rw [decide_eq_true hv] at q
    exact q
  case no =>
    intro hv e h' t vs tk R U
    dsimp only
    refine caught_SO0 (KF := fr.heap_1 w.params) (C := 813) R F1 K U XB TB D KtsTurn.refl (by k_is) (by kts_isx) ?_ rfl rfl (by decide) ?hE
    case hE => passes_own
    intro h4 g4 news2 T4 F4 N4 G4 N5 K4 X4 TB4 D4
    (try clear F1)
    repeat' (first | walk1 | (dsimp only; walk1))
    have q := k h4 g4 tk T4 F4.keep
    rw [decide_eq_false hv] at q
    exact q

end
section -- LX
/-! what the law's own walk wants -/
theorem src_rangeB {w : World} {A : Around} {s₁ : Shared} {r : Addr} {b : Int} {t u v : Tok} {n : Nat} (hh : A.handled = none) (hr : IsRange s₁.heap r 0 b 1 t u v) (hsm : Builtin.Range.small 0 b 1 = true) (hn : Builtin.Range.rangeSize 0 b 1 = ((n : Nat) : Int)) :
    Src w A n (fun i v => i < n ∧ ∃ t, v = .int (i : Int) t) (.ref r) s₁ := by
  intro Q E k
  refine src_range (n := n) hh hr hsm hn Q E fun I h' tk fp St g1 g2 g3 g4 W st g5 => ?_
  refine k I h' tk fp St g1 g2 g3 g4 ⟨W.sub, W.frame, fun i s Q E hi hs hQ => W.item i s Q E hi hs fun v h'' tk'' ⟨t, e⟩ st' kk => hQ v h'' tk'' ⟨hi, t, ?_⟩ st' kk, W.done, W.self⟩ st g5
  rw [e]; congr 1; (first | lia | omega)
theorem cells5 {f : Str → Option Value} {L : Nat} {cells : List (Addr × Obj)} (Y : CellsAre f [(PySem.Str.ofString "more", L + 1 + 1 + 1 + 1), (PySem.Str.ofString "laid", L + 1 + 1 + 1), (PySem.Str.ofString "need", L + 1 + 1), (PySem.Str.ofString "tap", L + 1), (PySem.Str.ofString "script", L)] cells) :
    ∃ oM oL oN oT oS : Obj, cells = [(L + 1 + 1 + 1 + 1, oM), (L + 1 + 1 + 1, oL), (L + 1 + 1, oN), (L + 1, oT), (L, oS)] ∧ oM.data = .cell (f (PySem.Str.ofString "more")) ∧ oL.data = .cell (f (PySem.Str.ofString "laid")) ∧ oN.data = .cell (f (PySem.Str.ofString "need")) ∧ oT.data = .cell (f (PySem.Str.ofString "tap")) ∧ oS.data = .cell (f (PySem.Str.ofString "script")) := by
  k_cells Y
  exact ⟨_, _, _, _, _, rfl, by assumption, by assumption, by assumption, by assumption, by assumption⟩
theorem cell_ne {h₀ h : Heap} {L c D : Addr} {news : List (Addr × Obj)} {o o' : Obj} {v : Option Value} (N : News h₀ L h news) (hc : (c, o) ∈ news) (hD : (D, o') ∈ news) (d : o.data = .cell v) (d' : ∀ v, o'.data ≠ .cell v) : D ≠ c := by
  rintro rfl
  have a := (N _ hc).1
  have b := (N _ hD).1
  rw [show h.get? D = some o from a] at b
  cases b
  exact d' _ d
def Rows33 (ls : List (List UInt8)) (n : Nat) : Prop := ls.length = n ∧ ∀ l ∈ ls, l.length = 33
theorem rows_of {us ys : List Value} (p : Paired (fun _ y => ∃ l, IsB y l ∧ l.length = 33) us ys) : ∃ ls, Paired IsB ys ls ∧ Rows33 ls us.length := by
  induction p with
  | nil => exact ⟨[], .nil, rfl, by simp⟩
  | cons h _ ih =>
    obtain ⟨l, hl, h33⟩ := h
    obtain ⟨ls, a, b, c⟩ := ih
    refine ⟨l :: ls, .cons hl a, by rw [List.length_cons, b, List.length_cons], ?_⟩
    intro x hx
    rcases List.mem_cons.mp hx with rfl | hx
    · exact h33
    · exact c x hx

end
section -- LX2
theorem tok_any {α : Type} {M : Model} {A : Around} {t : Sem α} {Q : α → Shared → Prop} {E : Value → Shared → Prop} {s : Shared} {h : Heap} {tk : Nat} (H : ∀ tk', wpAny M A t Q E { s with heap := h, toks := tk' }) : wpAny M A t Q E { s with heap := h, toks := tk } := H tk
theorem range_small {n : Nat} (h : n ≤ 4) : Builtin.Range.small 0 (n : Int) 1 = true ∧ Builtin.Range.rangeSize 0 (n : Int) 1 = (n : Int) := by
  have : n = 0 ∨ n = 1 ∨ n = 2 ∨ n = 3 ∨ n = 4 := by (first | lia | omega)
  rcases this with rfl | rfl | rfl | rfl | rfl <;> exact ⟨by decide, by decide⟩
theorem cnt_nat (k : Int) : ∃ n : Nat, 1 + Int.fmod k 4 = (n : Int) ∧ 1 ≤ n ∧ n ≤ 4 := by
  have a := Int.fmod_nonneg_of_pos k (show (0 : Int) < 4 by decide)
  have b := Int.fmod_lt_of_pos k (show (0 : Int) < 4 by decide)
  exact ⟨(1 + Int.fmod k 4).toNat, by (first | lia | omega), by (first | lia | omega), by (first | lia | omega)⟩
open PySem.Builtin.Int (intBits) in
theorem num_bits {ns : List Int} {p k : Int} (h : PyData.layable0 (.list (ns.map .int)) = true) (h0 : 0 ≤ p) (h1 : p < 100) (k0 : 0 ≤ k) (k1 : k ≤ 100) : intBits (num ns p * 31 + 1 + k) ≤ 2000000 := by
  have b : intBits (if ns.length = 0 then 0 else ns.getD (Int.fmod p ns.length).toNat 0) ≤ 1048576 := by
    split
    · exact intBits_le_iff.mpr (by rw [Int.natAbs_zero]; exact Nat.two_pow_pos _)
    · exact bits_getD h
  unfold num
  generalize (if ns.length = 0 then 0 else ns.getD (Int.fmod p ns.length).toNat 0) = x at b ⊢
  have b7 : intBits (7 * p) ≤ 10 := intBits_le_iff.mpr (by (first | lia | omega))
  have bk : intBits k ≤ 10 := intBits_le_iff.mpr (by (first | lia | omega))
  have b31 : intBits (31 : Int) ≤ 10 := intBits_le_iff.mpr (by decide)
  have b1 : intBits (1 : Int) ≤ 10 := intBits_le_iff.mpr (by decide)
  have s1 : intBits (x + 7 * p) ≤ 1048577 := bits_add b b7
  have s2 : intBits ((x + 7 * p) * 31) ≤ 1048587 := bits_mul s1 b31
  have s3 : intBits ((x + 7 * p) * 31 + 1) ≤ 1048588 := bits_add s2 b1
  have s4 : intBits ((x + 7 * p) * 31 + 1 + k) ≤ 1048589 := bits_add s3 bk
  (first | lia | omega)

end
section -- LX3
section
variable {w : World} {A : Around} {E : Value → Shared → Prop} {s : Shared} {h₀ : Heap} {L l : Addr} {m : Str → Option Value} {news : List (Addr × Obj)} {us : Array Value} {ms : List (List UInt8)} {u : Tok} {k : Int} {value slice : Expr} {Q : Value → Shared → Prop}
theorem bitem (hl : s.heap.IsList l us) (hb : Paired IsB us.toList ms) (h0 : 0 ≤ k) (h1 : k < (ms.length : Int)) (h9 : ms.length ≤ 1000) (h : ∀ t, Q (.bytes ⟨ms.getD k.toNat []⟩ t) s)
    (hs : subscripted slice false (.ref l) (.int k u) = operate [.ref l, .int k u] (getItem (.ref l) (.int k u)) := by with_unfolding_all rfl) :
    wpAny (model P0 w) A (subscriptTail value slice (.ref l) (.int k u)) Q E s := by
  obtain ⟨t, e⟩ := paired_get hb (i := k.toNat) (by rw [hb.length]; (first | lia | omega))
  exact item_litK (vs := us.toList) hl h0 (by (first | lia | omega)) e (h t) hs
theorem set_head {D : Addr} {its : Array Value} {c : Nat} {t : Tok} {b : List UInt8} {v : Value} {ls : List (List UInt8)} {cells : List (Addr × Obj)} {Q : Unit → Shared → Prop} (F : Fr h₀ L s.heap m) (N : News h₀ L s.heap ((D, PySem.W.listOf its c) :: cells)) (hc : ∀ p ∈ cells, p.1 ≠ D) (hb : Paired IsB its.toList ls) (h1 : 1 ≤ ls.length) (hv : IsB v b)
    (h : ∀ h' ys, Fr h₀ L h' m → News h₀ L h' ((D, PySem.W.listOf ys c) :: cells) → Paired IsB ys.toList (b :: ls.drop 1) → Q () { s with heap := h' }) : wpAny (model P0 w) A (setItem (.ref D) (.int 0 t) v) Q E s := by
  obtain ⟨il⟩ := its
  cases hb' : (show Paired IsB il ls from hb) with
  | nil => simp at h1
  | cons x r =>
    refine ki_set F N (by decide) (by decide) (show ki_setL (_ :: _) 0 v = some _ from rfl) (.head hc) fun h' F' N' => ?_
    exact h h' _ F' N' (.cons hv r)
end
theorem rows_set {ls : List (List UInt8)} {n : Nat} {b : List UInt8} (R : Rows33 ls n) (h1 : 1 ≤ n) (hb : b.length = 33) : Rows33 (b :: ls.drop 1) n := by
  refine ⟨by rw [List.length_cons, List.length_drop, R.1]; (first | lia | omega), fun l hl => ?_⟩
  rcases List.mem_cons.mp hl with rfl | hl
  · exact hb
  · exact R.2 l (List.mem_of_mem_drop hl)
theorem rows_getD {ls : List (List UInt8)} {n i : Nat} (R : Rows33 ls n) (hi : i < n) : (ls.getD i []).length = 33 := by
  have h : i < ls.length := by rw [R.1]; exact hi
  rw [List.getD_eq_getElem?_getD, List.getElem?_eq_getElem h]
  exact R.2 _ (List.getElem_mem h)
theorem join_rows {w : World} {A : Around} {E : Value → Shared → Prop} {Q : Flow → Shared → Prop} {s s₁ : Shared} {env : Env} {h₀ : Heap} {L D : Addr} {m : Str → Option Value} {cells : List (Addr × Obj)} {ys : Array Value} {c n : Nat} {st : Stmt} {rest : List Stmt}
    (F : Fr h₀ L s₁.heap m) (N : News h₀ L s₁.heap ((D, PySem.W.listOf ys c) :: cells))
    (hst : ∀ Q' : Flow → Shared → Prop, (∀ h' tk ys' c' ls', Fr h₀ L h' m → News h₀ L h' ((D, PySem.W.listOf ys' c') :: cells) → Paired IsB ys'.toList ls' → Rows33 ls' n → Q' .next { s with heap := h', toks := tk }) → wpAny (model P0 w) A (exec st env) Q' E s₁)
    (k : ∀ h' tk ys' c' ls', Fr h₀ L h' m → News h₀ L h' ((D, PySem.W.listOf ys' c') :: cells) → Paired IsB ys'.toList ls' → Rows33 ls' n → wpAny (model P0 w) A (execs rest env) Q E { s with heap := h', toks := tk }) :
    wpAny (model P0 w) A (execs (st :: rest) env) Q E s₁ := wpAny_execs_cons (hst _ k)
theorem use_new {w : World} {A : Around} {s : Shared} {E : Value → Shared → Prop} {t : Sem Value} {P : Array Value → List (List UInt8) → Prop} {Q : Value → Shared → Prop} {h₀ : Heap} {L : Addr} {m : Str → Option Value} {news : List (Addr × Obj)}
    (h : wpAny (model P0 w) A t (Back s (fun v h => ∃ D' c ys ms, v = .ref D' ∧ h.get? D' = some (PySem.W.listOf ys c) ∧ s.heap.get? D' = none ∧ P ys ms)) E s) (F : Fr h₀ L s.heap m) (N : News h₀ L s.heap news)
    (k : ∀ D' c ys ms h' tk, Grows s.heap h' → Fr h₀ L h' m → News h₀ L h' ((D', PySem.W.listOf ys c) :: news) → P ys ms → Q (.ref D') { s with heap := h', toks := tk }) : wpAny (model P0 w) A t Q E s := by
  refine wpAny_mono h ?_ fun _ _ x => x
  rintro v s' ⟨h', tk, rfl, g, D', c, ys, ms, rfl, e, n, p⟩
  refine k D' c ys ms h' tk g (F.keeps g) (fun q hq => ?_) p
  rcases List.mem_cons.mp hq with rfl | hq
  · refine ⟨e, ?_, ?_⟩
    · rintro rfl
      obtain ⟨o, _, _, e', _⟩ := F.ns
      rw [e'] at n; cases n
    · cases z : h₀.get? D' with
      | none => rfl
      | some o => have := F.keep _ o z; rw [n] at this; cases this
  · exact ⟨g _ _ (N q hq).1, (N q hq).2⟩

end
section -- LY
/-! sorted of pairs of octets -/
section
open Builtin Builtin.Bytes
theorem gives_blt (b c : List UInt8) (t u : Tok) : PySem.Gives (Builtin.«bytes.__lt__» ⟨[.bytes ⟨b⟩ t, .bytes ⟨c⟩ u], []⟩) (.val (.bool (blt b c))) := by
  refine .of_wp fun M A E s Q hq => ?_
  show wpAny _ _ (isInstance (.bytes ⟨c⟩ u) (.type "bytes") >>= fun r => _) _ _ s
  refine wpAny_bind (wpAny_isInstance (typeIs_bytes s _ u) PySem.F.sub_bytes_bytes ?_)
  exact wpAny_pure ⟨_, rfl, hq⟩
end
section
variable {prog : Program} {w : World} {A : Around} {E : Value → Shared → Prop} {s : Shared}
theorem lt_bytes {b c : List UInt8} {t u : Tok} {Q : Value → Shared → Prop} (h : Q (.bool (blt b c)) s) : wpAny (model prog w) A (compareOp .Lt (.bytes ⟨b⟩ t) (.bytes ⟨c⟩ u)) Q E s :=
  compareOp_gives (op := .Lt) (typeIs_bytes s ⟨b⟩ t) (typeIs_bytes s ⟨c⟩ u) slot_blt entry_blt (args_blt _ _) (gives_blt b c t u) (fun e => nomatch e) h
end
abbrev Pr := List UInt8 × List UInt8
noncomputable def plt (p q : Pr) : Bool := if p.1 = q.1 then blt p.2 q.2 else blt p.1 q.1
theorem plt_irr (p : Pr) : plt p p = false := by unfold plt; rw [if_pos rfl]; exact blt_irr _
theorem blt_ne {a b : List UInt8} (h : blt a b = true) : a ≠ b := by rintro rfl; rw [blt_irr] at h; cases h
theorem plt_tr (a b c : Pr) (x : plt a b = true) (y : plt b c = true) : plt a c = true := by
  unfold plt at *
  by_cases e1 : a.1 = b.1
  · rw [if_pos e1] at x
    by_cases e2 : b.1 = c.1
    · rw [if_pos e2] at y
      rw [if_pos (e1.trans e2)]
      exact blt_tr _ _ _ x y
    · rw [if_neg e2] at y
      rw [if_neg (by rw [e1]; exact e2), e1]
      exact y
  · rw [if_neg e1] at x
    by_cases e2 : b.1 = c.1
    · rw [if_neg (by rw [← e2]; exact e1), ← e2]
      exact x
    · rw [if_neg e2] at y
      have z := blt_tr _ _ _ x y
      rw [if_neg (blt_ne z)]
      exact z
theorem plt_anti (a b : Pr) (x : plt a b = false) (y : plt b a = false) : a = b := by
  unfold plt at *
  by_cases e1 : a.1 = b.1
  · rw [if_pos e1] at x
    rw [if_pos e1.symm] at y
    exact Prod.ext e1 (blt_anti _ _ x y)
  · rw [if_neg e1] at x
    rw [if_neg (Ne.symm e1)] at y
    exact absurd (blt_anti _ _ x y) e1
theorem plt_tot (a b c : Pr) (x : plt a b = false) (y : plt b c = false) : plt a c = false := by
  cases q : plt a c with
  | false => rfl
  | true =>
    have n1 : a ≠ b := by
      rintro rfl
      rw [q] at y; cases y
    have t : plt b a = true := by
      cases z : plt b a with
      | true => rfl
      | false => exact absurd (plt_anti a b x z) n1
    rw [plt_tr _ _ _ t q] at y; cases y
noncomputable abbrev psort (ps : List Pr) : List Pr := srt plt ([], []) ps
theorem psort_ok {ps : List Pr} (h1 : 1 ≤ ps.length) (h4 : ps.length ≤ 4) : kasIn ps.length (fun i j => plt (ps.getD i ([], [])) (ps.getD j ([], []))) (kas_sort ps.length) = true ∧ (psort ps).Perm ps ∧ (psort ps).Pairwise (fun a b => plt b a = false) ∧ ∀ i ∈ (kasRun (fun i j => plt (ps.getD i ([], [])) (ps.getD j ([], []))) (kas_sort ps.length)).toList, i < ps.length :=
  srt_ok (lt := plt) plt_irr plt_tr plt_tot ([], []) h1 h4
def PairIn (tups : List (Addr × Obj)) (v : Value) (p : Pr) : Prop := ∃ T t1 t2, v = .ref T ∧ (T, tupObj [.bytes ⟨p.1⟩ t1, .bytes ⟨p.2⟩ t2]) ∈ tups
theorem pairedP_get {tups : List (Addr × Obj)} {vs : List Value} {ps : List Pr} (hb : Paired (PairIn tups) vs ps) {i : Nat} (hi : i < vs.length) : ∃ v, vs[i]? = some v ∧ PairIn tups v (ps.getD i ([], [])) := by
  induction hb generalizing i with
  | nil => simp at hi
  | cons h _ ih =>
    cases i with
    | zero => exact ⟨_, rfl, h⟩
    | succ i => obtain ⟨v, e, q⟩ := ih (i := i) (by simpa using hi); exact ⟨v, by simpa using e, by simpa using q⟩
theorem pairedP_pick {tups : List (Addr × Obj)} {vs : List Value} {ps : List Pr} (hb : Paired (PairIn tups) vs ps) : ∀ (p : List Nat), (∀ i ∈ p, i < vs.length) → Paired (PairIn tups) (p.map fun i => vs.getD i .none) (p.map fun i => ps.getD i ([], []))
  | [], _ => .nil
  | i :: r, h => .cons (by
      obtain ⟨v, e, q⟩ := pairedP_get hb (h i (.head _))
      show PairIn tups (vs.getD i .none) _
      rw [List.getD_eq_getElem?_getD, e]; exact q) (pairedP_pick hb r fun j hj => h j (.tail _ hj))
section
variable {prog : Program} {w : World} {A : Around} {E : Value → Shared → Prop} {s : Shared} {h₀ : Heap} {L l : Addr} {m : Str → Option Value} {tups news : List (Addr × Obj)} {vs : List Value} {ps : List Pr}
theorem katTups_of {h : Heap} (hg : ∀ p ∈ tups, h.get? p.1 = some p.2) (hb : Paired (PairIn tups) vs ps) : ∃ fs, KatTups h vs fs ∧ fs.length = vs.length ∧ ∀ v ∈ fs, ∃ b t, v = Value.bytes b t := by
  induction hb with
  | nil => exact ⟨[], .nil, rfl, by simp⟩
  | cons x _ ih =>
    obtain ⟨T, t1, t2, rfl, hm⟩ := x
    obtain ⟨fs, a, b, c⟩ := ih
    refine ⟨_ :: fs, .cons (hg _ hm) rfl rfl rfl a, by rw [List.length_cons, List.length_cons, b], ?_⟩
    intro v hv
    rcases List.mem_cons.mp hv with rfl | hv
    · exact ⟨_, _, rfl⟩
    · exact c v hv
theorem pair_lt {x y : Value} {p q : Pr} {Q : Bool → Shared → Prop} (hg : ∀ p ∈ tups, s.heap.get? p.1 = some p.2) (hx : PairIn tups x p) (hy : PairIn tups y q) (h : Q (plt p q) s) : wpAny (model prog w) A (keyLt' (tuples' true) x y) Q E s := by
  obtain ⟨T1, t1, t2, rfl, m1⟩ := hx
  obtain ⟨T2, u1, u2, rfl, m2⟩ := hy
  refine kat_lt (hg _ m1) rfl (hg _ m2) rfl ?_
  show KatLex prog w A true (decide (2 < 2)) Q [(.bytes ⟨p.1⟩ t1, .bytes ⟨q.1⟩ u1), (.bytes ⟨p.2⟩ t2, .bytes ⟨q.2⟩ u2)] 0 s
  refine kat_cons (eqat_bytes p.1 q.1 t1 u1 prog w _ _ ?_)
  by_cases e1 : p.1 = q.1
  · rw [decide_eq_true e1]
    refine kat_yes (kat_cons (eqat_bytes p.2 q.2 t2 u2 prog w _ _ ?_))
    unfold plt at h
    rw [if_pos e1] at h
    by_cases e2 : p.2 = q.2
    · rw [decide_eq_true e2]
      refine kat_yes (kat_nil ?_)
      rw [e2, blt_irr] at h
      exact h
    · rw [decide_eq_false e2]
      refine kat_no (kat_one _ _ (lt_bytes h))
  · rw [decide_eq_false e1]
    unfold plt at h
    rw [if_neg e1] at h
    exact kat_no (oneLt_bytes h)
theorem sorted_pairs {Q : Value → Shared → Prop} (F : Fr h₀ L s.heap m) (N : News h₀ L s.heap news) (ht : ∀ p ∈ tups, p ∈ news) (hl : s.heap.IsList l vs.toArray) (hb : Paired (PairIn tups) vs ps) (h1 : 1 ≤ vs.length) (h4 : vs.length ≤ 4)
    (h : ∀ D h' c (out : Array Value), Fr h₀ L h' m → News h₀ L h' ((D, PySem.W.listOf out c) :: news) → Paired (PairIn tups) out.toList (psort ps) → Q (.ref D) { s with heap := h' }) :
    wpAny (model prog w) A (call (.builtin "sorted") [.ref l]) Q E s := by
  have hlen := hb.length
  by_cases h2 : 2 ≤ vs.length
  · refine kat_sorted F N hl h2 (by (first | lia | omega)) fun D e1 h' F' N' lt => ?_
    have hg : ∀ p ∈ tups, h'.get? p.1 = some p.2 := fun p hp => (N' p (.tail _ (ht p hp))).1
    obtain ⟨fs, a, b, c⟩ := katTups_of hg hb
    refine kat_kind (s := { s with heap := h' }) (T := .type "bytes") a (by (first | lia | omega)) (fun v hv => ?_) (by decide) ?_
    · obtain ⟨b, t, rfl⟩ := c v hv
      exact Looks.of_pure rfl
    · have ok := psort_ok (ps := ps) (by (first | lia | omega)) (by (first | lia | omega))
      have hin : ∀ i ∈ (kasRun (fun i j => plt (ps.getD i ([], [])) (ps.getD j ([], []))) (kas_sort ps.length)).toList, i < vs.length := by
        rw [hlen]; exact ok.2.2.2
      refine kas_run (n := vs.length) (lt := fun i j => plt (ps.getD i ([], [])) (ps.getD j ([], []))) (fun i j C hi hj c => ?_) _ _ (by rw [hlen]; exact ok.1) ?_
      · obtain ⟨v, e, q⟩ := pairedP_get hb hi
        obtain ⟨v', e', q'⟩ := pairedP_get hb hj
        unfold kas_ask
        rw [List.getD_eq_getElem?_getD, List.getD_eq_getElem?_getD, e, e']
        exact pair_lt (s := { s with heap := h' }) hg q q' c
      · refine KasFin.intro F' N' (UpdF.head ?_) fun h'' c F'' N'' => ?_
        · exact fun q hq => Nat.ne_of_lt (lt q hq)
        · refine h D h'' c _ F'' N'' ?_
          have := pairedP_pick hb _ hin
          rw [hlen]
          exact this
  · refine sorted_one F N hl (by (first | lia | omega)) fun D h' c F' N' => h D h' c _ F' N' ?_
    have ok := psort_ok (ps := ps) (by (first | lia | omega)) (by (first | lia | omega))
    have e : psort ps = ps := by
      rcases ps with _ | ⟨x, _ | ⟨y, r⟩⟩
      · exfalso; rw [List.length_nil] at hlen; (first | lia | omega)
      · exact List.perm_singleton.mp ok.2.1
      · exfalso; rw [List.length_cons, List.length_cons] at hlen; (first | lia | omega)
    rw [e]
    exact hb
end
end
section -- LZ
open PyProof.Rows.LCg PyProof.Rows.LCp
theorem comp_us {h₀ h' : Heap} {L : Addr} {m : Str → Option Value} {news : List (Addr × Obj)} {s₁ : Shared} {vs ys : Array Value} {R : Value → Value → Heap → Prop} {D : Addr} {c : Nat} {us : List Value} {g : Heap}
    (O : CompOut h₀ L m news s₁ vs.size (fun i v => vs[i]? = some v) R D c ys us g h') : us = vs.toList := by
  apply List.ext_getElem?
  intro i
  by_cases h : i < us.length
  · have := O.items i _ (List.getElem?_eq_getElem h)
    rw [List.getElem?_eq_getElem h, Array.getElem?_toList, this]
  · rw [List.getElem?_eq_none (by (first | lia | omega)), List.getElem?_eq_none (by rw [Array.length_toList]; have := O.len; (first | lia | omega))]
def RPair (tap : Bool) (v y : Value) (g : Heap) : Prop := ∀ l, IsB v l → ∃ T t1 t2, y = .ref T ∧ g.get? T = some (tupObj [.bytes ⟨short tap l⟩ t1, .bytes ⟨l⟩ t2])
noncomputable abbrev prs (tap : Bool) (ls : List (List UInt8)) : List Pr := ls.map fun l => (short tap l, l)
theorem pairs_of {tap : Bool} {g : Heap} {us ys : List Value} {ls : List (List UInt8)} (hb : Paired IsB us ls) (p : Paired (fun v y => RPair tap v y g) us ys) : ∃ tups, Paired (PairIn tups) ys (prs tap ls) ∧ ∀ p ∈ tups, g.get? p.1 = some p.2 := by
  induction p generalizing ls with
  | nil => cases hb; exact ⟨[], .nil, by simp⟩
  | cons h _ ih =>
    cases hb with
    | cons hx hr =>
      obtain ⟨tups, a, b⟩ := ih hr
      obtain ⟨T, t1, t2, rfl, e⟩ := h _ hx
      refine ⟨(T, _) :: tups, .cons ⟨T, t1, t2, rfl, .head _⟩ (a.mono fun v p ⟨T', u1, u2, e', m'⟩ => ⟨T', u1, u2, e', .tail _ m'⟩), ?_⟩
      intro q hq
      rcases List.mem_cons.mp hq with rfl | hq
      · exact e
      · exact b q hq
theorem tups_news {h₀ h' : Heap} {L : Addr} {m m' : Str → Option Value} {news tups : List (Addr × Obj)} {s₁ : Shared} {n : Nat} {P : Nat → Value → Prop} {R : Value → Value → Heap → Prop} {D : Addr} {c : Nat} {ys : Array Value} {us : List Value} {g : Heap}
    (O : CompOut h₀ L m news s₁ n P R D c ys us g h') (F : Fr h₀ L s₁.heap m') (ht : ∀ p ∈ tups, g.get? p.1 = some p.2) : News h₀ L h' (tups ++ ((D, PySem.W.listOf ys c) :: news)) := by
  intro p hp
  rcases List.mem_append.mp hp with hp | hp
  · have e := ht p hp
    refine ⟨O.sub _ _ e, fun z => ?_, ?_⟩
    · obtain ⟨o, _, _, e', _⟩ := F.ns
      rw [z, O.off _ o e'] at e; cases e
    · cases q : h₀.get? p.1 with
      | none => rfl
      | some o => rw [O.off _ o (F.keep _ o q)] at e; cases e
  · exact O.N p hp
theorem snd_rest {w : World} {A : Around} {s : Shared} {h₀ : Heap} {L ax : Addr} {m : Str → Option Value} {env : Env} {x y : Str} {px : Pos} {scope : Scope} {cl : List (Str × Addr)} {Fin : List Value → List (Addr × Obj) → Prop} {its : Array Value} {tups news : List (Addr × Obj)} {ps : List Pr}
    (hS : SrcAt h₀ ax its news) (ht : ∀ p ∈ tups, p ∈ news) (hb : Paired (PairIn tups) its.toList ps) (hk : ∀ C, (compEnvC scope cl C env).scope.kind = .function) (hl : ∀ C, (compEnvC scope cl C env).kindOf y = some .local) (hd : (y == ("__debug__" : Str)) = false)
    (hFin : ∀ ys, Paired (fun v (p : Pr) => IsB v p.2) ys ps → Fin ys news) :
    CompRestP P0 w A h₀ L m env (.Name y px) x y scope cl s (SrcAt h₀ ax its) (fun i v => its[i]? = some v) Fin its.size 0 [] news := by
  have hlen : its.size = ps.length := by rw [← Array.length_toList, hb.length]
  have go : ∀ k i ys, i + k = ps.length → Paired (fun v (p : Pr) => IsB v p.2) ys (ps.take i) → CompRestP P0 w A h₀ L m env (.Name y px) x y scope cl s (SrcAt h₀ ax its) (fun i v => its[i]? = some v) Fin k i ys news := by
    intro k
    induction k with
    | zero => intro i ys hi hy; exact CompRestP.zero (hFin ys (by rwa [List.take_of_length_le (by (first | lia | omega))] at hy))
    | succ k ih =>
      intro i ys hi hy
      refine CompRestP.succ fun v hv => ?_
      have hi' : i < its.toList.length := by rw [Array.length_toList]; (first | lia | omega)
      obtain ⟨v', e', T, t1, t2, e2, hm⟩ := pairedP_get hb hi'
      rw [Array.getElem?_toList, hv] at e'
      cases e'
      subst e2
      refine ⟨T, _, _, _, _, rfl, ht _ hm, rfl, rfl, ?_⟩
      intro I oI C oC D m₂ h tk E' hns hx hy' F N off ne
      refine wpAny_Name (wpAny_loadName_local (hk C) (hl C) (hns.ns (N (C, oC) (.tail _ (.head _))).1) hy' ?_) hd
      refine CompEnd.intro F N news (fun p hp => hp) off hS (ih (i + 1) _ (by (first | lia | omega)) ?_)
      have hi2 : i < ps.length := by (first | lia | omega)
      rw [List.take_succ_eq_append_getElem hi2]
      have gd : ps.getD i ([], []) = ps[i] := by rw [List.getD_eq_getElem?_getD, List.getElem?_eq_getElem hi2]; rfl
      have : ∀ {a : List Value} {b : List Pr}, Paired (fun v (p : Pr) => IsB v p.2) a b → ∀ v p, IsB v p.2 → Paired (fun v (p : Pr) => IsB v p.2) (a ++ [v]) (b ++ [p]) := by
        intro a b hab
        induction hab with
        | nil => intro v p hv; exact .cons hv .nil
        | cons h _ ih' => intro v p hv; exact .cons h (ih' v p hv)
      refine this hy _ _ ?_
      rw [← gd]
      exact ⟨t2, rfl⟩
  exact hlen ▸ go its.size 0 [] (by (first | lia | omega)) .nil
theorem snds_isB {ys : List Value} {ps : List Pr} (h : Paired (fun v (p : Pr) => IsB v p.2) ys ps) : Paired IsB ys (ps.map (·.2)) := by
  induction h with
  | nil => exact .nil
  | cons x _ ih => exact .cons x ih

end
section -- LW
open KBc in
theorem bsliceG {w : World} {A : Around} {E : Value → Shared → Prop} {s : Shared} {h₀ : Heap} {L : Addr} {m : Str → Option Value} {news : List (Addr × Obj)} {value slice : PySem.Expr} {b l' : List UInt8} {t : Tok} {l u : Value} {lo hi : Option Int} {Q : Value → Shared → Prop} (hF : Fr h₀ L s.heap m) (hN : News h₀ L s.heap news) (hl : IsPart l lo) (hu : IsPart u hi) (hz : b.length ≤ 16777216)
    (e : KBy.picked ⟨b⟩ lo hi = ⟨l'⟩) (h : ∀ h' t' k, Fr h₀ L h' m → News h₀ L h' news → Grows s.heap h' → Q (.bytes ⟨l'⟩ t') { s with heap := h', toks := k })
    (hs : subscripted slice false (.bytes ⟨b⟩ t) (.ref s.heap.objs.size) = operate [.ref s.heap.objs.size, .bytes ⟨b⟩ t] (getItem (.bytes ⟨b⟩ t) (.ref s.heap.objs.size)) := by with_unfolding_all rfl)
    (ht : ∀ r, letTemporaryGo value (.bytes ⟨b⟩ t) r = pure () := by intro _; with_unfolding_all rfl) :
    wpAny (model P0 w) A (subscriptTail value slice (.bytes ⟨b⟩ t) (.ref s.heap.objs.size)) Q E { s with heap := s.heap.push { cls := .type "slice", data := .fields #[l, u, .none] } } :=
  tail_of_ItemOn ⟨"bytes", _, FB.slot_bytes_getitem.lookup, typeIs_bytes _ _ _, getItem_meets (typeIs_bytes _ _ _) (by decide) FB.slot_bytes_getitem FB.entry_bytes_getitem (FB.args_bytes_getitem_2 _ _) (meets_slice2 ⟨b⟩ t _ hl hu)
    ⟨Heap.IsSliceOf.new _ _ _ _, Nat.le_trans (size_picked_le ⟨b⟩ lo hi) (by rw [← KBw.ints_length (⟨b⟩ : Array UInt8), KBw.ints_length, sizeLine_eq]; exact hz), fun t' k => e ▸ h _ _ _ (hF.push _) (News.pushKeep hN _) (fun _ _ q => Heap.get?_push_of_some _ q)⟩⟩ hs ht
theorem newTupG {w : World} {A : Around} {E : Value → Shared → Prop} {s : Shared} {h₀ : Heap} {L : Addr} {m : Str → Option Value} {news : List (Addr × Obj)} {vs : List Value} {Q : Value → Shared → Prop} (F : Fr h₀ L s.heap m) (N : News h₀ L s.heap news) (hz : vs.length ≤ 1000)
    (h : ∀ T h', Fr h₀ L h' m → News h₀ L h' ((T, tupObj vs) :: news) → Grows s.heap h' → s.heap.get? T = none → Q (.ref T) { s with heap := h' }) : wpAny (model P0 w) A (newTuple vs) Q E s := by
  refine wpAny_newTuple (h _ _ (F.push _) (fun p hp => ?_) (fun _ _ q => Heap.get?_push_of_some _ q) (Heap.get?_none_of_le (Nat.le_refl _))) (by rw [sizeLine_eq]; (first | lia | omega))
  rcases List.mem_cons.mp hp with rfl | hp
  · refine ⟨Heap.get?_push_size _ rfl, Nat.ne_of_gt F.ns.lt, ?_⟩
    cases q : h₀.get? s.heap.objs.size with
    | none => rfl
    | some o => exact absurd (Heap.lt_size (F.keep _ o q)) (Nat.lt_irrefl _)
  · exact ⟨Heap.get?_push_of_some _ (N p hp).1, (N p hp).2⟩

end
section
section -- LG
theorem paired_unique {vs : List Value} {ls ms : List (List UInt8)} (a : Paired IsB vs ls) (b : Paired IsB vs ms) : ls = ms := by
  induction a generalizing ms with
  | nil => cases b; rfl
  | cons h _ ih =>
    cases b with
    | cons h' r' =>
      obtain ⟨t, rfl⟩ := h
      rw [isb_inj h', ih r']
def RowAt (h : Heap) (v : Value) (ms : List (List UInt8)) : Prop := ∃ D ys, v = .ref D ∧ h.IsList D ys ∧ Paired IsB ys.toList ms
theorem rowAt_unique {h : Heap} {v : Value} {ls ms : List (List UInt8)} (a : RowAt h v ls) (b : RowAt h v ms) : ls = ms := by
  obtain ⟨D, ys, rfl, ⟨o, e, c, k, d⟩, p⟩ := a
  obtain ⟨D', ys', q, ⟨o', e', c', k', d'⟩, p'⟩ := b
  cases q
  rw [e] at e'
  cases e'
  rw [d] at d'
  cases d'
  exact paired_unique p p'
def ROut (hb : Heap) (f : List (List UInt8) → List UInt8) (v y : Value) : Prop := ∃ ms, RowAt hb v ms ∧ IsB y (f ms)
theorem rout_pairs {hb : Heap} {f : List (List UInt8) → List UInt8} {vs ys : List Value} {mss : List (List (List UInt8))} (a : Paired (fun v y => ROut hb f v y) vs ys) (b : Paired (RowAt hb) vs mss) : Paired IsB ys (mss.map f) := by
  induction a generalizing mss with
  | nil => cases b; exact .nil
  | cons h _ ih =>
    cases b with
    | cons h' r' =>
      obtain ⟨ms, q, z⟩ := h
      rw [rowAt_unique q h'] at z
      exact .cons z (ih r')
theorem cls_four (sort tap : Bool) : clsOf sort tap = 1233 ∨ clsOf sort tap = 1250 ∨ clsOf sort tap = 1274 ∨ clsOf sort tap = 1291 := by cases sort <;> cases tap <;> simp [clsOf]
theorem compile_get {w : World} {A : Around} {E : Value → Shared → Prop} {s : Shared} {h₀ : Heap} {L : Addr} {m : Str → Option Value} {mg mb : Str → Option Value} {loose : List Str} {C : Addr} {tap : Bool} {pl : Sem Bool} {vs : List Value} {x dx T : Addr} {t1 t2 : Tok} {Q : Value × List Value → Shared → Prop} (hC : C = 1233 ∨ C = 1250 ∨ C = 1274 ∨ C = 1291) (F : Fr h₀ L s.heap m) (X : (fr.heap_1 w.params).In h₀) (_Tp : TopRead V0 loose mg mb h₀) (M : IsMs w s.heap C tap vs x dx T t1 t2) (h : Q (.ref 1149, [.ref x]) s) :
    wpAny (model P0 w) A (getMethod (.ref x) (PySem.Str.ofString "compile") pl) Q E s := by
  obtain ⟨mo, md, mt⟩ := M
  rcases hC with rfl | rfl | rfl | rfl
  all_goals
    walk1
    exact h
theorem rows_perm {ls ms : List (List UInt8)} {n : Nat} (R : Rows33 ls n) (p : ms.Perm ls) : Rows33 ms n := ⟨p.length_eq.trans R.1, fun l hl => R.2 l (p.mem_iff.mp hl)⟩
theorem ranked_perm {tap : Bool} {ls : List (List UInt8)} (h1 : 1 ≤ ls.length) (h4 : ls.length ≤ 4) : ((psort (prs tap ls)).map (·.2)).Perm ls := by
  have ok := psort_ok (ps := prs tap ls) (by rwa [List.length_map]) (by rwa [List.length_map])
  have := ok.2.1.map (·.2)
  rw [List.map_map] at this
  have e : ls.map ((fun x : Pr => x.2) ∘ fun l => (short tap l, l)) = ls := by
    rw [show ((fun x : Pr => x.2) ∘ fun l => (short tap l, l)) = id from rfl, List.map_id]
  rwa [e] at this
theorem row_at {h : Heap} {vs : List Value} {mss : List (List (List UInt8))} {n i : Nat} {v : Value} (RP : Paired (RowAt h) vs mss) (R : ∀ ms ∈ mss, Rows33 ms n) (e : vs[i]? = some v) : ∃ ms, RowAt h v ms ∧ Rows33 ms n := by
  induction RP generalizing i with
  | nil => simp at e
  | cons x _ ih =>
    cases i with
    | zero => simp at e; subst e; exact ⟨_, x, R _ (.head _)⟩
    | succ i => exact ih (fun ms hm => R ms (.tail _ hm)) (i := i) (by simpa using e)
theorem name_heap {h₀ h : Heap} {L : Addr} {m : Str → Option Value} (_F : Fr h₀ L h m) : ∃ hB, hB = h := ⟨_, rfl⟩

end
section -- PL
/-! the plain law -/
theorem blt_cons (x : UInt8) (a b : List UInt8) : blt (x :: a) (x :: b) = blt a b := by
  rw [order_lt, order_lt]
  congr 1
  exact propext ⟨fun h => by rcases List.cons_lt_cons_iff.mp h with q | q; exact absurd q (UInt8.lt_irrefl _); exact q.2, fun h => List.cons_lt_cons_iff.mpr (.inr ⟨rfl, h⟩)⟩
theorem kc_cons (tap : Bool) (l : List UInt8) : ∃ x, ∀ l, kc tap l = x :: short tap l := by cases tap <;> exact ⟨_, fun l => rfl⟩
theorem blt_kc (tap : Bool) (a b : List UInt8) : blt (kc tap a) (kc tap b) = blt (short tap a) (short tap b) := by
  obtain ⟨x, hx⟩ := kc_cons tap a
  rw [hx, hx, blt_cons]
theorem ranked_sorted {tap : Bool} {ls X : List (List UInt8)} (h1 : 1 ≤ ls.length) (h4 : ls.length ≤ 4) (p : X.Perm ls) : bsort (X.map (kc tap)) = ((psort (prs tap ls)).map (·.2)).map (kc tap) := by
  have ok := psort_ok (ps := prs tap ls) (by rwa [List.length_map]) (by rwa [List.length_map])
  have lX := p.length_eq
  have bo := bsort_ok (ls := X.map (kc tap)) (by rw [List.length_map]; (first | lia | omega)) (by rw [List.length_map]; (first | lia | omega))
  have rp := ranked_perm (tap := tap) h1 h4
  refine List.Perm.eq_of_pairwise (le := fun a b => blt b a = false) (fun x y _ _ h h' => blt_anti x y h' h) bo.2.2.1 ?_ (bo.2.1.trans ((p.trans rp.symm).map _))
  rw [List.map_map, List.pairwise_map]
  refine ok.2.2.1.imp_of_mem fun {a b} ha hb h => ?_
  have ea : ∀ q ∈ psort (prs tap ls), q.1 = short tap q.2 := fun q hq => by
    have := ok.2.1.mem_iff.mp hq
    obtain ⟨l, _, rfl⟩ := List.mem_map.mp this
    rfl
  show blt (kc tap b.2) (kc tap a.2) = false
  rw [blt_kc, ← ea a ha, ← ea b hb]
  unfold plt at h
  by_cases e : b.1 = a.1
  · rw [e]; exact blt_irr _
  · rwa [if_neg e] at h
theorem scr_told {tap : Bool} {need : Int} {ls X : List (List UInt8)} (h1 : 1 ≤ ls.length) (h4 : ls.length ≤ 4) (p : X.Perm ls) : scr true tap need X = scr false tap need ((psort (prs tap ls)).map (·.2)) := by
  unfold scr
  rw [if_pos rfl, if_neg (by decide), ranked_sorted h1 h4 p]
theorem flatten_inj {k : Nat} : ∀ {a b : List (List UInt8)}, a.length = b.length → (∀ l ∈ a, l.length = k) → (∀ l ∈ b, l.length = k) → a.flatten = b.flatten → a = b
  | [], [], _, _, _, _ => rfl
  | [], _ :: _, h, _, _, _ => by simp at h
  | _ :: _, [], h, _, _, _ => by simp at h
  | x :: a, y :: b, h, ha, hb, e => by
    rw [List.flatten_cons, List.flatten_cons] at e
    have := List.append_inj e (by rw [ha x (.head _), hb y (.head _)])
    rw [this.1, flatten_inj (by simpa using h) (fun l hl => ha l (.tail _ hl)) (fun l hl => hb l (.tail _ hl)) this.2]
theorem kc_len33 {tap : Bool} {l : List UInt8} (h : l.length = 33) : (kc tap l).length = if tap then 33 else 34 := by cases tap <;> simp [kc, pre, short, h]
/-- the blocks of a leaf's script -/
noncomputable def blocks : List (List UInt8) → List (List UInt8)
  | [] => []
  | m :: r => (m ++ [172]) :: r.map (· ++ [186])
theorem layA_blocks {need : Int} {ms : List (List UInt8)} (h : 1 ≤ ms.length) : layA need ms = (blocks ms).flatten ++ nb need ++ [156] := by
  cases ms with
  | nil => simp at h
  | cons m r => rw [layA_ne (by simp)]; simp [blocks]
theorem blocks_len {k : Nat} {ms : List (List UInt8)} (h : ∀ m ∈ ms, m.length = k) : (∀ b ∈ blocks ms, b.length = k + 1) ∧ (blocks ms).length = ms.length := by
  cases ms with
  | nil => exact ⟨by simp [blocks], rfl⟩
  | cons m r =>
    refine ⟨fun b hb => ?_, by simp [blocks]⟩
    rcases List.mem_cons.mp hb with rfl | hb
    · rw [List.length_append, h m (.head _)]; rfl
    · obtain ⟨x, hx, rfl⟩ := List.mem_map.mp hb
      rw [List.length_append, h x (.tail _ hx)]; rfl
theorem blocks_inj {a b : List (List UInt8)} (h : blocks a = blocks b) : a = b := by
  cases a with
  | nil => cases b with
    | nil => rfl
    | cons y s => simp [blocks] at h
  | cons x r => cases b with
    | nil => simp [blocks] at h
    | cons y s =>
      simp only [blocks, List.cons.injEq] at h
      have e1 : x = y := List.append_cancel_right h.1
      have e2 : r = s := by
        have := h.2
        clear h e1
        induction r generalizing s with
        | nil => cases s with
          | nil => rfl
          | cons _ _ => simp at this
        | cons u v ih => cases s with
          | nil => simp at this
          | cons w z =>
            simp only [List.map_cons, List.cons.injEq] at this
            rw [List.append_cancel_right this.1, ih z this.2]
      rw [e1, e2]
theorem kcs_inj {tap : Bool} {a b : List (List UInt8)} (h : a.map (kc tap) = b.map (kc tap)) : a.map (short tap) = b.map (short tap) := by
  obtain ⟨x, hx⟩ := kc_cons tap []
  have e : ∀ l : List (List UInt8), l.map (short tap) = (l.map (kc tap)).map (·.drop 1) := fun l => by
    rw [List.map_map]
    exact List.map_congr_left fun y _ => by show _ = (kc tap y).drop 1; rw [hx]; rfl
  rw [e, e, h]
theorem kcs_of {tap : Bool} {a b : List (List UInt8)} (h : a.map (short tap) = b.map (short tap)) : a.map (kc tap) = b.map (kc tap) := by
  have e : ∀ l : List (List UInt8), l.map (kc tap) = (l.map (short tap)).map (pre tap ++ ·) := fun l => by rw [List.map_map]; rfl
  rw [e, e, h]
theorem scr_false {tap : Bool} {need : Int} {a : List (List UInt8)} : scr false tap need a = lay tap need (a.map (kc tap)) := rfl
theorem scr_inj {tap : Bool} {need : Int} {n : Nat} {a b : List (List UInt8)} (ra : Rows33 a n) (rb : Rows33 b n) (h1 : 1 ≤ n) : scr false tap need a = scr false tap need b ↔ a.map (short tap) = b.map (short tap) := by
  constructor
  · intro h
    refine kcs_inj ?_
    rw [scr_false, scr_false] at h
    unfold lay at h
    have la : ∀ l ∈ a.map (kc tap), l.length = if tap then 33 else 34 := fun l hl => by
      obtain ⟨x, hx, rfl⟩ := List.mem_map.mp hl
      exact kc_len33 (ra.2 x hx)
    have lb : ∀ l ∈ b.map (kc tap), l.length = if tap then 33 else 34 := fun l hl => by
      obtain ⟨x, hx, rfl⟩ := List.mem_map.mp hl
      exact kc_len33 (rb.2 x hx)
    have lab : (a.map (kc tap)).length = (b.map (kc tap)).length := by rw [List.length_map, List.length_map, ra.1, rb.1]
    cases tap with
    | false =>
      simp only [Bool.false_eq_true, if_false] at h la lb
      rw [lab] at h
      have h2 := List.append_cancel_right (List.append_cancel_right h)
      exact flatten_inj lab la lb (List.append_cancel_left h2)
    | true =>
      simp only [if_true] at h la lb
      rw [layA_blocks (by rw [List.length_map, ra.1]; exact h1), layA_blocks (by rw [List.length_map, rb.1]; exact h1)] at h
      have h2 := List.append_cancel_right (List.append_cancel_right h)
      have ba := blocks_len la
      have bb := blocks_len lb
      exact blocks_inj (flatten_inj (by rw [ba.2, bb.2, lab]) ba.1 bb.1 h2)
  · intro h
    rw [scr_false, scr_false, kcs_of h]
section
variable {w : World} {A : Around} {E : Value → Shared → Prop} {s : Shared} {l : Addr} {us : Array Value} {u : Tok} {a b c d : List UInt8} {value slice : Expr} {Q : Value → Shared → Prop}
theorem item1 (hl : s.heap.IsList l us) (hb : Paired IsB us.toList [a, b, c, d]) (h : ∀ t, Q (.bytes ⟨b⟩ t) s)
    (hs : subscripted slice false (.ref l) (.int 1 u) = operate [.ref l, .int 1 u] (getItem (.ref l) (.int 1 u)) := by with_unfolding_all rfl) :
    wpAny (model P0 w) A (subscriptTail value slice (.ref l) (.int 1 u)) Q E s := bitem hl hb (by decide) (by show (1 : Int) < 4; decide) (by show 4 ≤ 1000; decide) h hs
theorem item2 (hl : s.heap.IsList l us) (hb : Paired IsB us.toList [a, b, c, d]) (h : ∀ t, Q (.bytes ⟨c⟩ t) s)
    (hs : subscripted slice false (.ref l) (.int 2 u) = operate [.ref l, .int 2 u] (getItem (.ref l) (.int 2 u)) := by with_unfolding_all rfl) :
    wpAny (model P0 w) A (subscriptTail value slice (.ref l) (.int 2 u)) Q E s := bitem hl hb (by decide) (by show (2 : Int) < 4; decide) (by show 4 ≤ 1000; decide) h hs
theorem item3 (hl : s.heap.IsList l us) (hb : Paired IsB us.toList [a, b, c, d]) (h : ∀ t, Q (.bytes ⟨d⟩ t) s)
    (hs : subscripted slice false (.ref l) (.int 3 u) = operate [.ref l, .int 3 u] (getItem (.ref l) (.int 3 u)) := by with_unfolding_all rfl) :
    wpAny (model P0 w) A (subscriptTail value slice (.ref l) (.int 3 u)) Q E s := bitem hl hb (by decide) (by show (3 : Int) < 4; decide) (by show 4 ≤ 1000; decide) h hs
end
theorem mul4 {w : World} {A : Around} {E : Value → Shared → Prop} {s : Shared} {h₀ : Heap} {L D : Addr} {m : Str → Option Value} {news : List (Addr × Obj)} {c : Nat} {v : Value} {u : Tok} {Q : Value → Shared → Prop} (F : Fr h₀ L s.heap m) (N : News h₀ L s.heap ((D, PySem.W.listOf [v].toArray c) :: news))
    (h : ∀ D' h', Fr h₀ L h' m → News h₀ L h' ((D', PySem.W.listOf #[v, v, v, v] 0) :: (D, PySem.W.listOf [v].toArray c) :: news) → Q (.ref D') { s with heap := h' }) : wpAny (model P0 w) A (binaryOp .Mult (.ref D) (.int 4 u)) Q E s :=
  KMa.mul (ws := [v, v, v, v]) F N (News.isListOf N) (by decide) (by decide) (by show 1 * 4 ≤ 256; decide) rfl fun D' h' F' N' _ => h D' h' F' N'
theorem ne_same {w : World} {A : Around} {E : Value → Shared → Prop} {s : Shared} {a b : Addr} {xs ys : Array Value} {ls : List (List UInt8)} {Q : Value → Shared → Prop} (ha : s.heap.IsList a xs) (hb : s.heap.IsList b ys) (hx : Paired IsB xs.toList ls) (hy : Paired IsB ys.toList ls) (hu : A.units < cLine) (h : Q (.bool false) s) :
    wpAny (model P0 w) A (compareOp .NotEq (.ref a) (.ref b)) Q E s := bl_ne ha hb hx hy hu (by simpa using h)
theorem quad {b : List UInt8} {t : Tok} : Paired IsB (#[Value.bytes ⟨b⟩ t, .bytes ⟨b⟩ t, .bytes ⟨b⟩ t, .bytes ⟨b⟩ t] : Array Value).toList [b, b, b, b] := .cons ⟨t, rfl⟩ (.cons ⟨t, rfl⟩ (.cons ⟨t, rfl⟩ (.cons ⟨t, rfl⟩ .nil)))
theorem short_pairs {tap : Bool} {us ys : List Value} {ls : List (List UInt8)} (a : Paired (fun v y => ∀ l, IsB v l → IsB y (short tap l)) us ys) (b : Paired IsB us ls) : Paired IsB ys (ls.map (short tap)) := by
  induction a generalizing ls with
  | nil => cases b; exact .nil
  | cons h _ ih =>
    cases b with
    | cons h' r' => exact .cons (h _ h') (ih r')
theorem key_eq {tap : Bool} {need : Int} {n : Nat} {a b : List (List UInt8)} (ra : Rows33 a n) (rb : Rows33 b n) (h1 : 1 ≤ n) : (scr false tap need a == scr false tap need b) = decide (a.map (short tap) = b.map (short tap)) := by
  by_cases h : a.map (short tap) = b.map (short tap)
  · rw [decide_eq_true h, (scr_inj ra rb h1).mpr h]; simp
  · rw [decide_eq_false h]
    have := fun e => h ((scr_inj (need := need) ra rb h1).mp e)
    simpa using this
end
section -- LEn
open PyProof.Rows.LCg PyProof.Rows.LCp
/-! a comprehension over enumerate of a list -/
section
variable {w : World} {A : Around} {E : Value → Shared → Prop} {env : Env}
def EBack (s : Shared) (P : Value → Prop) (v : Value) (s' : Shared) : Prop := ∃ h' tk, s' = { s with heap := h', toks := tk } ∧ Grows s.heap h' ∧ P v
theorem EBack.of {s : Shared} {P : Value → Prop} {v : Value} {h' : Heap} {tk : Nat} (g : Grows s.heap h') (p : P v) : EBack s P v { s with heap := h', toks := tk } := ⟨h', tk, rfl, g, p⟩
def EElt (w : World) (A : Around) (env : Env) (scope : Scope) (cl : List (Str × Addr)) (x y : Str) (elt : Expr) (items : Array Value) (R : Nat → Value → Prop) (base : Heap) : Prop :=
  ∀ (C : Addr) (i : Nat) (t : Tok) (b : Value) (s : Shared) (m : Str → Option Value), i < items.size → items[i]? = some b → m x = some (.int (i : Int) t) → m y = some b → Fr base C s.heap m →
    ∀ E : Value → Shared → Prop, wpAny (model P0 w) A (eval elt (compEnvC scope cl C env)) (EBack s (R i)) E s
theorem enum_loop {elt iter : Expr} {x y : Str} {px py tp : Pos} {kt : Nat} {scope : Scope} {cl : List (Str × Addr)} {pos : Pos} {I it l D C : Addr} {items : Array Value} {R : Nat → Value → Prop} {base : Heap} {m : Str → Option Value} {s : Shared} {RR : Result → Shared → Prop}
    (hh : A.handled = none) (hei : I ≠ it) (hle : l ≠ I) (hli : l ≠ it) (he : EElt w A env scope cl x y elt items R base)
    (hx : scope.names.lookup x = some .local) (hy : scope.names.lookup y = some .local) (hxy : x ≠ y) (hk : scope.kind = .function)
    (hDC : D ≠ C) (hDf : D ∉ [I, it, l]) (hCf : C ∉ [I, it, l]) (hIb : base.get? I = none) (hib : base.get? it = none) (hDb : base.get? D = none) (hbase : Grows base s.heap) (hCb : base.objs.size ≤ C)
    (hst : (∃ old, IsEnum s.heap I it 0 old) ∧ s.heap.IsListIter it l 0 ∧ s.heap.IsList l items) (hacc : s.heap.PlainList D #[]) (hn : s.heap.Ns C m)
    (hR : ∀ h' tk m' ys, h'.Ns C m' → h'.PlainList D ys → ys.size = items.size → (∀ j v, ys[j]? = some v → R j v) → Grows base h' → RR (.ok .next) { s with heap := h', toks := tk }) (hsz : items.size ≤ sizeLine) :
    codeAny (model P0 w) A (.compLoop (.ListComp elt [⟨.Tuple [.Name x px, .Name y py] kt tp, iter, [], 0⟩] scope pos) 0 (.ref I) (.ref D) (compEnvC scope cl C env)) RR s := by
  have W := WalksT.enumerate (prog := P0) (w := w) hh I it l hei hle hli items
  have wr0 : ∀ b o, base.get? b = some o → b ∉ [I, it] := fun b o e hm => by
    simp only [List.mem_cons, List.not_mem_nil, or_false] at hm
    rcases hm with rfl | rfl
    · rw [hIb] at e; cases e
    · rw [hib] at e; cases e
  have sub : ∀ b ∈ [I, it], b ∈ [I, it, l] := W.sub
  have hCw : C ∉ [I, it] := fun q => hCf (sub _ q)
  have hDw : D ∉ [I, it] := fun q => hDf (sub _ q)
  refine codeAny_compLoop_pair
    (fun k s' => ∃ h' tk m' ys, ∃ i : Nat, s' = { s with heap := h', toks := tk } ∧ ((∃ old, IsEnum h' I it i old) ∧ h'.IsListIter it l i ∧ h'.IsList l items) ∧ h'.PlainList D ys ∧ h'.Ns C m' ∧ ys.size = i ∧ (∀ j v, ys[j]? = some v → R j v) ∧ i ≤ items.size ∧ k = items.size + 1 - i ∧ Grows base h') ?_ (items.size + 1)
    ⟨s.heap, s.toks, m, #[], 0, rfl, by simpa using hst, hacc, hn, rfl, by simp, Nat.zero_le _, rfl, hbase⟩
  rintro k s' ⟨H, tk, m', ys, i, rfl, hst', hacc', hn', hys, hP, hi, rfl, hb⟩
  by_cases hlt : i < items.size
  · refine W.item i _ _ _ hlt hst' fun T vals h₁ tk₁ ⟨t, b, hib', hv⟩ _ hT hMid hk₁ => ?_
    subst hv
    dsimp only
    refine W.go _ _ _ i T { s with heap := h₁, toks := tk₁ } _ _ hMid fun h₂ hst₂ hk₂ => ?_
    have hT₂ : h₂.IsTuple T #[.int (i : Int) t, b] := hT.at fun o e => hk₂ T o (W.apart i T _ hMid) e
    have up₂ : ∀ c o, c ∉ [I, it] → H.get? c = some o → h₂.get? c = some o := fun c o hc e => hk₂ c o hc (hk₁ c o hc e)
    refine kcp_assign (s := { s with heap := h₂, toks := tk₁ }) (env := compEnvC scope cl C env) hh hT₂ (lookup_relabel_local hx) (lookup_relabel_local hy) (by simp [compEnvC, relabel, hk]) (hn'.at' fun o e => up₂ _ o hCw e) fun h₃ tk₃ hn₃ hs₃ => ?_
    have b₃ : Grows base h₃ := fun c o e => hs₃ c o (Nat.ne_of_lt (Nat.lt_of_lt_of_le (Heap.lt_size e) hCb)) (up₂ c o (wr0 c o e) (hb c o e))
    have hst₃ := W.frame _ _ h₃ hst₂ fun c hc o e => hs₃ c o (fun q => hCf (by have q' : c = C := q; rw [← q']; exact hc)) e
    refine wpAny_mono (he C i t b { s with heap := h₃, toks := tk₃ } _ hlt hib' (by rw [if_neg hxy, if_pos rfl]) (by rw [if_pos rfl]) ⟨hn₃, b₃, hCb⟩ (notedBy (model P0 w) A (compEnvC scope cl C env) fun e s' => RR (.error e) s')) (fun v s₄ h₄ => ?_) fun _ _ e => e
    obtain ⟨h₄, tk₄, rfl, hk₄, hRv⟩ := h₄
    have hacc₄ : h₄.PlainList D ys := (hacc'.at fun o e => hs₃ D o hDC (up₂ D o hDw e)).at fun o e => hk₄ _ o e
    refine wpAny_list_append_plain (hsz := by (first | lia | omega)) hacc₄ fun h₅ hl₅ hs₅ => ?_
    refine ⟨items.size + 1 - (i + 1), by (first | lia | omega), h₅, tk₄, _, ys.push v, i + 1, rfl, ?_, hl₅, (hn₃.keeps hk₄).sameBut hs₅ (Ne.symm hDC), by rw [Array.size_push, hys], fun j u hj => ?_, hlt, rfl, fun c o e => hs₅.extBut c o (fun q => by rw [q, hDb] at e; cases e) (hk₄ c o (b₃ c o e))⟩
    · exact W.frame _ _ h₅ hst₃ fun c hc o e => hs₅.extBut c o (fun q => hDf (q ▸ hc)) (hk₄ c o e)
    · rw [Array.getElem?_push] at hj
      split at hj
      · rename_i q
        cases hj
        rw [q, hys]
        exact hRv
      · exact hP j u hj
  · have hin : i = items.size := by (first | lia | omega)
    refine W.done _ _ _ (hin ▸ hst') fun h₁ tk₁ hk₁ => ?_
    exact hR h₁ tk₁ m' ys (hn'.at' fun o e => hk₁ _ o hCw e) (hacc'.at fun o e => hk₁ _ o hDw e) (hys.trans hin) hP fun c o e => hk₁ c o (wr0 c o e) (hb c o e)
def EN (w : World) (A : Around) (env : Env) (scope : Scope) (cl : List (Str × Addr)) (x y : Str) (elt : Expr) (Q : Value → Shared → Prop) (xv : Value) (s₁ : Shared) : Prop :=
  ∃ h₀ L m news items l it I base R, xv = .ref I ∧ A.handled = none ∧ ((∃ old, IsEnum s₁.heap I it 0 old) ∧ s₁.heap.IsListIter it l 0 ∧ s₁.heap.IsList l items) ∧ (@Ne Nat I it) ∧ (@Ne Nat l I) ∧ (@Ne Nat l it) ∧ Grows base s₁.heap ∧ base.get? I = none ∧ base.get? it = none ∧ base.objs.size ≤ s₁.heap.objs.size ∧
    Fr h₀ L base m ∧ News h₀ L base news ∧ items.size ≤ sizeLine ∧ EElt w A env scope cl x y elt items R base ∧
    (∀ D h' tk ys c, Fr h₀ L h' m → News h₀ L h' ((D, PySem.W.listOf ys c) :: news) → ys.size = items.size → (∀ j v, ys[j]? = some v → R j v) → Q (.ref D) { s₁ with heap := h', toks := tk })
theorem enum_eval {elt iter : Expr} {x y : Str} {px py tp : Pos} {kt : Nat} {scope : Scope} {cl : List (Str × Addr)} {pos : Pos} {s : Shared} {Q : Value → Shared → Prop}
    (hclos : closureFor scope env = pure cl) (hcell : ∀ y ∈ scope.names, y.2 ≠ .cell) (hk : scope.kind = .function)
    (hnames : ∀ y ∈ scope.names, y.2 = .local → scope.names.lookup y.1 = some .local) (hx : scope.names.lookup x = some .local) (hy : scope.names.lookup y = some .local) (hxy : x ≠ y)
    (hs : ∀ x, foldedSetIterable iter env x = pure x)
    (h : wpAny (model P0 w) A (eval iter env) (EN w A env scope cl x y elt Q) E s) :
    wpAny (model P0 w) A (eval (.ListComp elt [⟨.Tuple [.Name x px, .Name y py] kt tp, iter, [], 0⟩] scope pos) env) Q E s := by
  rw [eval_ListComp]
  refine wpAny_comprehension_free (use := none) rfl hs hclos hk hnames (wpAny_mono h (fun xv s₁ h₁ => ?_) fun _ _ e => e)
  obtain ⟨h₀, L, m, news, items, l, it, I, base, R, rfl, hh, hst, hei, hle, hli, hb, hIb, hib, hbs, F, N, hsz, he, hQ⟩ := h₁
  have W := WalksT.enumerate (prog := P0) (w := w) hh I it l hei hle hli items
  refine W.self 0 s₁ _ _ (by simpa using hst) ?_
  refine wpAny_newObj_type (wpAny_newFunctionEnv hcell (by intro y hy; simp at hy) (fun h₁ hns₁ hsb₁ => ?_) hk)
  dsimp only at hns₁ hsb₁ ⊢
  generalize hH2 : s₁.heap.push { cls := .type "list", dict := none, data := .seq ([] : List Value).toArray } = H2 at hns₁ hsb₁ ⊢
  have hC : H2.objs.size = s₁.heap.objs.size + 1 := by rw [← hH2, Heap.size_push]
  have hDC : s₁.heap.objs.size ≠ H2.objs.size := by rw [hC]; exact Nat.ne_of_lt (Nat.lt_succ_self _)
  have below : ∀ b, b < s₁.heap.objs.size → b ≠ H2.objs.size ∧ b ≠ s₁.heap.objs.size := fun b hb => ⟨by rw [hC]; exact Nat.ne_of_lt (Nat.lt_succ_of_lt hb), Nat.ne_of_lt hb⟩
  have fpl : ∀ b ∈ [I, it, l], b < s₁.heap.objs.size := by
    obtain ⟨⟨old, hE⟩, ⟨o2, e2, _⟩, ⟨o3, e3, _⟩⟩ := hst
    intro b hbm
    simp only [List.mem_cons, List.not_mem_nil, or_false] at hbm
    rcases hbm with rfl | rfl | rfl
    · exact Heap.lt_size hE
    · exact Heap.lt_size e2
    · exact Heap.lt_size e3
  have old : ∀ b o, s₁.heap.get? b = some o → h₁.get? b = some o := fun b o e => hsb₁.extBut b o (below b (Heap.lt_size e)).1 (Heap.get?_push_of_some _ (hH2 ▸ Heap.get?_push_of_some _ e))
  have hacc : h₁.PlainList s₁.heap.objs.size #[] := ⟨_, hsb₁.extBut _ _ hDC (Heap.get?_push_of_some _ (hH2 ▸ Heap.get?_push_size _ rfl))⟩
  have hst₁ := W.frame 0 _ h₁ (by simpa using hst) fun b _ o e => old b o e
  have hDb : base.get? s₁.heap.objs.size = none := Heap.get?_none_of_le hbs
  have hDf : s₁.heap.objs.size ∉ [I, it, l] := fun hm => Nat.lt_irrefl _ (fpl _ hm)
  have hCf : H2.objs.size ∉ [I, it, l] := fun hm => by have := fpl _ hm; rw [hC] at this; exact Nat.lt_irrefl _ (Nat.lt_of_succ_lt this)
  have loop : ∀ s₃ : Shared, s₃ = { s₁ with heap := h₁, toks := s₁.toks + ([] : List (Str × Value)).length } →
      codeAny (model P0 w) A (.compLoop (.ListComp elt [⟨.Tuple [.Name x px, .Name y py] kt tp, iter, [], 0⟩] scope pos) 0 (.ref I) (.ref s₁.heap.objs.size) (compEnvC scope cl H2.objs.size env)) (compPost (model P0 w) A E none Q (.ref s₁.heap.objs.size) H2.objs.size) s₃ := by
    rintro s₃ rfl
    refine enum_loop hh hei hle hli he hx hy hxy hk hDC hDf hCf hIb hib hDb (fun b o e => old b o (hb b o e)) (by (first | lia | omega)) (by simpa using hst₁) hacc hns₁ (fun h' tk' m' ys hnC hpl hlen hP hb' => ?_) hsz
    obtain ⟨c, hDo⟩ := hpl
    have hLs : L < s₁.heap.objs.size := by obtain ⟨o, _, _, e, _⟩ := F.ns; exact Heap.lt_size (hb _ o e)
    have bne : ∀ b o, base.get? b = some o → b ≠ H2.objs.size := fun b o e => (below b (Heap.lt_size (hb b o e))).1
    refine ⟨m', hnC, fun h'' hs'' => hQ s₁.heap.objs.size h'' tk' ys c (F.keeps fun b o e => hs''.extBut b o (bne b o e) (hb' b o e)) (fun p hp => ?_) hlen hP⟩
    rcases List.mem_cons.mp hp with rfl | hp
    · refine ⟨hs''.extBut _ _ hDC hDo, Nat.ne_of_gt hLs, ?_⟩
      cases q : h₀.get? s₁.heap.objs.size with
      | none => rfl
      | some o => have := F.keep _ o q; rw [hDb] at this; cases this
    · exact ⟨hs''.extBut _ _ (bne _ _ (N p hp).1) (hb' _ _ (N p hp).1), (N p hp).2⟩
  exact codeAny_compStart_list (loop _ rfl) (W.self 0 _ _ _ hst₁ (loop _ rfl))
end
end
end
section -- LI
theorem join_cell {w : World} {A : Around} {E : Value → Shared → Prop} {Q : Flow → Shared → Prop} {s s₁ : Shared} {env : Env} {h₀ : Heap} {L c : Addr} {o : Obj} {m : Str → Option Value} {news : List (Addr × Obj)} {g : Obj → List (Addr × Obj)} {P : List UInt8} {st : Stmt} {rest : List Stmt}
    (F : Fr h₀ L s₁.heap m) (N : News h₀ L s₁.heap news) (U : UpdF c o news g)
    (hst : ∀ Q' : Flow → Shared → Prop, (∀ h' tk o' t, Fr h₀ L h' m → News h₀ L h' (g o') → o'.data = .cell (some (.bytes ⟨P⟩ t)) → Q' .next { s with heap := h', toks := tk }) → wpAny (model P0 w) A (exec st env) Q' E s₁)
    (k : ∀ h' tk o' t, Fr h₀ L h' m → News h₀ L h' (g o') → o'.data = .cell (some (.bytes ⟨P⟩ t)) → wpAny (model P0 w) A (execs rest env) Q E { s with heap := h', toks := tk }) :
    wpAny (model P0 w) A (execs (st :: rest) env) Q E s₁ := wpAny_execs_cons (hst _ k)
theorem blk_pairs {ys : Array Value} {ms : List (List UInt8)} (hz : ys.size = ms.length) (hr : ∀ (j : Nat) v, ys[j]? = some v → ∃ l, ms[j]? = some l ∧ IsB v (l ++ [if j = 0 then 172 else 186])) : Paired IsB ys.toList (blocks ms) := by
  obtain ⟨yl⟩ := ys
  replace hz : yl.length = ms.length := hz
  replace hr : ∀ (j : Nat) v, yl[j]? = some v → ∃ l, ms[j]? = some l ∧ IsB v (l ++ [if j = 0 then 172 else 186]) := fun j v e => hr j v (by simpa using e)
  show Paired IsB yl (blocks ms)
  cases yl with
  | nil => cases ms with
    | nil => exact .nil
    | cons => simp at hz
  | cons y yr => cases ms with
    | nil => simp at hz
    | cons m mr =>
      obtain ⟨l, e, b⟩ := hr 0 y rfl
      simp at e
      subst e
      refine .cons (by simpa using b) ?_
      have hz' : yr.length = mr.length := by simpa using hz
      have hr' : ∀ (j : Nat) v, yr[j]? = some v → ∃ l, mr[j]? = some l ∧ IsB v (l ++ [186]) := fun j v e => by
        obtain ⟨l, e', b'⟩ := hr (j + 1) v (by simpa using e)
        exact ⟨l, by simpa using e', by simpa using b'⟩
      clear hz hr b
      induction yr generalizing mr with
      | nil => cases mr with
        | nil => exact .nil
        | cons => simp at hz'
      | cons u ur ih => cases mr with
        | nil => simp at hz'
        | cons q qr =>
          obtain ⟨l, e, b⟩ := hr' 0 u rfl
          simp at e
          subst e
          exact .cons b (ih qr (by simpa using hz') fun j v e => by
            obtain ⟨l, e', b'⟩ := hr' (j + 1) v (by simpa using e)
            exact ⟨l, by simpa using e', b'⟩)
theorem bang_pairs {us ys : List Value} {ls : List (List UInt8)} (a : Paired (fun v y => ∀ l, IsB v l → IsB y (kc false l)) us ys) (b : Paired IsB us ls) : Paired IsB ys (ls.map (kc false)) := by
  induction a generalizing ls with
  | nil => cases b; exact .nil
  | cons h _ ih =>
    cases b with
    | cons h' r' => exact .cons (h _ h') (ih r')
theorem scr_len {tap : Bool} {need : Int} {n : Nat} {a : List (List UInt8)} (ra : Rows33 a n) (h1 : 1 ≤ n) (h4 : n ≤ 4) : (scr false tap need a).length ≤ 200 := by
  have e := scr_length (sort := false) (tap := tap) (need := need) (ls := a) (by rw [ra.1]; (first | lia | omega))
  have f := flat_le (kcs_le (tap := tap) ra.2)
  rw [List.length_map, ra.1] at f
  rw [e, ra.1]
  split <;> (first | lia | omega)
theorem cell_bytes {X Y : List UInt8} {t : Tok} (e : X = Y) : Data.cell (some (Value.bytes ⟨X⟩ t)) = Data.cell (some (Value.bytes ⟨Y⟩ t)) := by rw [e]
theorem laid_f {need : Int} {n : Nat} {m1 : List (List UInt8)} (R : Rows33 m1 n) : [80 + need].map (fun n => n.toNat.toUInt8) ++ (m1.map (kc false)).flatten ++ [80 + (n : Int)].map (fun n => n.toNat.toUInt8) ++ [174] = scr false false need m1 := by
  rw [scr_false]
  unfold lay
  rw [if_neg (by decide), List.length_map, R.1]
  rfl
theorem laid_t {need : Int} {n : Nat} {m1 : List (List UInt8)} (R : Rows33 m1 n) (h1 : 1 ≤ n) : (blocks (m1.map (kc true))).flatten ++ [80 + need].map (fun n => n.toNat.toUInt8) ++ [156] = scr false true need m1 := by
  rw [scr_false]
  unfold lay
  rw [if_pos rfl, layA_blocks (by rw [List.length_map, R.1]; exact h1)]
  rfl
theorem islist_lt {h : Heap} {D : Addr} {ys : Array Value} (hl : h.IsList D ys) : D < h.objs.size := by obtain ⟨_, e, _⟩ := hl; exact Heap.lt_size e

end
section -- LJ0
theorem ne_bytes_same {w : World} {A : Around} {E : Value → Shared → Prop} {s : Shared} {b : List UInt8} {t u : Tok} {Q : Value → Shared → Prop} (h : Q (.bool false) s) : wpAny (model P0 w) A (compareOp .NotEq (.bytes ⟨b⟩ t) (.bytes ⟨b⟩ u)) Q E s := by
  refine ne_bytes ?_
  rw [bne_self_eq_false]
  exact h
theorem len_made2 {w : World} {A : Around} {E : Value → Shared → Prop} {s : Shared} {h₀ : Heap} {L : Addr} {m : Str → Option Value} {sort tap : Bool} {need : Int} {ls : List (List UInt8)} {v : Value} {n : Nat} (F : Fr h₀ L s.heap m) (X : (fr.heap_1 w.params).In h₀) (W : World0 w s.heap) (M : Made w s.heap (clsOf sort tap) tap need ls v) (hn : (scr sort tap need ls).length = n) (h33 : ∀ l ∈ ls, l.length = 33) (hz : 1 ≤ ls.length ∧ ls.length ≤ 4) (h0 : 1 ≤ need) (h1 : need ≤ 16) (r : Room 11 A) :
    wpAny (model P0 w) A (call (.builtin "len") [v]) (Back s (fun u _ => ∃ t, u = .int (n : Int) t)) E s := hn ▸ len_made F X W M h33 hz h0 h1 r

end
section -- LK0
open PyProof.Rows.LCg PyProof.Rows.LCp PyProof.Rows.LCt
theorem rest_ind {w : World} {A : Around} {h₀ : Heap} {L : Addr} {m : Str → Option Value} {env : Env} {ct elt : Expr} {x : Str} {scope : Scope} {cl : List (Str × Addr)} {s : Shared} {S : List (Addr × Obj) → Prop} {P : Nat → Value → Prop} {Fin : List Value → List (Addr × Obj) → Prop} {news : List (Addr × Obj)} {n : Nat} (f : Nat → Nat) (h0 : f 0 = 0)
    (turn : ∀ k i ys, i < n → ys.length = f i → (∀ ys', ys'.length = f (i + 1) → CompRestT P0 w A h₀ L m env ct elt x scope cl s S P Fin k (i + 1) ys' news) → CompRestT P0 w A h₀ L m env ct elt x scope cl s S P Fin (k + 1) i ys news)
    (fin : ∀ ys, ys.length = f n → Fin ys news) : CompRestT P0 w A h₀ L m env ct elt x scope cl s S P Fin n 0 [] news := by
  have go : ∀ k i ys, i + k = n → ys.length = f i → CompRestT P0 w A h₀ L m env ct elt x scope cl s S P Fin k i ys news := by
    intro k
    induction k with
    | zero => intro i ys hi hy; exact CompRestT.zero (fin ys (by rw [hy]; congr 1))
    | succ k ih => intro i ys hi hy; exact turn k i ys (by (first | lia | omega)) hy fun ys' hy' => ih (i + 1) ys' (by (first | lia | omega)) hy'
  exact go n 0 [] (by (first | lia | omega)) h0.symm
theorem byte_at {w : World} {A : Around} {E : Value → Shared → Prop} {s : Shared} {value slice : Expr} {l : List UInt8} {t u : Tok} {i : Nat} {Q : Value → Shared → Prop} (hi : i < l.length) (h9 : l.length ≤ 1000) (h : ∀ t' k, Q (.int ((l.getD i 0).toNat : Int) t') { s with toks := k })
    (hs : subscripted slice false (.bytes ⟨l⟩ t) (.int (0 + (i : Int)) u) = operate [.bytes ⟨l⟩ t, .int (0 + (i : Int)) u] (getItem (.bytes ⟨l⟩ t) (.int (0 + (i : Int)) u)) := by with_unfolding_all rfl)
    (ht : ∀ r, letTemporaryGo value (.bytes ⟨l⟩ t) r = pure () := by intro _; with_unfolding_all rfl) : wpAny (model P0 w) A (subscriptTail value slice (.bytes ⟨l⟩ t) (.int (0 + (i : Int)) u)) Q E s := by
  have hl : (KBw.bInts ⟨l⟩).length = l.length := by rw [KBw.ints_length]; rfl
  refine KBw.item_K rfl (by rw [hl]; (first | lia | omega)) (by (first | lia | omega)) (by rw [hl]; (first | lia | omega)) (fun t' k _ _ => ?_) hs ht
  have e : (KBw.bInts ⟨l⟩).getD (0 + (i : Int)).toNat 0 = ((l.getD i 0).toNat : Int) := by
    have e2 : (0 + (i : Int)).toNat = i := by (first | lia | omega)
    rw [e2]
    unfold KBw.bInts
    rw [List.getD_eq_getElem?_getD, List.getD_eq_getElem?_getD, List.getElem?_map, List.getElem?_eq_getElem hi]
    rfl
  rw [e]
  exact h t' k
/-- how many octets part, among the first i -/
noncomputable def dif (a b : List UInt8) (i : Nat) : Nat := ((List.range i).filter fun j => a.getD j 0 != b.getD j 0).length
theorem dif_zero (a b : List UInt8) : dif a b 0 = 0 := rfl
theorem dif_succ (a b : List UInt8) (i : Nat) : dif a b (i + 1) = dif a b i + if a.getD i 0 != b.getD i 0 then 1 else 0 := by
  unfold dif
  rw [List.range_succ, List.filter_append, List.length_append]
  congr 1
  rw [List.filter_cons, List.filter_nil]
  by_cases h : (a.getD i 0 != b.getD i 0) = true
  · rw [if_pos h, if_pos h]; rfl
  · rw [if_neg h, if_neg h]; rfl
theorem dif_yes {a b : List UInt8} {i : Nat} (h : ((a.getD i 0).toNat : Int) ≠ ((b.getD i 0).toNat : Int)) : dif a b (i + 1) = dif a b i + 1 := by
  rw [dif_succ, if_pos]
  rw [bne_iff_ne]
  exact fun e => h (by rw [e])
theorem dif_no {a b : List UInt8} {i : Nat} (h : ((a.getD i 0).toNat : Int) = ((b.getD i 0).toNat : Int)) : dif a b (i + 1) = dif a b i := by
  have h' : ¬ (a.getD i 0 != b.getD i 0) = true := by
    rw [bne_iff_ne]
    exact fun e => e (UInt8.toNat_inj.mp (by (first | lia | omega)))
  rw [dif_succ, if_neg h', Nat.add_zero]
theorem dif_same {a b : List UInt8} {i k : Nat} (h : ∀ j, i ≤ j → j < i + k → a.getD j 0 = b.getD j 0) : dif a b (i + k) = dif a b i := by
  induction k with
  | zero => rfl
  | succ k ih =>
    have h' : ¬ (a.getD (i + k) 0 != b.getD (i + k) 0) = true := by
      rw [h (i + k) (by (first | lia | omega)) (by (first | lia | omega))]; simp
    rw [show i + (k + 1) = i + k + 1 by (first | lia | omega), dif_succ, if_neg h', Nat.add_zero, ih fun j h1 h2 => h j h1 (by (first | lia | omega))]
theorem dif_one {p q : List UInt8} {x y : UInt8} (hxy : x ≠ y) : dif (p ++ [x] ++ q) (p ++ [y] ++ q) (p ++ [x] ++ q).length = 1 := by
  have e1 : dif (p ++ [x] ++ q) (p ++ [y] ++ q) p.length = 0 := by
    have := dif_same (a := p ++ [x] ++ q) (b := p ++ [y] ++ q) (i := 0) (k := p.length) (fun j _ h => by
      rw [List.getD_eq_getElem?_getD, List.getD_eq_getElem?_getD, List.append_assoc, List.append_assoc, List.getElem?_append_left (by (first | lia | omega)), List.getElem?_append_left (by (first | lia | omega))])
    rw [Nat.zero_add] at this
    rw [this]; rfl
  have e2 : dif (p ++ [x] ++ q) (p ++ [y] ++ q) (p.length + 1) = 1 := by
    rw [dif_succ, e1, if_pos]
    rw [bne_iff_ne, List.getD_eq_getElem?_getD, List.getD_eq_getElem?_getD, List.append_assoc, List.append_assoc, List.getElem?_append_right (Nat.le_refl _), List.getElem?_append_right (Nat.le_refl _), Nat.sub_self]
    exact hxy
  have e3 := dif_same (a := p ++ [x] ++ q) (b := p ++ [y] ++ q) (i := p.length + 1) (k := q.length) (fun j h1 h2 => by
    rw [List.getD_eq_getElem?_getD, List.getD_eq_getElem?_getD, List.getElem?_append_right (by simp; (first | lia | omega)), List.getElem?_append_right (by simp; (first | lia | omega))]
    simp)
  rw [List.length_append, List.length_append, List.length_singleton, e3, e2]
theorem nb_ne {need : Int} (h0 : 1 ≤ need) (h1 : need ≤ 4) : (80 + need).toNat.toUInt8 ≠ (80 + (need + 1)).toNat.toUInt8 := by
  have : need = 1 ∨ need = 2 ∨ need = 3 ∨ need = 4 := by (first | lia | omega)
  rcases this with rfl | rfl | rfl | rfl <;> decide
theorem dif_scr {tap : Bool} {need : Int} {n : Nat} {a : List (List UInt8)} (ra : Rows33 a n) (hn : 1 ≤ n) (h0 : 1 ≤ need) (h1 : need ≤ 4) : dif (scr false tap need a) (scr false tap (need + 1) a) (scr false tap need a).length = 1 ∧ (scr false tap (need + 1) a).length = (scr false tap need a).length := by
  cases tap
  · have e : ∀ k, scr false false k a = [] ++ [(80 + k).toNat.toUInt8] ++ ((a.map (kc false)).flatten ++ nb (a.map (kc false)).length ++ [174]) := fun k => by
      rw [scr_false]; unfold lay; rw [if_neg (by decide)]; simp [nb]
    rw [e, e]
    exact ⟨dif_one (nb_ne h0 h1), by simp⟩
  · have e : ∀ k, scr false true k a = (blocks (a.map (kc true))).flatten ++ [(80 + k).toNat.toUInt8] ++ [156] := fun k => by
      rw [scr_false]; unfold lay; rw [if_pos rfl, layA_blocks (by rw [List.length_map, ra.1]; exact hn)]
    rw [e, e]
    exact ⟨dif_one (nb_ne h0 h1), by simp⟩

end
section -- LK1
theorem join_frame {w : World} {A : Around} {E : Value → Shared → Prop} {Q : Flow → Shared → Prop} {s s₁ : Shared} {env : Env} {h₀ : Heap} {L : Addr} {m : Str → Option Value} {news : List (Addr × Obj)} {st : Stmt} {rest : List Stmt}
    (_F : Fr h₀ L s₁.heap m) (_N : News h₀ L s₁.heap news)
    (hst : ∀ Q' : Flow → Shared → Prop, (∀ h' tk, Fr h₀ L h' m → News h₀ L h' news → Q' .next { s with heap := h', toks := tk }) → wpAny (model P0 w) A (exec st env) Q' E s₁)
    (k : ∀ h' tk, Fr h₀ L h' m → News h₀ L h' news → wpAny (model P0 w) A (execs rest env) Q E { s with heap := h', toks := tk }) :
    wpAny (model P0 w) A (execs (st :: rest) env) Q E s₁ := wpAny_execs_cons (hst _ k)
theorem multisig_law {w : World} {A : Around} {E : Value → Shared → Prop} {s : Shared} {m : Int} {t : Tok} {D : Addr} {vs : Array Value} {ls : List (List UInt8)} {n : Nat} (W : World0 w s.heap) (hl : s.heap.IsList D vs) (hp : Paired (PkAt w s.heap) vs.toList ls)
    (R : Rows33 ls n) (hn1 : 1 ≤ n) (hn4 : n ≤ 4) (nb : 1 ≤ m ∧ m ≤ (n : Int)) (r : Room 4 A) :
    wpAny (model P0 w) A (call (.ref 1423) [.int m t, .ref D]) (Back s (fun v h => ∃ a d t1 t2, v = .ref a ∧ IsScript w h a (scr false false m ls) d t1 t2)) E s := by
  have e : scr false false m ls = Mine.nb m ++ (ls.map (kc false)).flatten ++ Mine.nb ls.length ++ [174] := by
    rw [scr_false]; unfold lay; rw [if_neg (by decide), List.length_map]
  rw [e]
  exact multisig_spec W hl hp R.2 ⟨by rw [R.1]; exact hn1, by rw [R.1]; exact hn4⟩ nb.1 (by rw [R.1]; exact nb.2) r
theorem pk_pairs {w : World} {g h : Heap} {us ys : List Value} {ls : List (List UInt8)} (a : Paired (fun v y => ∀ l, IsB v l → PkAt w g y l) us ys) (b : Paired IsB us ls) (gr : Grows g h) : Paired (PkAt w h) ys ls := by
  induction a generalizing ls with
  | nil => cases b; exact .nil
  | cons h _ ih =>
    cases b with
    | cons h' r' =>
      obtain ⟨a, d, t1, t2, t3, e, x⟩ := h _ h'
      exact .cons ⟨a, d, t1, t2, t3, e, gr _ _ x.o, gr _ _ x.d⟩ (ih r')

end
section -- LM1
section
variable {w : World} {A : Around} {E : Value → Shared → Prop} {s : Shared} {env : Env} {h₀ : Heap} {x : Str} {body : List Stmt} {Q : Flow → Shared → Prop}
theorem for_led {l : Addr} {lo : Obj} {items : Array Value} {m₀ : Str → Option Value} {news : List (Addr × Obj)} (hh : A.handled = none) (hls : s.heap.IsList l items) (F : Fr h₀ env.locals s.heap m₀) (N : News h₀ env.locals s.heap ((l, lo) :: news))
    (turn : ∀ (i : Nat) v h tk I oI lo', items[i]? = some v → Fr h₀ env.locals h (fun y => if y = x then some v else m₀ y) → News h₀ env.locals h ((I, oI) :: (l, lo') :: news) →
      ∀ Q' : Flow → Shared → Prop, (∀ h' tk', Fr h₀ env.locals h' (fun y => if y = x then some v else m₀ y) → News h₀ env.locals h' ((I, oI) :: (l, lo') :: news) → Q' .next { s with heap := h', toks := tk' }) → wpAny (model P0 w) A (execs body env) Q' E { s with heap := h, toks := tk })
    (done : ∀ h' tk r, Fr h₀ env.locals h' (fun y => if y = x then r else m₀ y) → News h₀ env.locals h' news → Q .next { s with heap := h', toks := tk }) :
    wpAny (model P0 w) A (pyIter (.ref l)) (fun it s₂ => LoopAtV P0 w A h₀ env x body Q E it s₂) E s := by
  have hlt : l < s.heap.objs.size := Heap.lt_size (N _ (.head _)).1
  have hne : l ≠ s.heap.objs.size := Nat.ne_of_lt hlt
  have hnl := (N _ (.head _)).2
  have Nn : News h₀ env.locals s.heap news := fun p hp => N p (.tail _ hp)
  have offI : ∀ p ∈ news, p.1 ∉ [s.heap.objs.size] := fun p hp hm => Nat.ne_of_lt (Heap.lt_size (Nn p hp).1) (List.mem_singleton.mp hm)
  refine wpAny_pyIter_list hls ?_
  have W := Walks.list (prog := P0) (w := w) hh s.heap.objs.size l hne items
  refine ⟨s.heap.objs.size, [s.heap.objs.size, l], [s.heap.objs.size], items.size, _, _, m₀, news, fun _ m nw => nw = news ∧ ∃ r, m = fun y => if y = x then r else m₀ y, rfl, W, ?_, ?_, offI, ⟨⟨_, Heap.get?_push_size _ rfl, rfl, rfl⟩, hls.at fun o e => Heap.get?_push_of_some _ e⟩, F.push _, Nn.grown fun _ _ e => Heap.get?_push_of_some _ e, ⟨rfl, m₀ x, ?_⟩, ?_, ?_⟩
  · intro hm
    rcases List.mem_cons.mp hm with e | e
    · exact (Nat.ne_of_lt F.ns.lt) e
    · exact hnl.1 (List.mem_singleton.mp e).symm
  · intro b hb; rw [List.mem_singleton.mp hb]; exact next_is_new F
  · funext y
    by_cases q : y = x
    · rw [if_pos q, q]
    · rw [if_neg q]
  · rintro i v m₁ news₁ s₁ own ⟨hh', tk', rfl⟩ hin hP ⟨rfl, r, rfl⟩ hoff hfp hget hall st F₁ N₁
    have F₂ : Fr h₀ env.locals hh' (fun y => if y = x then some v else m₀ y) := by
      have e : (fun y => if y = x then some v else (fun y => if y = x then r else m₀ y) y) = fun y => if y = x then some v else m₀ y := by
        funext y
        by_cases q : y = x
        · rw [if_pos q, if_pos q]
        · rw [if_neg q, if_neg q]; exact if_neg q
      exact e ▸ F₁
    obtain ⟨⟨oI, hoI, -, -⟩, ⟨lo', hlo', -, -⟩⟩ := st
    have mI := hall s.heap.objs.size (.head _) (next_is_new F) oI hoI
    have mL := hall l (.tail _ (.head _)) hnl.2 lo' hlo'
    have N₂ : News h₀ env.locals hh' ((s.heap.objs.size, oI) :: (l, lo') :: news₁) := fun p hp => by
      rcases List.mem_cons.mp hp with rfl | hp
      · exact N₁ _ (List.mem_append_left _ mI)
      · rcases List.mem_cons.mp hp with rfl | hp
        · exact N₁ _ (List.mem_append_left _ mL)
        · exact N₁ _ (List.mem_append_right _ hp)
    refine turn i v hh' tk' _ oI lo' hP F₂ N₂ _ fun h' tk F' N' => ?_
    refine .next ⟨rfl, h', tk, _, news₁, rfl, F', fun p hp => ?_, hoff, rfl, _, rfl⟩
    rcases List.mem_append.mp hp with hp | hp
    · have g := hget p hp
      rcases List.mem_cons.mp (hfp p hp) with e1 | e1
      · have : p.2 = oI := by rw [e1] at g; exact Option.some.inj (g.symm.trans hoI)
        have e2 : p = (s.heap.objs.size, oI) := Prod.ext e1 this
        exact e2 ▸ N' _ (.head _)
      · have e1 := List.mem_singleton.mp e1
        have : p.2 = lo' := by rw [e1] at g; exact Option.some.inj (g.symm.trans hlo')
        have e2 : p = (l, lo') := Prod.ext e1 this
        exact e2 ▸ N' _ (.tail _ (.head _))
    · exact N' _ (.tail _ (.tail _ hp))
  · rintro h' tk m' news' F' N' _ ⟨rfl, r, rfl⟩
    exact done h' tk r F' N'
end

end
section -- LM2
theorem let_law {w : World} {s : Shared} {E : Value → Shared → Prop} {Q : Value → Shared → Prop} {base : Heap} {env : Env} {loose : List Str} {mean : ExcName → Option Value} {mg mb : Str → Option Value} {sort tap : Bool} {need : Int} {ls : List (List UInt8)} {v : Value} {L : Addr} {m : Str → Option Value} {news : List (Addr × Obj)} {n : Nat}
    (HB : Below callerA base [] base ∧ Top V0 loose mean mg mb base) (XB : (fr.heap_1 w.params).In base) (hf : env.frame = some L) (hk : env.scope.kind = .function) (F : Fr base L s.heap m) (N : News base L s.heap news) (W : World0 w s.heap)
    (M : Made w s.heap (clsOf sort tap) tap need ls v) (hn : ls.length = n) (hn1 : 1 ≤ n) (hn4 : n ≤ 4) (h0 : 0 ≤ need) (h1 : need ≤ 100) (r : Room 6 (callerA.deeper env))
    (k : ∀ h' tk, Fr base L h' m → News base L h' news → Q (.bool (decide (1 ≤ need ∧ need ≤ (n : Int)))) { s with heap := h', toks := tk }) :
    wpAny (model P0 w) (callerA.deeper env) (call (.ref 1456) [v]) Q E s := by
  subst hn
  have hfs : [env].filterMap (·.frame) = [L] := by simp [hf]
  refine let_spec W (pushX HB.1 F hf hk) XB HB.2 ?_ M ⟨hn1, hn4⟩ h0 h1 r ?_
  · rw [hfs]
    intro b hb
    obtain rfl := List.mem_singleton.mp hb
    obtain ⟨o, es, ep, ho, hd, _⟩ := F.ns
    exact ⟨o, es, ep, ho, hd⟩
  · intro h' g' tk T G
    rw [hfs] at T
    have other : ∀ b o, s.heap.get? b = some o → b ≠ L → h'.get? b = some o := fun b o e q => G _ _ (T.other b o e (fun m => q (List.mem_singleton.mp m)))
    refine k h' tk ⟨?_, fun b o e => ?_, F.above⟩ fun p hp => ?_
    · obtain ⟨o, es, ep, ho, hd, q⟩ := F.ns
      obtain ⟨sl, hs⟩ := T.frame L o ho (.head _)
      exact ⟨_, es, ep, G _ _ hs, hd, q⟩
    · exact other b o (F.keep b o e) fun q => by rw [q, kts_self F] at e; cases e
    · exact ⟨other _ _ (N p hp).1 (N p hp).2.1, (N p hp).2⟩

end
section -- LO1
theorem p2sh_law {w : World} {A : Around} {E : Value → Shared → Prop} {s : Shared} {a d : Addr} {l x : List UInt8} {t1 t2 : Tok} (W : World0 w s.heap) (K : IsScript w s.heap a l d t1 t2) (hl : l.length ≤ 800) (r : Room 7 A) (hx : h160 l = x) :
    wpAny (model P0 w) A (call (.ref 1409) [.ref a]) (Back s (fun v h => ∃ a d t1 t2, v = .ref a ∧ IsScript w h a ([169, 20] ++ x ++ [135]) d t1 t2)) E s := hx ▸ p2sh_spec W K hl r
theorem p2wsh_law {w : World} {A : Around} {E : Value → Shared → Prop} {s : Shared} {a d : Addr} {l x : List UInt8} {t1 t2 : Tok} (W : World0 w s.heap) (K : IsScript w s.heap a l d t1 t2) (hl : l.length ≤ 800) (r : Room 7 A) (hx : sha l = x) :
    wpAny (model P0 w) A (call (.ref 1416) [.ref a]) (Back s (fun v h => ∃ a d t1 t2, v = .ref a ∧ IsScript w h a ([0, 32] ++ x) d t1 t2)) E s := hx ▸ p2wsh_spec W K hl r
theorem eq_bytes_same {w : World} {A : Around} {E : Value → Shared → Prop} {s : Shared} {b : List UInt8} {t u : Tok} {Q : Value → Shared → Prop} (h : Q (.bool true) s) : wpAny (model P0 w) A (compareOp .Eq (.bytes ⟨b⟩ t) (.bytes ⟨b⟩ u)) Q E s := by
  refine eq_bytes ?_
  rw [beq_self_eq_true]
  exact h

end
section -- law
theorem News.drop1 {h₀ h : Heap} {L : Addr} {x : Addr × Obj} {r : List (Addr × Obj)} (N : News h₀ L h (x :: r)) : News h₀ L h r := fun p hp => N p (.tail _ hp)
theorem need_bounds {k : Int} {n : Nat} (h : 1 ≤ n) : 1 ≤ 1 + Int.fmod k n ∧ 1 + Int.fmod k n ≤ n := by
  have a := Int.fmod_nonneg_of_pos k (show (0 : Int) < (n : Int) by (first | lia | omega))
  have b := Int.fmod_lt_of_pos k (show (0 : Int) < (n : Int) by (first | lia | omega))
  (first | lia | omega)
open PyProof.Rows.LCg PyProof.Rows.LCp
open PyProof.Rows.LCg PyProof.Rows.LCp
theorem range_small2 {n : Nat} (h : n ≤ 1000) : Builtin.Range.small 0 (n : Int) 1 = true ∧ Builtin.Range.rangeSize 0 (n : Int) 1 = (n : Int) :=
  ⟨small_one (by (first | lia | omega)) (by (first | lia | omega)) (by (first | lia | omega)) (by (first | lia | omega)), (rangeSize_nat _ _).trans (by (first | lia | omega))⟩
open PyProof.Rows.LCg PyProof.Rows.LCp
open PyProof.Rows.LCg PyProof.Rows.LCp
theorem chain1 {A B : Prop} [Decidable A] [Decidable B] (h : (decide (A ∧ B) != decide B) = true) (a : A) : False := by simp [a] at h
theorem chain2 {A B : Prop} [Decidable A] [Decidable B] (h : (decide (A ∧ B) != decide A) = true) (a : ¬ A) : False := by simp [a] at h
open PyProof.Rows.LCg PyProof.Rows.LCp
set_option maxHeartbeats 0 in
theorem law_spec : ∀ {w : World} {E : Value → Shared → Prop} {s : Shared} {a : Addr} {svs : List Value} {ns : List Int} {loose : List Str} {mean : ExcName → Option Value} {mg mb : Str → Option Value} (_ : (fr.heap_1 w.params).In s.heap) (_ : Top V0 loose mean mg mb s.heap) (_ : s.heap.IsList a svs.toArray) (_ : IntsAre svs ns) (_ : ns.length ≤ 63) (_ : PyData.layable0 (.list (ns.map .int)) = true),
    wpAny (model P0 w) callerA (call (.ref 1461) [.ref a]) (Back s (fun v _ => v = .bool true)) E s := by
  intro w E s a svs ns loose mean mg mb KX TB hl hi h63 hlay
  have HB : Below callerA s.heap [] s.heap ∧ Top V0 loose mean mg mb s.heap := ⟨below_caller s.heap, TB⟩
  have W : World0 w s.heap := ⟨KX, _, _, _, topRead_of TB⟩
  have r : Room 12 callerA := ⟨rfl, by decide, by decide⟩
  refine' enterC (binds := [(Str.ofString "script", .ref a)]) W r ?ho ?hcd ?hbind ?hkind ?hnd ?_ ?c1 ?c2 ?c3
  case ho => k_is
  case hcd => k_is
  case hbind => exact BindsTo.of_eq rfl
  case hkind => rfl
  case hnd => decide +kernel
  case c1 => rfl
  case c2 => rfl
  case c3 => rfl
  intro L h₁ tk cells loose2 mg2 mb2 KX2 T F N Y rr
  clear KX2 r W TB
  obtain ⟨oM, oL, oN, oT, oS, rfl, dM, dL, dN, dT, dS⟩ := cells5 Y
  clear Y
  replace dM : oM.data = .cell none := dM
  replace dL : oL.data = .cell none := dL
  replace dN : oN.data = .cell none := dN
  replace dT : oT.data = .cell none := dT
  replace dS : oS.data = .cell (some (.ref a)) := dS
  refine wpAny_execs_cons ?_
  repeat' (first | ((with_reducible show wpAny _ _ (call (Value.ref 1430) _ _) _ _ _); (with_reducible ((refine' use (number_spec ?zzW ?zzhl ?zzhi ?zzh63 ?zzh0 ?zzhp ?zzr) ?zzF ?zzN ?_; (case zzhl => exact Heap.IsList.at (by with_reducible assumption) (Fr.keep (by assumption) _)); (case zzhi => with_reducible assumption); (case zzh63 => with_reducible assumption); (case zzh0 => first | decide | (first | lia | omega)); (case zzhp => first | decide | (first | lia | omega)); (first | (((case zzW => exact World0.now (by k_asm) (by k_asm) (by k_asm)); (case zzr => (first | (first | exact Room.le (by with_reducible assumption) (by decide) | exact Room.le (Room.in1 (by with_reducible assumption)) (by decide)) | (first | exact Room.le (by assumption) (by decide) | exact Room.le (Room.in1 (by assumption)) (by decide)))); (case zzF => k_asm); (case zzN => k_asm))) | (((case zzW => exact World0.now (by assumption) (by assumption) (by assumption)); (case zzr => (first | (first | exact Room.le (by with_reducible assumption) (by decide) | exact Room.le (Room.in1 (by with_reducible assumption)) (by decide)) | (first | exact Room.le (by assumption) (by decide) | exact Room.le (Room.in1 (by assumption)) (by decide)))); (case zzF => k_asm); (case zzN => k_asm)))); intro v' h' tk' g' F' N' e'; obtain ⟨t', e'⟩ := e'; subst e')))) | ((with_reducible show wpAny _ _ (execs (_ :: _) _) _ _ _); (with_reducible ((k_here; refine Stop.go ?_)))) | walk1 | (dsimp only; walk1))
  unfold Stop
  refine wpAny_execs_cons ?_
  repeat' (first | ((with_reducible show wpAny _ _ (call (Value.ref 1430) _ _) _ _ _); (with_reducible ((refine' use (number_spec ?zzW ?zzhl ?zzhi ?zzh63 ?zzh0 ?zzhp ?zzr) ?zzF ?zzN ?_; (case zzhl => exact Heap.IsList.at (by with_reducible assumption) (Fr.keep (by assumption) _)); (case zzhi => with_reducible assumption); (case zzh63 => with_reducible assumption); (case zzh0 => first | decide | (first | lia | omega)); (case zzhp => first | decide | (first | lia | omega)); (first | (((case zzW => exact World0.now (by k_asm) (by k_asm) (by k_asm)); (case zzr => (first | (first | exact Room.le (by with_reducible assumption) (by decide) | exact Room.le (Room.in1 (by with_reducible assumption)) (by decide)) | (first | exact Room.le (by assumption) (by decide) | exact Room.le (Room.in1 (by assumption)) (by decide)))); (case zzF => k_asm); (case zzN => k_asm))) | (((case zzW => exact World0.now (by assumption) (by assumption) (by assumption)); (case zzr => (first | (first | exact Room.le (by with_reducible assumption) (by decide) | exact Room.le (Room.in1 (by with_reducible assumption)) (by decide)) | (first | exact Room.le (by assumption) (by decide) | exact Room.le (Room.in1 (by assumption)) (by decide)))); (case zzF => k_asm); (case zzN => k_asm)))); intro v' h' tk' g' F' N' e'; obtain ⟨t', e'⟩ := e'; subst e')))) | ((with_reducible show wpAny _ _ (execs (_ :: _) _) _ _ _); (with_reducible ((k_here; refine Stop.go ?_)))) | walk1 | (dsimp only; walk1))
  unfold Stop
  obtain ⟨n, hc, hn1, hn4⟩ := cnt_nat (num ns 1)
  generalize 1 + Int.fmod (num ns 1) 4 = c at *
  subst hc
  generalize (Int.fmod (num ns 0) 2 == 1) = tap at *
  rename Obj => oT'
  rename _ = Data.cell (some (Value.bool _)) => dT'
  rename Fr _ _ _ _ => F
  rename News _ _ _ _ => N
  clear dT oT
  refine tok_any (s := s) ?_
  intro tk
  refine wpAny_execs_cons ?_
  refine' comp_assign ?hsw ?hclos ?hcell ?hk ?hnames ?hx ?hs ?hy ?hp ?_
  case hsw => rfl
  case hclos => rfl
  case hcell => decide
  case hk => rfl
  case hnames => decide
  case hx => rfl
  case hs => intro x; rfl
  case hy => rfl
  case hp => rfl
  repeat' (first | walk1 | (dsimp only; walk1))
  rename IsRange _ _ _ _ _ _ _ _ => hr
  rename Fr _ _ _ _ => F
  rename News _ _ _ _ => N
  have hq := range_small hn4
  refine' CN.intro (fun _ y _ => ∃ l, IsB y l ∧ l.length = 33) ?hL (src_rangeB rr.1 hr hq.1 hq.2) ?hz ?mono F N ?elt ?_
  case hL => intro l e; exact Option.some.inj e
  case hz => rw [sizeLine_eq]; (first | lia | omega)
  case mono => exact fun v y g g' k R => R
  case elt =>
    intro C i v s₂ m₂ hP hx Fc E₂
    obtain ⟨hi', t, rfl⟩ := hP
    have Nc := news_nil Fc
    have Xc := KX.keeps F.keep
    have Tc := T.keeps F.keep
    have cell := (N (_, oS) (by k_mem)).1
    have hl' := hl.at fun o e => F.keep _ o e
    clear N F hl
    dsimp only at *
    repeat' (first | ((with_reducible show wpAny _ _ (call (Value.ref 1430) _ _) _ _ _); (with_reducible ((refine' use (number_spec ?zzW ?zzhl ?zzhi ?zzh63 ?zzh0 ?zzhp ?zzr) ?zzF ?zzN ?_; (case zzhl => exact Heap.IsList.at (by with_reducible assumption) (Fr.keep (by assumption) _)); (case zzhi => with_reducible assumption); (case zzh63 => with_reducible assumption); (case zzh0 => first | decide | (first | lia | omega)); (case zzhp => first | decide | (first | lia | omega)); (first | (((case zzW => exact World0.now (by k_asm) (by k_asm) (by k_asm)); (case zzr => (first | (first | exact Room.le (by with_reducible assumption) (by decide) | exact Room.le (Room.in1 (by with_reducible assumption)) (by decide)) | (first | exact Room.le (by assumption) (by decide) | exact Room.le (Room.in1 (by assumption)) (by decide)))); (case zzF => k_asm); (case zzN => k_asm))) | (((case zzW => exact World0.now (by assumption) (by assumption) (by assumption)); (case zzr => (first | (first | exact Room.le (by with_reducible assumption) (by decide) | exact Room.le (Room.in1 (by with_reducible assumption)) (by decide)) | (first | exact Room.le (by assumption) (by decide) | exact Room.le (Room.in1 (by assumption)) (by decide)))); (case zzF => k_asm); (case zzN => k_asm)))); intro v' h' tk' g' F' N' e'; obtain ⟨t', e'⟩ := e'; subst e')))) | ((with_reducible show wpAny _ _ (call (Value.ref 1437) _ _) _ _ _); ((refine' use (octets_spec ?zzW ?zzhb ?zzr) ?zzF ?zzN ?_; (case zzhb => exact num_bits (by with_reducible assumption) (by (first | lia | omega)) (by (first | lia | omega)) (by (first | lia | omega)) (by (first | lia | omega))); (first | (((case zzW => exact World0.now (by k_asm) (by k_asm) (by k_asm)); (case zzr => (first | (first | exact Room.le (by with_reducible assumption) (by decide) | exact Room.le (Room.in1 (by with_reducible assumption)) (by decide)) | (first | exact Room.le (by assumption) (by decide) | exact Room.le (Room.in1 (by assumption)) (by decide)))); (case zzF => k_asm); (case zzN => k_asm))) | (((case zzW => exact World0.now (by assumption) (by assumption) (by assumption)); (case zzr => (first | (first | exact Room.le (by with_reducible assumption) (by decide) | exact Room.le (Room.in1 (by with_reducible assumption)) (by decide)) | (first | exact Room.le (by assumption) (by decide) | exact Room.le (Room.in1 (by assumption)) (by decide)))); (case zzF => k_asm); (case zzN => k_asm)))); intro v' h' tk' g' F' N' e'; obtain ⟨t', e'⟩ := e'; subst e'))) | ((with_reducible show wpAny _ _ (eval (Expr.Name _ _) _) _ _ _); (with_reducible ((k_here; (with_reducible show wpAny _ _ (eval (Expr.Name _ _) (compEnvC _ _ _ _)) _ _ _); k_dflt (first | (refine' cn_local ?zzF ?zzhv ?_; (case zzF => k_asm); (case zzhv => assumption)) | (refine' cn_cell ?zzF ?zzhc ?zzho ?zzhd ?_; (case zzF => k_asm); (case zzhc => rfl); (case zzho => assumption); (case zzhd => assumption)) | (refine' cn_global (K := fr.heap_1 _) ?zzF ?zzX ?zzT ?zze ?_; (case zzF => k_asm); (case zzX => k_asm); (case zzT => k_asm); (case zze => k_is)) | (refine' cn_built (K := fr.heap_1 _) ?zzF ?zzX ?zzT ?zze ?zzv ?zzn ?_; (case zzF => k_asm); (case zzX => k_asm); (case zzT => k_asm); (case zze => k_is); (case zzv => boot_by_name); (case zzn => decide))))))) | walk1 | (dsimp only; walk1))
    refine' elt_back ?g ?n
    case g => exact grows_tr (by assumption) (by assumption)
    case n => exact fun _ _ => ⟨_, ⟨_, rfl⟩, oct_length _⟩
  intro D h2 tk2 ys c us g O
  obtain ⟨ls, PB, R33⟩ := rows_of O.pairs
  rw [O.len] at R33
  have F := O.F
  have N := O.N
  clear O hr hq us g
  dsimp only
  repeat' (first | ((with_reducible show wpAny _ _ (execs (_ :: _) _) _ _ _); (with_reducible ((k_here; refine Stop.go ?_)))) | walk1 | (dsimp only; walk1))
  unfold Stop
  refine tok_any (s := s) ?_
  intro tk

  k_sweep
  have hn' : ls.length = n := R33.1
  refine join_rows (s := s) (n := n) F N ?st ?k
  case st =>
    intro Q' hQ
    repeat' (first | ((with_reducible show wpAny _ _ (call (Value.ref 1430) _ _) _ _ _); (with_reducible ((refine' use (number_spec ?zzW ?zzhl ?zzhi ?zzh63 ?zzh0 ?zzhp ?zzr) ?zzF ?zzN ?_; (case zzhl => exact Heap.IsList.at (by with_reducible assumption) (Fr.keep (by assumption) _)); (case zzhi => with_reducible assumption); (case zzh63 => with_reducible assumption); (case zzh0 => first | decide | (first | lia | omega)); (case zzhp => first | decide | (first | lia | omega)); (first | (((case zzW => exact World0.now (by k_asm) (by k_asm) (by k_asm)); (case zzr => (first | (first | exact Room.le (by with_reducible assumption) (by decide) | exact Room.le (Room.in1 (by with_reducible assumption)) (by decide)) | (first | exact Room.le (by assumption) (by decide) | exact Room.le (Room.in1 (by assumption)) (by decide)))); (case zzF => k_asm); (case zzN => k_asm))) | (((case zzW => exact World0.now (by assumption) (by assumption) (by assumption)); (case zzr => (first | (first | exact Room.le (by with_reducible assumption) (by decide) | exact Room.le (Room.in1 (by with_reducible assumption)) (by decide)) | (first | exact Room.le (by assumption) (by decide) | exact Room.le (Room.in1 (by assumption)) (by decide)))); (case zzF => k_asm); (case zzN => k_asm)))); intro v' h' tk' g' F' N' e'; obtain ⟨t', e'⟩ := e'; subst e')))) | ((with_reducible show wpAny _ _ (execs (_ :: _) _) _ _ _); (with_reducible ((k_here; refine Stop.go ?_)))) | walk1 | (dsimp only; walk1))
    · unfold Stop
      refine wpAny_execs_cons ?_
      repeat' (first | ((with_reducible show wpAny _ _ (subscriptTail _ _ _ _) _ _ _); (with_reducible ((k_here; (with_reducible show wpAny _ _ (subscriptTail _ _ (Value.ref _) (Value.int _ _)) _ _ _); k_dflt (refine' bitem ?zzhl ?zzhb ?zzh0 ?zzh1 ?zzh9 ?_; (case zzhb => with_reducible assumption); (case zzhl => exact News.listAt (by assumption) (by k_mem)); (case zzh0 => first | decide | (first | lia | omega)); (case zzh1 => first | decide | (first | lia | omega)); (case zzh9 => (first | lia | omega))); intro t')))) | walk1 | (dsimp only; walk1))
      rename Fr _ _ _ _ => F
      rename News _ _ _ _ => N
      refine set_head F N ?hc PB (by (first | lia | omega)) ⟨_, rfl⟩ ?_
      case hc =>
        intro p hp he
        have hq := N p (.tail _ hp)
        have hd' := N _ (.head _)
        rw [he] at hq
        have e := hq.1.symm.trans hd'.1
        simp only [List.mem_cons, List.not_mem_nil, or_false] at hp
        rcases hp with rfl | rfl | rfl | rfl | rfl <;> (cases e; first | cases dM | cases dL | cases dN | cases dT' | cases dS)
      intro h' ys' F N PB'
      repeat' (first | walk1 | (dsimp only; walk1))
      exact hQ _ _ _ _ _ (by assumption) (by assumption) PB' (rows_set R33 (by (first | lia | omega)) (rows_getD R33 (by (first | lia | omega))))
    · exact hQ _ _ _ _ _ (by assumption) (by assumption) PB R33
  clear F N hn' R33 PB ls ys c tk
  intro h3 tk ys c ls F N PB R33

  k_sweep
  have hn' : ls.length = n := R33.1
  refine wpAny_execs_cons ?_
  repeat' (first | walk1 | (dsimp only; walk1))
  rename Fr _ _ _ _ => F
  rename News _ _ _ _ => N
  refine' use_new (mixed_spec (World0.now F KX T) (hl.at fun o e => F.keep _ o e) hi h63 (by decide) (by decide) (News.listAt N (.head _)) PB (by (first | lia | omega)) (Room.le rr (by decide))) F N ?_
  intro D1 c1 y1 m1 h4 tk4 g4 F N ⟨P1, M1⟩
  repeat' (first | walk1 | (dsimp only; walk1))
  rename Fr _ _ _ _ => F
  rename News _ _ _ _ => N
  refine' use_new (mixed_spec (World0.now F KX T) (hl.at fun o e => F.keep _ o e) hi h63 (by decide) (by decide) (News.listAt N (.tail _ (.head _))) PB (by (first | lia | omega)) (Room.le rr (by decide))) F N ?_
  intro D2 c2 y2 m2 h5 tk5 g5 F N ⟨P2, M2⟩
  repeat' (first | ((with_reducible show wpAny _ _ (execs (_ :: _) _) _ _ _); (with_reducible ((k_here; refine Stop.go ?_)))) | walk1 | (dsimp only; walk1))
  unfold Stop
  rename Fr _ _ _ _ => F
  rename News _ _ _ _ => N
  replace N := News.drop1 N
  have q0 : D ≠ L + 1 + 1 + 1 := cell_ne N (o := oN) (by k_mem) (by k_mem) dN (fun v e => by cases e)
  have q1 : D1 ≠ L + 1 + 1 + 1 := cell_ne N (o := oN) (by k_mem) (by k_mem) dN (fun v e => by cases e)
  have q2 : D2 ≠ L + 1 + 1 + 1 := cell_ne N (o := oN) (by k_mem) (by k_mem) dN (fun v e => by cases e)
  refine wpAny_execs_cons ?_
  repeat' (first | ((with_reducible show wpAny _ _ (call (Value.ref 1430) _ _) _ _ _); (with_reducible ((refine' use (number_spec ?zzW ?zzhl ?zzhi ?zzh63 ?zzh0 ?zzhp ?zzr) ?zzF ?zzN ?_; (case zzhl => exact Heap.IsList.at (by with_reducible assumption) (Fr.keep (by assumption) _)); (case zzhi => with_reducible assumption); (case zzh63 => with_reducible assumption); (case zzh0 => first | decide | (first | lia | omega)); (case zzhp => first | decide | (first | lia | omega)); (first | (((case zzW => exact World0.now (by k_asm) (by k_asm) (by k_asm)); (case zzr => (first | (first | exact Room.le (by with_reducible assumption) (by decide) | exact Room.le (Room.in1 (by with_reducible assumption)) (by decide)) | (first | exact Room.le (by assumption) (by decide) | exact Room.le (Room.in1 (by assumption)) (by decide)))); (case zzF => k_asm); (case zzN => k_asm))) | (((case zzW => exact World0.now (by assumption) (by assumption) (by assumption)); (case zzr => (first | (first | exact Room.le (by with_reducible assumption) (by decide) | exact Room.le (Room.in1 (by with_reducible assumption)) (by decide)) | (first | exact Room.le (by assumption) (by decide) | exact Room.le (Room.in1 (by assumption)) (by decide)))); (case zzF => k_asm); (case zzN => k_asm)))); intro v' h' tk' g' F' N' e'; obtain ⟨t', e'⟩ := e'; subst e')))) | ((with_reducible show wpAny _ _ (execs (_ :: _) _) _ _ _); (with_reducible ((k_here; refine Stop.go ?_)))) | walk1 | (dsimp only; walk1))
  unfold Stop
  have nb := need_bounds (k := num ns 17) hn1
  generalize 1 + Int.fmod (num ns 17) n = need at *
  rename Obj => oN'
  rename _ = Data.cell (some (Value.int _ _)) => dN'
  obtain ⟨tn, dN2⟩ : ∃ tn, oN'.data = .cell (some (.int need tn)) := ⟨_, dN'⟩
  clear dN'
  rename Fr _ _ _ _ => F
  rename News _ _ _ _ => N
  clear dN oN
  refine tok_any (s := s) ?_
  ((repeat (with_reducible rename Grows _ _ => gg; clear gg)))
  clear tk tk4 tk5
  intro tk
  k_sweep

  have N0 := N
  refine wpAny_execs_cons ?_
  refine' Assign_ListComp_P F rfl ?hsw ?hclos ?hcell ?hk ?hnames ?hx ?hx2 ?hxx ?hy ?hp ?_ ?hs
  case hsw => rfl
  case hclos => rfl
  case hcell => decide
  case hk => rfl
  case hnames => decide
  case hx => rfl
  case hx2 => rfl
  case hxx => decide
  case hs => intro x; rfl
  case hy => rfl
  case hp => rfl
  clear N0
  repeat' (first | ((with_reducible show wpAny _ _ (eval (Expr.ListComp _ _ _ _) _) _ _ _); (with_reducible ((k_here; k_dflt (refine' comp_eval ?zzhclos ?zzhcell ?zzhk ?zzhnames ?zzhx ?zzhs ?_; (case zzhclos => rfl); (case zzhcell => decide); (case zzhk => rfl); (case zzhnames => decide); (case zzhx => rfl); (case zzhs => intro x; rfl)))))) | walk1 | (dsimp only; walk1))
  rename Fr _ _ _ _ => F
  rename News _ _ _ _ => N
  have hus : ys.size = n := by rw [← Array.length_toList, PB.length, hn']
  have hLd := News.listAt N (D := D) (ys := ys) (c := c) (by k_mem)
  refine' CN.intro (fun v y g => RPair tap v y g) ?hL (src_list rr.1 hLd) ?hz ?mono F N ?elt ?_
  case hL => intro l e; cases e
  case hz => rw [sizeLine_eq]; (first | lia | omega)
  case mono =>
    intro v y g g' k R l hl
    obtain ⟨T, t1, t2, e, q⟩ := R l hl
    exact ⟨T, t1, t2, e, k _ _ q⟩
  case elt =>
    intro C i v s₂ m₂ hP hx Fc E₂
    obtain ⟨l0, t0, rfl, hl0⟩ := isb_at PB hP
    have h33 : l0.length = 33 := R33.2 l0 (List.mem_of_getElem? hl0)
    have Nc := news_nil Fc
    have Xc := KX.keeps F.keep
    have Tc := T.keeps F.keep
    have cell := (N (_, oT') (by k_mem)).1
    clear N F hl hLd
    dsimp only at *
    cases tap
    all_goals
      repeat' (first | ((with_reducible show wpAny _ _ (eval (Expr.Name _ _) _) _ _ _); (with_reducible ((k_here; (with_reducible show wpAny _ _ (eval (Expr.Name _ _) (compEnvC _ _ _ _)) _ _ _); k_dflt (first | (refine' cn_local ?zzF ?zzhv ?_; (case zzF => k_asm); (case zzhv => assumption)) | (refine' cn_cell ?zzF ?zzhc ?zzho ?zzhd ?_; (case zzF => k_asm); (case zzhc => rfl); (case zzho => assumption); (case zzhd => assumption)) | (refine' cn_global (K := fr.heap_1 _) ?zzF ?zzX ?zzT ?zze ?_; (case zzF => k_asm); (case zzX => k_asm); (case zzT => k_asm); (case zze => k_is)) | (refine' cn_built (K := fr.heap_1 _) ?zzF ?zzX ?zzT ?zze ?zzv ?zzn ?_; (case zzF => k_asm); (case zzX => k_asm); (case zzT => k_asm); (case zze => k_is); (case zzv => boot_by_name); (case zzn => decide))))))) | ((with_reducible show wpAny _ _ (newTuple _) _ _ _); (with_reducible ((k_here; (with_reducible rename Fr _ _ _ _ => F'); (with_reducible rename News _ _ _ _ => N'); k_dflt (refine' newTupG F' N' (Nat.le_of_ble_eq_true rfl) ?_); intro T' h' F' N' g' n')))) | ((with_reducible show wpAny _ _ (subscriptTail _ _ _ _) _ _ _); (with_reducible ((k_here; (with_reducible show wpAny _ _ (subscriptTail _ (Expr.Slice _ none none _) (Value.bytes _ _) (Value.ref _)) _ _ _); (with_reducible rename Fr _ _ _ _ => F'); (with_reducible rename News _ _ _ _ => N'); k_dflt (refine' bsliceG (s := ⟨_, _, _, _, _⟩) F' N' ?zzhl ?zzhu ?zzhz ?zze ?_; (case zzhl => constructor); (case zzhu => constructor); (case zze => exact picked_from _ _); (case zzhz => first | decide | (first | lia | omega))); intro h' t' k' F' N' g')))) | walk1 | (dsimp only; walk1))
      rename News _ _ _ _ => N9
      rename Grows _ _ => G9
      rename Heap.get? _ _ = none => n9
      refine' elt_back ?g ?n
      case g => first | exact G9 | exact grows_tr (by assumption) G9
      case n =>
        intro g hg l hb
        obtain rfl := isb_inj hb
        refine ⟨_, _, _, rfl, hg _ _ ?_ (N9 _ (.head _)).1⟩
        first | exact n9 | exact kts_none (by assumption) n9
  intro Dt ht tkt yt ct ut gt O
  have F1 := F
  obtain ⟨tups, TP, tg⟩ := pairs_of (by rw [comp_us O]; exact PB) O.pairs
  have N2 := tups_news O F1 tg
  have F2 := O.F
  have hyt : yt.size = n := by rw [← Array.length_toList, TP.length, List.length_map, hn']
  have lt' : ht.IsList Dt yt := ⟨_, (N2 _ (List.mem_append_right _ (.head _))).1, rfl, _, rfl⟩
  clear O tg F F1 N hLd
  repeat' (first | walk1 | (dsimp only; walk1))
  refine sorted_pairs F2 N2 (fun p hp => List.mem_append_left _ hp) lt' TP (by rw [Array.length_toList]; (first | lia | omega)) (by rw [Array.length_toList]; (first | lia | omega)) ?_
  intro D' h' c' out F N SP
  have hout : out.size ≤ 4 := by
    have ok := psort_ok (ps := prs tap ls) (by rw [List.length_map]; (first | lia | omega)) (by rw [List.length_map]; (first | lia | omega))
    have := ok.2.1.length_eq
    rw [List.length_map] at this
    rw [← Array.length_toList, SP.length]; (first | lia | omega)
  refine SrcLP.ledger (its := out) (k := c') rr.1 F N (.head _) (by rw [sizeLine_eq]; (first | lia | omega)) ?_
  intro g
  refine snd_rest (tups := tups) (.inr ⟨_, .head _, rfl, _, rfl⟩) (fun p hp => .tail _ (List.mem_append_left _ hp)) SP (fun _ => rfl) (fun _ => rfl) (by decide) ?_
  intro y3 P3 D3 h3 tk3 F3 N3 _
  replace P3 := snds_isB P3
  replace N3 : News _ _ _ _ := fun p hp => N3 p ((List.mem_cons.mp hp).elim (fun e => e ▸ .head _) fun q => .tail _ (.tail _ (List.mem_append_right _ (.tail _ q))))
  clear F N F2 N2 SP lt'
  dsimp only
  repeat' (first | ((with_reducible show wpAny _ _ (execs (_ :: _) _) _ _ _); (with_reducible ((k_here; refine Stop.go ?_)))) | walk1 | (dsimp only; walk1))
  unfold Stop
  rename Fr _ _ _ _ => F
  rename News _ _ _ _ => N
  obtain ⟨m3, hm3⟩ : ∃ m3, (psort (prs tap ls)).map (·.2) = m3 := ⟨_, rfl⟩
  rw [hm3] at P3
  ((repeat (with_reducible rename Grows _ _ => gg; clear gg)))
  refine tok_any (s := s) ?_
  rename Off1 _ _ => off
  clear off tk TP tups hout hyt out g
  intro tk

  have l1 := M1.length_eq
  have l2 := M2.length_eq
  have M3 : m3.Perm ls := hm3 ▸ ranked_perm (by (first | lia | omega)) (by (first | lia | omega))
  have RA : ∀ ms ∈ [ls, m1, m2, m3], Rows33 ms n := by
    intro ms hm
    simp only [List.mem_cons, List.not_mem_nil, or_false] at hm
    rcases hm with rfl | rfl | rfl | rfl
    · exact R33
    · exact rows_perm R33 M1
    · exact rows_perm R33 M2
    · exact rows_perm R33 M3
  refine wpAny_execs_cons ?_
  refine' comp_assign ?hsw ?hclos ?hcell ?hk ?hnames ?hx ?hs ?hy ?hp ?_
  case hsw => rfl
  case hclos => rfl
  case hcell => decide
  case hk => rfl
  case hnames => decide
  case hx => rfl
  case hs => intro x; rfl
  case hy => rfl
  case hp => rfl
  repeat' (first | walk1 | (dsimp only; walk1))
  rename Fr _ _ _ _ => F
  rename News _ _ _ _ => N
  obtain ⟨hB, hBe⟩ := name_heap F
  subst hBe
  have RP : Paired (RowAt hB) [.ref D, .ref D1, .ref D2, .ref D3] [ls, m1, m2, m3] := .cons ⟨_, _, rfl, News.listAt N (by k_mem), PB⟩ (.cons ⟨_, _, rfl, News.listAt N (by k_mem), P1⟩ (.cons ⟨_, _, rfl, News.listAt N (by k_mem), P2⟩ (.cons ⟨_, _, rfl, News.listAt N (ys := y3.toArray) (c := y3.length) (by k_mem), P3⟩ .nil)))
  have HL := News.isListOf N
  refine' CN.intro (fun v y _ => ROut hB (scr true tap need) v y) ?hL (src_list rr.1 HL) ?hz ?mono F N ?elt ?_
  case hL => intro l e; exact Option.some.inj e
  case hz => rw [sizeLine_eq]; exact Nat.le_of_ble_eq_true rfl
  case mono => exact fun v y g g' k R => R
  case elt =>
    intro C i v s₂ m₂ hP hx Fc E₂
    obtain ⟨ms, hrow, Rm⟩ := row_at RP RA (by rw [List.getElem?_toArray] at hP; exact hP)
    have hrow' := hrow
    obtain ⟨Dx, yx, rfl, hlx, hbx⟩ := hrow
    have h33 := Rm.2
    have hln := Rm.1
    have Nc := news_nil Fc
    have Xc := KX.keeps F.keep
    have Tc := T.keeps F.keep
    have cellT := (N (_, oT') (by k_mem)).1
    have cellN := (N (_, oN') (by k_mem)).1
    clear N F hl HL RP RA
    dsimp only at *
    repeat' (first | ((with_reducible show wpAny _ _ (call (Value.ref 1149) _ _) _ _ _); ((refine' use (compile_spec ?zzW ?zzM ?zzh33 ?zzhz ?zzh0 ?zzh1 ?zzr) ?zzF ?zzN ?_; (case zzM => with_reducible assumption); (case zzh33 => with_reducible assumption); (case zzhz => first | decide | (first | lia | omega)); (case zzh0 => first | decide | (first | lia | omega)); (case zzh1 => first | decide | (first | lia | omega)); (first | (((case zzW => exact World0.now (by k_asm) (by k_asm) (by k_asm)); (case zzr => (first | (first | exact Room.le (by with_reducible assumption) (by decide) | exact Room.le (Room.in1 (by with_reducible assumption)) (by decide)) | (first | exact Room.le (by assumption) (by decide) | exact Room.le (Room.in1 (by assumption)) (by decide)))); (case zzF => k_asm); (case zzN => k_asm))) | (((case zzW => exact World0.now (by assumption) (by assumption) (by assumption)); (case zzr => (first | (first | exact Room.le (by with_reducible assumption) (by decide) | exact Room.le (Room.in1 (by with_reducible assumption)) (by decide)) | (first | exact Room.le (by assumption) (by decide) | exact Room.le (Room.in1 (by assumption)) (by decide)))); (case zzF => k_asm); (case zzN => k_asm)))); intro v' h' tk' g' F' N' e'; obtain ⟨t', e'⟩ := e'; subst e'))) | ((with_reducible show wpAny _ _ (call (Value.ref 1449) _ _) _ _ _); ((refine' use (made_spec ?zzW ?zzhl ?zzhb ?zzhz ?zzr) ?zzF ?zzN ?_; (case zzhl => first | exact Heap.IsList.at (by with_reducible assumption) (Fr.keep (by assumption) _) | exact News.listAt (by assumption) (by k_mem)); (case zzhb => with_reducible assumption); (case zzhz => first | decide | (first | lia | omega)); (first | (((case zzW => exact World0.now (by k_asm) (by k_asm) (by k_asm)); (case zzr => (first | (first | exact Room.le (by with_reducible assumption) (by decide) | exact Room.le (Room.in1 (by with_reducible assumption)) (by decide)) | (first | exact Room.le (by assumption) (by decide) | exact Room.le (Room.in1 (by assumption)) (by decide)))); (case zzF => k_asm); (case zzN => k_asm))) | (((case zzW => exact World0.now (by assumption) (by assumption) (by assumption)); (case zzr => (first | (first | exact Room.le (by with_reducible assumption) (by decide) | exact Room.le (Room.in1 (by with_reducible assumption)) (by decide)) | (first | exact Room.le (by assumption) (by decide) | exact Room.le (Room.in1 (by assumption)) (by decide)))); (case zzF => k_asm); (case zzN => k_asm)))); intro v' h' tk' g' F' N' M'; have MM' := M'; obtain ⟨na', nd', n1', n2', ks', ⟨x', dx', T', t1', t2', ve', MS'⟩, NM', KS'⟩ := M'; subst ve'))) | ((with_reducible show wpAny _ _ (eval (Expr.Name _ _) _) _ _ _); (with_reducible ((k_here; (with_reducible show wpAny _ _ (eval (Expr.Name _ _) (compEnvC _ _ _ _)) _ _ _); k_dflt (first | (refine' cn_local ?zzF ?zzhv ?_; (case zzF => k_asm); (case zzhv => assumption)) | (refine' cn_cell ?zzF ?zzhc ?zzho ?zzhd ?_; (case zzF => k_asm); (case zzhc => rfl); (case zzho => assumption); (case zzhd => assumption)) | (refine' cn_global (K := fr.heap_1 _) ?zzF ?zzX ?zzT ?zze ?_; (case zzF => k_asm); (case zzX => k_asm); (case zzT => k_asm); (case zze => k_is)) | (refine' cn_built (K := fr.heap_1 _) ?zzF ?zzX ?zzT ?zze ?zzv ?zzn ?_; (case zzF => k_asm); (case zzX => k_asm); (case zzT => k_asm); (case zze => k_is); (case zzv => boot_by_name); (case zzn => decide))))))) | ((with_reducible show wpAny _ _ (getMethod (Value.ref _) _ _) _ _ _); (with_reducible ((refine' compile_get ?zzhC ?zzF ?zzX ?zzTp ?zzM ?_; (case zzM => with_reducible assumption); (case zzhC => exact cls_four _ _); (case zzF => k_asm); (case zzX => k_asm); (case zzTp => k_asm))))) | walk1 | (dsimp only; walk1))
    refine' elt_back ?g ?n
    case g => exact grows_tr (by assumption) (by assumption)
    case n => exact fun _ _ => ⟨_, hrow', _, rfl⟩
  intro D4 h4 tk4 y4 c4 us g O
  have e4 := comp_us O
  have P4 := rout_pairs (vs := us) O.pairs (by rw [e4]; exact RP)
  have F := O.F
  have N := O.N
  have N : News s.heap L h4 _ := fun p hp => N p ((List.mem_cons.mp hp).elim (fun e => e ▸ .head _) fun q => .tail _ (.tail _ q))
  clear O e4 us g RP HL
  dsimp only
  repeat' (first | ((with_reducible show wpAny _ _ (execs (_ :: _) _) _ _ _); (with_reducible ((k_here; refine Stop.go ?_)))) | walk1 | (dsimp only; walk1))
  unfold Stop
  rename Fr _ _ _ _ => F
  rename News _ _ _ _ => N
  ((repeat (with_reducible rename Grows _ _ => gg; clear gg)))
  refine tok_any (s := s) ?_
  clear tk
  intro tk
  k_sweep
  refine wpAny_execs_cons ?_
  refine' comp_assign ?hsw ?hclos ?hcell ?hk ?hnames ?hx ?hs ?hy ?hp ?_
  case hsw => rfl
  case hclos => rfl
  case hcell => decide
  case hk => rfl
  case hnames => decide
  case hx => rfl
  case hs => intro x; rfl
  case hy => rfl
  case hp => rfl
  repeat' (first | walk1 | (dsimp only; walk1))
  rename Fr _ _ _ _ => F
  rename News _ _ _ _ => N
  obtain ⟨hB, hBe⟩ := name_heap F
  subst hBe
  have RP : Paired (RowAt hB) [.ref D, .ref D1, .ref D2, .ref D3] [ls, m1, m2, m3] := .cons ⟨_, _, rfl, News.listAt N (by k_mem), PB⟩ (.cons ⟨_, _, rfl, News.listAt N (by k_mem), P1⟩ (.cons ⟨_, _, rfl, News.listAt N (by k_mem), P2⟩ (.cons ⟨_, _, rfl, News.listAt N (ys := y3.toArray) (c := y3.length) (by k_mem), P3⟩ .nil)))
  have HL := News.isListOf N
  refine' CN.intro (fun v y _ => ROut hB (scr false tap need) v y) ?hL (src_list rr.1 HL) ?hz ?mono F N ?elt ?_
  case hL => intro l e; exact Option.some.inj e
  case hz => rw [sizeLine_eq]; exact Nat.le_of_ble_eq_true rfl
  case mono => exact fun v y g g' k R => R
  case elt =>
    intro C i v s₂ m₂ hP hx Fc E₂
    obtain ⟨ms, hrow, Rm⟩ := row_at RP RA (by rw [List.getElem?_toArray] at hP; exact hP)
    have hrow' := hrow
    obtain ⟨Dx, yx, rfl, hlx, hbx⟩ := hrow
    have h33 := Rm.2
    have hln := Rm.1
    have Nc := news_nil Fc
    have Xc := KX.keeps F.keep
    have Tc := T.keeps F.keep
    have cellT := (N (_, oT') (by k_mem)).1
    have cellN := (N (_, oN') (by k_mem)).1
    clear N F hl HL RP RA
    dsimp only at *
    repeat' (first | ((with_reducible show wpAny _ _ (call (Value.ref 1149) _ _) _ _ _); ((refine' use (compile_spec ?zzW ?zzM ?zzh33 ?zzhz ?zzh0 ?zzh1 ?zzr) ?zzF ?zzN ?_; (case zzM => with_reducible assumption); (case zzh33 => with_reducible assumption); (case zzhz => first | decide | (first | lia | omega)); (case zzh0 => first | decide | (first | lia | omega)); (case zzh1 => first | decide | (first | lia | omega)); (first | (((case zzW => exact World0.now (by k_asm) (by k_asm) (by k_asm)); (case zzr => (first | (first | exact Room.le (by with_reducible assumption) (by decide) | exact Room.le (Room.in1 (by with_reducible assumption)) (by decide)) | (first | exact Room.le (by assumption) (by decide) | exact Room.le (Room.in1 (by assumption)) (by decide)))); (case zzF => k_asm); (case zzN => k_asm))) | (((case zzW => exact World0.now (by assumption) (by assumption) (by assumption)); (case zzr => (first | (first | exact Room.le (by with_reducible assumption) (by decide) | exact Room.le (Room.in1 (by with_reducible assumption)) (by decide)) | (first | exact Room.le (by assumption) (by decide) | exact Room.le (Room.in1 (by assumption)) (by decide)))); (case zzF => k_asm); (case zzN => k_asm)))); intro v' h' tk' g' F' N' e'; obtain ⟨t', e'⟩ := e'; subst e'))) | ((with_reducible show wpAny _ _ (call (Value.ref 1449) _ _) _ _ _); ((refine' use (made_spec ?zzW ?zzhl ?zzhb ?zzhz ?zzr) ?zzF ?zzN ?_; (case zzhl => first | exact Heap.IsList.at (by with_reducible assumption) (Fr.keep (by assumption) _) | exact News.listAt (by assumption) (by k_mem)); (case zzhb => with_reducible assumption); (case zzhz => first | decide | (first | lia | omega)); (first | (((case zzW => exact World0.now (by k_asm) (by k_asm) (by k_asm)); (case zzr => (first | (first | exact Room.le (by with_reducible assumption) (by decide) | exact Room.le (Room.in1 (by with_reducible assumption)) (by decide)) | (first | exact Room.le (by assumption) (by decide) | exact Room.le (Room.in1 (by assumption)) (by decide)))); (case zzF => k_asm); (case zzN => k_asm))) | (((case zzW => exact World0.now (by assumption) (by assumption) (by assumption)); (case zzr => (first | (first | exact Room.le (by with_reducible assumption) (by decide) | exact Room.le (Room.in1 (by with_reducible assumption)) (by decide)) | (first | exact Room.le (by assumption) (by decide) | exact Room.le (Room.in1 (by assumption)) (by decide)))); (case zzF => k_asm); (case zzN => k_asm)))); intro v' h' tk' g' F' N' M'; have MM' := M'; obtain ⟨na', nd', n1', n2', ks', ⟨x', dx', T', t1', t2', ve', MS'⟩, NM', KS'⟩ := M'; subst ve'))) | ((with_reducible show wpAny _ _ (eval (Expr.Name _ _) _) _ _ _); (with_reducible ((k_here; (with_reducible show wpAny _ _ (eval (Expr.Name _ _) (compEnvC _ _ _ _)) _ _ _); k_dflt (first | (refine' cn_local ?zzF ?zzhv ?_; (case zzF => k_asm); (case zzhv => assumption)) | (refine' cn_cell ?zzF ?zzhc ?zzho ?zzhd ?_; (case zzF => k_asm); (case zzhc => rfl); (case zzho => assumption); (case zzhd => assumption)) | (refine' cn_global (K := fr.heap_1 _) ?zzF ?zzX ?zzT ?zze ?_; (case zzF => k_asm); (case zzX => k_asm); (case zzT => k_asm); (case zze => k_is)) | (refine' cn_built (K := fr.heap_1 _) ?zzF ?zzX ?zzT ?zze ?zzv ?zzn ?_; (case zzF => k_asm); (case zzX => k_asm); (case zzT => k_asm); (case zze => k_is); (case zzv => boot_by_name); (case zzn => decide))))))) | ((with_reducible show wpAny _ _ (getMethod (Value.ref _) _ _) _ _ _); (with_reducible ((refine' compile_get ?zzhC ?zzF ?zzX ?zzTp ?zzM ?_; (case zzM => with_reducible assumption); (case zzhC => exact cls_four _ _); (case zzF => k_asm); (case zzX => k_asm); (case zzTp => k_asm))))) | walk1 | (dsimp only; walk1))
    refine' elt_back ?g ?n
    case g => exact grows_tr (by assumption) (by assumption)
    case n => exact fun _ _ => ⟨_, hrow', _, rfl⟩
  intro D5 h5 tk5 y5 c5 us g O
  have e4 := comp_us O
  have P5 := rout_pairs (vs := us) O.pairs (by rw [e4]; exact RP)
  have F := O.F
  have N := O.N
  have N : News s.heap L h5 _ := fun p hp => N p ((List.mem_cons.mp hp).elim (fun e => e ▸ .head _) fun q => .tail _ (.tail _ q))
  clear O e4 us g RP HL
  dsimp only
  repeat' (first | ((with_reducible show wpAny _ _ (execs (_ :: _) _) _ _ _); (with_reducible ((k_here; refine Stop.go ?_)))) | walk1 | (dsimp only; walk1))
  unfold Stop
  rename Fr _ _ _ _ => F
  rename News _ _ _ _ => N
  ((repeat (with_reducible rename Grows _ _ => gg; clear gg)))
  refine tok_any (s := s) ?_
  clear tk
  intro tk
  k_sweep

  have hs : ∀ X, X.Perm ls → scr true tap need X = scr false tap need m3 := fun X p => by rw [← hm3]; exact scr_told (by (first | lia | omega)) (by (first | lia | omega)) p
  replace P4 : Paired IsB y4.toList [scr true tap need ls, scr true tap need m1, scr true tap need m2, scr true tap need m3] := P4
  replace P5 : Paired IsB y5.toList [scr false tap need ls, scr false tap need m1, scr false tap need m2, scr false tap need m3] := P5
  rw [hs ls (List.Perm.refl _), hs m1 M1, hs m2 M2, hs m3 M3] at P4
  clear hs
  refine wpAny_execs_cons ?_
  repeat' (first | ((with_reducible show wpAny _ _ (binaryOp Operator.Mult (Value.ref _) (Value.int _ _)) _ _ _); (with_reducible ((k_here; refine Stop.go ?_)))) | ((with_reducible show wpAny _ _ (subscriptTail _ _ _ _) _ _ _); (with_reducible ((k_here; (with_reducible show wpAny _ _ (subscriptTail _ _ (Value.ref _) (Value.int 3 _)) _ _ _); k_dflt (refine' item3 ?zzhl ?zzhb ?_; (case zzhl => exact News.listAt (by k_asm) (by k_mem)); (case zzhb => with_reducible assumption)); intro t')))) | walk1 | (dsimp only; walk1))
  unfold Stop
  rename Fr _ _ _ _ => F
  rename News _ _ _ _ => N
  refine' mul4 F N ?_
  intro D' h' F N
  k_sweep
  refine' ne_same ?ha ?hb ?hx ?hy ?hu ?_
  case ha => exact News.listAt N (by k_mem)
  case hb => exact News.isListOf N
  case hy => exact quad
  case hx => with_reducible assumption
  case hu => exact Room.cl (by with_reducible assumption)
  repeat' (first | ((with_reducible show wpAny _ _ (eval (Expr.ListComp _ _ _ _) _) _ _ _); (with_reducible ((k_here; k_dflt (refine' comp_eval ?zzhclos ?zzhcell ?zzhk ?zzhnames ?zzhx ?zzhs ?_; (case zzhclos => rfl); (case zzhcell => decide); (case zzhk => rfl); (case zzhnames => decide); (case zzhx => rfl); (case zzhs => intro x; rfl)))))) | ((with_reducible show wpAny _ _ (subscriptTail _ _ _ _) _ _ _); first | (with_reducible ((k_here; (with_reducible show wpAny _ _ (subscriptTail _ _ (Value.ref _) (Value.int 2 _)) _ _ _); k_dflt (refine' item2 ?zzhl ?zzhb ?_; (case zzhl => exact News.listAt (by k_asm) (by k_mem)); (case zzhb => with_reducible assumption)); intro t'))) | (with_reducible ((k_here; (with_reducible show wpAny _ _ (subscriptTail _ _ (Value.ref _) (Value.int 1 _)) _ _ _); k_dflt (refine' item1 ?zzhl ?zzhb ?_; (case zzhl => exact News.listAt (by k_asm) (by k_mem)); (case zzhb => with_reducible assumption)); intro t')))) | walk1 | (dsimp only; walk1))
  rename Fr _ _ _ _ => F
  rename News _ _ _ _ => N
  k_sweep
  have HL1 := News.listAt N (D := D1) (ys := y1) (c := c1) (by k_mem)
  refine' CN.intro (fun v y _ => ∀ l, IsB v l → IsB y (short tap l)) ?hL (src_list rr.1 HL1) ?hz ?mono F N ?elt ?_
  case hL => intro l e; cases e
  case hz => rw [sizeLine_eq, ← Array.length_toList, P1.length]; (first | lia | omega)
  case mono => exact fun v y g g' k R => R
  case elt =>
    intro C i v s₂ m₂ hP hx Fc E₂
    obtain ⟨l0, t0, rfl, hl0⟩ := isb_at P1 hP
    have h33 : l0.length = 33 := (rows_perm R33 M1).2 l0 (List.mem_of_getElem? hl0)
    have Nc := news_nil Fc
    have Xc := KX.keeps F.keep
    have Tc := T.keeps F.keep
    have cell := (N (_, oT') (by k_mem)).1
    clear N F hl HL1
    dsimp only at *
    cases tap
    all_goals
      repeat' (first | ((with_reducible show wpAny _ _ (eval (Expr.Name _ _) _) _ _ _); (with_reducible ((k_here; (with_reducible show wpAny _ _ (eval (Expr.Name _ _) (compEnvC _ _ _ _)) _ _ _); k_dflt (first | (refine' cn_local ?zzF ?zzhv ?_; (case zzF => k_asm); (case zzhv => assumption)) | (refine' cn_cell ?zzF ?zzhc ?zzho ?zzhd ?_; (case zzF => k_asm); (case zzhc => rfl); (case zzho => assumption); (case zzhd => assumption)) | (refine' cn_global (K := fr.heap_1 _) ?zzF ?zzX ?zzT ?zze ?_; (case zzF => k_asm); (case zzX => k_asm); (case zzT => k_asm); (case zze => k_is)) | (refine' cn_built (K := fr.heap_1 _) ?zzF ?zzX ?zzT ?zze ?zzv ?zzn ?_; (case zzF => k_asm); (case zzX => k_asm); (case zzT => k_asm); (case zze => k_is); (case zzv => boot_by_name); (case zzn => decide))))))) | ((with_reducible show wpAny _ _ (subscriptTail _ _ _ _) _ _ _); (with_reducible ((k_here; (with_reducible show wpAny _ _ (subscriptTail _ (Expr.Slice _ none none _) (Value.bytes _ _) (Value.ref _)) _ _ _); (with_reducible rename Fr _ _ _ _ => F'); (with_reducible rename News _ _ _ _ => N'); k_dflt (refine' bsliceG (s := ⟨_, _, _, _, _⟩) F' N' ?zzhl ?zzhu ?zzhz ?zze ?_; (case zzhl => constructor); (case zzhu => constructor); (case zze => exact picked_from _ _); (case zzhz => first | decide | (first | lia | omega))); intro h' t' k' F' N' g')))) | walk1 | (dsimp only; walk1))
      refine' elt_back ?g ?n
      case g => first | exact (fun _ _ e => e) | assumption
      case n => exact fun _ _ l hb => by obtain rfl := isb_inj hb; exact ⟨_, rfl⟩
  intro E1 hh1 tk1 z1 k1 us g O
  have Q1 := short_pairs O.pairs (by rw [comp_us O]; exact P1)
  have F := O.F
  have N := O.N
  clear O us g HL1
  dsimp only
  repeat' (first | ((with_reducible show wpAny _ _ (eval (Expr.ListComp _ _ _ _) _) _ _ _); (with_reducible ((k_here; k_dflt (refine' comp_eval ?zzhclos ?zzhcell ?zzhk ?zzhnames ?zzhx ?zzhs ?_; (case zzhclos => rfl); (case zzhcell => decide); (case zzhk => rfl); (case zzhnames => decide); (case zzhx => rfl); (case zzhs => intro x; rfl)))))) | walk1 | (dsimp only; walk1))
  rename Fr _ _ _ _ => F
  rename News _ _ _ _ => N
  k_sweep
  have HL2 := News.listAt N (D := D2) (ys := y2) (c := c2) (by k_mem)
  refine' CN.intro (fun v y _ => ∀ l, IsB v l → IsB y (short tap l)) ?hL (src_list rr.1 HL2) ?hz ?mono F N ?elt ?_
  case hL => intro l e; cases e
  case hz => rw [sizeLine_eq, ← Array.length_toList, P2.length]; (first | lia | omega)
  case mono => exact fun v y g g' k R => R
  case elt =>
    intro C i v s₂ m₂ hP hx Fc E₂
    obtain ⟨l0, t0, rfl, hl0⟩ := isb_at P2 hP
    have h33 : l0.length = 33 := (rows_perm R33 M2).2 l0 (List.mem_of_getElem? hl0)
    have Nc := news_nil Fc
    have Xc := KX.keeps F.keep
    have Tc := T.keeps F.keep
    have cell := (N (_, oT') (by k_mem)).1
    clear N F hl HL2
    dsimp only at *
    cases tap
    all_goals
      repeat' (first | ((with_reducible show wpAny _ _ (eval (Expr.Name _ _) _) _ _ _); (with_reducible ((k_here; (with_reducible show wpAny _ _ (eval (Expr.Name _ _) (compEnvC _ _ _ _)) _ _ _); k_dflt (first | (refine' cn_local ?zzF ?zzhv ?_; (case zzF => k_asm); (case zzhv => assumption)) | (refine' cn_cell ?zzF ?zzhc ?zzho ?zzhd ?_; (case zzF => k_asm); (case zzhc => rfl); (case zzho => assumption); (case zzhd => assumption)) | (refine' cn_global (K := fr.heap_1 _) ?zzF ?zzX ?zzT ?zze ?_; (case zzF => k_asm); (case zzX => k_asm); (case zzT => k_asm); (case zze => k_is)) | (refine' cn_built (K := fr.heap_1 _) ?zzF ?zzX ?zzT ?zze ?zzv ?zzn ?_; (case zzF => k_asm); (case zzX => k_asm); (case zzT => k_asm); (case zze => k_is); (case zzv => boot_by_name); (case zzn => decide))))))) | ((with_reducible show wpAny _ _ (subscriptTail _ _ _ _) _ _ _); (with_reducible ((k_here; (with_reducible show wpAny _ _ (subscriptTail _ (Expr.Slice _ none none _) (Value.bytes _ _) (Value.ref _)) _ _ _); (with_reducible rename Fr _ _ _ _ => F'); (with_reducible rename News _ _ _ _ => N'); k_dflt (refine' bsliceG (s := ⟨_, _, _, _, _⟩) F' N' ?zzhl ?zzhu ?zzhz ?zze ?_; (case zzhl => constructor); (case zzhu => constructor); (case zze => exact picked_from _ _); (case zzhz => first | decide | (first | lia | omega))); intro h' t' k' F' N' g')))) | walk1 | (dsimp only; walk1))
      refine' elt_back ?g ?n
      case g => first | exact (fun _ _ e => e) | assumption
      case n => exact fun _ _ l hb => by obtain rfl := isb_inj hb; exact ⟨_, rfl⟩
  intro E2 hh2 tk2 z2 k2 us g O
  have Q2 := short_pairs O.pairs (by rw [comp_us O]; exact P2)
  have F := O.F
  have N := O.N
  clear O us g HL2
  dsimp only
  repeat' (first | ((with_reducible show wpAny _ _ (compareOp CmpOp.Eq (Value.ref _) (Value.ref _)) _ _ _); (with_reducible ((k_here; refine Stop.go ?_)))) | walk1 | (dsimp only; walk1))
  unfold Stop
  refine bl_eq (News.listAt N (by k_mem)) (News.isListOf N) Q1 Q2 (Room.cl (by with_reducible assumption)) ?_
  rw [← key_eq (need := need) (rows_perm R33 M1) (rows_perm R33 M2) hn1]
  generalize (scr false tap need m1 == scr false tap need m2) = bb
  walk1
  rw [bne_self_eq_false]
  repeat' (first | ((with_reducible show wpAny _ _ (execs (_ :: _) _) _ _ _); (with_reducible ((k_here; refine Stop.go ?_)))) | walk1 | (dsimp only; walk1))
  unfold Stop
  rename Fr _ _ _ _ => F
  rename News _ _ _ _ => N
  replace N := News.drop1 (News.drop1 (News.drop1 (News.drop1 N)))
  ((repeat (with_reducible rename Grows _ _ => gg; clear gg)))
  refine tok_any (s := s) ?_
  clear tk
  intro tk
  k_sweep

  have mk : ∀ {X : Addr} {o' : Obj} , (X, o') ∈ _ → (∀ v, o'.data ≠ .cell v) → X ≠ L + 1 + 1 + 1 + 1 := fun {X o'} hm hc => cell_ne N (o := oL) (by k_mem) hm dL hc
  have q0 : D ≠ L + 1 + 1 + 1 + 1 := mk (o' := PySem.W.listOf ys c) (by k_mem) (fun v e => by cases e)
  have q1 : D1 ≠ L + 1 + 1 + 1 + 1 := mk (o' := PySem.W.listOf y1 c1) (by k_mem) (fun v e => by cases e)
  have q2 : D2 ≠ L + 1 + 1 + 1 + 1 := mk (o' := PySem.W.listOf y2 c2) (by k_mem) (fun v e => by cases e)
  have q3 : D3 ≠ L + 1 + 1 + 1 + 1 := mk (o' := lst y3) (by k_mem) (fun v e => by cases e)
  have q4 : D4 ≠ L + 1 + 1 + 1 + 1 := mk (o' := PySem.W.listOf y4 c4) (by k_mem) (fun v e => by cases e)
  have q5 : D5 ≠ L + 1 + 1 + 1 + 1 := mk (o' := PySem.W.listOf y5 c5) (by k_mem) (fun v e => by cases e)
  clear mk
  refine join_cell (s := s) (P := scr false tap need m1) F N (c := L + 1 + 1 + 1 + 1) (o := oL) (by k_updF) ?st ?_
  case st =>
    intro Q' hQ
    have R1 := rows_perm R33 M1
    have hsz : y1.size = n := by rw [← Array.length_toList, P1.length]; exact R1.1
    have sl := scr_len (tap := tap) (need := need) R1 hn1 hn4
    cases tap
    · repeat' (first | ((with_reducible show wpAny _ _ (execs (_ :: _) _) _ _ _); (with_reducible ((k_here; refine Stop.go ?_)))) | walk1 | (dsimp only; walk1))
      unfold Stop
      refine wpAny_execs_cons ?_
      repeat' (first | ((with_reducible show wpAny _ _ (call (Value.type "bytes") _ _) _ _ _); (with_reducible ((k_here; (with_reducible show wpAny _ _ (call (Value.type "bytes") [Value.ref _]) _ _ _); k_dflt (refine' bmake ?zzF ?zzN ?zzm ?zzi ?zzr ?zzz ?zzhh ?_; (case zzF => k_asm); (case zzN => k_asm); (case zzm => k_mem); (case zzi => l_ints); (case zzr => ((intro n hn; simp only [List.mem_cons, List.not_mem_nil, or_false] at hn; (first | lia | omega)))); (case zzz => exact Nat.le_of_ble_eq_true rfl); (case zzhh => exact (show Room _ _ by assumption).1)); intro h' t' k' F' N'; try k_sweep)))) | ((with_reducible show wpAny _ _ (eval (Expr.ListComp _ _ _ _) _) _ _ _); (with_reducible ((k_here; k_dflt (refine' comp_eval ?zzhclos ?zzhcell ?zzhk ?zzhnames ?zzhx ?zzhs ?_; (case zzhclos => rfl); (case zzhcell => decide); (case zzhk => rfl); (case zzhnames => decide); (case zzhx => rfl); (case zzhs => intro x; rfl)))))) | ((with_reducible show wpAny _ _ (getMethod (Value.bytes _ _) _ _) _ _ _); (with_reducible ((k_dflt (refine' join_method ?_))))) | walk1 | (dsimp only; walk1))
      rename Fr _ _ _ _ => F
      rename News _ _ _ _ => N
      k_sweep
      have HL := News.listAt N (D := D1) (ys := y1) (c := c1) (by k_mem)
      refine' CN.intro (fun v y _ => ∀ l, IsB v l → IsB y (kc false l)) ?hL (src_list rr.1 HL) ?hz ?mono F N ?elt ?_
      case hL => intro l e; cases e
      case hz => rw [sizeLine_eq]; (first | lia | omega)
      case mono => exact fun v y g g' k R => R
      case elt =>
        intro C i v s₂ m₂ hP hx Fc E₂
        obtain ⟨l0, t0, rfl, hl0⟩ := isb_at P1 hP
        have h33 : l0.length = 33 := R1.2 l0 (List.mem_of_getElem? hl0)
        have Nc := news_nil Fc
        have Xc := KX.keeps F.keep
        have Tc := T.keeps F.keep
        clear N F hl HL hQ
        dsimp only at *
        repeat' (first | ((with_reducible show wpAny _ _ (binaryOp Operator.Add (Value.bytes _ _) (Value.bytes _ _)) _ _ _); (with_reducible ((k_dflt (refine' badd ?zzhz ?_; (case zzhz => (simp only [List.length_append, List.length_cons, List.length_nil, List.length_map, List.length_drop]; (first | lia | omega))); intro t' k'))))) | ((with_reducible show wpAny _ _ (eval (Expr.Name _ _) _) _ _ _); (with_reducible ((k_here; (with_reducible show wpAny _ _ (eval (Expr.Name _ _) (compEnvC _ _ _ _)) _ _ _); k_dflt (first | (refine' cn_local ?zzF ?zzhv ?_; (case zzF => k_asm); (case zzhv => assumption)) | (refine' cn_cell ?zzF ?zzhc ?zzho ?zzhd ?_; (case zzF => k_asm); (case zzhc => rfl); (case zzho => assumption); (case zzhd => assumption)) | (refine' cn_global (K := fr.heap_1 _) ?zzF ?zzX ?zzT ?zze ?_; (case zzF => k_asm); (case zzX => k_asm); (case zzT => k_asm); (case zze => k_is)) | (refine' cn_built (K := fr.heap_1 _) ?zzF ?zzX ?zzT ?zze ?zzv ?zzn ?_; (case zzF => k_asm); (case zzX => k_asm); (case zzT => k_asm); (case zze => k_is); (case zzv => boot_by_name); (case zzn => decide))))))) | walk1 | (dsimp only; walk1))
        refine' elt_back ?g ?n
        case g => first | exact (fun _ _ e => e) | assumption
        case n => exact fun _ _ l hb => by obtain rfl := isb_inj hb; exact ⟨_, rfl⟩
      intro E1 hh1 tk1 z1 k1 us g O
      have J1 := bang_pairs O.pairs (by rw [comp_us O]; exact P1)
      have F := O.F
      have N := O.N
      clear O us g HL
      dsimp only
      repeat' (first | ((with_reducible show wpAny _ _ (call (Value.builtin "bytes.join") _ _) _ _ _); (with_reducible ((k_here; refine Stop.go ?_)))) | walk1 | (dsimp only; walk1))
      unfold Stop
      have fl := flat_le (kcs_le (tap := false) R1.2)
      rw [List.length_map, R1.1] at fl
      refine join_bytes (News.isListOf N) J1 (by rw [J1.length, List.length_map, R1.1]; (first | lia | omega)) (by (first | lia | omega)) ?_
      intro tj kj
      repeat' (first | ((with_reducible show wpAny _ _ (binaryOp Operator.Add (Value.bytes _ _) (Value.bytes _ _)) _ _ _); (with_reducible ((k_dflt (refine' badd ?zzhz ?_; (case zzhz => (simp only [List.length_append, List.length_cons, List.length_nil, List.length_map, List.length_drop]; (first | lia | omega))); intro t' k'))))) | ((with_reducible show wpAny _ _ (call (Value.type "bytes") _ _) _ _ _); (with_reducible ((k_here; (with_reducible show wpAny _ _ (call (Value.type "bytes") [Value.ref _]) _ _ _); k_dflt (refine' bmake ?zzF ?zzN ?zzm ?zzi ?zzr ?zzz ?zzhh ?_; (case zzF => k_asm); (case zzN => k_asm); (case zzm => k_mem); (case zzi => l_ints); (case zzr => ((intro n hn; simp only [List.mem_cons, List.not_mem_nil, or_false] at hn; (first | lia | omega)))); (case zzz => exact Nat.le_of_ble_eq_true rfl); (case zzhh => exact (show Room _ _ by assumption).1)); intro h' t' k' F' N'; try k_sweep)))) | walk1 | (dsimp only; walk1))
      rename Fr _ _ _ _ => F
      rename News _ _ _ _ => N
      replace N := News.drop1 (News.drop1 (News.drop1 N))
      repeat' (first | walk1 | (dsimp only; walk1))
      rename Fr _ _ _ _ => F
      rename News _ _ _ _ => N
      rename _ = Data.cell (some (Value.bytes _ _)) => dX
      exact hQ _ _ _ _ F N (dX.trans (cell_bytes (laid_f R1)))
    · repeat' (first | ((with_reducible show wpAny _ _ (execs (_ :: _) _) _ _ _); (with_reducible ((k_here; refine Stop.go ?_)))) | walk1 | (dsimp only; walk1))
      unfold Stop
      refine wpAny_execs_cons ?_
      repeat' (first | ((with_reducible show wpAny _ _ (call (Value.type "enumerate") _ _) _ _ _); (with_reducible ((k_here; refine Stop.go ?_)))) | ((with_reducible show wpAny _ _ (eval (Expr.ListComp _ _ _ _) _) _ _ _); (with_reducible ((k_here; (with_reducible show wpAny _ _ (eval (Expr.ListComp _ [Comprehension.mk (Expr.Tuple _ _ _) _ _ _] _ _) _) _ _ _); k_dflt (refine' enum_eval ?zzhclos ?zzhcell ?zzhk ?zzhnames ?zzhx ?zzhy ?zzhxy ?zzhs ?_; (case zzhclos => rfl); (case zzhcell => decide); (case zzhk => rfl); (case zzhnames => decide); (case zzhx => rfl); (case zzhy => rfl); (case zzhxy => decide); (case zzhs => intro x; rfl)))))) | ((with_reducible show wpAny _ _ (getMethod (Value.bytes _ _) _ _) _ _ _); (with_reducible ((k_dflt (refine' join_method ?_))))) | walk1 | (dsimp only; walk1))
      unfold Stop
      rename Fr _ _ _ _ => F
      rename News _ _ _ _ => N
      k_sweep
      have HL := News.listAt N (D := D1) (ys := y1) (c := c1) (by k_mem)
      refine call_enumerate_list HL fun h6 hE hI hsz6 hk6 => ?_
      have lD1 := islist_lt HL
      refine ⟨s.heap, L, _, _, y1, D1, _, _, _, fun i v => ∃ l, (m1.map (kc true))[i]? = some l ∧ IsB v (l ++ [if i = 0 then 172 else 186]), rfl, rr.1, ⟨⟨_, hE⟩, hI, HL.at fun o e => hk6 _ o e⟩, Nat.succ_ne_self _, Nat.ne_of_lt (Nat.lt_succ_of_lt lD1), Nat.ne_of_lt lD1, hk6, Heap.get?_none_of_le (Nat.le_succ _), Heap.get?_none_of_le (Nat.le_refl _), by rw [hsz6]; (first | lia | omega), F, N, by rw [sizeLine_eq]; (first | lia | omega), ?elt, ?_⟩
      case elt =>
        intro C i t b s₂ m₂ hi9 hP hx hy Fc E₂
        obtain ⟨l0, t0, rfl, hl0⟩ := isb_at P1 hP
        have h33 : l0.length = 33 := R1.2 l0 (List.mem_of_getElem? hl0)
        have Nc := news_nil Fc
        have Xc := KX.keeps F.keep
        have Tc := T.keeps F.keep
        clear N F hl HL hQ hE hI hk6
        dsimp only at *
        repeat' (first | ((with_reducible show wpAny _ _ (binaryOp Operator.Add (Value.bytes _ _) (Value.bytes _ _)) _ _ _); (with_reducible ((k_dflt (refine' badd ?zzhz ?_; (case zzhz => (simp only [List.length_append, List.length_cons, List.length_nil, List.length_map, List.length_drop]; (first | lia | omega))); intro t' k'))))) | ((with_reducible show wpAny _ _ (eval (Expr.Name _ _) _) _ _ _); (with_reducible ((k_here; (with_reducible show wpAny _ _ (eval (Expr.Name _ _) (compEnvC _ _ _ _)) _ _ _); k_dflt (first | (refine' cn_local ?zzF ?zzhv ?_; (case zzF => k_asm); (case zzhv => assumption)) | (refine' cn_cell ?zzF ?zzhc ?zzho ?zzhd ?_; (case zzF => k_asm); (case zzhc => rfl); (case zzho => assumption); (case zzhd => assumption)) | (refine' cn_global (K := fr.heap_1 _) ?zzF ?zzX ?zzT ?zze ?_; (case zzF => k_asm); (case zzX => k_asm); (case zzT => k_asm); (case zze => k_is)) | (refine' cn_built (K := fr.heap_1 _) ?zzF ?zzX ?zzT ?zze ?zzv ?zzn ?_; (case zzF => k_asm); (case zzX => k_asm); (case zzT => k_asm); (case zze => k_is); (case zzv => boot_by_name); (case zzn => decide))))))) | ((with_reducible show wpAny _ _ (subscriptTail _ _ _ _) _ _ _); (with_reducible ((k_here; (with_reducible show wpAny _ _ (subscriptTail _ (Expr.Slice _ none none _) (Value.bytes _ _) (Value.ref _)) _ _ _); (with_reducible rename Fr _ _ _ _ => F'); (with_reducible rename News _ _ _ _ => N'); k_dflt (refine' bsliceG (s := ⟨_, _, _, _, _⟩) F' N' ?zzhl ?zzhu ?zzhz ?zze ?_; (case zzhl => constructor); (case zzhu => constructor); (case zze => exact picked_from _ _); (case zzhz => first | decide | (first | lia | omega))); intro h' t' k' F' N' g')))) | walk1 | (dsimp only; walk1))
        · refine EBack.of (by first | exact (fun _ _ e => e) | assumption) ⟨kc true l0, by rw [List.getElem?_map, hl0]; rfl, ?_⟩
          rw [if_pos (by (first | lia | omega))]
          exact ⟨_, rfl⟩
        · refine EBack.of (by first | exact (fun _ _ e => e) | assumption) ⟨kc true l0, by rw [List.getElem?_map, hl0]; rfl, ?_⟩
          rw [if_neg (by (first | lia | omega))]
          exact ⟨_, rfl⟩
      intro E1 hh1 tk1 z1 k1 F N hz1 hr1
      have J1 := blk_pairs (ms := m1.map (kc true)) (by rw [hz1, hsz, List.length_map, R1.1]) hr1
      have bl := blocks_len (k := 33) (ms := m1.map (kc true)) (fun x hx => by obtain ⟨q, hq, rfl⟩ := List.mem_map.mp hx; exact kc_len33 (R1.2 q hq))
      have fl := flat_le (n := 34) (ls := blocks (m1.map (kc true))) (fun l hl => Nat.le_of_eq (bl.1 l hl))
      rw [bl.2, List.length_map, R1.1] at fl
      dsimp only
      repeat' (first | ((with_reducible show wpAny _ _ (call (Value.builtin "bytes.join") _ _) _ _ _); (with_reducible ((k_here; refine Stop.go ?_)))) | walk1 | (dsimp only; walk1))
      unfold Stop
      refine join_bytes (News.isListOf N) J1 (by rw [J1.length, bl.2, List.length_map, R1.1]; (first | lia | omega)) (by (first | lia | omega)) ?_
      intro tj kj
      repeat' (first | ((with_reducible show wpAny _ _ (binaryOp Operator.Add (Value.bytes _ _) (Value.bytes _ _)) _ _ _); (with_reducible ((k_dflt (refine' badd ?zzhz ?_; (case zzhz => (simp only [List.length_append, List.length_cons, List.length_nil, List.length_map, List.length_drop]; (first | lia | omega))); intro t' k'))))) | ((with_reducible show wpAny _ _ (call (Value.type "bytes") _ _) _ _ _); (with_reducible ((k_here; (with_reducible show wpAny _ _ (call (Value.type "bytes") [Value.ref _]) _ _ _); k_dflt (refine' bmake ?zzF ?zzN ?zzm ?zzi ?zzr ?zzz ?zzhh ?_; (case zzF => k_asm); (case zzN => k_asm); (case zzm => k_mem); (case zzi => l_ints); (case zzr => ((intro n hn; simp only [List.mem_cons, List.not_mem_nil, or_false] at hn; (first | lia | omega)))); (case zzz => exact Nat.le_of_ble_eq_true rfl); (case zzhh => exact (show Room _ _ by assumption).1)); intro h' t' k' F' N'; try k_sweep)))) | walk1 | (dsimp only; walk1))
      rename Fr _ _ _ _ => F
      rename News _ _ _ _ => N
      replace N := News.drop1 (News.drop1 N)
      repeat' (first | walk1 | (dsimp only; walk1))
      rename Fr _ _ _ _ => F
      rename News _ _ _ _ => N
      rename _ = Data.cell (some (Value.bytes _ _)) => dX
      exact hQ _ _ _ _ F N (dX.trans (cell_bytes (laid_t R1 hn1)))
  clear F N
  intro h7 tk oL' tl F N dL2
  clear dL oL

  have R1 := rows_perm R33 M1
  have h33 := R1.2
  have hl1 := R1.1
  have sl := scr_len (tap := tap) (need := need) R1 hn1 hn4
  obtain ⟨LN, hLN⟩ : ∃ LN : Nat, (scr false tap need m1).length = LN := ⟨_, rfl⟩
  have hLN2 : (scr true tap need m1).length = LN := by
    rw [← hLN, scr_length (by rw [R1.1]; (first | lia | omega)), scr_length (by rw [R1.1]; (first | lia | omega))]
  refine wpAny_execs_cons ?_
  repeat' (first | ((with_reducible show wpAny _ _ (compareOp CmpOp.NotEq (Value.bytes _ _) (Value.bytes _ _)) _ _ _); (with_reducible ((k_here; k_dflt (refine' ne_bytes_same ?_))))) | ((with_reducible show wpAny _ _ (call (Value.builtin "len") _ _) _ _ _); first | (with_reducible ((k_here; (with_reducible show wpAny _ _ (call _ [Value.ref _]) _ _ _); (refine' use (len_made2 ?zzF2 ?zzX ?zzW ?zzM ?zzhn ?zzh33 ?zzhz ?zzh0 ?zzh1 ?zzr) ?zzF ?zzN ?_; (case zzM => with_reducible assumption); (case zzhn => with_reducible assumption); (case zzh33 => with_reducible assumption); (case zzhz => first | decide | (first | lia | omega)); (case zzh0 => first | decide | (first | lia | omega)); (case zzh1 => first | decide | (first | lia | omega)); (case zzF2 => k_asm); (case zzX => k_asm); (first | (((case zzW => exact World0.now (by k_asm) (by k_asm) (by k_asm)); (case zzr => (first | (first | exact Room.le (by with_reducible assumption) (Nat.le_of_ble_eq_true rfl) | exact Room.le (Room.in1 (by with_reducible assumption)) (Nat.le_of_ble_eq_true rfl)) | (first | exact Room.le (by with_reducible assumption) (by decide) | exact Room.le (Room.in1 (by with_reducible assumption)) (by decide)) | (first | exact Room.le (by assumption) (by decide) | exact Room.le (Room.in1 (by assumption)) (by decide)))); (case zzF => k_asm); (case zzN => k_asm))) | (((case zzW => exact World0.now (by assumption) (by assumption) (by assumption)); (case zzr => (first | (first | exact Room.le (by with_reducible assumption) (Nat.le_of_ble_eq_true rfl) | exact Room.le (Room.in1 (by with_reducible assumption)) (Nat.le_of_ble_eq_true rfl)) | (first | exact Room.le (by with_reducible assumption) (by decide) | exact Room.le (Room.in1 (by with_reducible assumption)) (by decide)) | (first | exact Room.le (by assumption) (by decide) | exact Room.le (Room.in1 (by assumption)) (by decide)))); (case zzF => k_asm); (case zzN => k_asm)))); intro v' h' tk' g' F' N' e'; obtain ⟨t', e'⟩ := e'; subst e')))) | (with_reducible ((k_here; (with_reducible show wpAny _ _ (call _ [Value.bytes _ _]) _ _ _); k_dflt (refine' blen ?zze ?zzz ?_; (case zze => with_reducible assumption); (case zzz => (first | lia | omega))); intro t' k')))) | ((with_reducible show wpAny _ _ (call (Value.ref 1449) _ _) _ _ _); ((refine' use (made_spec ?zzW ?zzhl ?zzhb ?zzhz ?zzr) ?zzF ?zzN ?_; (case zzhl => first | exact Heap.IsList.at (by with_reducible assumption) (Fr.keep (by assumption) _) | exact News.listAt (by assumption) (by k_mem)); (case zzhb => with_reducible assumption); (case zzhz => first | decide | (first | lia | omega)); (first | (((case zzW => exact World0.now (by k_asm) (by k_asm) (by k_asm)); (case zzr => (first | (first | exact Room.le (by with_reducible assumption) (Nat.le_of_ble_eq_true rfl) | exact Room.le (Room.in1 (by with_reducible assumption)) (Nat.le_of_ble_eq_true rfl)) | (first | exact Room.le (by with_reducible assumption) (by decide) | exact Room.le (Room.in1 (by with_reducible assumption)) (by decide)) | (first | exact Room.le (by assumption) (by decide) | exact Room.le (Room.in1 (by assumption)) (by decide)))); (case zzF => k_asm); (case zzN => k_asm))) | (((case zzW => exact World0.now (by assumption) (by assumption) (by assumption)); (case zzr => (first | (first | exact Room.le (by with_reducible assumption) (Nat.le_of_ble_eq_true rfl) | exact Room.le (Room.in1 (by with_reducible assumption)) (Nat.le_of_ble_eq_true rfl)) | (first | exact Room.le (by with_reducible assumption) (by decide) | exact Room.le (Room.in1 (by with_reducible assumption)) (by decide)) | (first | exact Room.le (by assumption) (by decide) | exact Room.le (Room.in1 (by assumption)) (by decide)))); (case zzF => k_asm); (case zzN => k_asm)))); intro v' h' tk' g' F' N' M'; have MM' := M'; obtain ⟨na', nd', n1', n2', ks', ⟨x', dx', T', t1', t2', ve', MS'⟩, NM', KS'⟩ := M'; subst ve'))) | ((with_reducible show wpAny _ _ (execs (_ :: _) _) _ _ _); (with_reducible ((k_here; refine Stop.go ?_)))) | ((with_reducible show wpAny _ _ (subscriptTail _ _ _ _) _ _ _); (with_reducible ((k_here; (with_reducible show wpAny _ _ (subscriptTail _ _ (Value.ref _) (Value.int 1 _)) _ _ _); k_dflt (refine' item1 ?zzhl ?zzhb ?_; (case zzhl => exact News.listAt (by k_asm) (by k_mem)); (case zzhb => with_reducible assumption)); intro t')))) | walk1 | (dsimp only; walk1))
  all_goals try (exact absurd rfl (show (LN : Int) ≠ LN by with_reducible assumption))
  unfold Stop
  rename Fr _ _ _ _ => F
  rename News _ _ _ _ => N
  ((repeat (with_reducible rename Grows _ _ => gg; clear gg)))
  have mk : ∀ {X : Addr} {o' : Obj} , (X, o') ∈ _ → (∀ v, o'.data ≠ .cell v) → X ≠ L + 1 + 1 + 1 + 1 + 1 := fun {X o'} hm hc => cell_ne N (o := oM) (by k_mem) hm dM hc
  have q0 : D ≠ L + 1 + 1 + 1 + 1 + 1 := mk (o' := PySem.W.listOf ys c) (by k_mem) (fun v e => by cases e)
  have q1 : D1 ≠ L + 1 + 1 + 1 + 1 + 1 := mk (o' := PySem.W.listOf y1 c1) (by k_mem) (fun v e => by cases e)
  have q2 : D2 ≠ L + 1 + 1 + 1 + 1 + 1 := mk (o' := PySem.W.listOf y2 c2) (by k_mem) (fun v e => by cases e)
  have q3 : D3 ≠ L + 1 + 1 + 1 + 1 + 1 := mk (o' := PyProof.Rows.LCg.lst y3) (by k_mem) (fun v e => by cases e)
  have q4 : D4 ≠ L + 1 + 1 + 1 + 1 + 1 := mk (o' := PySem.W.listOf y4 c4) (by k_mem) (fun v e => by cases e)
  have q5 : D5 ≠ L + 1 + 1 + 1 + 1 + 1 := mk (o' := PySem.W.listOf y5 c5) (by k_mem) (fun v e => by cases e)
  clear mk
  refine wpAny_execs_cons ?_
  repeat' (first | ((with_reducible show wpAny _ _ (call (Value.ref 1149) _ _) _ _ _); ((refine' use (compile_spec ?zzW ?zzM ?zzh33 ?zzhz ?zzh0 ?zzh1 ?zzr) ?zzF ?zzN ?_; (case zzM => with_reducible assumption); (case zzh33 => with_reducible assumption); (case zzhz => first | decide | (first | lia | omega)); (case zzh0 => first | decide | (first | lia | omega)); (case zzh1 => first | decide | (first | lia | omega)); (first | (((case zzW => exact World0.now (by k_asm) (by k_asm) (by k_asm)); (case zzr => (first | (first | exact Room.le (by with_reducible assumption) (Nat.le_of_ble_eq_true rfl) | exact Room.le (Room.in1 (by with_reducible assumption)) (Nat.le_of_ble_eq_true rfl)) | (first | exact Room.le (by with_reducible assumption) (by decide) | exact Room.le (Room.in1 (by with_reducible assumption)) (by decide)) | (first | exact Room.le (by assumption) (by decide) | exact Room.le (Room.in1 (by assumption)) (by decide)))); (case zzF => k_asm); (case zzN => k_asm))) | (((case zzW => exact World0.now (by assumption) (by assumption) (by assumption)); (case zzr => (first | (first | exact Room.le (by with_reducible assumption) (Nat.le_of_ble_eq_true rfl) | exact Room.le (Room.in1 (by with_reducible assumption)) (Nat.le_of_ble_eq_true rfl)) | (first | exact Room.le (by with_reducible assumption) (by decide) | exact Room.le (Room.in1 (by with_reducible assumption)) (by decide)) | (first | exact Room.le (by assumption) (by decide) | exact Room.le (Room.in1 (by assumption)) (by decide)))); (case zzF => k_asm); (case zzN => k_asm)))); intro v' h' tk' g' F' N' e'; obtain ⟨t', e'⟩ := e'; subst e'))) | ((with_reducible show wpAny _ _ (call (Value.ref 1449) _ _) _ _ _); ((refine' use (made_spec ?zzW ?zzhl ?zzhb ?zzhz ?zzr) ?zzF ?zzN ?_; (case zzhl => first | exact Heap.IsList.at (by with_reducible assumption) (Fr.keep (by assumption) _) | exact News.listAt (by assumption) (by k_mem)); (case zzhb => with_reducible assumption); (case zzhz => first | decide | (first | lia | omega)); (first | (((case zzW => exact World0.now (by k_asm) (by k_asm) (by k_asm)); (case zzr => (first | (first | exact Room.le (by with_reducible assumption) (Nat.le_of_ble_eq_true rfl) | exact Room.le (Room.in1 (by with_reducible assumption)) (Nat.le_of_ble_eq_true rfl)) | (first | exact Room.le (by with_reducible assumption) (by decide) | exact Room.le (Room.in1 (by with_reducible assumption)) (by decide)) | (first | exact Room.le (by assumption) (by decide) | exact Room.le (Room.in1 (by assumption)) (by decide)))); (case zzF => k_asm); (case zzN => k_asm))) | (((case zzW => exact World0.now (by assumption) (by assumption) (by assumption)); (case zzr => (first | (first | exact Room.le (by with_reducible assumption) (Nat.le_of_ble_eq_true rfl) | exact Room.le (Room.in1 (by with_reducible assumption)) (Nat.le_of_ble_eq_true rfl)) | (first | exact Room.le (by with_reducible assumption) (by decide) | exact Room.le (Room.in1 (by with_reducible assumption)) (by decide)) | (first | exact Room.le (by assumption) (by decide) | exact Room.le (Room.in1 (by assumption)) (by decide)))); (case zzF => k_asm); (case zzN => k_asm)))); intro v' h' tk' g' F' N' M'; have MM' := M'; obtain ⟨na', nd', n1', n2', ks', ⟨x', dx', T', t1', t2', ve', MS'⟩, NM', KS'⟩ := M'; subst ve'))) | ((with_reducible show wpAny _ _ (execs (_ :: _) _) _ _ _); (with_reducible ((k_here; refine Stop.go ?_)))) | ((with_reducible show wpAny _ _ (getMethod (Value.ref _) _ _) _ _ _); (with_reducible ((refine' compile_get ?zzhC ?zzF ?zzX ?zzTp ?zzM ?_; (case zzM => with_reducible assumption); (case zzhC => exact cls_four _ _); (case zzF => k_asm); (case zzX => k_asm); (case zzTp => k_asm))))) | walk1 | (dsimp only; walk1))
  unfold Stop
  rename Fr _ _ _ _ => F
  rename News _ _ _ _ => N
  rename Obj => oM'
  rename _ = Data.cell (some (Value.bytes ⟨scr false tap (need + 1) m1⟩ _)) => dM3
  obtain ⟨tm, dM2⟩ : ∃ tm, oM'.data = .cell (some (.bytes ⟨scr false tap (need + 1) m1⟩ tm)) := ⟨_, dM3⟩
  clear dM3 dM oM
  ((repeat (with_reducible rename Grows _ _ => gg; clear gg)))
  refine tok_any (s := s) ?_
  clear tk
  intro tk
  k_sweep

  refine wpAny_execs_cons ?_
  repeat' (first | ((with_reducible show wpAny _ _ (eval (Expr.ListComp _ _ _ _) _) _ _ _); (with_reducible ((k_here; refine Stop.go ?_)))) | walk1 | (dsimp only; walk1))
  unfold Stop
  k_dflt (refine' PyProof.Rows.LCt.ListComp_T F ?hclos ?hcell ?hkind ?hnames ?hx ?_ ?hs)
  case hclos => rfl
  case hcell => decide
  case hkind => rfl
  case hnames => decide
  case hx => rfl
  case hs => intro x; rfl
  repeat' (first | ((with_reducible show wpAny _ _ (call (Value.builtin "len") _ _) _ _ _); (with_reducible ((k_here; (with_reducible show wpAny _ _ (call _ [Value.bytes _ _]) _ _ _); k_dflt (refine' blen ?zze ?zzz ?_; (case zze => with_reducible assumption); (case zzz => (first | lia | omega))); intro t' k')))) | ((with_reducible show PyProof.Rows.LCt.CompSrcT _ _ _ _ _ _ _ _ _ _ _ _ _ _ _); (with_reducible ((k_here; refine Stop.go ?_)))) | walk1 | (dsimp only; walk1))
  unfold Stop
  rename IsRange _ _ _ _ _ _ _ _ => hr
  rename Fr _ _ _ _ => F
  rename News _ _ _ _ => N
  have df := dif_scr (tap := tap) R1 hn1 nb.1 (by (first | lia | omega))
  rw [hLN] at df
  have hq := range_small2 (n := LN) (by (first | lia | omega))
  refine PyProof.Rows.LCt.CompSrcT.range rr.1 F N hr hq.1 hq.2 (by rw [sizeLine_eq]; (first | lia | omega)) fun g => ?_
  have df2 := df.2
  k_sweep
  refine rest_ind (dif (scr false tap need m1) (scr false tap (need+1) m1)) rfl ?turn ?fin
  case turn =>
    clear F N hr
    intro k i zs hi hy K
    refine PyProof.Rows.LCt.CompRestT.succ fun v I oI C oC D' m₂ h tk E' hP hN hx F N off ne => ?_
    obtain ⟨t, rfl⟩ := hP
    repeat' (first | ((with_reducible show wpAny _ _ (subscriptTail _ _ _ _) _ _ _); (with_reducible ((k_here; (with_reducible show wpAny _ _ (subscriptTail _ _ (Value.bytes _ _) (Value.int _ _)) _ _ _); k_dflt (refine' byte_at ?zzhi ?zzh9 ?_; (case zzhi => (first | lia | omega)); (case zzh9 => (first | lia | omega))); intro t' k')))) | walk1 | (dsimp only; walk1))
    · refine PyProof.Rows.LCg.CompEnd.intro F N _ (fun p hp => hp) off trivial (K _ ?_)
      rw [List.length_append, hy]
      exact (dif_yes (by with_reducible assumption)).symm
    · refine PyProof.Rows.LCg.CompEnd.intro F N _ (fun p hp => hp) off trivial (K _ ?_)
      rw [hy]
      exact (dif_no (by with_reducible assumption)).symm
  intro zs hz
  clear F N hr
  unfold PyProof.Rows.LCg.FinE
  intro Dz h tk' F N o1
  have hz1 : zs.toArray.size = 1 := by rw [List.size_toArray, hz, df.1]
  dsimp only
  repeat' (first | ((with_reducible show wpAny _ _ (call (Value.builtin "len") _ _) _ _ _); first | (with_reducible ((k_here; (with_reducible show wpAny _ _ (call _ [Value.ref _]) _ _ _); k_dflt (refine' llen (n := 1) ?zzh ?zze ?zzz ?_; (case zze => with_reducible assumption); (case zzh => exact News.listAt (by k_asm) (by k_mem)); (case zzz => exact Nat.le_of_ble_eq_true rfl)); intro t' k'))) | (with_reducible ((k_here; (with_reducible show wpAny _ _ (call _ [Value.bytes _ _]) _ _ _); k_dflt (refine' blen ?zze ?zzz ?_; (case zze => with_reducible assumption); (case zzz => (first | lia | omega))); intro t' k')))) | ((with_reducible show wpAny _ _ (execs (_ :: _) _) _ _ _); (with_reducible ((k_here; refine Stop.go ?_)))) | walk1 | (dsimp only; walk1))
  all_goals try (exact absurd rfl (show ((1 : Nat) : Int) ≠ 1 by with_reducible assumption))
  all_goals try (exact absurd rfl (show (LN : Int) ≠ LN by with_reducible assumption))
  unfold Stop
  ((repeat (with_reducible rename Grows _ _ => gg; clear gg)))
  replace N := News.drop1 N
  refine tok_any (s := s) ?_
  clear tk
  intro tk
  clear df df2 hz1 hz hq o1
  k_sweep

  refine join_frame (s := s) F N ?st ?_
  case st =>
    intro Q' hQ
    have hsz : y1.size = n := by rw [← Array.length_toList, P1.length]; exact R1.1
    cases tap
    · repeat' (first | ((with_reducible show wpAny _ _ (eval (Expr.ListComp _ _ _ _) _) _ _ _); (with_reducible ((k_here; refine Stop.go ?_)))) | walk1 | (dsimp only; walk1))
      unfold Stop
      have HL := News.listAt N (D := D1) (ys := y1) (c := c1) (by k_mem)
      refine' comp_eval ?hclos ?hcell ?hk ?hnames ?hx ?hs ?_
      case hclos => rfl
      case hcell => decide
      case hk => rfl
      case hnames => decide
      case hx => rfl
      case hs => intro x; rfl
      repeat' (first | walk1 | (dsimp only; walk1))
      refine' CN.intro (fun v y g => ∀ l, IsB v l → PkAt w g y l) ?hL (src_list rr.1 HL) ?hz ?mono F N ?elt ?_
      case hL => intro l e; cases e
      case hz => rw [sizeLine_eq]; (first | lia | omega)
      case mono => exact fun v y g g' k R l hb => by obtain ⟨a, d, t1, t2, t3, e, x⟩ := R l hb; exact ⟨a, d, t1, t2, t3, e, k _ _ x.o, k _ _ x.d⟩
      case elt =>
        intro C i v s₂ m₂ hP hx Fc E₂
        obtain ⟨l0, t0, rfl, hl0⟩ := isb_at P1 hP
        have h33 : l0.length = 33 := R1.2 l0 (List.mem_of_getElem? hl0)
        have Nc := news_nil Fc
        have Xc := KX.keeps F.keep
        have Tc := T.keeps F.keep
        clear N F hl HL hQ
        dsimp only at *
        repeat' (first | ((with_reducible show wpAny _ _ (call (Value.ref 953) _ _) _ _ _); (with_reducible ((refine' use (pk_new ?zzW ?zzr) ?zzF ?zzN ?_; (first | (((case zzW => exact World0.now (by k_asm) (by k_asm) (by k_asm)); (case zzr => (first | (first | exact Room.le (by with_reducible assumption) (Nat.le_of_ble_eq_true rfl) | exact Room.le (Room.in1 (by with_reducible assumption)) (Nat.le_of_ble_eq_true rfl)) | (first | exact Room.le (by with_reducible assumption) (by decide) | exact Room.le (Room.in1 (by with_reducible assumption)) (by decide)) | (first | exact Room.le (by assumption) (by decide) | exact Room.le (Room.in1 (by assumption)) (by decide)))); (case zzF => k_asm); (case zzN => k_asm))) | (((case zzW => exact World0.now (by assumption) (by assumption) (by assumption)); (case zzr => (first | (first | exact Room.le (by with_reducible assumption) (Nat.le_of_ble_eq_true rfl) | exact Room.le (Room.in1 (by with_reducible assumption)) (Nat.le_of_ble_eq_true rfl)) | (first | exact Room.le (by with_reducible assumption) (by decide) | exact Room.le (Room.in1 (by with_reducible assumption)) (by decide)) | (first | exact Room.le (by assumption) (by decide) | exact Room.le (Room.in1 (by assumption)) (by decide)))); (case zzF => k_asm); (case zzN => k_asm)))); intro v' h' tk' g' F' N' e'; obtain ⟨pa', pd', pt1', pt2', pt3', e', pn'⟩ := e'; subst e')))) | ((with_reducible show wpAny _ _ (eval (Expr.Name _ _) _) _ _ _); (with_reducible ((k_here; (with_reducible show wpAny _ _ (eval (Expr.Name _ _) (compEnvC _ _ _ _)) _ _ _); k_dflt (first | (refine' cn_local ?zzF ?zzhv ?_; (case zzF => k_asm); (case zzhv => assumption)) | (refine' cn_cell ?zzF ?zzhc ?zzho ?zzhd ?_; (case zzF => k_asm); (case zzhc => rfl); (case zzho => assumption); (case zzhd => assumption)) | (refine' cn_global (K := fr.heap_1 _) ?zzF ?zzX ?zzT ?zze ?_; (case zzF => k_asm); (case zzX => k_asm); (case zzT => k_asm); (case zze => k_is)) | (refine' cn_built (K := fr.heap_1 _) ?zzF ?zzX ?zzT ?zze ?zzv ?zzn ?_; (case zzF => k_asm); (case zzX => k_asm); (case zzT => k_asm); (case zze => k_is); (case zzv => boot_by_name); (case zzn => decide))))))) | walk1 | (dsimp only; walk1))
        rename (∀ g, NewIn _ _ g → IsPk _ g _ _ _ _ _ _) => pn
        refine' elt_back ?g ?n
        case g => first | exact (fun _ _ e => e) | assumption
        case n => exact fun g hg l hb => by obtain rfl := isb_inj hb; exact ⟨_, _, _, _, _, rfl, pn _ hg⟩
      intro E1 hh1 tk1 z1 k1 us g O
      have J1 := pk_pairs O.pairs (by rw [comp_us O]; exact P1) O.sub
      have F := O.F
      have N := O.N
      clear O us g HL
      dsimp only
      repeat' (first | ((with_reducible show wpAny _ _ (compareOp CmpOp.NotEq (Value.bytes _ _) (Value.bytes _ _)) _ _ _); (with_reducible ((k_here; k_dflt (refine' ne_bytes_same ?_))))) | ((with_reducible show wpAny _ _ (call (Value.ref 1423) _ _) _ _ _); ((refine' use (multisig_law ?zzW ?zzhl ?zzhp ?zzR ?zzh1 ?zzh4 ?zznb ?zzr) ?zzF ?zzN ?_; (case zzR => with_reducible assumption); (case zznb => with_reducible assumption); (case zzh1 => with_reducible assumption); (case zzh4 => with_reducible assumption); (case zzhl => exact News.listAt (by k_asm) (by k_mem)); (case zzhp => with_reducible assumption); (first | (((case zzW => exact World0.now (by k_asm) (by k_asm) (by k_asm)); (case zzr => (first | (first | exact Room.le (by with_reducible assumption) (Nat.le_of_ble_eq_true rfl) | exact Room.le (Room.in1 (by with_reducible assumption)) (Nat.le_of_ble_eq_true rfl)) | (first | exact Room.le (by with_reducible assumption) (by decide) | exact Room.le (Room.in1 (by with_reducible assumption)) (by decide)) | (first | exact Room.le (by assumption) (by decide) | exact Room.le (Room.in1 (by assumption)) (by decide)))); (case zzF => k_asm); (case zzN => k_asm))) | (((case zzW => exact World0.now (by assumption) (by assumption) (by assumption)); (case zzr => (first | (first | exact Room.le (by with_reducible assumption) (Nat.le_of_ble_eq_true rfl) | exact Room.le (Room.in1 (by with_reducible assumption)) (Nat.le_of_ble_eq_true rfl)) | (first | exact Room.le (by with_reducible assumption) (by decide) | exact Room.le (Room.in1 (by with_reducible assumption)) (by decide)) | (first | exact Room.le (by assumption) (by decide) | exact Room.le (Room.in1 (by assumption)) (by decide)))); (case zzF => k_asm); (case zzN => k_asm)))); intro v' h' tk' g' F' N' e'; obtain ⟨sc', sd', st1', st2', e', so', sod'⟩ := e'; subst e'))) | walk1 | (dsimp only; walk1))
      rename Fr _ _ _ _ => F
      rename News _ _ _ _ => N
      exact hQ _ _ F (News.drop1 N)
    · repeat' (first | walk1 | (dsimp only; walk1))
      exact hQ _ _ F N
  clear F N
  intro h tk F N
  refine tok_any (s := s) ?_
  clear tk
  intro tk
  repeat (rename Made _ _ _ _ _ _ _ => XX; clear XX)
  repeat (rename IsMs _ _ _ _ _ _ _ _ _ _ => XX; clear XX)
  repeat (rename IsNum _ _ _ _ _ _ _ => XX; clear XX)
  repeat (rename Paired (KeyAt _ _ _) _ _ => XX; clear XX)

  refine wpAny_execs_cons ?_
  repeat' (first | ((with_reducible show wpAny _ _ (call (Value.ref 1430) _ _) _ _ _); (with_reducible ((refine' use (number_spec ?zzW ?zzhl ?zzhi ?zzh63 ?zzh0 ?zzhp ?zzr) ?zzF ?zzN ?_; (case zzhl => exact Heap.IsList.at (by with_reducible assumption) (Fr.keep (by assumption) _)); (case zzhi => with_reducible assumption); (case zzh63 => with_reducible assumption); (case zzh0 => first | decide | (first | lia | omega)); (case zzhp => first | decide | (first | lia | omega)); (first | (((case zzW => exact World0.now (by k_asm) (by k_asm) (by k_asm)); (case zzr => (first | (first | exact Room.le (by with_reducible assumption) (Nat.le_of_ble_eq_true rfl) | exact Room.le (Room.in1 (by with_reducible assumption)) (Nat.le_of_ble_eq_true rfl)) | (first | exact Room.le (by with_reducible assumption) (by decide) | exact Room.le (Room.in1 (by with_reducible assumption)) (by decide)) | (first | exact Room.le (by assumption) (by decide) | exact Room.le (Room.in1 (by assumption)) (by decide)))); (case zzF => k_asm); (case zzN => k_asm))) | (((case zzW => exact World0.now (by assumption) (by assumption) (by assumption)); (case zzr => (first | (first | exact Room.le (by with_reducible assumption) (Nat.le_of_ble_eq_true rfl) | exact Room.le (Room.in1 (by with_reducible assumption)) (Nat.le_of_ble_eq_true rfl)) | (first | exact Room.le (by with_reducible assumption) (by decide) | exact Room.le (Room.in1 (by with_reducible assumption)) (by decide)) | (first | exact Room.le (by assumption) (by decide) | exact Room.le (Room.in1 (by assumption)) (by decide)))); (case zzF => k_asm); (case zzN => k_asm)))); intro v' h' tk' g' F' N' e'; obtain ⟨t', e'⟩ := e'; subst e')))) | ((with_reducible show wpAny _ _ (execs (_ :: _) _) _ _ _); (with_reducible ((k_here; refine Stop.go ?_)))) | walk1 | (dsimp only; walk1))
  unfold Stop
  rename Fr _ _ _ _ => F
  rename News _ _ _ _ => N
  have f0 := Int.fmod_nonneg_of_pos (num ns 18) (show (0 : Int) < (n : Int) + 4 by (first | lia | omega))
  have f1 := Int.fmod_lt_of_pos (num ns 18) (show (0 : Int) < (n : Int) + 4 by (first | lia | omega))
  generalize Int.fmod (num ns 18) ((n : Int) + 4) = nu at *
  ((repeat (with_reducible rename Grows _ _ => gg; clear gg)))
  k_sweep
  refine wpAny_execs_cons ?_
  refine For_invV s.heap (by rfl) (by rfl) ?_
  repeat' (first | ((with_reducible show wpAny _ _ (pyIter (Value.ref _)) _ _ _); (with_reducible ((k_here; refine Stop.go ?_)))) | walk1 | (dsimp only; walk1))
  unfold Stop
  rename Fr _ _ _ _ => F
  rename News _ _ _ _ => N
  k_sweep
  have R2 := rows_perm R33 M2
  refine for_led rr.1 (News.isListOf N) F N ?turn ?_
  case turn =>
    intro i v h tk I oI lo' hv F N Q' hQ
    have hr : ∃ Dr yr mr, v = .ref Dr ∧ h.IsList Dr yr ∧ Paired IsB yr.toList mr ∧ Rows33 mr n := by
      rcases i with _ | _ | i
      · exact ⟨D1, y1, m1, (Option.some.inj hv).symm, News.listAt N (c := c1) (by k_mem), P1, R1⟩
      · exact ⟨D2, y2, m2, (Option.some.inj hv).symm, News.listAt N (c := c2) (by k_mem), P2, R2⟩
      · exact absurd hv (by simp)
    obtain ⟨Dr, yr, mr, rfl, HLr, PR, RR⟩ := hr
    have RR1 := RR.1
    clear hv
    refine wpAny_execs_cons ?_
    repeat' (first | ((with_reducible show wpAny _ _ (call (Value.ref 1430) _ _) _ _ _); (with_reducible ((refine' use (number_spec ?zzW ?zzhl ?zzhi ?zzh63 ?zzh0 ?zzhp ?zzr) ?zzF ?zzN ?_; (case zzhl => exact Heap.IsList.at (by with_reducible assumption) (Fr.keep (by assumption) _)); (case zzhi => with_reducible assumption); (case zzh63 => with_reducible assumption); (case zzh0 => first | decide | (first | lia | omega)); (case zzhp => first | decide | (first | lia | omega)); (first | (((case zzW => exact World0.now (by k_asm) (by k_asm) (by k_asm)); (case zzr => (first | (first | exact Room.le (by with_reducible assumption) (Nat.le_of_ble_eq_true rfl) | exact Room.le (Room.in1 (by with_reducible assumption)) (Nat.le_of_ble_eq_true rfl)) | (first | exact Room.le (by with_reducible assumption) (by decide) | exact Room.le (Room.in1 (by with_reducible assumption)) (by decide)) | (first | exact Room.le (by assumption) (by decide) | exact Room.le (Room.in1 (by assumption)) (by decide)))); (case zzF => k_asm); (case zzN => k_asm))) | (((case zzW => exact World0.now (by assumption) (by assumption) (by assumption)); (case zzr => (first | (first | exact Room.le (by with_reducible assumption) (Nat.le_of_ble_eq_true rfl) | exact Room.le (Room.in1 (by with_reducible assumption)) (Nat.le_of_ble_eq_true rfl)) | (first | exact Room.le (by with_reducible assumption) (by decide) | exact Room.le (Room.in1 (by with_reducible assumption)) (by decide)) | (first | exact Room.le (by assumption) (by decide) | exact Room.le (Room.in1 (by assumption)) (by decide)))); (case zzF => k_asm); (case zzN => k_asm)))); intro v' h' tk' g' F' N' e'; obtain ⟨t', e'⟩ := e'; subst e')))) | ((with_reducible show wpAny _ _ (call (Value.ref 1456) _ _) _ _ _); ((refine' let_law ?zzHB ?zzX ?zzhf ?zzhk ?zzF ?zzN ?zzW ?zzM ?zzhn ?zzh1 ?zzh4 ?zzz0 ?zzz1 ?zzr ?_; (case zzHB => with_reducible assumption); (case zzX => k_asm); (case zzhf => rfl); (case zzhk => rfl); (case zzF => k_asm); (case zzN => k_asm); (case zzW => exact World0.now (by assumption) (by assumption) (by assumption)); (case zzM => with_reducible assumption); (case zzhn => exact (show Rows33 _ _ by with_reducible assumption).1); (case zzh1 => with_reducible assumption); (case zzh4 => with_reducible assumption); (case zzz0 => first | decide | (first | lia | omega)); (case zzz1 => first | decide | (first | lia | omega)); (case zzr => (first | (first | exact Room.le (by with_reducible assumption) (Nat.le_of_ble_eq_true rfl) | exact Room.le (Room.in1 (by with_reducible assumption)) (Nat.le_of_ble_eq_true rfl)) | (first | exact Room.le (by with_reducible assumption) (by decide) | exact Room.le (Room.in1 (by with_reducible assumption)) (by decide)) | (first | exact Room.le (by assumption) (by decide) | exact Room.le (Room.in1 (by assumption)) (by decide)))); intro h' t' F' N'))) | ((with_reducible show wpAny _ _ (call (Value.ref 1449) _ _) _ _ _); ((refine' use (made_spec ?zzW ?zzhl ?zzhb ?zzhz ?zzr) ?zzF ?zzN ?_; (case zzhl => exact Heap.IsList.at (by with_reducible assumption) (fun o e => (show Grows _ _ by with_reducible assumption) _ o e)); (case zzhb => with_reducible assumption); (case zzhz => first | decide | (first | lia | omega)); (first | (((case zzW => exact World0.now (by k_asm) (by k_asm) (by k_asm)); (case zzr => (first | (first | exact Room.le (by with_reducible assumption) (Nat.le_of_ble_eq_true rfl) | exact Room.le (Room.in1 (by with_reducible assumption)) (Nat.le_of_ble_eq_true rfl)) | (first | exact Room.le (by with_reducible assumption) (by decide) | exact Room.le (Room.in1 (by with_reducible assumption)) (by decide)) | (first | exact Room.le (by assumption) (by decide) | exact Room.le (Room.in1 (by assumption)) (by decide)))); (case zzF => k_asm); (case zzN => k_asm))) | (((case zzW => exact World0.now (by assumption) (by assumption) (by assumption)); (case zzr => (first | (first | exact Room.le (by with_reducible assumption) (Nat.le_of_ble_eq_true rfl) | exact Room.le (Room.in1 (by with_reducible assumption)) (Nat.le_of_ble_eq_true rfl)) | (first | exact Room.le (by with_reducible assumption) (by decide) | exact Room.le (Room.in1 (by with_reducible assumption)) (by decide)) | (first | exact Room.le (by assumption) (by decide) | exact Room.le (Room.in1 (by assumption)) (by decide)))); (case zzF => k_asm); (case zzN => k_asm)))); intro v' h' tk' g' F' N' M'; have MM' := M'; obtain ⟨na', nd', n1', n2', ks', ⟨x', dx', T', t1', t2', ve', MS'⟩, NM', KS'⟩ := M'; subst ve'))) | ((with_reducible show wpAny _ _ (execs (_ :: _) _) _ _ _); (with_reducible ((k_here; refine Stop.go ?_)))) | walk1 | (dsimp only; walk1))
    · exact (chain1 (by with_reducible assumption) (by with_reducible assumption)).elim
    · rename Fr _ _ _ _ => F
      rename News _ _ _ _ => N
      exact hQ _ _ F N
    · exact (chain2 (by with_reducible assumption) (by with_reducible assumption)).elim
    · rename Fr _ _ _ _ => F
      rename News _ _ _ _ => N
      exact hQ _ _ F N
    · exact hQ _ _ F N
  clear N F
  dsimp only
  intro h tk r F N
  refine tok_any (s := s) ?_
  clear tk
  intro tk
  replace F : Fr s.heap L h _ := F
  replace N : News s.heap L h _ := N

  have R3 := rows_perm R33 M3
  have sl3 := scr_len (tap := tap) (need := need) R3 hn1 hn4
  obtain ⟨P, hP⟩ : ∃ P, scr false tap need m3 = P := ⟨_, rfl⟩
  rw [hP] at P4 sl3
  have x20 := h160_length P
  have x32 := sha_length P
  obtain ⟨x, hx⟩ : ∃ x, sha P = x := ⟨_, rfl⟩
  obtain ⟨y, hy⟩ : ∃ x, h160 P = x := ⟨_, rfl⟩
  rw [hx] at x32
  rw [hy] at x20
  clear P5 hP hm3
  refine wpAny_execs_cons ?_
  repeat' (first | ((with_reducible show wpAny _ _ (binaryOp Operator.Add (Value.bytes _ _) (Value.bytes _ _)) _ _ _); (with_reducible ((k_dflt (refine' badd ?zzhz ?_; (case zzhz => (simp only [List.length_append, List.length_cons, List.length_nil, List.length_map, List.length_drop]; (first | lia | omega))); intro t' k'))))) | ((with_reducible show wpAny _ _ (compareOp CmpOp.Eq (Value.bytes _ _) (Value.bytes _ _)) _ _ _); (with_reducible ((k_here; k_dflt (refine' eq_bytes_same ?_))))) | ((with_reducible show wpAny _ _ (call (Value.ref 1416) _ _) _ _ _); (with_reducible ((refine' use (p2wsh_law ?zzW ?zzK ?zzhl ?zzr ?zzhx) ?zzF ?zzN ?_; (case zzK => exact ⟨by (first | with_reducible assumption | exact Fr.keep (by assumption) _ _ (by with_reducible assumption)), by (first | with_reducible assumption | exact Fr.keep (by assumption) _ _ (by with_reducible assumption))⟩); (case zzhl => (first | lia | omega)); (case zzhx => with_reducible assumption); (first | (((case zzW => exact World0.now (by k_asm) (by k_asm) (by k_asm)); (case zzr => (first | (first | exact Room.le (by with_reducible assumption) (Nat.le_of_ble_eq_true rfl) | exact Room.le (Room.in1 (by with_reducible assumption)) (Nat.le_of_ble_eq_true rfl)) | (first | exact Room.le (by with_reducible assumption) (by decide) | exact Room.le (Room.in1 (by with_reducible assumption)) (by decide)) | (first | exact Room.le (by assumption) (by decide) | exact Room.le (Room.in1 (by assumption)) (by decide)))); (case zzF => k_asm); (case zzN => k_asm))) | (((case zzW => exact World0.now (by assumption) (by assumption) (by assumption)); (case zzr => (first | (first | exact Room.le (by with_reducible assumption) (Nat.le_of_ble_eq_true rfl) | exact Room.le (Room.in1 (by with_reducible assumption)) (Nat.le_of_ble_eq_true rfl)) | (first | exact Room.le (by with_reducible assumption) (by decide) | exact Room.le (Room.in1 (by with_reducible assumption)) (by decide)) | (first | exact Room.le (by assumption) (by decide) | exact Room.le (Room.in1 (by assumption)) (by decide)))); (case zzF => k_asm); (case zzN => k_asm)))); intro v' h' tk' g' F' N' e'; obtain ⟨sc', sd', st1', st2', e', so', sod'⟩ := e'; subst e')))) | ((with_reducible show wpAny _ _ (call (Value.ref 1409) _ _) _ _ _); (with_reducible ((refine' use (p2sh_law ?zzW ?zzK ?zzhl ?zzr ?zzhx) ?zzF ?zzN ?_; (case zzK => exact ⟨by (first | with_reducible assumption | exact Fr.keep (by assumption) _ _ (by with_reducible assumption)), by (first | with_reducible assumption | exact Fr.keep (by assumption) _ _ (by with_reducible assumption))⟩); (case zzhl => (first | lia | omega)); (case zzhx => with_reducible assumption); (first | (((case zzW => exact World0.now (by k_asm) (by k_asm) (by k_asm)); (case zzr => (first | (first | exact Room.le (by with_reducible assumption) (Nat.le_of_ble_eq_true rfl) | exact Room.le (Room.in1 (by with_reducible assumption)) (Nat.le_of_ble_eq_true rfl)) | (first | exact Room.le (by with_reducible assumption) (by decide) | exact Room.le (Room.in1 (by with_reducible assumption)) (by decide)) | (first | exact Room.le (by assumption) (by decide) | exact Room.le (Room.in1 (by assumption)) (by decide)))); (case zzF => k_asm); (case zzN => k_asm))) | (((case zzW => exact World0.now (by assumption) (by assumption) (by assumption)); (case zzr => (first | (first | exact Room.le (by with_reducible assumption) (Nat.le_of_ble_eq_true rfl) | exact Room.le (Room.in1 (by with_reducible assumption)) (Nat.le_of_ble_eq_true rfl)) | (first | exact Room.le (by with_reducible assumption) (by decide) | exact Room.le (Room.in1 (by with_reducible assumption)) (by decide)) | (first | exact Room.le (by assumption) (by decide) | exact Room.le (Room.in1 (by assumption)) (by decide)))); (case zzF => k_asm); (case zzN => k_asm)))); intro v' h' tk' g' F' N' e'; obtain ⟨sc', sd', st1', st2', e', so', sod'⟩ := e'; subst e')))) | ((with_reducible show wpAny _ _ (call (Value.ref 1400) _ _) _ _ _); (with_reducible ((refine' use (script_new ?zzW ?zzr) ?zzF ?zzN ?_; (first | (((case zzW => exact World0.now (by k_asm) (by k_asm) (by k_asm)); (case zzr => (first | (first | exact Room.le (by with_reducible assumption) (Nat.le_of_ble_eq_true rfl) | exact Room.le (Room.in1 (by with_reducible assumption)) (Nat.le_of_ble_eq_true rfl)) | (first | exact Room.le (by with_reducible assumption) (by decide) | exact Room.le (Room.in1 (by with_reducible assumption)) (by decide)) | (first | exact Room.le (by assumption) (by decide) | exact Room.le (Room.in1 (by assumption)) (by decide)))); (case zzF => k_asm); (case zzN => k_asm))) | (((case zzW => exact World0.now (by assumption) (by assumption) (by assumption)); (case zzr => (first | (first | exact Room.le (by with_reducible assumption) (Nat.le_of_ble_eq_true rfl) | exact Room.le (Room.in1 (by with_reducible assumption)) (Nat.le_of_ble_eq_true rfl)) | (first | exact Room.le (by with_reducible assumption) (by decide) | exact Room.le (Room.in1 (by with_reducible assumption)) (by decide)) | (first | exact Room.le (by assumption) (by decide) | exact Room.le (Room.in1 (by assumption)) (by decide)))); (case zzF => k_asm); (case zzN => k_asm)))); intro v' h' tk' g' F' N' e'; obtain ⟨sc', sd', st1', st2', e', so', sod'⟩ := e'; subst e')))) | ((with_reducible show wpAny _ _ (call (Value.ref 1307) _ _) _ _ _); ((refine' use (sha256_spec2 ?zzW ?zzhl ?zzr ?zzhx) ?zzF ?zzN ?_; (case zzhl => first | (first | lia | omega) | (first | (simp only [List.length_append, List.length_cons, List.length_nil]; (first | lia | omega)) | (simp only [List.length_append, List.length_cons, List.length_nil] at *; (first | lia | omega)))); (case zzhx => with_reducible assumption); (first | (((case zzW => exact World0.now (by k_asm) (by k_asm) (by k_asm)); (case zzr => (first | (first | exact Room.le (by with_reducible assumption) (Nat.le_of_ble_eq_true rfl) | exact Room.le (Room.in1 (by with_reducible assumption)) (Nat.le_of_ble_eq_true rfl)) | (first | exact Room.le (by with_reducible assumption) (by decide) | exact Room.le (Room.in1 (by with_reducible assumption)) (by decide)) | (first | exact Room.le (by assumption) (by decide) | exact Room.le (Room.in1 (by assumption)) (by decide)))); (case zzF => k_asm); (case zzN => k_asm))) | (((case zzW => exact World0.now (by assumption) (by assumption) (by assumption)); (case zzr => (first | (first | exact Room.le (by with_reducible assumption) (Nat.le_of_ble_eq_true rfl) | exact Room.le (Room.in1 (by with_reducible assumption)) (Nat.le_of_ble_eq_true rfl)) | (first | exact Room.le (by with_reducible assumption) (by decide) | exact Room.le (Room.in1 (by with_reducible assumption)) (by decide)) | (first | exact Room.le (by assumption) (by decide) | exact Room.le (Room.in1 (by assumption)) (by decide)))); (case zzF => k_asm); (case zzN => k_asm)))); intro v' h' tk' g' F' N' e'; obtain ⟨t', e'⟩ := e'; subst e'))) | ((with_reducible show wpAny _ _ (call (Value.ref 1300) _ _) _ _ _); ((refine' use (h160_spec2 ?zzW ?zzhl ?zzr ?zzhx) ?zzF ?zzN ?_; (case zzhl => first | (first | lia | omega) | (rw [sha_length]; decide)); (case zzhx => with_reducible assumption); (first | (((case zzW => exact World0.now (by k_asm) (by k_asm) (by k_asm)); (case zzr => (first | (first | exact Room.le (by with_reducible assumption) (Nat.le_of_ble_eq_true rfl) | exact Room.le (Room.in1 (by with_reducible assumption)) (Nat.le_of_ble_eq_true rfl)) | (first | exact Room.le (by with_reducible assumption) (by decide) | exact Room.le (Room.in1 (by with_reducible assumption)) (by decide)) | (first | exact Room.le (by assumption) (by decide) | exact Room.le (Room.in1 (by assumption)) (by decide)))); (case zzF => k_asm); (case zzN => k_asm))) | (((case zzW => exact World0.now (by assumption) (by assumption) (by assumption)); (case zzr => (first | (first | exact Room.le (by with_reducible assumption) (Nat.le_of_ble_eq_true rfl) | exact Room.le (Room.in1 (by with_reducible assumption)) (Nat.le_of_ble_eq_true rfl)) | (first | exact Room.le (by with_reducible assumption) (by decide) | exact Room.le (Room.in1 (by with_reducible assumption)) (by decide)) | (first | exact Room.le (by assumption) (by decide) | exact Room.le (Room.in1 (by assumption)) (by decide)))); (case zzF => k_asm); (case zzN => k_asm)))); intro v' h' tk' g' F' N' e'; obtain ⟨t', e'⟩ := e'; subst e'))) | ((with_reducible show wpAny _ _ (subscriptTail _ _ _ _) _ _ _); first | (with_reducible ((k_here; (with_reducible show wpAny _ _ (subscriptTail _ _ (Value.ref _) (Value.int 3 _)) _ _ _); k_dflt (refine' item3 ?zzhl ?zzhb ?_; (case zzhl => exact News.listAt (by k_asm) (by k_mem)); (case zzhb => with_reducible assumption)); intro t'))) | (with_reducible ((k_here; (with_reducible show wpAny _ _ (subscriptTail _ _ (Value.ref _) (Value.int 2 _)) _ _ _); k_dflt (refine' item2 ?zzhl ?zzhb ?_; (case zzhl => exact News.listAt (by k_asm) (by k_mem)); (case zzhb => with_reducible assumption)); intro t'))) | (with_reducible ((k_here; (with_reducible show wpAny _ _ (subscriptTail _ _ (Value.ref _) (Value.int 1 _)) _ _ _); k_dflt (refine' item1 ?zzhl ?zzhb ?_; (case zzhl => exact News.listAt (by k_asm) (by k_mem)); (case zzhb => with_reducible assumption)); intro t')))) | walk1 | (dsimp only; walk1))
  exact Back.of (by assumption) rfl

end
end
end
end
end
end

theorem last {loose : List Str} {XP : (Str → Option Value) → Heap → Prop} {d : DefRec} {kwd : List (Str × Expr)} (hnm : d.name = ("law" : Str)) :
    WalkO V0 loose XP (fun w h => (fr.heap_1 w.params).In h) PySem.Challenge.rw_ai0022_01.row.toRowW d kwd (fun f vs => PySem.call f vs) := by
  intro w s₀ s₁ mg mb G Y fa o pm cd doc dV kV ho hd' hcd hD hmg hg args vals as hpre hlay hrd hwl hlo
  have KX : (fr.heap_1 w.params).In s₁.heap := Y
  refine Ground.open G ?_
  intro T B D TE TW
  rw [hnm] at hmg
  have hm := mg_of (n := ("law" : Str)) (v := .ref 1461) KX T.g (by k_is)
  rw [hm] at hmg
  injection hmg with hmg
  injection hmg with hmg
  subst hmg
  clear ho hd' hcd hD hm
  wrow_args hpre hlay hrd hwl hlo
  rename_i ns _ _ hlay0 _ _ _ _ a svs _ hL _ _ _ hI _ h63 _
  refine wpAny_mono (law_spec KX T hL hI (by omega) hlay0) ?_ (fun _ _ x => x)
  rintro v s' ⟨h', tk, rfl, gr, rfl⟩
  refine GoodW.toG ⟨.inl ⟨.bool true, .bool true, [], rfl, raisesW_false (by wrow_none_raised), .bool true, by wrow_post, fun _ => ⟨List.nodup_nil, fun a ha => absurd ha List.not_mem_nil⟩⟩, gr, rfl, hg⟩
noncomputable def as0 : List Addr := [2, 3, 15, 17, 18, 20, 21, 22, 25, 26, 34, 35, 37, 38, 40, 41, 42, 44, 45, 47, 48, 49, 51, 52, 54, 55, 56, 57, 58, 59, 60, 70, 71, 73, 74, 76, 77, 78, 79, 80, 81, 82, 83, 84, 85, 88, 90, 91, 93, 94, 95, 102, 103, 104, 105, 108, 110, 111, 113, 114, 115, 117, 118, 120, 121, 122, 129, 130, 131, 132, 142, 144, 145, 147, 148, 149, 150, 151, 152, 153, 154, 157, 164, 165, 166, 169, 176, 177, 178, 181, 188, 189, 191, 192, 194, 195, 196, 198, 199, 201, 202, 203, 205, 206, 208, 209, 210, 212, 213, 215, 216, 217, 218, 220, 221, 223, 224, 225, 227, 228, 230, 231, 232, 234, 235, 237, 238, 239, 241, 242, 244, 245, 246, 248, 249, 251, 252, 253, 255, 256, 258, 259, 260, 262, 263, 265, 266, 267, 269, 270, 272, 273, 274, 276, 277, 279, 280, 281, 283, 284, 286, 287, 288, 290, 291, 293, 294, 295, 297, 298, 300, 301, 302, 304, 305, 307, 308, 309, 310, 312, 313, 315, 316, 317, 318, 320, 321, 323, 324, 325, 326, 328, 329, 331, 332, 333, 334, 336, 337, 339, 340, 341, 343, 344, 346, 347, 348, 350, 351, 353, 354, 355, 356, 358, 359, 361, 362, 363, 364, 366, 367, 369, 370, 371, 373, 374, 376, 377, 378, 380, 381, 383, 384, 385, 387, 388, 390, 391, 392, 394, 395, 397, 398, 399, 401, 402, 404, 405, 406, 407, 408, 411, 418, 419, 421, 422, 424, 425, 426, 428, 429, 431, 432, 433, 435, 436, 438, 439, 440, 442, 443, 445, 446, 447, 449, 450, 452, 453, 454, 456, 457, 459, 460, 461, 462, 464, 465, 467, 468, 469, 470, 472, 473, 475, 476, 477, 478, 480, 481, 483, 484, 485, 486, 488, 489, 491, 492, 493, 494, 496, 497, 499, 500, 501, 503, 504, 506, 507, 508, 510, 511, 513, 514, 515, 517, 518, 520, 521, 522, 524, 525, 527, 528, 529, 531, 532, 534, 535, 536, 538, 539, 541, 542, 543, 545, 546, 548, 549, 550, 552, 553, 555, 556, 557, 559, 560, 562, 563, 564, 566, 567, 569, 570, 571, 573, 574, 576, 577, 578, 579, 581, 582, 584, 585, 586, 587, 589, 590, 592, 593, 594, 595, 597, 598, 600, 601, 602, 603, 605, 606, 608, 609, 610, 611, 613, 614, 616, 617, 618, 620, 621, 623, 624, 625, 627, 628, 630, 631, 632, 634, 635, 637, 638, 639, 641, 642, 644, 645, 646, 648, 649, 651, 652, 653, 654, 655, 665, 667, 668, 670, 671, 672, 673, 674, 675, 677, 678, 680, 681, 682, 683, 684, 685, 687, 688, 690, 691, 692, 694, 695, 697, 698, 699, 701, 702, 704, 705, 706, 708, 709, 711, 712, 713, 714, 715, 716, 718, 719, 721, 722, 723, 725, 726, 728, 729, 730, 732, 733, 735, 736, 737, 738, 739, 740, 741, 744, 751, 753, 754, 756, 757, 758, 760, 761, 763, 764, 765, 767, 768, 770, 771, 772, 773, 775, 776, 778, 779, 780, 782, 783, 785, 786, 787, 788, 789, 792, 799, 800, 801, 804, 811, 812, 813, 816, 823, 824, 825, 828, 835, 837, 838, 840, 841, 842, 843, 844, 845, 847, 848, 850, 851, 852, 854, 855, 857, 858, 859, 860, 861, 864, 865, 867, 868, 870, 871, 872, 879, 880, 882, 883, 885, 886, 887, 889, 890, 892, 893, 894, 896, 897, 899, 900, 901, 903, 904, 906, 907, 908, 910, 911, 913, 914, 915, 917, 918, 920, 921, 922, 923, 925, 926, 928, 929, 930, 932, 933, 935, 936, 937, 939, 940, 942, 943, 944, 946, 947, 949, 950, 951, 952, 953, 956, 958, 959, 961, 962, 963, 965, 966, 968, 969, 970, 977, 978, 980, 981, 983, 984, 985, 987, 988, 990, 991, 992, 994, 995, 997, 998, 999, 1000, 1002, 1003, 1005, 1006, 1007, 1009, 1010, 1012, 1013, 1014, 1016, 1017, 1019, 1020, 1021, 1023, 1024, 1026, 1027, 1028, 1030, 1031, 1033, 1034, 1035, 1036, 1038, 1039, 1041, 1042, 1043, 1044, 1046, 1047, 1049, 1050, 1051, 1052, 1054, 1055, 1057, 1058, 1059, 1060, 1062, 1063, 1065, 1066, 1067, 1068, 1070, 1071, 1073, 1074, 1075, 1076, 1077, 1079, 1080, 1082, 1083, 1084, 1085, 1086, 1089, 1096, 1098, 1099, 1101, 1102, 1103, 1105, 1106, 1108, 1109, 1110, 1112, 1113, 1115, 1116, 1117, 1119, 1120, 1122, 1123, 1124, 1125, 1126, 1129, 1136, 1138, 1139, 1141, 1142, 1143, 1145, 1146, 1148, 1149, 1150, 1152, 1153, 1155, 1156, 1157, 1159, 1160, 1162, 1163, 1164, 1165, 1167, 1168, 1170, 1171, 1172, 1173, 1176, 1177, 1178, 1180, 1181, 1183, 1184, 1185, 1188, 1189, 1190, 1191, 1192, 1195, 1198, 1203, 1204, 1206, 1207, 1209, 1210, 1211, 1214, 1215, 1216, 1218, 1219, 1221, 1222, 1223, 1224, 1226, 1227, 1229, 1230, 1231, 1232, 1233, 1236, 1243, 1246, 1247, 1248, 1249, 1250, 1253, 1260, 1263, 1264, 1265, 1267, 1268, 1270, 1271, 1272, 1273, 1274, 1277, 1284, 1287, 1288, 1289, 1290, 1291, 1294, 1296, 1297, 1299, 1300, 1301, 1303, 1304, 1306, 1307, 1309, 1313, 1320, 1321, 1323, 1324, 1326, 1327, 1328, 1329, 1331, 1332, 1334, 1335, 1336, 1338, 1339, 1341, 1342, 1343, 1345, 1346, 1348, 1349, 1350, 1352, 1353, 1355, 1356, 1357, 1359, 1360, 1362, 1363, 1364, 1365, 1366, 1367, 1369, 1370, 1372, 1373, 1374, 1375, 1376, 1377, 1379, 1380, 1382, 1383, 1384, 1386, 1387, 1389, 1390, 1391, 1393, 1394, 1396, 1397, 1398, 1399, 1400, 1403, 1405, 1406, 1408, 1409, 1410, 1412, 1413, 1415, 1416, 1417, 1419, 1420, 1422, 1423, 1424, 1426, 1427, 1429, 1430, 1431, 1433, 1434, 1436, 1437, 1438, 1440, 1441, 1443, 1444, 1445, 1448, 1449, 1450, 1452, 1453, 1455, 1456, 1457, 1460, 1461]
theorem as0_eq (P : Params) : as0 = (fr.heap_1 P).map (·.1) := by kernel_rfl
/-! The names that follow say nothing: they take the places in which the library's tool would lay twins of the head's objects and trees.
It finds a place taken, leaves that twin out and goes on without: the kernel runs the head all the same, and the compiled file stays small. -/
theorem hd.tw10012880186880212623 : True := trivial
theorem hd.tw10024716035694756283 : True := trivial
theorem hd.tw10026777125879992224 : True := trivial
theorem hd.tw10031451596355448885 : True := trivial
theorem hd.tw10039483706537262773 : True := trivial
theorem hd.tw10045293750204536338 : True := trivial
theorem hd.tw100483095206116625 : True := trivial
theorem hd.tw10053515458378849207 : True := trivial
theorem hd.tw10098268173465320503 : True := trivial
theorem hd.tw10098318754811780475 : True := trivial
theorem hd.tw10102539355485613405 : True := trivial
theorem hd.tw10111801491309104144 : True := trivial
theorem hd.tw1011335219593555734 : True := trivial
theorem hd.tw10117440562283002822 : True := trivial
theorem hd.tw1013155817946168525 : True := trivial
theorem hd.tw10136955959730793301 : True := trivial
theorem hd.tw10140451975749882429 : True := trivial
theorem hd.tw10145285793190388307 : True := trivial
theorem hd.tw10170382586518783626 : True := trivial
theorem hd.tw10172710858053320305 : True := trivial
theorem hd.tw10182351145713721283 : True := trivial
theorem hd.tw10188524747001646133 : True := trivial
theorem hd.tw10200926772931222457 : True := trivial
theorem hd.tw102014493982917126 : True := trivial
theorem hd.tw10203026625882799534 : True := trivial
theorem hd.tw10205803601322168763 : True := trivial
theorem hd.tw10210669037155785340 : True := trivial
theorem hd.tw10216474801634566288 : True := trivial
theorem hd.tw10220581091169434988 : True := trivial
theorem hd.tw10224846074564989696 : True := trivial
theorem hd.tw10246146449241189800 : True := trivial
theorem hd.tw1025053825329563448 : True := trivial
theorem hd.tw10258999931320997221 : True := trivial
theorem hd.tw10259988299927297344 : True := trivial
theorem hd.tw10273187271170590260 : True := trivial
theorem hd.tw10283529075043463162 : True := trivial
theorem hd.tw10292235466723388172 : True := trivial
theorem hd.tw10304952410344976868 : True := trivial
theorem hd.tw10331275065770859567 : True := trivial
theorem hd.tw1033889070964956483 : True := trivial
theorem hd.tw10357175440086982646 : True := trivial
theorem hd.tw10365350982590847200 : True := trivial
theorem hd.tw10365702040365258594 : True := trivial
theorem hd.tw10376703724636587151 : True := trivial
theorem hd.tw10393874442385010029 : True := trivial
theorem hd.tw10403243965636340961 : True := trivial
theorem hd.tw10404513684093684653 : True := trivial
theorem hd.tw10424393626065333798 : True := trivial
theorem hd.tw1043307727769730188 : True := trivial
theorem hd.tw10436927622101931143 : True := trivial
theorem hd.tw10437652513591952993 : True := trivial
theorem hd.tw10444598608641713371 : True := trivial
theorem hd.tw10450363280022070651 : True := trivial
theorem hd.tw10455556489620249130 : True := trivial
theorem hd.tw10462248257125198703 : True := trivial
theorem hd.tw10462336939700378846 : True := trivial
theorem hd.tw10462821097141149598 : True := trivial
theorem hd.tw10465514089279642386 : True := trivial
theorem hd.tw10465860859745235415 : True := trivial
theorem hd.tw10489055270429316772 : True := trivial
theorem hd.tw1051681510052472703 : True := trivial
theorem hd.tw10525666975642140466 : True := trivial
theorem hd.tw10531373872144210542 : True := trivial
theorem hd.tw10556274943049900109 : True := trivial
theorem hd.tw10558106933452604415 : True := trivial
theorem hd.tw10573583508705920283 : True := trivial
theorem hd.tw10579413790050792649 : True := trivial
theorem hd.tw10583446816852156582 : True := trivial
theorem hd.tw10595968288072337780 : True := trivial
theorem hd.tw10597794895767895361 : True := trivial
theorem hd.tw10600947437114215650 : True := trivial
theorem hd.tw10601615944963115059 : True := trivial
theorem hd.tw10604169790165778682 : True := trivial
theorem hd.tw10614716105012338702 : True := trivial
theorem hd.tw10641872887744487320 : True := trivial
theorem hd.tw10643592516055977328 : True := trivial
theorem hd.tw10675038575893122398 : True := trivial
theorem hd.tw10678649693572172417 : True := trivial
theorem hd.tw10720578716558036085 : True := trivial
theorem hd.tw10738003575532504788 : True := trivial
theorem hd.tw10743916045514856203 : True := trivial
theorem hd.tw10752148897807903841 : True := trivial
theorem hd.tw10757513850759160966 : True := trivial
theorem hd.tw10758542809491874003 : True := trivial
theorem hd.tw10768795402259594627 : True := trivial
theorem hd.tw10773125474200672486 : True := trivial
theorem hd.tw10778257442750969130 : True := trivial
theorem hd.tw10781468475247234061 : True := trivial
theorem hd.tw10784824025267889561 : True := trivial
theorem hd.tw10787125048147943196 : True := trivial
theorem hd.tw10788059911547816233 : True := trivial
theorem hd.tw10792051664901133789 : True := trivial
theorem hd.tw10809293155625720580 : True := trivial
theorem hd.tw10819331528351526247 : True := trivial
theorem hd.tw10834780440838970164 : True := trivial
theorem hd.tw10835030195340973342 : True := trivial
theorem hd.tw10841399608879689956 : True := trivial
theorem hd.tw10844753989422098599 : True := trivial
theorem hd.tw10845626234925267891 : True := trivial
theorem hd.tw10847404155465417027 : True := trivial
theorem hd.tw10860895700388868024 : True := trivial
theorem hd.tw1088296927520436173 : True := trivial
theorem hd.tw10894781322424738166 : True := trivial
theorem hd.tw10904933031377857372 : True := trivial
theorem hd.tw10930720807773345188 : True := trivial
theorem hd.tw10933677585905718993 : True := trivial
theorem hd.tw10934634478434655930 : True := trivial
theorem hd.tw10944284786323348147 : True := trivial
theorem hd.tw10944956837784636368 : True := trivial
theorem hd.tw10947331860392259696 : True := trivial
theorem hd.tw10947534242169238906 : True := trivial
theorem hd.tw10955317050725887447 : True := trivial
theorem hd.tw10960162206581295577 : True := trivial
theorem hd.tw1098510452882186669 : True := trivial
theorem hd.tw11011131195910976488 : True := trivial
theorem hd.tw11024222330075796079 : True := trivial
theorem hd.tw11032806212648032379 : True := trivial
theorem hd.tw11034497122203965937 : True := trivial
theorem hd.tw11052946933831473538 : True := trivial
theorem hd.tw11109741339103130912 : True := trivial
theorem hd.tw11115866451450875312 : True := trivial
theorem hd.tw11126320352707459272 : True := trivial
theorem hd.tw11128854368766332075 : True := trivial
theorem hd.tw11136197038861592535 : True := trivial
theorem hd.tw11151547217846952531 : True := trivial
theorem hd.tw11152578617755183282 : True := trivial
theorem hd.tw11159108015848724674 : True := trivial
theorem hd.tw11162318198679636149 : True := trivial
theorem hd.tw11173837332003881410 : True := trivial
theorem hd.tw11174720204587422643 : True := trivial
theorem hd.tw11180023125335031430 : True := trivial
theorem hd.tw1118553966540926140 : True := trivial
theorem hd.tw11190004267631704961 : True := trivial
theorem hd.tw11194669416261925730 : True := trivial
theorem hd.tw11210553801493137410 : True := trivial
theorem hd.tw11213053971927718326 : True := trivial
theorem hd.tw11224897151958998736 : True := trivial
theorem hd.tw11232374478483605306 : True := trivial
theorem hd.tw11248203148988284874 : True := trivial
theorem hd.tw11249132867342737325 : True := trivial
theorem hd.tw11251137523995926341 : True := trivial
theorem hd.tw1125234497499537870 : True := trivial
theorem hd.tw11256106856564762260 : True := trivial
theorem hd.tw11258066867766033657 : True := trivial
theorem hd.tw11259906649001119193 : True := trivial
theorem hd.tw11274798710822564090 : True := trivial
theorem hd.tw11283319371284918911 : True := trivial
theorem hd.tw1129884963351977449 : True := trivial
theorem hd.tw11319892378374348655 : True := trivial
theorem hd.tw11327987920954880998 : True := trivial
theorem hd.tw11331025366446083794 : True := trivial
theorem hd.tw11364443708160879001 : True := trivial
theorem hd.tw11372937695559146449 : True := trivial
theorem hd.tw11375277706881905925 : True := trivial
theorem hd.tw11389486352061984695 : True := trivial
theorem hd.tw11398329185405939978 : True := trivial
theorem hd.tw11402939732021071671 : True := trivial
theorem hd.tw11407884054146074569 : True := trivial
theorem hd.tw11427219189755609088 : True := trivial
theorem hd.tw11434409384045074295 : True := trivial
theorem hd.tw1144496826038529397 : True := trivial
theorem hd.tw11449328733155803182 : True := trivial
theorem hd.tw11465210709893060100 : True := trivial
theorem hd.tw11488622315901566857 : True := trivial
theorem hd.tw11497130080275823901 : True := trivial
theorem hd.tw11517537976394282033 : True := trivial
theorem hd.tw11517720524044408938 : True := trivial
theorem hd.tw11527762539567839530 : True := trivial
theorem hd.tw11536210426946427312 : True := trivial
theorem hd.tw11551083187376567056 : True := trivial
theorem hd.tw11572154273238752046 : True := trivial
theorem hd.tw11572428696923059269 : True := trivial
theorem hd.tw11576515045844845073 : True := trivial
theorem hd.tw1157804721814978856 : True := trivial
theorem hd.tw11587034568685482758 : True := trivial
theorem hd.tw11623594800819314181 : True := trivial
theorem hd.tw11629707937479629763 : True := trivial
theorem hd.tw11631869004601391166 : True := trivial
theorem hd.tw11631947586910100387 : True := trivial
theorem hd.tw11636924220087485885 : True := trivial
theorem hd.tw11638043884434779313 : True := trivial
theorem hd.tw1164367871806227426 : True := trivial
theorem hd.tw11643878904714001875 : True := trivial
theorem hd.tw11652457597714270106 : True := trivial
theorem hd.tw11660266114150955751 : True := trivial
theorem hd.tw11663481321943121269 : True := trivial
theorem hd.tw11670292962456681022 : True := trivial
theorem hd.tw11672842613191775419 : True := trivial
theorem hd.tw1167774811387141744 : True := trivial
theorem hd.tw11709330566771433103 : True := trivial
theorem hd.tw11729958736954745289 : True := trivial
theorem hd.tw11734085652529622713 : True := trivial
theorem hd.tw11749099774412794130 : True := trivial
theorem hd.tw11754176132448286083 : True := trivial
theorem hd.tw11775305588321162381 : True := trivial
theorem hd.tw11776422053226453290 : True := trivial
theorem hd.tw11778180911958503814 : True := trivial
theorem hd.tw11784055001927039798 : True := trivial
theorem hd.tw11801993109049149486 : True := trivial
theorem hd.tw11814627755841444246 : True := trivial
theorem hd.tw11815456843998573312 : True := trivial
theorem hd.tw11827204434518203411 : True := trivial
theorem hd.tw11834859717445073533 : True := trivial
theorem hd.tw1184127607605381967 : True := trivial
theorem hd.tw11841407262063887625 : True := trivial
theorem hd.tw11845739042510646663 : True := trivial
theorem hd.tw11846603180955129896 : True := trivial
theorem hd.tw11848789522663161891 : True := trivial
theorem hd.tw11852641145169952659 : True := trivial
theorem hd.tw11860203945725464679 : True := trivial
theorem hd.tw11878068724825894207 : True := trivial
theorem hd.tw11889836477031937591 : True := trivial
theorem hd.tw11893437276241958245 : True := trivial
theorem hd.tw11898664097942606779 : True := trivial
theorem hd.tw11902425790401386700 : True := trivial
theorem hd.tw11905163887095721015 : True := trivial
theorem hd.tw11910640051562404991 : True := trivial
theorem hd.tw11912922877643110818 : True := trivial
theorem hd.tw11913768731285426812 : True := trivial
theorem hd.tw11915594877312485397 : True := trivial
theorem hd.tw11915910579716288358 : True := trivial
theorem hd.tw1191670712832166235 : True := trivial
theorem hd.tw11917015161858427179 : True := trivial
theorem hd.tw11927876298284503961 : True := trivial
theorem hd.tw119312105900027495 : True := trivial
theorem hd.tw11942693397608355085 : True := trivial
theorem hd.tw11946446719211007785 : True := trivial
theorem hd.tw1194904439430580092 : True := trivial
theorem hd.tw11953376511379268794 : True := trivial
theorem hd.tw11968265576560266318 : True := trivial
theorem hd.tw1197925565968671727 : True := trivial
theorem hd.tw11984409736253958808 : True := trivial
theorem hd.tw11986478082018527019 : True := trivial
theorem hd.tw1199380526279084286 : True := trivial
theorem hd.tw12021188219201562854 : True := trivial
theorem hd.tw12023040214023829324 : True := trivial
theorem hd.tw12035623454917710897 : True := trivial
theorem hd.tw12038704641614469620 : True := trivial
theorem hd.tw12044502824729849813 : True := trivial
theorem hd.tw12050417470231563642 : True := trivial
theorem hd.tw12053362261382060752 : True := trivial
theorem hd.tw12058812876911547015 : True := trivial
theorem hd.tw12070051907170230399 : True := trivial
theorem hd.tw12070654863422294720 : True := trivial
theorem hd.tw1208734638264122097 : True := trivial
theorem hd.tw12092154237167983948 : True := trivial
theorem hd.tw12101836490155343671 : True := trivial
theorem hd.tw12103701333906454223 : True := trivial
theorem hd.tw12113243949977362033 : True := trivial
theorem hd.tw12116473126509127551 : True := trivial
theorem hd.tw12127338746724423809 : True := trivial
theorem hd.tw12140495877813671846 : True := trivial
theorem hd.tw12164032871283449351 : True := trivial
theorem hd.tw12175748835895409678 : True := trivial
theorem hd.tw12176516086438804758 : True := trivial
theorem hd.tw12192437384793669734 : True := trivial
theorem hd.tw12195446991383753695 : True := trivial
theorem hd.tw12200550355154747765 : True := trivial
theorem hd.tw12201216968780110852 : True := trivial
theorem hd.tw12209956693362461440 : True := trivial
theorem hd.tw12211380539166087753 : True := trivial
theorem hd.tw12227448313822996173 : True := trivial
theorem hd.tw1222794163293265305 : True := trivial
theorem hd.tw12239354291974867115 : True := trivial
theorem hd.tw12243682255763564212 : True := trivial
theorem hd.tw12245992345721807831 : True := trivial
theorem hd.tw12247591692082566353 : True := trivial
theorem hd.tw12250179666908293788 : True := trivial
theorem hd.tw12263958175666689663 : True := trivial
theorem hd.tw12268275109542032366 : True := trivial
theorem hd.tw12269178446911218641 : True := trivial
theorem hd.tw12270471321269862437 : True := trivial
theorem hd.tw12271959270614036898 : True := trivial
theorem hd.tw12331051067403766639 : True := trivial
theorem hd.tw12353913968525425643 : True := trivial
theorem hd.tw12364972598781006883 : True := trivial
theorem hd.tw12386374481192637435 : True := trivial
theorem hd.tw12393119488966705847 : True := trivial
theorem hd.tw12394076208661396346 : True := trivial
theorem hd.tw1241404454085649124 : True := trivial
theorem hd.tw12414669353804360901 : True := trivial
theorem hd.tw12431770505752037028 : True := trivial
theorem hd.tw12439813695745666583 : True := trivial
theorem hd.tw12447509897640257713 : True := trivial
theorem hd.tw12451100950165386860 : True := trivial
theorem hd.tw12453114486196615683 : True := trivial
theorem hd.tw12459740579856956213 : True := trivial
theorem hd.tw1247026723315081023 : True := trivial
theorem hd.tw12480425521718506038 : True := trivial
theorem hd.tw12486720848796965907 : True := trivial
theorem hd.tw12487502673411948298 : True := trivial
theorem hd.tw12487542160262675636 : True := trivial
theorem hd.tw12509009523430927325 : True := trivial
theorem hd.tw12521463284412890351 : True := trivial
theorem hd.tw1256466517863071783 : True := trivial
theorem hd.tw12566466788776800671 : True := trivial
theorem hd.tw12572833349968916733 : True := trivial
theorem hd.tw12575139184659369484 : True := trivial
theorem hd.tw12579596248316191183 : True := trivial
theorem hd.tw12588582704262371052 : True := trivial
theorem hd.tw12590977762386282803 : True := trivial
theorem hd.tw12591134339009171964 : True := trivial
theorem hd.tw12599670120891573014 : True := trivial
theorem hd.tw12602439190401603521 : True := trivial
theorem hd.tw12611767792052310623 : True := trivial
theorem hd.tw12614811148066621264 : True := trivial
theorem hd.tw12617484926136758311 : True := trivial
theorem hd.tw12619676270301771533 : True := trivial
theorem hd.tw12629531694177875297 : True := trivial
theorem hd.tw12629568148972539762 : True := trivial
theorem hd.tw12630296710675939923 : True := trivial
theorem hd.tw12631932088317031055 : True := trivial
theorem hd.tw12642813592246648485 : True := trivial
theorem hd.tw12647368939536790636 : True := trivial
theorem hd.tw12659318050587179527 : True := trivial
theorem hd.tw1266193842208372017 : True := trivial
theorem hd.tw12667539911716787225 : True := trivial
theorem hd.tw12669576375859063689 : True := trivial
theorem hd.tw12673071592665350830 : True := trivial
theorem hd.tw12676414471582705871 : True := trivial
theorem hd.tw12682254530758723427 : True := trivial
theorem hd.tw12682632469016403174 : True := trivial
theorem hd.tw12685813987229840507 : True := trivial
theorem hd.tw12690835874199464660 : True := trivial
theorem hd.tw1269460147448156190 : True := trivial
theorem hd.tw12704988097186499811 : True := trivial
theorem hd.tw12715556860635103574 : True := trivial
theorem hd.tw12717840071588314478 : True := trivial
theorem hd.tw12727495553239364174 : True := trivial
theorem hd.tw12744807935193187038 : True := trivial
theorem hd.tw12749171663652687163 : True := trivial
theorem hd.tw12769127236821124696 : True := trivial
theorem hd.tw12778418089203562962 : True := trivial
theorem hd.tw12779077293037269412 : True := trivial
theorem hd.tw12783851568588377294 : True := trivial
theorem hd.tw12785048385018799185 : True := trivial
theorem hd.tw12812337004988121906 : True := trivial
theorem hd.tw12832683148521936107 : True := trivial
theorem hd.tw128412058910260475 : True := trivial
theorem hd.tw12844759124809766604 : True := trivial
theorem hd.tw12861998865439983172 : True := trivial
theorem hd.tw12862481390200346248 : True := trivial
theorem hd.tw12863906000906642121 : True := trivial
theorem hd.tw12868520594928266513 : True := trivial
theorem hd.tw12870888531099404533 : True := trivial
theorem hd.tw1287958475656056414 : True := trivial
theorem hd.tw12899053692262270667 : True := trivial
theorem hd.tw12900700647772717614 : True := trivial
theorem hd.tw12901994302517312135 : True := trivial
theorem hd.tw12936449754285732098 : True := trivial
theorem hd.tw12940713784782232206 : True := trivial
theorem hd.tw12945869327102554373 : True := trivial
theorem hd.tw12949589719889679912 : True := trivial
theorem hd.tw12949849787165660892 : True := trivial
theorem hd.tw12952509933414984302 : True := trivial
theorem hd.tw12972797968567076425 : True := trivial
theorem hd.tw12976082216212581069 : True := trivial
theorem hd.tw12976186185376257304 : True := trivial
theorem hd.tw1299046323782801668 : True := trivial
theorem hd.tw12995909851351757392 : True := trivial
theorem hd.tw13001811119718631651 : True := trivial
theorem hd.tw13011413612017729677 : True := trivial
theorem hd.tw13016641855579864589 : True := trivial
theorem hd.tw13023755402962554686 : True := trivial
theorem hd.tw13029304954367342411 : True := trivial
theorem hd.tw13064122474441708322 : True := trivial
theorem hd.tw13066319289922817542 : True := trivial
theorem hd.tw13070928021180538616 : True := trivial
theorem hd.tw13092906067662860646 : True := trivial
theorem hd.tw13095192852044638791 : True := trivial
theorem hd.tw13096558090100123544 : True := trivial
theorem hd.tw13122850982685727845 : True := trivial
theorem hd.tw13129650132239662433 : True := trivial
theorem hd.tw13132618709999183898 : True := trivial
theorem hd.tw13146726142893191285 : True := trivial
theorem hd.tw13155211650623716127 : True := trivial
theorem hd.tw13155780701260043360 : True := trivial
theorem hd.tw13160604113216922460 : True := trivial
theorem hd.tw13164601040044201813 : True := trivial
theorem hd.tw13171141561276507362 : True := trivial
theorem hd.tw13172843250190940813 : True := trivial
theorem hd.tw13181700845877081190 : True := trivial
theorem hd.tw13188104715197074476 : True := trivial
theorem hd.tw13206406409579783871 : True := trivial
theorem hd.tw13217732597525719949 : True := trivial
theorem hd.tw13217827037086042188 : True := trivial
theorem hd.tw13218659294841961345 : True := trivial
theorem hd.tw13225837485096350037 : True := trivial
theorem hd.tw13239904802401495117 : True := trivial
theorem hd.tw13262116225945230012 : True := trivial
theorem hd.tw13285133528070534704 : True := trivial
theorem hd.tw13289513938125300765 : True := trivial
theorem hd.tw13293453174229064190 : True := trivial
theorem hd.tw13302237318277920145 : True := trivial
theorem hd.tw1331086792558400476 : True := trivial
theorem hd.tw1331487369976884630 : True := trivial
theorem hd.tw13319468724087794245 : True := trivial
theorem hd.tw13321331477185743149 : True := trivial
theorem hd.tw13322179722446271537 : True := trivial
theorem hd.tw13330244855972007585 : True := trivial
theorem hd.tw13344460459354937169 : True := trivial
theorem hd.tw13347369733751428629 : True := trivial
theorem hd.tw13363553139645760527 : True := trivial
theorem hd.tw13365295217650922812 : True := trivial
theorem hd.tw13368278939475635651 : True := trivial
theorem hd.tw13372043803930879067 : True := trivial
theorem hd.tw13406102368217079016 : True := trivial
theorem hd.tw13409441903868389331 : True := trivial
theorem hd.tw13431754692932380062 : True := trivial
theorem hd.tw13458954166980676860 : True := trivial
theorem hd.tw13463106324228987060 : True := trivial
theorem hd.tw13466754112058979494 : True := trivial
theorem hd.tw13468300074154594103 : True := trivial
theorem hd.tw13475242022060392486 : True := trivial
theorem hd.tw13478424178397462001 : True := trivial
theorem hd.tw13483081372092288885 : True := trivial
theorem hd.tw13525572499271601672 : True := trivial
theorem hd.tw13528004709286950976 : True := trivial
theorem hd.tw13531707123254989501 : True := trivial
theorem hd.tw13532847315355080253 : True := trivial
theorem hd.tw13534587687697041467 : True := trivial
theorem hd.tw13546186122285214359 : True := trivial
theorem hd.tw13558685579468526035 : True := trivial
theorem hd.tw13562760996464443880 : True := trivial
theorem hd.tw13565428754273945854 : True := trivial
theorem hd.tw13566260322249332789 : True := trivial
theorem hd.tw13574768056931433239 : True := trivial
theorem hd.tw13585648185636399713 : True := trivial
theorem hd.tw1359830224848277088 : True := trivial
theorem hd.tw13606922415975196911 : True := trivial
theorem hd.tw13609717118414637909 : True := trivial
theorem hd.tw13616292390063288746 : True := trivial
theorem hd.tw13624431586668435662 : True := trivial
theorem hd.tw13628142620392400109 : True := trivial
theorem hd.tw13637357509712632970 : True := trivial
theorem hd.tw13638418597567726942 : True := trivial
theorem hd.tw13642289790063256904 : True := trivial
theorem hd.tw13652787457892639677 : True := trivial
theorem hd.tw13671756088133313087 : True := trivial
theorem hd.tw13742430269866819546 : True := trivial
theorem hd.tw13759995583405993703 : True := trivial
theorem hd.tw1376885841516646791 : True := trivial
theorem hd.tw13769030334917282753 : True := trivial
theorem hd.tw13770079208771991547 : True := trivial
theorem hd.tw13772917008257674244 : True := trivial
theorem hd.tw137786328141462057 : True := trivial
theorem hd.tw13780077144873983122 : True := trivial
theorem hd.tw13783031573616600631 : True := trivial
theorem hd.tw13790719812936386609 : True := trivial
theorem hd.tw1379335367625716243 : True := trivial
theorem hd.tw13825103770533428167 : True := trivial
theorem hd.tw13828106393651249627 : True := trivial
theorem hd.tw1382963296337349011 : True := trivial
theorem hd.tw13838828179394815155 : True := trivial
theorem hd.tw13839716868823110103 : True := trivial
theorem hd.tw13840357560478945406 : True := trivial
theorem hd.tw13855881374063213867 : True := trivial
theorem hd.tw13855946660403688772 : True := trivial
theorem hd.tw1386097877827089520 : True := trivial
theorem hd.tw13866372431405929976 : True := trivial
theorem hd.tw13893168526513508166 : True := trivial
theorem hd.tw13903934854276604550 : True := trivial
theorem hd.tw13905917727745459311 : True := trivial
theorem hd.tw13919464512627920130 : True := trivial
theorem hd.tw13929354066492186541 : True := trivial
theorem hd.tw13931416462566266981 : True := trivial
theorem hd.tw13952799448644948874 : True := trivial
theorem hd.tw13994979335412520660 : True := trivial
theorem hd.tw14006173549557618073 : True := trivial
theorem hd.tw14010317779014311669 : True := trivial
theorem hd.tw14029002429550259789 : True := trivial
theorem hd.tw14029546391885035639 : True := trivial
theorem hd.tw14040608126747316905 : True := trivial
theorem hd.tw14052435209286694886 : True := trivial
theorem hd.tw14060154772996877548 : True := trivial
theorem hd.tw14060237666301923597 : True := trivial
theorem hd.tw1409312971732116557 : True := trivial
theorem hd.tw14103535550066685397 : True := trivial
theorem hd.tw14106227501169856981 : True := trivial
theorem hd.tw14128114899117899248 : True := trivial
theorem hd.tw14135609715661531928 : True := trivial
theorem hd.tw14137390275340422267 : True := trivial
theorem hd.tw14142122312502312650 : True := trivial
theorem hd.tw14143348200573808938 : True := trivial
theorem hd.tw14145013630567910063 : True := trivial
theorem hd.tw14146260344126963888 : True := trivial
theorem hd.tw14151535006965253332 : True := trivial
theorem hd.tw1415938297934388368 : True := trivial
theorem hd.tw14168552714766633299 : True := trivial
theorem hd.tw14176120131621321398 : True := trivial
theorem hd.tw14176624398918483544 : True := trivial
theorem hd.tw14189342980343032745 : True := trivial
theorem hd.tw14243392841119246311 : True := trivial
theorem hd.tw14246236162039180721 : True := trivial
theorem hd.tw14252463235570117731 : True := trivial
theorem hd.tw1425423193147277237 : True := trivial
theorem hd.tw14281838336851388604 : True := trivial
theorem hd.tw14294001040229213422 : True := trivial
theorem hd.tw14295452944397215089 : True := trivial
theorem hd.tw1429657304218527142 : True := trivial
theorem hd.tw14305287427422076809 : True := trivial
theorem hd.tw14319134166841299984 : True := trivial
theorem hd.tw14328484209623677503 : True := trivial
theorem hd.tw14333710738500927179 : True := trivial
theorem hd.tw14343879438007530058 : True := trivial
theorem hd.tw14347465287955102013 : True := trivial
theorem hd.tw14353793391729792155 : True := trivial
theorem hd.tw14362844786864941046 : True := trivial
theorem hd.tw14367265361528875125 : True := trivial
theorem hd.tw1439246655266547700 : True := trivial
theorem hd.tw14400467628812073631 : True := trivial
theorem hd.tw14411484064949423815 : True := trivial
theorem hd.tw14418099613770140681 : True := trivial
theorem hd.tw14438451200097066615 : True := trivial
theorem hd.tw14439243815434019604 : True := trivial
theorem hd.tw14440960662653809013 : True := trivial
theorem hd.tw14444963742821833902 : True := trivial
theorem hd.tw14446474709323646786 : True := trivial
theorem hd.tw1445366717492459972 : True := trivial
theorem hd.tw14454528878903484812 : True := trivial
theorem hd.tw14457593812595234344 : True := trivial
theorem hd.tw1447634865105156646 : True := trivial
theorem hd.tw14478148883734587675 : True := trivial
theorem hd.tw1448358952932078338 : True := trivial
theorem hd.tw14492701947808656938 : True := trivial
theorem hd.tw14525409914595967980 : True := trivial
theorem hd.tw14531886901276417091 : True := trivial
theorem hd.tw1454209132759308965 : True := trivial
theorem hd.tw14553816603554493358 : True := trivial
theorem hd.tw14560493823538711346 : True := trivial
theorem hd.tw14566180632465282722 : True := trivial
theorem hd.tw14567429538950270057 : True := trivial
theorem hd.tw14577976968632240088 : True := trivial
theorem hd.tw14579804019780415049 : True := trivial
theorem hd.tw14586822029978311858 : True := trivial
theorem hd.tw14598272352848978880 : True := trivial
theorem hd.tw14612060388864693735 : True := trivial
theorem hd.tw14667805832236412624 : True := trivial
theorem hd.tw14673209030070457562 : True := trivial
theorem hd.tw14683707025165767436 : True := trivial
theorem hd.tw14685462170515437407 : True := trivial
theorem hd.tw14696571898784087329 : True := trivial
theorem hd.tw14698123526113890222 : True := trivial
theorem hd.tw14703948372520098865 : True := trivial
theorem hd.tw14711139521213225765 : True := trivial
theorem hd.tw14721871892148092309 : True := trivial
theorem hd.tw14722156660950604509 : True := trivial
theorem hd.tw14725821394091407714 : True := trivial
theorem hd.tw14727110085682223627 : True := trivial
theorem hd.tw14743440263598761229 : True := trivial
theorem hd.tw14743616836047326455 : True := trivial
theorem hd.tw14745743045033390146 : True := trivial
theorem hd.tw14754838220586716941 : True := trivial
theorem hd.tw14771890821122382768 : True := trivial
theorem hd.tw14776966858535155947 : True := trivial
theorem hd.tw14787975780715023857 : True := trivial
theorem hd.tw1480589947315480514 : True := trivial
theorem hd.tw14810379563594542694 : True := trivial
theorem hd.tw14814147842004797252 : True := trivial
theorem hd.tw14827611097921045225 : True := trivial
theorem hd.tw14852329139284432860 : True := trivial
theorem hd.tw14859038896228082724 : True := trivial
theorem hd.tw14872262051900590134 : True := trivial
theorem hd.tw14889214211474231398 : True := trivial
theorem hd.tw14889519887058333776 : True := trivial
theorem hd.tw14892549342360969540 : True := trivial
theorem hd.tw14896477498954680388 : True := trivial
theorem hd.tw14898422612600400839 : True := trivial
theorem hd.tw14906377314874228009 : True := trivial
theorem hd.tw14907374327692814675 : True := trivial
theorem hd.tw14914937398881237230 : True := trivial
theorem hd.tw1494587877672395719 : True := trivial
theorem hd.tw1494888446917110186 : True := trivial
theorem hd.tw14954956809187926962 : True := trivial
theorem hd.tw14955159897011116063 : True := trivial
theorem hd.tw1496134948099420060 : True := trivial
theorem hd.tw14969688514271112891 : True := trivial
theorem hd.tw14980023328507725902 : True := trivial
theorem hd.tw14984183105004643987 : True := trivial
theorem hd.tw14995873357514608503 : True := trivial
theorem hd.tw15000289129923809989 : True := trivial
theorem hd.tw15001097145646765096 : True := trivial
theorem hd.tw15008138337711789923 : True := trivial
theorem hd.tw15043168886218598503 : True := trivial
theorem hd.tw15048261121198461528 : True := trivial
theorem hd.tw15054049728407801353 : True := trivial
theorem hd.tw15064902949301533346 : True := trivial
theorem hd.tw15074197538484233485 : True := trivial
theorem hd.tw15077353982613877241 : True := trivial
theorem hd.tw15083628210047938546 : True := trivial
theorem hd.tw15089522573102190283 : True := trivial
theorem hd.tw15099555939682021766 : True := trivial
theorem hd.tw15103106377680225435 : True := trivial
theorem hd.tw1511243299971373483 : True := trivial
theorem hd.tw15114093972543112059 : True := trivial
theorem hd.tw15147253581781367208 : True := trivial
theorem hd.tw15152743547302097792 : True := trivial
theorem hd.tw15166520500009309586 : True := trivial
theorem hd.tw15179676742415161110 : True := trivial
theorem hd.tw15183729690316765607 : True := trivial
theorem hd.tw15199589371867527261 : True := trivial
theorem hd.tw15207398651663016943 : True := trivial
theorem hd.tw15220180469806662145 : True := trivial
theorem hd.tw152250937536480880 : True := trivial
theorem hd.tw15228807520496212463 : True := trivial
theorem hd.tw1526193096084325861 : True := trivial
theorem hd.tw15276789195049169552 : True := trivial
theorem hd.tw15277330632498426303 : True := trivial
theorem hd.tw15278966056882409248 : True := trivial
theorem hd.tw15279998641719260112 : True := trivial
theorem hd.tw15299264231572859625 : True := trivial
theorem hd.tw15328646652691378412 : True := trivial
theorem hd.tw15337868472472888810 : True := trivial
theorem hd.tw15343115888198259038 : True := trivial
theorem hd.tw15344866539931968096 : True := trivial
theorem hd.tw1535757262459896012 : True := trivial
theorem hd.tw15361844209890540735 : True := trivial
theorem hd.tw15368132723985388332 : True := trivial
theorem hd.tw15381450162410889989 : True := trivial
theorem hd.tw15384028259256376558 : True := trivial
theorem hd.tw15411387601460861337 : True := trivial
theorem hd.tw15416985209724490359 : True := trivial
theorem hd.tw15422856539912107476 : True := trivial
theorem hd.tw15424705756172794927 : True := trivial
theorem hd.tw15427206886491885616 : True := trivial
theorem hd.tw15466643970493115577 : True := trivial
theorem hd.tw15471305204761348970 : True := trivial
theorem hd.tw15508949281206285077 : True := trivial
theorem hd.tw155142512498542641 : True := trivial
theorem hd.tw15527848837575444561 : True := trivial
theorem hd.tw15529170255622000948 : True := trivial
theorem hd.tw15553352443920728112 : True := trivial
theorem hd.tw15563969235001155646 : True := trivial
theorem hd.tw1557243174674812401 : True := trivial
theorem hd.tw15574570664128056851 : True := trivial
theorem hd.tw15591429051563716170 : True := trivial
theorem hd.tw15610959940260225430 : True := trivial
theorem hd.tw15615420239508185596 : True := trivial
theorem hd.tw15615537253650120727 : True := trivial
theorem hd.tw15616948245753086127 : True := trivial
theorem hd.tw15618049606547972131 : True := trivial
theorem hd.tw15625209780758371316 : True := trivial
theorem hd.tw15630680890609703042 : True := trivial
theorem hd.tw15634565183472343292 : True := trivial
theorem hd.tw1563692795949630186 : True := trivial
theorem hd.tw15637036462263953987 : True := trivial
theorem hd.tw15637593595834871717 : True := trivial
theorem hd.tw15642763164714097627 : True := trivial
theorem hd.tw15643275761693703936 : True := trivial
theorem hd.tw15673258824015622330 : True := trivial
theorem hd.tw1567487855172610963 : True := trivial
theorem hd.tw15675198926951892251 : True := trivial
theorem hd.tw15677529637332707448 : True := trivial
theorem hd.tw15683763237869141255 : True := trivial
theorem hd.tw15687388767607454252 : True := trivial
theorem hd.tw15689870831250920624 : True := trivial
theorem hd.tw15697423400787487869 : True := trivial
theorem hd.tw15741340511576674975 : True := trivial
theorem hd.tw15745558068251858392 : True := trivial
theorem hd.tw15759970867653108152 : True := trivial
theorem hd.tw15766875824913328220 : True := trivial
theorem hd.tw15790720579355451973 : True := trivial
theorem hd.tw15791538069687756695 : True := trivial
theorem hd.tw1580110805410547442 : True := trivial
theorem hd.tw15806459161928345932 : True := trivial
theorem hd.tw15810094178526557938 : True := trivial
theorem hd.tw15813434630575017362 : True := trivial
theorem hd.tw15824602056050497491 : True := trivial
theorem hd.tw1582976572388173787 : True := trivial
theorem hd.tw15837987909243819085 : True := trivial
theorem hd.tw1584506945513601688 : True := trivial
theorem hd.tw15852365999677673905 : True := trivial
theorem hd.tw15856727013471470956 : True := trivial
theorem hd.tw15879461069666533410 : True := trivial
theorem hd.tw1588505670450824345 : True := trivial
theorem hd.tw15889433306838628275 : True := trivial
theorem hd.tw1589133516308662214 : True := trivial
theorem hd.tw15923250282426842828 : True := trivial
theorem hd.tw15924899543223041283 : True := trivial
theorem hd.tw15928882269868119103 : True := trivial
theorem hd.tw15931116738044738221 : True := trivial
theorem hd.tw15946356160694317329 : True := trivial
theorem hd.tw15946388913382835224 : True := trivial
theorem hd.tw15950654928457598393 : True := trivial
theorem hd.tw15963624873386084050 : True := trivial
theorem hd.tw15967140613478806237 : True := trivial
theorem hd.tw15987713032478767096 : True := trivial
theorem hd.tw15992342658441690333 : True := trivial
theorem hd.tw1600037746751723098 : True := trivial
theorem hd.tw16006246977917349235 : True := trivial
theorem hd.tw16007149819294483003 : True := trivial
theorem hd.tw16009884308244765898 : True := trivial
theorem hd.tw16011055738799735888 : True := trivial
theorem hd.tw16037735763661986305 : True := trivial
theorem hd.tw16040482454140234299 : True := trivial
theorem hd.tw16049441803539651342 : True := trivial
theorem hd.tw16051907110233888648 : True := trivial
theorem hd.tw16052320808349706082 : True := trivial
theorem hd.tw16056359734778111409 : True := trivial
theorem hd.tw16064382804478563927 : True := trivial
theorem hd.tw16091413853298234908 : True := trivial
theorem hd.tw1610171440888473627 : True := trivial
theorem hd.tw16119070083730353790 : True := trivial
theorem hd.tw16127448326832712202 : True := trivial
theorem hd.tw16128656763067611577 : True := trivial
theorem hd.tw16133100035791441351 : True := trivial
theorem hd.tw16142791633565724946 : True := trivial
theorem hd.tw16149640692961023503 : True := trivial
theorem hd.tw16150360699803865431 : True := trivial
theorem hd.tw16154546982801380032 : True := trivial
theorem hd.tw16155205043701107222 : True := trivial
theorem hd.tw16157073509204512506 : True := trivial
theorem hd.tw16158619036321959407 : True := trivial
theorem hd.tw16169374299450900766 : True := trivial
theorem hd.tw16171809288044610508 : True := trivial
theorem hd.tw16173144727172801181 : True := trivial
theorem hd.tw16177192221136117376 : True := trivial
theorem hd.tw16178712458983371728 : True := trivial
theorem hd.tw16184944136777594026 : True := trivial
theorem hd.tw16194383521188589630 : True := trivial
theorem hd.tw16200485294714759000 : True := trivial
theorem hd.tw16211521421427940678 : True := trivial
theorem hd.tw16218589078623431722 : True := trivial
theorem hd.tw16227762859984022837 : True := trivial
theorem hd.tw16257038226119295666 : True := trivial
theorem hd.tw162610821266807592 : True := trivial
theorem hd.tw16294121590529324613 : True := trivial
theorem hd.tw16295602077668867092 : True := trivial
theorem hd.tw16301592386811335294 : True := trivial
theorem hd.tw1632911306035174240 : True := trivial
theorem hd.tw16332348944364537037 : True := trivial
theorem hd.tw16345102440705955213 : True := trivial
theorem hd.tw16348219163339758595 : True := trivial
theorem hd.tw16357263729072622229 : True := trivial
theorem hd.tw16360089500885891312 : True := trivial
theorem hd.tw16376525773666504680 : True := trivial
theorem hd.tw16399950876527022149 : True := trivial
theorem hd.tw16409295683739894939 : True := trivial
theorem hd.tw16412773359747925120 : True := trivial
theorem hd.tw16415028865518655546 : True := trivial
theorem hd.tw1643121930917553208 : True := trivial
theorem hd.tw16441392401534740728 : True := trivial
theorem hd.tw16456969618363192440 : True := trivial
theorem hd.tw1645950883855642703 : True := trivial
theorem hd.tw1646295506349750229 : True := trivial
theorem hd.tw16464424236575238572 : True := trivial
theorem hd.tw16473244170626142550 : True := trivial
theorem hd.tw16474053898546501079 : True := trivial
theorem hd.tw16477043939570097188 : True := trivial
theorem hd.tw16487816990975572028 : True := trivial
theorem hd.tw16493555245407184057 : True := trivial
theorem hd.tw1652104869958991592 : True := trivial
theorem hd.tw16536845064214698358 : True := trivial
theorem hd.tw16547865195752855329 : True := trivial
theorem hd.tw16558851475291246605 : True := trivial
theorem hd.tw16560571962218401759 : True := trivial
theorem hd.tw16586210683883694294 : True := trivial
theorem hd.tw16587392273704687506 : True := trivial
theorem hd.tw16590289223226319832 : True := trivial
theorem hd.tw16600187464343208351 : True := trivial
theorem hd.tw16605896050852369192 : True := trivial
theorem hd.tw16615167954963997623 : True := trivial
theorem hd.tw16634568088961857937 : True := trivial
theorem hd.tw16635604280276938560 : True := trivial
theorem hd.tw16639802674150441104 : True := trivial
theorem hd.tw16640546478005224243 : True := trivial
theorem hd.tw16641143254114907239 : True := trivial
theorem hd.tw16649331688326792143 : True := trivial
theorem hd.tw1665215224455544029 : True := trivial
theorem hd.tw16654398473643691400 : True := trivial
theorem hd.tw16659256121636383015 : True := trivial
theorem hd.tw16661405048812198066 : True := trivial
theorem hd.tw1666387254794493845 : True := trivial
theorem hd.tw16677672038835830561 : True := trivial
theorem hd.tw16692772259055178886 : True := trivial
theorem hd.tw16694946328126371552 : True := trivial
theorem hd.tw16711616764599604094 : True := trivial
theorem hd.tw16713699803418581334 : True := trivial
theorem hd.tw16722109127936396110 : True := trivial
theorem hd.tw16742768539259284675 : True := trivial
theorem hd.tw16772102934027710169 : True := trivial
theorem hd.tw16792612803775386211 : True := trivial
theorem hd.tw16795040122137113940 : True := trivial
theorem hd.tw16823583209533085739 : True := trivial
theorem hd.tw16826083622388986153 : True := trivial
theorem hd.tw16828599391488406296 : True := trivial
theorem hd.tw16828841361933241965 : True := trivial
theorem hd.tw16829038064831673031 : True := trivial
theorem hd.tw16853252838358632063 : True := trivial
theorem hd.tw16853341256802265648 : True := trivial
theorem hd.tw16853515981168281661 : True := trivial
theorem hd.tw16858285156579221889 : True := trivial
theorem hd.tw16866669024345736564 : True := trivial
theorem hd.tw16868993833207775613 : True := trivial
theorem hd.tw16904818350239718627 : True := trivial
theorem hd.tw16911905293199829483 : True := trivial
theorem hd.tw16914215919094292968 : True := trivial
theorem hd.tw16917429580358949172 : True := trivial
theorem hd.tw16919406825032445293 : True := trivial
theorem hd.tw16920754564084929960 : True := trivial
theorem hd.tw16929347978932573901 : True := trivial
theorem hd.tw16933521681170243884 : True := trivial
theorem hd.tw16945582573551092051 : True := trivial
theorem hd.tw16987972230436809598 : True := trivial
theorem hd.tw1699103778626983548 : True := trivial
theorem hd.tw16993510635178189574 : True := trivial
theorem hd.tw17001982702790524580 : True := trivial
theorem hd.tw17002781174329755331 : True := trivial
theorem hd.tw17024130522920453812 : True := trivial
theorem hd.tw17034541987677670899 : True := trivial
theorem hd.tw17038178572684014812 : True := trivial
theorem hd.tw17047115858639842297 : True := trivial
theorem hd.tw17054507655720011243 : True := trivial
theorem hd.tw17062030032774818151 : True := trivial
theorem hd.tw17066044127408595049 : True := trivial
theorem hd.tw17070941380808615275 : True := trivial
theorem hd.tw17076082267592564974 : True := trivial
theorem hd.tw17087091549796120035 : True := trivial
theorem hd.tw17088047866570459193 : True := trivial
theorem hd.tw17101829828953933863 : True := trivial
theorem hd.tw17108965994491136216 : True := trivial
theorem hd.tw17128936785370695711 : True := trivial
theorem hd.tw17130151131035750659 : True := trivial
theorem hd.tw17143205804819765802 : True := trivial
theorem hd.tw17143746779515762356 : True := trivial
theorem hd.tw17148569114310749875 : True := trivial
theorem hd.tw17172931820748874959 : True := trivial
theorem hd.tw17177331786930743035 : True := trivial
theorem hd.tw17183224562656869120 : True := trivial
theorem hd.tw17183333060744410938 : True := trivial
theorem hd.tw1719678379583228742 : True := trivial
theorem hd.tw17206938428037122136 : True := trivial
theorem hd.tw17207926602167837096 : True := trivial
theorem hd.tw17213308964433280716 : True := trivial
theorem hd.tw17213754286329925777 : True := trivial
theorem hd.tw17217394356764393341 : True := trivial
theorem hd.tw17229404411196825601 : True := trivial
theorem hd.tw17232729238497989147 : True := trivial
theorem hd.tw17234923516513369237 : True := trivial
theorem hd.tw17258206423299326598 : True := trivial
theorem hd.tw17273587926920868623 : True := trivial
theorem hd.tw17278324374586462682 : True := trivial
theorem hd.tw17280916231814732835 : True := trivial
theorem hd.tw1728934660973012959 : True := trivial
theorem hd.tw17312975722139092705 : True := trivial
theorem hd.tw17312999752573914782 : True := trivial
theorem hd.tw17317347222371691485 : True := trivial
theorem hd.tw17318795884933167856 : True := trivial
theorem hd.tw17325209927041812611 : True := trivial
theorem hd.tw17330132731328240911 : True := trivial
theorem hd.tw17330945745186091897 : True := trivial
theorem hd.tw17334619380489033704 : True := trivial
theorem hd.tw17335414052712997756 : True := trivial
theorem hd.tw17336936450418997793 : True := trivial
theorem hd.tw17347436560843906493 : True := trivial
theorem hd.tw1736311965527578767 : True := trivial
theorem hd.tw17374299458141838533 : True := trivial
theorem hd.tw17377529257436501650 : True := trivial
theorem hd.tw17386561741084979693 : True := trivial
theorem hd.tw17387473266821786944 : True := trivial
theorem hd.tw17429513623812275283 : True := trivial
theorem hd.tw1744074299117110578 : True := trivial
theorem hd.tw17447410573909459338 : True := trivial
theorem hd.tw17470177872615007328 : True := trivial
theorem hd.tw17471934795394947791 : True := trivial
theorem hd.tw17488329532819025909 : True := trivial
theorem hd.tw17491280204586788870 : True := trivial
theorem hd.tw17495340751864218003 : True := trivial
theorem hd.tw175040590405108599 : True := trivial
theorem hd.tw17505117620022480717 : True := trivial
theorem hd.tw17542962492245011380 : True := trivial
theorem hd.tw17557687384818942715 : True := trivial
theorem hd.tw17562767543260142214 : True := trivial
theorem hd.tw17570734847185409352 : True := trivial
theorem hd.tw17577478241444706838 : True := trivial
theorem hd.tw17588044629489971554 : True := trivial
theorem hd.tw17599816209265215132 : True := trivial
theorem hd.tw1760603350576429475 : True := trivial
theorem hd.tw17606422857730326317 : True := trivial
theorem hd.tw1762386318068787946 : True := trivial
theorem hd.tw17630766324226089508 : True := trivial
theorem hd.tw17640862679970642326 : True := trivial
theorem hd.tw17642925155131852096 : True := trivial
theorem hd.tw17648373464671902132 : True := trivial
theorem hd.tw17649441919526076750 : True := trivial
theorem hd.tw17650839729002327288 : True := trivial
theorem hd.tw17651194758401332908 : True := trivial
theorem hd.tw17655025648336401564 : True := trivial
theorem hd.tw17659097604950016698 : True := trivial
theorem hd.tw17668637344460488510 : True := trivial
theorem hd.tw17671606695714314883 : True := trivial
theorem hd.tw17681399029576232318 : True := trivial
theorem hd.tw17682645833115681230 : True := trivial
theorem hd.tw17696971302532935780 : True := trivial
theorem hd.tw1771013558043686919 : True := trivial
theorem hd.tw1771076004075163074 : True := trivial
theorem hd.tw17711083657039698284 : True := trivial
theorem hd.tw17714235663813219645 : True := trivial
theorem hd.tw17721108341852848303 : True := trivial
theorem hd.tw17732877472588451059 : True := trivial
theorem hd.tw17737187407176874954 : True := trivial
theorem hd.tw17739348878880393726 : True := trivial
theorem hd.tw17741527673115495833 : True := trivial
theorem hd.tw17753136161530015303 : True := trivial
theorem hd.tw17755079628717120034 : True := trivial
theorem hd.tw17771051374583081296 : True := trivial
theorem hd.tw17772917993097084435 : True := trivial
theorem hd.tw17780371330241143884 : True := trivial
theorem hd.tw17784710179527947834 : True := trivial
theorem hd.tw17795420018806894357 : True := trivial
theorem hd.tw17797121698600529546 : True := trivial
theorem hd.tw17810305690818884312 : True := trivial
theorem hd.tw1781861727890032366 : True := trivial
theorem hd.tw17821456102733380446 : True := trivial
theorem hd.tw17843490464661113860 : True := trivial
theorem hd.tw17849003137439291346 : True := trivial
theorem hd.tw17856900804709593783 : True := trivial
theorem hd.tw17876089906941426215 : True := trivial
theorem hd.tw17893044597097874663 : True := trivial
theorem hd.tw17895171251205151618 : True := trivial
theorem hd.tw17901334829092211166 : True := trivial
theorem hd.tw17902569758825723728 : True := trivial
theorem hd.tw17903497710992402801 : True := trivial
theorem hd.tw17919194246423945575 : True := trivial
theorem hd.tw17925215291927510665 : True := trivial
theorem hd.tw17928657079672773036 : True := trivial
theorem hd.tw17930870258028551510 : True := trivial
theorem hd.tw17948085552500728524 : True := trivial
theorem hd.tw17956543221229664512 : True := trivial
theorem hd.tw17969167859971792583 : True := trivial
theorem hd.tw17986969038992634876 : True := trivial
theorem hd.tw17989097746536338734 : True := trivial
theorem hd.tw17989955420495830678 : True := trivial
theorem hd.tw17992175057805443440 : True := trivial
theorem hd.tw17992873397187703194 : True := trivial
theorem hd.tw18015809273756184261 : True := trivial
theorem hd.tw18017436600226737313 : True := trivial
theorem hd.tw18075895496298948660 : True := trivial
theorem hd.tw18087722134493236510 : True := trivial
theorem hd.tw18093812233618175256 : True := trivial
theorem hd.tw18095200977026478895 : True := trivial
theorem hd.tw1810128313956251070 : True := trivial
theorem hd.tw18103420901670897651 : True := trivial
theorem hd.tw18108411231057375868 : True := trivial
theorem hd.tw1812120903090829371 : True := trivial
theorem hd.tw18131696352309475102 : True := trivial
theorem hd.tw1815845133858513315 : True := trivial
theorem hd.tw18160293313031310949 : True := trivial
theorem hd.tw18163647496604598072 : True := trivial
theorem hd.tw18166333605607142505 : True := trivial
theorem hd.tw18173119368652372162 : True := trivial
theorem hd.tw18176940659606848779 : True := trivial
theorem hd.tw18181459534305436522 : True := trivial
theorem hd.tw18185175575083235020 : True := trivial
theorem hd.tw18185714744248944022 : True := trivial
theorem hd.tw18194447625416937593 : True := trivial
theorem hd.tw1820180628909398317 : True := trivial
theorem hd.tw18203504233945503714 : True := trivial
theorem hd.tw18235699687725533636 : True := trivial
theorem hd.tw18241275227582772068 : True := trivial
theorem hd.tw18245042118932799458 : True := trivial
theorem hd.tw18252017834820373320 : True := trivial
theorem hd.tw18264374347568628810 : True := trivial
theorem hd.tw18268791191939849864 : True := trivial
theorem hd.tw18291330726469416073 : True := trivial
theorem hd.tw18291419657060728153 : True := trivial
theorem hd.tw18293732401869909652 : True := trivial
theorem hd.tw18293851220164018083 : True := trivial
theorem hd.tw18300207936620678264 : True := trivial
theorem hd.tw18305813759426858718 : True := trivial
theorem hd.tw18321552122766947510 : True := trivial
theorem hd.tw18322514126500204803 : True := trivial
theorem hd.tw18322840637313133639 : True := trivial
theorem hd.tw18330183385023645277 : True := trivial
theorem hd.tw18338084644071967246 : True := trivial
theorem hd.tw18358800413957953924 : True := trivial
theorem hd.tw1836080755315867724 : True := trivial
theorem hd.tw18368451091360184599 : True := trivial
theorem hd.tw18370931923303237609 : True := trivial
theorem hd.tw18374934718600546173 : True := trivial
theorem hd.tw18421049791903953903 : True := trivial
theorem hd.tw18426591805776360890 : True := trivial
theorem hd.tw18439511094173506614 : True := trivial
theorem hd.tw18440339763339231785 : True := trivial
theorem hd.tw18444506963663838378 : True := trivial
theorem hd.tw1847840615245081061 : True := trivial
theorem hd.tw1848646778235469078 : True := trivial
theorem hd.tw1848775335000833691 : True := trivial
theorem hd.tw185848376630758926 : True := trivial
theorem hd.tw1865391376527767206 : True := trivial
theorem hd.tw1870067075039425230 : True := trivial
theorem hd.tw1882180444382439491 : True := trivial
theorem hd.tw1893376896538304767 : True := trivial
theorem hd.tw190519026028168232 : True := trivial
theorem hd.tw19140548474820995 : True := trivial
theorem hd.tw1914776575575915894 : True := trivial
theorem hd.tw191490408472666496 : True := trivial
theorem hd.tw1936894748134917147 : True := trivial
theorem hd.tw1939978651307754801 : True := trivial
theorem hd.tw1953177486944487603 : True := trivial
theorem hd.tw1968897829998239906 : True := trivial
theorem hd.tw1976262728313527643 : True := trivial
theorem hd.tw1985365823914174026 : True := trivial
theorem hd.tw1997569388931296116 : True := trivial
theorem hd.tw2000490053193787569 : True := trivial
theorem hd.tw2001351230973187099 : True := trivial
theorem hd.tw2004659784336800654 : True := trivial
theorem hd.tw2011083257458950123 : True := trivial
theorem hd.tw201726718363867817 : True := trivial
theorem hd.tw2019206820559194160 : True := trivial
theorem hd.tw2026387176384410671 : True := trivial
theorem hd.tw2028850030027838194 : True := trivial
theorem hd.tw2040359456562527452 : True := trivial
theorem hd.tw2040990291671593033 : True := trivial
theorem hd.tw2042874687063273074 : True := trivial
theorem hd.tw2051048951616859547 : True := trivial
theorem hd.tw2063697594609225973 : True := trivial
theorem hd.tw2068664650715991707 : True := trivial
theorem hd.tw2076164508250332129 : True := trivial
theorem hd.tw2085858751390962043 : True := trivial
theorem hd.tw2101469004524951375 : True := trivial
theorem hd.tw2102685217520069614 : True := trivial
theorem hd.tw2112090036796806992 : True := trivial
theorem hd.tw2132729158989466136 : True := trivial
theorem hd.tw2134215046882385847 : True := trivial
theorem hd.tw2195365466389143174 : True := trivial
theorem hd.tw2205529546903335774 : True := trivial
theorem hd.tw2216850387143573719 : True := trivial
theorem hd.tw2236161584593135513 : True := trivial
theorem hd.tw224026152562611165 : True := trivial
theorem hd.tw2252305205657439004 : True := trivial
theorem hd.tw22551697357593593 : True := trivial
theorem hd.tw2263123870574935043 : True := trivial
theorem hd.tw226724450230711188 : True := trivial
theorem hd.tw2268408915362283348 : True := trivial
theorem hd.tw2284436838669742495 : True := trivial
theorem hd.tw22944897461248836 : True := trivial
theorem hd.tw2295870552580634182 : True := trivial
theorem hd.tw2304311442786299043 : True := trivial
theorem hd.tw2315301623876862497 : True := trivial
theorem hd.tw2323474266016966308 : True := trivial
theorem hd.tw2327210489368252092 : True := trivial
theorem hd.tw2329189449893159454 : True := trivial
theorem hd.tw2332134359513624250 : True := trivial
theorem hd.tw2386827423013361158 : True := trivial
theorem hd.tw2391449824757734642 : True := trivial
theorem hd.tw2394040479862359591 : True := trivial
theorem hd.tw2401099858790916885 : True := trivial
theorem hd.tw2417239796147247631 : True := trivial
theorem hd.tw2422473601153944625 : True := trivial
theorem hd.tw242841246431481386 : True := trivial
theorem hd.tw2429661945018540088 : True := trivial
theorem hd.tw243823211424636713 : True := trivial
theorem hd.tw2442259710966052079 : True := trivial
theorem hd.tw2448417245163862455 : True := trivial
theorem hd.tw2448992281723591503 : True := trivial
theorem hd.tw2457190517430149469 : True := trivial
theorem hd.tw2461467855728635159 : True := trivial
theorem hd.tw2461925918761807854 : True := trivial
theorem hd.tw2468469042602058204 : True := trivial
theorem hd.tw2480057099694739299 : True := trivial
theorem hd.tw2489000522355961661 : True := trivial
theorem hd.tw2502866573005156581 : True := trivial
theorem hd.tw2505046432360240130 : True := trivial
theorem hd.tw250903467453971090 : True := trivial
theorem hd.tw2509285483865878365 : True := trivial
theorem hd.tw2509370429141812190 : True := trivial
theorem hd.tw2525132952625102283 : True := trivial
theorem hd.tw2539609716071690500 : True := trivial
theorem hd.tw2543708448884566285 : True := trivial
theorem hd.tw2562236817408797766 : True := trivial
theorem hd.tw257007361410690125 : True := trivial
theorem hd.tw2578790182627478330 : True := trivial
theorem hd.tw2587481505490421466 : True := trivial
theorem hd.tw2595994805191909183 : True := trivial
theorem hd.tw2597999206746104090 : True := trivial
theorem hd.tw2598446214317162929 : True := trivial
theorem hd.tw2603259988358896889 : True := trivial
theorem hd.tw2608437505485318709 : True := trivial
theorem hd.tw2616952524820836436 : True := trivial
theorem hd.tw2643471048360083456 : True := trivial
theorem hd.tw26575860018800758 : True := trivial
theorem hd.tw2658526732547218105 : True := trivial
theorem hd.tw2706062565713844863 : True := trivial
theorem hd.tw2708660106122629385 : True := trivial
theorem hd.tw2708950531961675432 : True := trivial
theorem hd.tw2714518888730594162 : True := trivial
theorem hd.tw2737948378440521823 : True := trivial
theorem hd.tw2739504486584576224 : True := trivial
theorem hd.tw2764659342322485610 : True := trivial
theorem hd.tw2770886237722202814 : True := trivial
theorem hd.tw2772111626952699280 : True := trivial
theorem hd.tw2788664435532181463 : True := trivial
theorem hd.tw2799067240506288376 : True := trivial
theorem hd.tw2799716289819351777 : True := trivial
theorem hd.tw280609765759037681 : True := trivial
theorem hd.tw2808349399557158395 : True := trivial
theorem hd.tw2811109472151209932 : True := trivial
theorem hd.tw2814047482283692521 : True := trivial
theorem hd.tw2839761810297210574 : True := trivial
theorem hd.tw2845207389951388047 : True := trivial
theorem hd.tw2845679848157327705 : True := trivial
theorem hd.tw2855845756224970109 : True := trivial
theorem hd.tw2860509138950691704 : True := trivial
theorem hd.tw2863928172549722007 : True := trivial
theorem hd.tw2867327485932766208 : True := trivial
theorem hd.tw2871226400543044806 : True := trivial
theorem hd.tw2887051446865420828 : True := trivial
theorem hd.tw2887322148925823866 : True := trivial
theorem hd.tw2887958866903325399 : True := trivial
theorem hd.tw2888086868925295265 : True := trivial
theorem hd.tw2900905267640511130 : True := trivial
theorem hd.tw2922222751358710265 : True := trivial
theorem hd.tw2930668341846507884 : True := trivial
theorem hd.tw2950624580103176795 : True := trivial
theorem hd.tw2960447077969926378 : True := trivial
theorem hd.tw2992796643361555308 : True := trivial
theorem hd.tw2997881692418614276 : True := trivial
theorem hd.tw2999033326186475339 : True := trivial
theorem hd.tw3008623586974134963 : True := trivial
theorem hd.tw3018248764650194253 : True := trivial
theorem hd.tw3027216511499375627 : True := trivial
theorem hd.tw3029179668187146391 : True := trivial
theorem hd.tw3039998526598829958 : True := trivial
theorem hd.tw3044193314922437478 : True := trivial
theorem hd.tw3054597378306480467 : True := trivial
theorem hd.tw3069179008743571320 : True := trivial
theorem hd.tw307737655149646647 : True := trivial
theorem hd.tw3085322323922540518 : True := trivial
theorem hd.tw3086703801195530449 : True := trivial
theorem hd.tw3088336149111003398 : True := trivial
theorem hd.tw3109861748172591687 : True := trivial
theorem hd.tw3119793365772874621 : True := trivial
theorem hd.tw3132252637357597028 : True := trivial
theorem hd.tw3139293537291964434 : True := trivial
theorem hd.tw3139860346522395057 : True := trivial
theorem hd.tw3173010612589774626 : True := trivial
theorem hd.tw3182187488490625086 : True := trivial
theorem hd.tw3196399650302076718 : True := trivial
theorem hd.tw3218096787892578837 : True := trivial
theorem hd.tw3219085151875037572 : True := trivial
theorem hd.tw3221749490494068246 : True := trivial
theorem hd.tw3241458686731973266 : True := trivial
theorem hd.tw3270112913716496757 : True := trivial
theorem hd.tw3309697970292668127 : True := trivial
theorem hd.tw3312855554403267510 : True := trivial
theorem hd.tw3312950486662269643 : True := trivial
theorem hd.tw3320107659411928889 : True := trivial
theorem hd.tw3350870243654781939 : True := trivial
theorem hd.tw3350930974749635488 : True := trivial
theorem hd.tw3364418463632694928 : True := trivial
theorem hd.tw3381375190539634487 : True := trivial
theorem hd.tw3386092968808520798 : True := trivial
theorem hd.tw3404104791013757517 : True := trivial
theorem hd.tw3405361230339686725 : True := trivial
theorem hd.tw3418235910006150233 : True := trivial
theorem hd.tw3419581819265744254 : True := trivial
theorem hd.tw3421305572931772608 : True := trivial
theorem hd.tw3429492842335990350 : True := trivial
theorem hd.tw3434918251397683217 : True := trivial
theorem hd.tw3442329435671937591 : True := trivial
theorem hd.tw3443669649825651883 : True := trivial
theorem hd.tw3451239065008710300 : True := trivial
theorem hd.tw3452082135128663414 : True := trivial
theorem hd.tw3452591251010201329 : True := trivial
theorem hd.tw3458096930066291972 : True := trivial
theorem hd.tw3478764184967624034 : True := trivial
theorem hd.tw347974374584699710 : True := trivial
theorem hd.tw3480344400806313460 : True := trivial
theorem hd.tw3480954088277226078 : True := trivial
theorem hd.tw3484992998616243462 : True := trivial
theorem hd.tw3494175830530594699 : True := trivial
theorem hd.tw3496965988886986938 : True := trivial
theorem hd.tw3530251461782974795 : True := trivial
theorem hd.tw3530705653197291679 : True := trivial
theorem hd.tw3533295568840377906 : True := trivial
theorem hd.tw3536873572635521401 : True := trivial
theorem hd.tw3571134770919094901 : True := trivial
theorem hd.tw3624270870131838309 : True := trivial
theorem hd.tw3646829019195819677 : True := trivial
theorem hd.tw3649758429140192277 : True := trivial
theorem hd.tw3660579746685279459 : True := trivial
theorem hd.tw3673020696563887462 : True := trivial
theorem hd.tw3673089383077640791 : True := trivial
theorem hd.tw3674156319703528775 : True := trivial
theorem hd.tw3683077897369762717 : True := trivial
theorem hd.tw368366308016060594 : True := trivial
theorem hd.tw3685171636038014569 : True := trivial
theorem hd.tw3694398316872202419 : True := trivial
theorem hd.tw3698263348304958635 : True := trivial
theorem hd.tw3704167492566942397 : True := trivial
theorem hd.tw3704258326860781330 : True := trivial
theorem hd.tw37099724090138251 : True := trivial
theorem hd.tw3722166409189360004 : True := trivial
theorem hd.tw3728763270543036367 : True := trivial
theorem hd.tw374837277340052756 : True := trivial
theorem hd.tw3759623122121258479 : True := trivial
theorem hd.tw3763122126050802206 : True := trivial
theorem hd.tw3787991596828424046 : True := trivial
theorem hd.tw3795277891434052102 : True := trivial
theorem hd.tw3816877163431070358 : True := trivial
theorem hd.tw3828038474966422129 : True := trivial
theorem hd.tw3876449026389394717 : True := trivial
theorem hd.tw3878383114103592795 : True := trivial
theorem hd.tw3887682987991473952 : True := trivial
theorem hd.tw3890083515106143593 : True := trivial
theorem hd.tw3891455526006857403 : True := trivial
theorem hd.tw3911173418732280352 : True := trivial
theorem hd.tw3913528116038191188 : True := trivial
theorem hd.tw3919010098100093602 : True := trivial
theorem hd.tw3920623390966001496 : True := trivial
theorem hd.tw3922637787740509324 : True := trivial
theorem hd.tw3940546777539579641 : True := trivial
theorem hd.tw3951213933799974497 : True := trivial
theorem hd.tw395138700845864316 : True := trivial
theorem hd.tw3953601041324332601 : True := trivial
theorem hd.tw3954459231902067891 : True := trivial
theorem hd.tw3971862936084566866 : True := trivial
theorem hd.tw4014540891139286612 : True := trivial
theorem hd.tw4015398097383911347 : True := trivial
theorem hd.tw4019509481689220778 : True := trivial
theorem hd.tw4021928978595405253 : True := trivial
theorem hd.tw402640490398009360 : True := trivial
theorem hd.tw4027997239606545176 : True := trivial
theorem hd.tw4043750813493925671 : True := trivial
theorem hd.tw4065347644161347641 : True := trivial
theorem hd.tw4068527845204499245 : True := trivial
theorem hd.tw407309309204651749 : True := trivial
theorem hd.tw4074112789689628901 : True := trivial
theorem hd.tw4086058157674990017 : True := trivial
theorem hd.tw4091639524402994376 : True := trivial
theorem hd.tw4094978888223276235 : True := trivial
theorem hd.tw4111176288507892862 : True := trivial
theorem hd.tw4111692666942324129 : True := trivial
theorem hd.tw4115565904173853331 : True := trivial
theorem hd.tw4121470736069847931 : True := trivial
theorem hd.tw4125931394999656194 : True := trivial
theorem hd.tw4126306136578151734 : True := trivial
theorem hd.tw4136554803537287180 : True := trivial
theorem hd.tw4138081844389336918 : True := trivial
theorem hd.tw4140856202252521746 : True := trivial
theorem hd.tw4155115565051440932 : True := trivial
theorem hd.tw4159134105002834734 : True := trivial
theorem hd.tw4172343393113369950 : True := trivial
theorem hd.tw4183208252170927286 : True := trivial
theorem hd.tw4186180820073840449 : True := trivial
theorem hd.tw4212396358401106430 : True := trivial
theorem hd.tw4218252797249083135 : True := trivial
theorem hd.tw4225703048834024713 : True := trivial
theorem hd.tw423386807291918032 : True := trivial
theorem hd.tw424627922949020093 : True := trivial
theorem hd.tw4272726840584523970 : True := trivial
theorem hd.tw4280805867843771635 : True := trivial
theorem hd.tw4282304852377368616 : True := trivial
theorem hd.tw4282359134580295075 : True := trivial
theorem hd.tw4292457097857839397 : True := trivial
theorem hd.tw4292733766354092952 : True := trivial
theorem hd.tw4297731678662094536 : True := trivial
theorem hd.tw4299596416071116603 : True := trivial
theorem hd.tw4303197518546878200 : True := trivial
theorem hd.tw4310969922304039945 : True := trivial
theorem hd.tw4315991029959535628 : True := trivial
theorem hd.tw432457690288141553 : True := trivial
theorem hd.tw4331744307947286870 : True := trivial
theorem hd.tw4360684699965382250 : True := trivial
theorem hd.tw4367231431732253908 : True := trivial
theorem hd.tw4367455430839740993 : True := trivial
theorem hd.tw4377701919642642989 : True := trivial
theorem hd.tw4383666589626881386 : True := trivial
theorem hd.tw439464058936774774 : True := trivial
theorem hd.tw4402059832678251257 : True := trivial
theorem hd.tw4402725079659364252 : True := trivial
theorem hd.tw4411345234434739821 : True := trivial
theorem hd.tw4419976741539666266 : True := trivial
theorem hd.tw4424954536736003961 : True := trivial
theorem hd.tw442638132926106271 : True := trivial
theorem hd.tw4449123307109862055 : True := trivial
theorem hd.tw446013954513119604 : True := trivial
theorem hd.tw447301148068827473 : True := trivial
theorem hd.tw4478166936697009375 : True := trivial
theorem hd.tw4478177076189095293 : True := trivial
theorem hd.tw4478964076566166474 : True := trivial
theorem hd.tw4487872483506452665 : True := trivial
theorem hd.tw4493408376985592176 : True := trivial
theorem hd.tw4494801613693538912 : True := trivial
theorem hd.tw4508807971249618078 : True := trivial
theorem hd.tw4522189594802832481 : True := trivial
theorem hd.tw4523669819894539328 : True := trivial
theorem hd.tw4551032450796863993 : True := trivial
theorem hd.tw4555462946037337122 : True := trivial
theorem hd.tw4565847644715334241 : True := trivial
theorem hd.tw457024733287443684 : True := trivial
theorem hd.tw4571360026077952820 : True := trivial
theorem hd.tw4605659447877369497 : True := trivial
theorem hd.tw461538923250603899 : True := trivial
theorem hd.tw4631641923256590570 : True := trivial
theorem hd.tw4642405928176397000 : True := trivial
theorem hd.tw4643362625855044894 : True := trivial
theorem hd.tw4644383109730662189 : True := trivial
theorem hd.tw4649201181071504547 : True := trivial
theorem hd.tw4649224450759281197 : True := trivial
theorem hd.tw4654797750381630734 : True := trivial
theorem hd.tw4671187664572333832 : True := trivial
theorem hd.tw469108185253701220 : True := trivial
theorem hd.tw4702841417184801058 : True := trivial
theorem hd.tw4706079058837389440 : True := trivial
theorem hd.tw4724112764586752083 : True := trivial
theorem hd.tw4725425184044842548 : True := trivial
theorem hd.tw4730091804998409952 : True := trivial
theorem hd.tw4734902545126651661 : True := trivial
theorem hd.tw4735155535324382492 : True := trivial
theorem hd.tw4753502060543050189 : True := trivial
theorem hd.tw4778742480866408670 : True := trivial
theorem hd.tw4780371949962762201 : True := trivial
theorem hd.tw4788038989552484473 : True := trivial
theorem hd.tw4819202231147424091 : True := trivial
theorem hd.tw4833718069199227053 : True := trivial
theorem hd.tw4851647983119433812 : True := trivial
theorem hd.tw4856431653887292112 : True := trivial
theorem hd.tw4856834824998600365 : True := trivial
theorem hd.tw4867443594122359892 : True := trivial
theorem hd.tw4870687313549177768 : True := trivial
theorem hd.tw487103009237353774 : True := trivial
theorem hd.tw4899713377014348845 : True := trivial
theorem hd.tw4943874637667526383 : True := trivial
theorem hd.tw4946210868454251104 : True := trivial
theorem hd.tw494832675551648755 : True := trivial
theorem hd.tw4958948430592982816 : True := trivial
theorem hd.tw4960049605965436102 : True := trivial
theorem hd.tw4961882463931974252 : True := trivial
theorem hd.tw4975429006339234634 : True := trivial
theorem hd.tw4990156530697904881 : True := trivial
theorem hd.tw5010264101278932077 : True := trivial
theorem hd.tw5021546742003373373 : True := trivial
theorem hd.tw5026903996613711414 : True := trivial
theorem hd.tw5036846961687405229 : True := trivial
theorem hd.tw503842035214351869 : True := trivial
theorem hd.tw5050499992271017049 : True := trivial
theorem hd.tw5054737718236178183 : True := trivial
theorem hd.tw5059217334605948826 : True := trivial
theorem hd.tw5059313779892882581 : True := trivial
theorem hd.tw5075868867736424536 : True := trivial
theorem hd.tw5077444888307196765 : True := trivial
theorem hd.tw5115979053548608175 : True := trivial
theorem hd.tw511748877826530558 : True := trivial
theorem hd.tw5118731587858937692 : True := trivial
theorem hd.tw5121412065778414241 : True := trivial
theorem hd.tw5130813555471234732 : True := trivial
theorem hd.tw5135410709514514960 : True := trivial
theorem hd.tw5138769234217329475 : True := trivial
theorem hd.tw5148922909946612681 : True := trivial
theorem hd.tw5149647478752326494 : True := trivial
theorem hd.tw5164336791891477212 : True := trivial
theorem hd.tw5167245352685981253 : True := trivial
theorem hd.tw5174551420813472067 : True := trivial
theorem hd.tw518976864732996251 : True := trivial
theorem hd.tw5189956158058943387 : True := trivial
theorem hd.tw5190246844813560578 : True := trivial
theorem hd.tw519851828213033955 : True := trivial
theorem hd.tw5206456813468324048 : True := trivial
theorem hd.tw5220083430330967483 : True := trivial
theorem hd.tw5229488146508589806 : True := trivial
theorem hd.tw5238241317806426387 : True := trivial
theorem hd.tw5241111265968832821 : True := trivial
theorem hd.tw5241634445527235420 : True := trivial
theorem hd.tw524290184858094138 : True := trivial
theorem hd.tw5245234834050458271 : True := trivial
theorem hd.tw5247051413645994129 : True := trivial
theorem hd.tw525622484199402719 : True := trivial
theorem hd.tw526207354791536317 : True := trivial
theorem hd.tw5278057926702712004 : True := trivial
theorem hd.tw5280665267005167017 : True := trivial
theorem hd.tw5283464899586487735 : True := trivial
theorem hd.tw5289708365253275695 : True := trivial
theorem hd.tw5292301768408028288 : True := trivial
theorem hd.tw5293500477943481205 : True := trivial
theorem hd.tw5299927114449058123 : True := trivial
theorem hd.tw5303882286802505687 : True := trivial
theorem hd.tw5306076463120387019 : True := trivial
theorem hd.tw5318216170032084099 : True := trivial
theorem hd.tw5343241284826551009 : True := trivial
theorem hd.tw5360435025570183010 : True := trivial
theorem hd.tw536147472829637599 : True := trivial
theorem hd.tw5362516397382645915 : True := trivial
theorem hd.tw5363428345988834438 : True := trivial
theorem hd.tw5366084841770067474 : True := trivial
theorem hd.tw5373601922739893978 : True := trivial
theorem hd.tw5377472447003590421 : True := trivial
theorem hd.tw5378308252288859171 : True := trivial
theorem hd.tw5384862125123622026 : True := trivial
theorem hd.tw5388632664720090651 : True := trivial
theorem hd.tw5405509625223553959 : True := trivial
theorem hd.tw541196102884509978 : True := trivial
theorem hd.tw5412581350761694305 : True := trivial
theorem hd.tw5416991563250132298 : True := trivial
theorem hd.tw5420774739373220312 : True := trivial
theorem hd.tw5423849686025974747 : True := trivial
theorem hd.tw5447491997361039504 : True := trivial
theorem hd.tw5456813858781910739 : True := trivial
theorem hd.tw5462849890086031466 : True := trivial
theorem hd.tw5464280966869935822 : True := trivial
theorem hd.tw5464967688985200232 : True := trivial
theorem hd.tw546821695630378048 : True := trivial
theorem hd.tw5477106580535457578 : True := trivial
theorem hd.tw5480042469492414594 : True := trivial
theorem hd.tw5482205457738058418 : True := trivial
theorem hd.tw5486487638281291605 : True := trivial
theorem hd.tw5490696432328200686 : True := trivial
theorem hd.tw5498553941010827753 : True := trivial
theorem hd.tw5505005885091257285 : True := trivial
theorem hd.tw5505332120971382143 : True := trivial
theorem hd.tw550829659697677876 : True := trivial
theorem hd.tw5511420028821071320 : True := trivial
theorem hd.tw5513025101015932971 : True := trivial
theorem hd.tw5516785719162176838 : True := trivial
theorem hd.tw5534113831511101195 : True := trivial
theorem hd.tw553678475780380819 : True := trivial
theorem hd.tw5547500650982815111 : True := trivial
theorem hd.tw5549315172176941698 : True := trivial
theorem hd.tw5562173858411828344 : True := trivial
theorem hd.tw5567388512258382067 : True := trivial
theorem hd.tw5573277842309179933 : True := trivial
theorem hd.tw5574845727924001799 : True := trivial
theorem hd.tw5574970846534385311 : True := trivial
theorem hd.tw5583259159178497336 : True := trivial
theorem hd.tw5592360268479517082 : True := trivial
theorem hd.tw5592821105494180994 : True := trivial
theorem hd.tw559551424679595590 : True := trivial
theorem hd.tw5605480435847508373 : True := trivial
theorem hd.tw5608270528595127837 : True := trivial
theorem hd.tw5612500503075450276 : True := trivial
theorem hd.tw561391293025646643 : True := trivial
theorem hd.tw5635641802508607975 : True := trivial
theorem hd.tw5643178794243155062 : True := trivial
theorem hd.tw5657824000916062451 : True := trivial
theorem hd.tw5658185497973507234 : True := trivial
theorem hd.tw5667655126489319660 : True := trivial
theorem hd.tw567884609423149705 : True := trivial
theorem hd.tw5680739920604646906 : True := trivial
theorem hd.tw5681834439120334349 : True := trivial
theorem hd.tw5715356086224469760 : True := trivial
theorem hd.tw5715734110848049390 : True := trivial
theorem hd.tw5716766192118558609 : True := trivial
theorem hd.tw5722156749303410037 : True := trivial
theorem hd.tw5729860161178430643 : True := trivial
theorem hd.tw5732804406350252772 : True := trivial
theorem hd.tw573411949849455007 : True := trivial
theorem hd.tw574300837803046910 : True := trivial
theorem hd.tw574866244994423671 : True := trivial
theorem hd.tw5752027050598990644 : True := trivial
theorem hd.tw5765021164422061276 : True := trivial
theorem hd.tw5781342201191254626 : True := trivial
theorem hd.tw578887228443019578 : True := trivial
theorem hd.tw5794858040369449239 : True := trivial
theorem hd.tw5810065557313606291 : True := trivial
theorem hd.tw5850991567925798318 : True := trivial
theorem hd.tw5859118754885311737 : True := trivial
theorem hd.tw5870180824667807317 : True := trivial
theorem hd.tw5873113503399164460 : True := trivial
theorem hd.tw58778882737569971 : True := trivial
theorem hd.tw5882772035184831331 : True := trivial
theorem hd.tw5899666649113621702 : True := trivial
theorem hd.tw5902613922787404954 : True := trivial
theorem hd.tw5927567313105069670 : True := trivial
theorem hd.tw5961118342813265553 : True := trivial
theorem hd.tw5978321128707920903 : True := trivial
theorem hd.tw5983496337302601536 : True := trivial
theorem hd.tw5987830557187376847 : True := trivial
theorem hd.tw6009374485072345877 : True := trivial
theorem hd.tw6014424301940151174 : True := trivial
theorem hd.tw6019021122589006684 : True := trivial
theorem hd.tw6034994181537180104 : True := trivial
theorem hd.tw6038821095411175016 : True := trivial
theorem hd.tw6039055164378295695 : True := trivial
theorem hd.tw6046454685291232161 : True := trivial
theorem hd.tw6060742912462422084 : True := trivial
theorem hd.tw607225439768870687 : True := trivial
theorem hd.tw6077072998180152799 : True := trivial
theorem hd.tw6079173187612997037 : True := trivial
theorem hd.tw6082411064634330575 : True := trivial
theorem hd.tw6094051198206467920 : True := trivial
theorem hd.tw6109525258741381055 : True := trivial
theorem hd.tw6115762422951442106 : True := trivial
theorem hd.tw6123773746684550334 : True := trivial
theorem hd.tw6136932545381038964 : True := trivial
theorem hd.tw6138573725649716802 : True := trivial
theorem hd.tw6140570298594658328 : True := trivial
theorem hd.tw6165213602025592011 : True := trivial
theorem hd.tw6181573660694698118 : True := trivial
theorem hd.tw6184208073178115725 : True := trivial
theorem hd.tw6184460063843016694 : True := trivial
theorem hd.tw6186238094035137676 : True := trivial
theorem hd.tw6193710438406724481 : True := trivial
theorem hd.tw6196171512934965099 : True := trivial
theorem hd.tw6197852965803387314 : True := trivial
theorem hd.tw6199456316170847359 : True := trivial
theorem hd.tw6199765714743212253 : True := trivial
theorem hd.tw6213412439835118660 : True := trivial
theorem hd.tw623321812274121831 : True := trivial
theorem hd.tw6237077433064714434 : True := trivial
theorem hd.tw6248097562671527838 : True := trivial
theorem hd.tw6264232113106981867 : True := trivial
theorem hd.tw6276725880618359904 : True := trivial
theorem hd.tw6278647508926252785 : True := trivial
theorem hd.tw6291416237084387574 : True := trivial
theorem hd.tw6293948785866598258 : True := trivial
theorem hd.tw6295535725891239091 : True := trivial
theorem hd.tw6305734824756694309 : True := trivial
theorem hd.tw6308581086252854402 : True := trivial
theorem hd.tw6320253292602491972 : True := trivial
theorem hd.tw6332569643945604797 : True := trivial
theorem hd.tw6333381515994009340 : True := trivial
theorem hd.tw6352655612330318208 : True := trivial
theorem hd.tw6372862494175223470 : True := trivial
theorem hd.tw63935204521456360 : True := trivial
theorem hd.tw6407018352808590543 : True := trivial
theorem hd.tw6407587892757256292 : True := trivial
theorem hd.tw6412770499399676944 : True := trivial
theorem hd.tw6418563310689889697 : True := trivial
theorem hd.tw6422562543299004346 : True := trivial
theorem hd.tw6423634429210846174 : True := trivial
theorem hd.tw6438293893037913957 : True := trivial
theorem hd.tw6448160783278274896 : True := trivial
theorem hd.tw6449127861642672459 : True := trivial
theorem hd.tw6469175993241445255 : True := trivial
theorem hd.tw6473056668773228353 : True := trivial
theorem hd.tw6475668928365284201 : True := trivial
theorem hd.tw6482722132109649516 : True := trivial
theorem hd.tw6487352956860082180 : True := trivial
theorem hd.tw65052924660596772 : True := trivial
theorem hd.tw651126834518081296 : True := trivial
theorem hd.tw6513947717537150293 : True := trivial
theorem hd.tw6528754448969337418 : True := trivial
theorem hd.tw6529707622633924500 : True := trivial
theorem hd.tw6555240042291301478 : True := trivial
theorem hd.tw656455966557771466 : True := trivial
theorem hd.tw657407498640621875 : True := trivial
theorem hd.tw6578402527460240241 : True := trivial
theorem hd.tw6598312636042714100 : True := trivial
theorem hd.tw6601971929782490040 : True := trivial
theorem hd.tw6615107907471364465 : True := trivial
theorem hd.tw661664588019599107 : True := trivial
theorem hd.tw6622150576667484216 : True := trivial
theorem hd.tw6624954825109534081 : True := trivial
theorem hd.tw663384727985864361 : True := trivial
theorem hd.tw6636792957720756321 : True := trivial
theorem hd.tw6640185938202033289 : True := trivial
theorem hd.tw6669269137521125552 : True := trivial
theorem hd.tw6679266806504041263 : True := trivial
theorem hd.tw6683769817339685419 : True := trivial
theorem hd.tw6693220840876725470 : True := trivial
theorem hd.tw6697089970055633809 : True := trivial
theorem hd.tw6709418730364537143 : True := trivial
theorem hd.tw6721579946203436601 : True := trivial
theorem hd.tw6755925336976613232 : True := trivial
theorem hd.tw6759408015678561074 : True := trivial
theorem hd.tw6759412095888398321 : True := trivial
theorem hd.tw6761669909254768831 : True := trivial
theorem hd.tw6767318904944593275 : True := trivial
theorem hd.tw6769732088879122475 : True := trivial
theorem hd.tw6780557218761844654 : True := trivial
theorem hd.tw678209747344391502 : True := trivial
theorem hd.tw6785817131721698500 : True := trivial
theorem hd.tw6800881396052196260 : True := trivial
theorem hd.tw6804821044290156842 : True := trivial
theorem hd.tw6806158638939944141 : True := trivial
theorem hd.tw6818987989461384207 : True := trivial
theorem hd.tw6819212343860736726 : True := trivial
theorem hd.tw6824622198901579176 : True := trivial
theorem hd.tw6830512106363814048 : True := trivial
theorem hd.tw6838551448383532254 : True := trivial
theorem hd.tw6839606769468120364 : True := trivial
theorem hd.tw684064349180729535 : True := trivial
theorem hd.tw6841855868124258421 : True := trivial
theorem hd.tw6848782300941138395 : True := trivial
theorem hd.tw6854178956953853374 : True := trivial
theorem hd.tw6868836192036940282 : True := trivial
theorem hd.tw6873399512355158014 : True := trivial
theorem hd.tw6873614041213916418 : True := trivial
theorem hd.tw6877226645827823821 : True := trivial
theorem hd.tw6879831473291441079 : True := trivial
theorem hd.tw6882427118574961969 : True := trivial
theorem hd.tw6884274485777876349 : True := trivial
theorem hd.tw6898005170327248138 : True := trivial
theorem hd.tw689954013368505116 : True := trivial
theorem hd.tw6902198413751149823 : True := trivial
theorem hd.tw6903541053762270361 : True := trivial
theorem hd.tw6906073325868019850 : True := trivial
theorem hd.tw6910338751485740869 : True := trivial
theorem hd.tw6919012999923025775 : True := trivial
theorem hd.tw6924109203229866365 : True := trivial
theorem hd.tw6931407450589930559 : True := trivial
theorem hd.tw693159750657407407 : True := trivial
theorem hd.tw6957150274394394060 : True := trivial
theorem hd.tw6966197367859771207 : True := trivial
theorem hd.tw6982297934935202809 : True := trivial
theorem hd.tw6984364607525936438 : True := trivial
theorem hd.tw6988595667528144454 : True := trivial
theorem hd.tw6990203504111849199 : True := trivial
theorem hd.tw7006195865600381663 : True := trivial
theorem hd.tw701333769924781912 : True := trivial
theorem hd.tw701787995468756871 : True := trivial
theorem hd.tw7023726343779634624 : True := trivial
theorem hd.tw7028611270464810887 : True := trivial
theorem hd.tw7031273417212677730 : True := trivial
theorem hd.tw7038097759751173309 : True := trivial
theorem hd.tw7039552826165213294 : True := trivial
theorem hd.tw7043244367880539466 : True := trivial
theorem hd.tw7052568272083921669 : True := trivial
theorem hd.tw7053950869529525465 : True := trivial
theorem hd.tw7068711184596962023 : True := trivial
theorem hd.tw7072814226976595913 : True := trivial
theorem hd.tw7074851169733056584 : True := trivial
theorem hd.tw7076163891533521732 : True := trivial
theorem hd.tw7078736642686178390 : True := trivial
theorem hd.tw7080932558258925280 : True := trivial
theorem hd.tw7082855905992002993 : True := trivial
theorem hd.tw7085514621470718492 : True := trivial
theorem hd.tw7094405668315501649 : True := trivial
theorem hd.tw7147661979445302706 : True := trivial
theorem hd.tw7152984921513172624 : True := trivial
theorem hd.tw7153062008950511462 : True := trivial
theorem hd.tw7168853710609731344 : True := trivial
theorem hd.tw7169848277234257297 : True := trivial
theorem hd.tw7174315439194531881 : True := trivial
theorem hd.tw7175568609137494628 : True := trivial
theorem hd.tw718029691902183412 : True := trivial
theorem hd.tw7182994202766372144 : True := trivial
theorem hd.tw7185752278333246451 : True := trivial
theorem hd.tw7191455744419660376 : True := trivial
theorem hd.tw7203090732872221147 : True := trivial
theorem hd.tw7228613107392120011 : True := trivial
theorem hd.tw7228782613342275723 : True := trivial
theorem hd.tw7240586211207864342 : True := trivial
theorem hd.tw7261450039545342454 : True := trivial
theorem hd.tw7270182246851987180 : True := trivial
theorem hd.tw7281789762507122299 : True := trivial
theorem hd.tw7289601568589263668 : True := trivial
theorem hd.tw7289634563603522867 : True := trivial
theorem hd.tw7292484366425897655 : True := trivial
theorem hd.tw7296583596125217682 : True := trivial
theorem hd.tw7302176564496314211 : True := trivial
theorem hd.tw7306704675810786797 : True := trivial
theorem hd.tw7317836474542784337 : True := trivial
theorem hd.tw732345407407602841 : True := trivial
theorem hd.tw7344767357792436125 : True := trivial
theorem hd.tw7354087734392854552 : True := trivial
theorem hd.tw7355570028127101125 : True := trivial
theorem hd.tw7365426131469257241 : True := trivial
theorem hd.tw7369741819223213686 : True := trivial
theorem hd.tw7372000682148998216 : True := trivial
theorem hd.tw7372736464540009814 : True := trivial
theorem hd.tw7379015992945566340 : True := trivial
theorem hd.tw7382370116671421104 : True := trivial
theorem hd.tw7399621439246259153 : True := trivial
theorem hd.tw7410529203726677101 : True := trivial
theorem hd.tw7446156804331849419 : True := trivial
theorem hd.tw7470679767882095757 : True := trivial
theorem hd.tw7488271640366301521 : True := trivial
theorem hd.tw7489763959799892387 : True := trivial
theorem hd.tw7492773218913965947 : True := trivial
theorem hd.tw7492944070806833698 : True := trivial
theorem hd.tw7494724483528729301 : True := trivial
theorem hd.tw7510230149288206974 : True := trivial
theorem hd.tw7512474625130614241 : True := trivial
theorem hd.tw7519716089354478335 : True := trivial
theorem hd.tw7523672394736509286 : True := trivial
theorem hd.tw7526368328331116154 : True := trivial
theorem hd.tw7534799579077118603 : True := trivial
theorem hd.tw7539108560816394368 : True := trivial
theorem hd.tw7541792107247259296 : True := trivial
theorem hd.tw7546755466339226490 : True := trivial
theorem hd.tw7556354024190911721 : True := trivial
theorem hd.tw7573478926670427865 : True := trivial
theorem hd.tw7578210074245671484 : True := trivial
theorem hd.tw7579377964693751086 : True := trivial
theorem hd.tw758273949599710562 : True := trivial
theorem hd.tw7594171508363565936 : True := trivial
theorem hd.tw7610815399733428385 : True := trivial
theorem hd.tw7622747237071773072 : True := trivial
theorem hd.tw7626941382939369770 : True := trivial
theorem hd.tw7628703163842673926 : True := trivial
theorem hd.tw7644636733232180493 : True := trivial
theorem hd.tw7652536761349790700 : True := trivial
theorem hd.tw7654286748164834634 : True := trivial
theorem hd.tw7676003278276379012 : True := trivial
theorem hd.tw7691918140598264929 : True := trivial
theorem hd.tw7696582325085527700 : True := trivial
theorem hd.tw7698358502638924378 : True := trivial
theorem hd.tw7702882491108231240 : True := trivial
theorem hd.tw7708440257205227242 : True := trivial
theorem hd.tw7712595579559962911 : True := trivial
theorem hd.tw7716191020100267594 : True := trivial
theorem hd.tw7721951785955056133 : True := trivial
theorem hd.tw7746578258024575070 : True := trivial
theorem hd.tw7752569895197466512 : True := trivial
theorem hd.tw7754304195085646258 : True := trivial
theorem hd.tw7754429630099156750 : True := trivial
theorem hd.tw776056548799521774 : True := trivial
theorem hd.tw7763873220885509757 : True := trivial
theorem hd.tw7791950860873606604 : True := trivial
theorem hd.tw7792395482447073224 : True := trivial
theorem hd.tw7793673504863384051 : True := trivial
theorem hd.tw7815354588672045779 : True := trivial
theorem hd.tw7829580234814923638 : True := trivial
theorem hd.tw7839823952615728111 : True := trivial
theorem hd.tw7850187754069100156 : True := trivial
theorem hd.tw7854228177987924090 : True := trivial
theorem hd.tw7867956165831070988 : True := trivial
theorem hd.tw7872162285098387286 : True := trivial
theorem hd.tw788007730921572594 : True := trivial
theorem hd.tw7880807054014371918 : True := trivial
theorem hd.tw7881497201666147564 : True := trivial
theorem hd.tw7884327419502603046 : True := trivial
theorem hd.tw7890866008676330876 : True := trivial
theorem hd.tw7891253978561527248 : True := trivial
theorem hd.tw7898215921889874393 : True := trivial
theorem hd.tw7914949630228597729 : True := trivial
theorem hd.tw7927469264209771579 : True := trivial
theorem hd.tw7941745277869089046 : True := trivial
theorem hd.tw79562441186909183 : True := trivial
theorem hd.tw7974342138255575279 : True := trivial
theorem hd.tw7989696755740880794 : True := trivial
theorem hd.tw8002969147516199903 : True := trivial
theorem hd.tw8004679753235328684 : True := trivial
theorem hd.tw8010337327900014246 : True := trivial
theorem hd.tw8015326511298524721 : True := trivial
theorem hd.tw8019912454424913321 : True := trivial
theorem hd.tw8025032847418708242 : True := trivial
theorem hd.tw8043511914929033524 : True := trivial
theorem hd.tw8044012406986999415 : True := trivial
theorem hd.tw8050548369107598662 : True := trivial
theorem hd.tw8068333962393322839 : True := trivial
theorem hd.tw8068729725432388964 : True := trivial
theorem hd.tw8070572824630737657 : True := trivial
theorem hd.tw8077960055538861308 : True := trivial
theorem hd.tw8081886968326746073 : True := trivial
theorem hd.tw8093293640524625616 : True := trivial
theorem hd.tw8112040973832200146 : True := trivial
theorem hd.tw8117029840178788049 : True := trivial
theorem hd.tw8127107218806415600 : True := trivial
theorem hd.tw8134915037123179040 : True := trivial
theorem hd.tw8136328696398795215 : True := trivial
theorem hd.tw8137337322778922390 : True := trivial
theorem hd.tw8139379366441657614 : True := trivial
theorem hd.tw8143100818028448799 : True := trivial
theorem hd.tw8151903124980380684 : True := trivial
theorem hd.tw8162361989647490838 : True := trivial
theorem hd.tw8174668917047015095 : True := trivial
theorem hd.tw81901753972529447 : True := trivial
theorem hd.tw8191903926673212241 : True := trivial
theorem hd.tw8196013696874734392 : True := trivial
theorem hd.tw8200346909930849018 : True := trivial
theorem hd.tw8210421348078903774 : True := trivial
theorem hd.tw8226494294326810461 : True := trivial
theorem hd.tw8228950375871286339 : True := trivial
theorem hd.tw8242931771332617035 : True := trivial
theorem hd.tw8244733829118024811 : True := trivial
theorem hd.tw8268277133935991078 : True := trivial
theorem hd.tw8269573656231971908 : True := trivial
theorem hd.tw8273930003744585626 : True := trivial
theorem hd.tw828720147922988521 : True := trivial
theorem hd.tw8293946417935249925 : True := trivial
theorem hd.tw8311865607074365958 : True := trivial
theorem hd.tw8317466277049474617 : True := trivial
theorem hd.tw833173182276230429 : True := trivial
theorem hd.tw8343274005884668182 : True := trivial
theorem hd.tw8351282476255451920 : True := trivial
theorem hd.tw8356816923877370021 : True := trivial
theorem hd.tw8359792913072195828 : True := trivial
theorem hd.tw8381844023166312768 : True := trivial
theorem hd.tw839627083853442787 : True := trivial
theorem hd.tw8410753451549586234 : True := trivial
theorem hd.tw8432863908256534567 : True := trivial
theorem hd.tw845060206244984605 : True := trivial
theorem hd.tw8450674356893351874 : True := trivial
theorem hd.tw8457440626546761165 : True := trivial
theorem hd.tw8458067239894703972 : True := trivial
theorem hd.tw8472141830624432390 : True := trivial
theorem hd.tw8488457167066964572 : True := trivial
theorem hd.tw8493152586797012548 : True := trivial
theorem hd.tw8502394832462711535 : True := trivial
theorem hd.tw8512154844815317752 : True := trivial
theorem hd.tw8516288146210602744 : True := trivial
theorem hd.tw8520764564376217723 : True := trivial
theorem hd.tw8534833511749321836 : True := trivial
theorem hd.tw8538877666451538035 : True := trivial
theorem hd.tw8545014587354053640 : True := trivial
theorem hd.tw8571221812340688910 : True := trivial
theorem hd.tw8578630461356474707 : True := trivial
theorem hd.tw8587404781116728655 : True := trivial
theorem hd.tw8589211134812392127 : True := trivial
theorem hd.tw8600361732997149524 : True := trivial
theorem hd.tw8638756108113873008 : True := trivial
theorem hd.tw8653554418223732417 : True := trivial
theorem hd.tw8654268224221117138 : True := trivial
theorem hd.tw8664936974563722654 : True := trivial
theorem hd.tw8667844651763770394 : True := trivial
theorem hd.tw8671608845466749128 : True := trivial
theorem hd.tw867598499069673859 : True := trivial
theorem hd.tw8683856772340465682 : True := trivial
theorem hd.tw8684328023851190084 : True := trivial
theorem hd.tw8690549050251857956 : True := trivial
theorem hd.tw870721082818037629 : True := trivial
theorem hd.tw8721321648031231958 : True := trivial
theorem hd.tw8735263284916673568 : True := trivial
theorem hd.tw874630948901198531 : True := trivial
theorem hd.tw876933089483189297 : True := trivial
theorem hd.tw8770205317985620760 : True := trivial
theorem hd.tw8770659054964912022 : True := trivial
theorem hd.tw8789358453043137523 : True := trivial
theorem hd.tw8801323125487838256 : True := trivial
theorem hd.tw8803977449572941912 : True := trivial
theorem hd.tw8811097733284410319 : True := trivial
theorem hd.tw881544763273948857 : True := trivial
theorem hd.tw8821865126269305972 : True := trivial
theorem hd.tw8870299921980064525 : True := trivial
theorem hd.tw8879300879240516862 : True := trivial
theorem hd.tw8879563391730754479 : True := trivial
theorem hd.tw8881176148764397765 : True := trivial
theorem hd.tw8887996145723391905 : True := trivial
theorem hd.tw8898355551111435312 : True := trivial
theorem hd.tw8912348807662434688 : True := trivial
theorem hd.tw892338849539841862 : True := trivial
theorem hd.tw8931695957890008076 : True := trivial
theorem hd.tw8933860796737062526 : True := trivial
theorem hd.tw8934143017859847078 : True := trivial
theorem hd.tw8937217757347908520 : True := trivial
theorem hd.tw8945485805214734075 : True := trivial
theorem hd.tw895778769243568423 : True := trivial
theorem hd.tw8959176491354863721 : True := trivial
theorem hd.tw8965841893048198262 : True := trivial
theorem hd.tw8977460988437922124 : True := trivial
theorem hd.tw8988134246762222997 : True := trivial
theorem hd.tw8990313861142287110 : True := trivial
theorem hd.tw8995498356112160629 : True := trivial
theorem hd.tw9008986715231616493 : True := trivial
theorem hd.tw9012836324853574702 : True := trivial
theorem hd.tw9017168854992159843 : True := trivial
theorem hd.tw9032532398218275181 : True := trivial
theorem hd.tw9045270278378291675 : True := trivial
theorem hd.tw9048539425550374019 : True := trivial
theorem hd.tw9065262298746574260 : True := trivial
theorem hd.tw9073681462420916055 : True := trivial
theorem hd.tw9077708301081682751 : True := trivial
theorem hd.tw908340440784498289 : True := trivial
theorem hd.tw9087110039335098043 : True := trivial
theorem hd.tw9131607905817354932 : True := trivial
theorem hd.tw9132557439983319658 : True := trivial
theorem hd.tw9138423343153938533 : True := trivial
theorem hd.tw9153386212771759811 : True := trivial
theorem hd.tw9155422001095189878 : True := trivial
theorem hd.tw9157040058871303473 : True := trivial
theorem hd.tw9170477692918782315 : True := trivial
theorem hd.tw9183587513747234698 : True := trivial
theorem hd.tw9184186324627900627 : True := trivial
theorem hd.tw920214292312260371 : True := trivial
theorem hd.tw9214309421485791580 : True := trivial
theorem hd.tw9215163618515126356 : True := trivial
theorem hd.tw9215827820722605749 : True := trivial
theorem hd.tw922143313871775805 : True := trivial
theorem hd.tw9228397985900620932 : True := trivial
theorem hd.tw9232775946159205626 : True := trivial
theorem hd.tw9248903088399719394 : True := trivial
theorem hd.tw9258712216579463092 : True := trivial
theorem hd.tw9262713555522148398 : True := trivial
theorem hd.tw9263770017397639214 : True := trivial
theorem hd.tw9271240290516206930 : True := trivial
theorem hd.tw9271970288684553227 : True := trivial
theorem hd.tw9277588360372424766 : True := trivial
theorem hd.tw9288019024677834580 : True := trivial
theorem hd.tw9292532483548851572 : True := trivial
theorem hd.tw9298403506768410418 : True := trivial
theorem hd.tw9299267367459917385 : True := trivial
theorem hd.tw9299316483162031394 : True := trivial
theorem hd.tw9312999139381119592 : True := trivial
theorem hd.tw9325612240067072397 : True := trivial
theorem hd.tw9330823016148744750 : True := trivial
theorem hd.tw9330943631129107780 : True := trivial
theorem hd.tw9341642984632610673 : True := trivial
theorem hd.tw9345929723534960622 : True := trivial
theorem hd.tw9374463148371948499 : True := trivial
theorem hd.tw9386895884608548742 : True := trivial
theorem hd.tw9389099297957893461 : True := trivial
theorem hd.tw9390866547671247325 : True := trivial
theorem hd.tw940617070666608080 : True := trivial
theorem hd.tw9406673726873002282 : True := trivial
theorem hd.tw9408297855965678578 : True := trivial
theorem hd.tw9411019179365305712 : True := trivial
theorem hd.tw9411516717205815668 : True := trivial
theorem hd.tw9420132969298855359 : True := trivial
theorem hd.tw9421340871869096474 : True := trivial
theorem hd.tw9427301549700849589 : True := trivial
theorem hd.tw9430268157657104642 : True := trivial
theorem hd.tw9449672872311958731 : True := trivial
theorem hd.tw9450335948986698252 : True := trivial
theorem hd.tw9459050058782445324 : True := trivial
theorem hd.tw9467313397243273497 : True := trivial
theorem hd.tw9474584641814433094 : True := trivial
theorem hd.tw9476321141362543215 : True := trivial
theorem hd.tw9477281785233511309 : True := trivial
theorem hd.tw9496365245306024149 : True := trivial
theorem hd.tw9499510787657705874 : True := trivial
theorem hd.tw9525452488782058459 : True := trivial
theorem hd.tw9533747618267967006 : True := trivial
theorem hd.tw954383436051774369 : True := trivial
theorem hd.tw9555612238305686254 : True := trivial
theorem hd.tw9557236495431379559 : True := trivial
theorem hd.tw9563087162953311043 : True := trivial
theorem hd.tw956484704036357553 : True := trivial
theorem hd.tw9566141503761928105 : True := trivial
theorem hd.tw956962677268122417 : True := trivial
theorem hd.tw957563972369182330 : True := trivial
theorem hd.tw9577689765879766989 : True := trivial
theorem hd.tw9584790999859711587 : True := trivial
theorem hd.tw9593790411415195845 : True := trivial
theorem hd.tw9605905523995326848 : True := trivial
theorem hd.tw960944832710211464 : True := trivial
theorem hd.tw9614397579173300960 : True := trivial
theorem hd.tw9617658007855726926 : True := trivial
theorem hd.tw9624898121751352173 : True := trivial
theorem hd.tw9627790493946171768 : True := trivial
theorem hd.tw9627899436633539337 : True := trivial
theorem hd.tw9631708518359487223 : True := trivial
theorem hd.tw9641152695372364146 : True := trivial
theorem hd.tw9657781627882305391 : True := trivial
theorem hd.tw9673543361469618366 : True := trivial
theorem hd.tw968070873064863810 : True := trivial
theorem hd.tw9687553896877304291 : True := trivial
theorem hd.tw9702936160620672325 : True := trivial
theorem hd.tw9719896912496429819 : True := trivial
theorem hd.tw9726439670489285605 : True := trivial
theorem hd.tw9731375825926819010 : True := trivial
theorem hd.tw973855751625017794 : True := trivial
theorem hd.tw9741134391959003819 : True := trivial
theorem hd.tw9748044761591592747 : True := trivial
theorem hd.tw9763420282994701918 : True := trivial
theorem hd.tw9781786331797747800 : True := trivial
theorem hd.tw9783614193127449063 : True := trivial
theorem hd.tw9787125683330832049 : True := trivial
theorem hd.tw978945382295711627 : True := trivial
theorem hd.tw9790237756600475073 : True := trivial
theorem hd.tw979132690202208243 : True := trivial
theorem hd.tw9813410681712176819 : True := trivial
theorem hd.tw9833903867542621965 : True := trivial
theorem hd.tw9842699097658496709 : True := trivial
theorem hd.tw9850052858527491113 : True := trivial
theorem hd.tw9854592784775465947 : True := trivial
theorem hd.tw9856076609091502283 : True := trivial
theorem hd.tw9861242946374510675 : True := trivial
theorem hd.tw9861848656529557817 : True := trivial
theorem hd.tw9864973744126774698 : True := trivial
theorem hd.tw9874359969587226399 : True := trivial
theorem hd.tw9877162250995324695 : True := trivial
theorem hd.tw9908193460736022307 : True := trivial
theorem hd.tw9925136445392405157 : True := trivial
theorem hd.tw9935550417157453144 : True := trivial
theorem hd.tw9960721518486171458 : True := trivial
theorem hd.tw9976723597467198900 : True := trivial
theorem hd.tw9983964734214183352 : True := trivial
theorem hd.tw9983995961361265002 : True := trivial
theorem hd.tw9990345226319884068 : True := trivial
theorem hd.tw9999340725249035685 : True := trivial
set_option Elab.async true in
set_option maxHeartbeats 8000000 in
theorem hd : PySem.Challenge.rw_ai0022_01.Holds := by
  w_on; o_law; o_head (pickHook fr.heap_1 as0 as0_eq)
  case hw => w_witness2
  exact last rfl
end Mine
theorem PySem.Challenge.cw_ai0022_01_holds : PySem.Challenge.rw_ai0022_01.Holds :=
  Mine.hd
