import PyProof.Rows.All
import Wide.All
import OpenK.AllK
import Wide.FinOn
import Lean
import PySem.Challenge.RW_op0160_01
open PySem PySem.W PyProof.Rows PySem.Calls
set_option Elab.async false
set_option maxRecDepth 100000
set_option maxHeartbeats 4000000
set_option rowWalk.seconds 0
set_option compiler.extract_closed false
namespace Mine
/-- the statements that the law can come to: all but the four that name a module -/
noncomputable def keepQ : List PySem.Stmt → List PySem.Stmt
  | [a0, _, a2, a3, a4, a5, a6, _, a8, _, a10, a11, a12, _, a14, a15, a16, a17, a18, a19, a20] => [a0, a2, a3, a4, a5, a6, a8, a10, a11, a12, a14, a15, a16, a17, a18, a19, a20]
  | l => l
noncomputable def viewQ : PySem.Program := { PySem.Challenge.rw_op0160_01.row.toRowW.prog with main := { (PySem.Challenge.rw_op0160_01.row.toRowW.prog).main with body := keepQ (PySem.Challenge.rw_op0160_01.row.toRowW.prog).main.body } }
local macro_rules
  | `(tactic| o_head $H) => `(tactic| (refine holds_open (q := viewQ) (loose := [Str.ofString "_NodeInfo"]) (Xt := fun s => xlAt viewQ [] s && recOk (RowW.records (PySem.Challenge.rw_op0160_01.row.toRowW)) s) (XP := XL viewQ []) (Yf := Hook.obs $H) (Ya := Hook.val $H) (YP := Hook.says $H) (N := 3242) ?hl (Hook.of $H) (Hook.keeps $H) (fun s e => xl_of s (Bool.and_eq_true_iff.mp e).1) XL.keeps (by rfl) (by rfl) (by rfl) (fun s e => recFacts_of (Bool.and_eq_true_iff.mp e).2) (by rfl) (by first | assumption | decide +kernel) (by decide +kernel) ⟨rfl, rfl, rfl, rfl, rfl, by decide +kernel⟩ ?hw ?hc; (case hl => exact fun w => by kernel_rfl)))
local macro_rules
  | `(tactic| o_law) => `(tactic| refine holds_law (by kernel_rfl) fun said => ?_)
open_top hd for PySem.Challenge.rw_op0160_01

theorem fresh_P01_pre : True := by
  w_top off
  trivial
/-- a goal that the walker leaves alone -/
structure Box (P : Prop) : Prop where
  out : P
/-- the goal, out of sight -/
theorem hideG {P : Prop} (h : ∀ G : Prop, Box (P → G) → G) : P := h P ⟨fun x => x⟩
/-- what comes behind, out of sight -/
theorem wp_hide {M : Model} {A : Around} {α : Type} {t : Sem α} {Q : α → Shared → Prop} {E : Value → Shared → Prop} {s : Shared} (h : ∀ Q' : α → Shared → Prop, Box (∀ f s', Q f s' → Q' f s') → wpAny M A t Q' E s) : wpAny M A t Q E s := h Q ⟨fun _ _ x => x⟩
theorem wp_hideE {M : Model} {A : Around} {α : Type} {t : Sem α} {Q : α → Shared → Prop} {E : Value → Shared → Prop} {s : Shared} (h : ∀ E' : Value → Shared → Prop, Box (∀ f s', E f s' → E' f s') → wpAny M A t Q E' s) : wpAny M A t Q E s := h E ⟨fun _ _ x => x⟩
/-- where a def's body runs -/
noncomputable abbrev AR (hdl : Option Value) (D U : Nat) (env : Env) (gd : Option (List Code)) (env₀ : Env) (outer : List Env) : Around := { handled := hdl, depth := D, frames := some (env :: env₀ :: outer), guards := gd, units := U }
theorem om_step {n i : Nat} (h : i < n) : n - (i + 1) < n - i := Nat.sub_succ_lt_self _ _ h
theorem om_ble {a b c : Nat} (h : a ≤ b) (h2 : Nat.ble b c = true) : a ≤ c := Nat.le_trans h (Nat.le_of_ble_eq_true h2)
theorem om_lble {a b c : Nat} (h : a < b) (h2 : Nat.ble b c = true) : a ≤ c := Nat.le_trans (Nat.le_of_lt h) (Nat.le_of_ble_eq_true h2)
theorem om_blt {a b c : Nat} (h : a ≤ b) (h2 : Nat.blt b c = true) : a < c := Nat.lt_of_le_of_lt h (Nat.le_of_ble_eq_true h2)
theorem om_lblt {a b c : Nat} (h : a < b) (h2 : Nat.ble b c = true) : a < c := Nat.lt_of_lt_of_le h (Nat.le_of_ble_eq_true h2)
theorem om_eble {a b c d : Nat} (e : a = b) (h : b ≤ c) (h2 : Nat.ble c d = true) : a ≤ d := e ▸ om_ble h h2
theorem om_eblt {a b c d : Nat} (e : a = b) (h : b ≤ c) (h2 : Nat.blt c d = true) : a < d := e ▸ om_blt h h2
theorem om_elt {a b i : Nat} (e : a = b) (h : i < b) : i < a := e ▸ h
theorem om_elt' {a b i : Nat} (e : b = a) (h : i < b) : i < a := e ▸ h
theorem om_sle {a b c d : Nat} (h : a ≤ b) (h2 : Nat.ble (b + c) d = true) : a + c ≤ d := Nat.le_trans (Nat.add_le_add_right h c) (Nat.le_of_ble_eq_true h2)
theorem om_slt {a b c d : Nat} (h : a ≤ b) (h2 : Nat.blt (b + c) d = true) : a + c < d := Nat.lt_of_le_of_lt (Nat.add_le_add_right h c) (Nat.le_of_ble_eq_true h2)
theorem om_stepI {n i : Nat} (h : 0 < (n : Int) - (i : Int)) : n - (i + 1) < n - i := om_step (by omega)
theorem om_ltI {n i : Nat} (h : 0 < (n : Int) - (i : Int)) : i < n := by omega
theorem om_ltI' {n m i : Nat} (e : n = m) (h : 0 < (n : Int) - (i : Int)) : i < m := by omega
theorem om_not {p : Prop} (h : p) (n : ¬ p) : False := n h
theorem words_om_all : True := by
  k_with "om" => first | assumption | exact Nat.le_of_ble_eq_true rfl | exact (Nat.sub_zero _).symm | (refine om_step ?_; assumption) | (refine om_ble (by assumption) ?_; exact rfl) | (refine om_blt (by assumption) ?_; exact rfl) | (refine om_lblt (by assumption) ?_; exact rfl) | (refine om_lble (by assumption) ?_; exact rfl) | (refine om_eble (by assumption) (by assumption) ?_; exact rfl) | (refine om_eblt (by assumption) (by assumption) ?_; exact rfl) | (refine Nat.lt_of_lt_of_le (by assumption) ?_; assumption) | (refine Nat.lt_of_le_of_lt (by assumption) ?_; assumption) | (refine Nat.le_trans (by assumption) ?_; assumption) | (refine om_elt (by assumption) ?_; assumption) | (refine om_elt' (by assumption) ?_; assumption) | (refine om_sle (by assumption) ?_; exact rfl) | (refine om_slt (by assumption) ?_; exact rfl) | (refine om_stepI ?_; assumption) | (refine om_ltI ?_; assumption) | (refine om_ltI' (by assumption) ?_; assumption) | lia | omega (config := {})
  trivial
local macro_rules | `(tactic| omega) => `(tactic| k_extra "om")
local macro_rules | `(tactic| walk_at $s:str) => do let t := Lean.Syntax.mkStrLit ("L " ++ s.getString); `(tactic| k_extra $t)

noncomputable abbrev Led := List (Addr × Obj)

/-- a text: a str, or octets -/
noncomputable def txt : Bool → List Nat → Tok → Value
  | false, t, k => .str ⟨t.toArray⟩ k
  | true, t, k => .bytes (t.map UInt8.ofNat).toArray k

theorem wpAny_up {α : Type} {M : Model} {A A' : Around} {t : Sem α} {Q : α → Shared → Prop} {E : Value → Shared → Prop} {s : Shared}
    (h : wpAny M A' t Q E s) (hh : A.handled = A'.handled) (hd : A.depth ≤ A'.depth) (hf : A.frames = A'.frames) (hg : A.guards = A'.guards) (hu : A.units ≤ A'.units) : wpAny M A t Q E s :=
  fun Γ p hΓ => h Γ p ⟨hΓ.1.trans hh, Nat.le_trans hΓ.2.1 hd, fun l hl => hΓ.2.2.1 l (hf.trans hl), fun g hl => hΓ.2.2.2.1 g (hg.trans hl), Nat.le_trans hΓ.2.2.2.2 hu⟩

noncomputable def setL (led : Led) (d : Addr) (o : Obj) : Led := led.map fun p => if p.1 = d then (d, o) else p
theorem setL_keys (led : Led) (d : Addr) (o : Obj) : (setL led d o).map (·.1) = led.map (·.1) := by
  unfold setL
  rw [List.map_map]
  apply List.map_congr_left
  intro p _
  by_cases h : p.1 = d <;> simp [h]
theorem mem_setL_self {led : Led} {d : Addr} {o o' : Obj} (h : (d, o) ∈ led) : (d, o') ∈ setL led d o' := List.mem_map.mpr ⟨(d, o), h, by simp⟩
theorem mem_setL_ne {led : Led} {d a : Addr} {x o' : Obj} (hne : a ≠ d) (h : (a, x) ∈ led) : (a, x) ∈ setL led d o' := List.mem_map.mpr ⟨(a, x), h, by simp [hne]⟩
theorem of_mem_setL {led : Led} {d a : Addr} {x o' : Obj} (h : (a, x) ∈ setL led d o') : (a = d ∧ x = o') ∨ (a ≠ d ∧ (a, x) ∈ led) := by
  obtain ⟨p, hp, e⟩ := List.mem_map.mp h
  by_cases h1 : p.1 = d
  · rw [if_pos h1] at e; cases e; exact .inl ⟨rfl, rfl⟩
  · rw [if_neg h1] at e; subst e; exact .inr ⟨h1, hp⟩
theorem news_uniq {h₀ h : Heap} {L a : Addr} {o o' : Obj} {led : Led} (N : News h₀ L h led) (h1 : (a, o) ∈ led) (h2 : (a, o') ∈ led) : o = o' :=
  Option.some.inj ((N _ h1).1.symm.trans (N _ h2).1)
theorem news_ne {h₀ h : Heap} {L a b : Addr} {o o' : Obj} {led : Led} (N : News h₀ L h led) (h1 : (a, o) ∈ led) (h2 : (b, o') ∈ led) (hne : o ≠ o') : a ≠ b := fun e => by
  subst e; exact hne (news_uniq N h1 h2)
theorem news_sub {h₀ h : Heap} {L : Addr} {led led' : Led} (N : News h₀ L h led) (hs : ∀ p ∈ led', p ∈ led) : News h₀ L h led' := fun p hp => N p (hs p hp)
theorem fr_update {h₀ h : Heap} {L d : Addr} {m : Str → Option Value} {led : Led} {o : Obj} (F : Fr h₀ L h m) (N : News h₀ L h led) (hm : (d, o) ∈ led) (f : Obj → Obj) : Fr h₀ L (h.update d f) m := by
  have D := N _ hm
  obtain ⟨oL, es, ep, hL, r⟩ := F.ns
  exact ⟨⟨oL, es, ep, (Heap.get?_update_ne _ _ _ _ (Ne.symm D.2.1)).trans hL, r⟩, fun b x q => (Heap.get?_update_ne _ _ _ _ fun z => by have := D.2.2; rw [← z, q] at this; cases this).trans (F.keep b x q), F.above⟩
theorem news_update {h₀ h : Heap} {L d : Addr} {led : Led} {o o' : Obj} {f : Obj → Obj} (N : News h₀ L h led) (hm : (d, o) ∈ led) (e : f o = o') (hf : o'.isFreed = false) : News h₀ L (h.update d f) (setL led d o') := by
  have D := N _ hm
  rintro ⟨a, x⟩ hp
  rcases of_mem_setL hp with ⟨rfl, rfl⟩ | ⟨hne, hq⟩
  · exact ⟨e ▸ Heap.get?_update_self _ D.1 (e ▸ hf), D.2⟩
  · exact ⟨(Heap.get?_update_ne _ _ _ _ hne).trans (N _ hq).1, (N _ hq).2⟩
theorem fr_same {h₀ h h' : Heap} {L d : Addr} {m : Str → Option Value} {led : Led} {o : Obj} (F : Fr h₀ L h m) (N : News h₀ L h led) (hm : (d, o) ∈ led) (hs : Heap.SameBut d h h') : Fr h₀ L h' m := by
  have D := N _ hm
  obtain ⟨oL, es, ep, hL, r⟩ := F.ns
  exact ⟨⟨oL, es, ep, (hs.2 _ (Ne.symm D.2.1)).trans hL, r⟩, fun b x q => (hs.2 _ fun z => by have := D.2.2; rw [← z, q] at this; cases this).trans (F.keep b x q), F.above⟩
theorem news_same {h₀ h h' : Heap} {L d : Addr} {led : Led} {o o' : Obj} (N : News h₀ L h led) (hm : (d, o) ∈ led) (hs : Heap.SameBut d h h') (e : h'.get? d = some o') : News h₀ L h' (setL led d o') := by
  have D := N _ hm
  rintro ⟨a, x⟩ hp
  rcases of_mem_setL hp with ⟨rfl, rfl⟩ | ⟨hne, hq⟩
  · exact ⟨e, D.2⟩
  · exact ⟨(hs.2 _ hne).trans (N _ hq).1, (N _ hq).2⟩
/-- the ledger, each address once -/
noncomputable def dd : Led → Led
  | [] => []
  | p :: r => if (dd r).any (fun q => decide (q.1 = p.1)) then dd r else p :: dd r
theorem mem_dd {h₀ h : Heap} {L : Addr} : ∀ {led : Led}, News h₀ L h led → ∀ p, p ∈ dd led ↔ p ∈ led
  | [], _, p => Iff.rfl
  | p :: r, N, q => by
    have ih := mem_dd (news_sub N fun x hx => List.mem_cons_of_mem _ hx) (led := r)
    unfold dd
    by_cases hc : (dd r).any (fun x => decide (x.1 = p.1)) = true
    · rw [if_pos hc, ih q]
      refine ⟨List.mem_cons_of_mem _, fun hq => ?_⟩
      rcases List.mem_cons.mp hq with rfl | hq
      · obtain ⟨⟨a, o⟩, hx, he⟩ := List.any_eq_true.mp hc
        have he : a = q.1 := of_decide_eq_true he
        subst he
        have hx' := (ih (q.1, o)).mp hx
        have : o = q.2 := news_uniq N (List.mem_cons_of_mem _ hx') (List.mem_cons_self (a := q))
        subst this
        exact hx'
      · exact hq
    · rw [if_neg hc, List.mem_cons, List.mem_cons, ih q]
theorem nodup_dd : ∀ led : Led, ((dd led).map (·.1)).Nodup
  | [] => List.nodup_nil
  | p :: r => by
    unfold dd
    by_cases hc : (dd r).any (fun x => decide (x.1 = p.1)) = true
    · rw [if_pos hc]; exact nodup_dd r
    · rw [if_neg hc, List.map_cons]
      refine List.nodup_cons.mpr ⟨fun hm => hc ?_, nodup_dd r⟩
      obtain ⟨q, hq, e⟩ := List.mem_map.mp hm
      exact List.any_eq_true.mpr ⟨q, hq, decide_eq_true e⟩
theorem news_dd {h₀ h : Heap} {L : Addr} {led : Led} (N : News h₀ L h led) : News h₀ L h (dd led) := fun p hp => N p ((mem_dd N p).mp hp)
theorem setL_id {led : Led} {d : Addr} {o : Obj} (h : ∀ p ∈ led, p.1 ≠ d) : setL led d o = led := by
  unfold setL
  have : led.map (fun p => if p.1 = d then (d, o) else p) = led.map id := List.map_congr_left fun p hp => if_neg (h p hp)
  rw [this, List.map_id]
theorem upd_of {d : Addr} {o o' : Obj} : ∀ {led : Led}, (led.map (·.1)).Nodup → (d, o) ∈ led → Upd d o o' led (setL led d o')
  | p :: r, D, h => by
    rw [List.map_cons] at D
    obtain ⟨hn, D'⟩ := List.nodup_cons.mp D
    rcases List.mem_cons.mp h with e | h1
    · subst e
      have hr : ∀ p ∈ r, p.1 ≠ d := fun p hp e => hn (List.mem_map.mpr ⟨p, hp, e⟩)
      have : setL ((d, o) :: r) d o' = (d, o') :: r := by
        show (if (d, o).1 = d then (d, o') else (d, o)) :: setL r d o' = _
        rw [if_pos rfl, setL_id hr]
      rw [this]
      exact Upd.head hr
    · have hne : p.1 ≠ d := fun e => hn (List.mem_map.mpr ⟨(d, o), h1, e.symm⟩)
      have : setL (p :: r) d o' = p :: setL r d o' := by
        show (if p.1 = d then (d, o') else p) :: setL r d o' = _
        rw [if_neg hne]
      rw [this]
      exact Upd.tail hne (upd_of D' h1)
theorem news_setL_dd {h₀ h h' : Heap} {L d : Addr} {led : Led} {o' : Obj} (N : News h₀ L h led) (N' : News h₀ L h' (setL (dd led) d o')) : News h₀ L h' (setL led d o') := by
  refine news_sub N' ?_
  rintro ⟨a, x⟩ hp
  obtain ⟨q, hq, e⟩ := List.mem_map.mp hp
  exact List.mem_map.mpr ⟨q, (mem_dd N q).mpr hq, e⟩

theorem fresh_P02_fn : True := by
  w_top off
  trivial
/-- what a call of the text's own def does: it comes back, and `post` tells of what it hands back and of the ledger -/
noncomputable def Fn (w : World) (D U : Nat) (f : Addr) (args : Args) (news : Led) (post : Value → Led → Prop) : Prop :=
  ∀ (loose : List Str) (mean : ExcName → Option Value) (mg mb : Str → Option Value) (gd : Option (List Code)) (cn : Str) (cs : Scope) (a : Addr) (ccd : Value) (cl : List (Str × Addr)) (outer : List Env) (A₀ : Around) (base h₀ : Heap) (L : Addr) (m : Str → Option Value) (s : Shared),
    Below A₀ base outer h₀ → Fr h₀ L s.heap m → (Mine.hd.heap_1 w.params).In h₀ → News h₀ L s.heap news → Top topProg loose mean mg mb h₀ → cs.kind = .function →
    codeAny (model PySem.Challenge.rw_op0160_01.row.prog w) (ktrTop D U gd cn cs L a ccd cl outer) (.call (.ref f) args)
      (fun r s' => match r with
        | .ok (.ret v) => ∃ h' tk' news', s' = { s with heap := h', toks := tk' } ∧ Fr h₀ L h' m ∧ News h₀ L h' news' ∧ post v news'
        | _ => False) s

section
variable {w : World} {D U : Nat} {f : Addr} {args : Args} {news : Led} {post : Value → Led → Prop}
variable {loose : List Str} {mean : ExcName → Option Value} {mg mb : Str → Option Value} {gd : Option (List Code)} {cn : Str} {cs : Scope} {a : Addr} {ccd : Value} {cl : List (Str × Addr)} {outer : List Env} {A A₀ : Around} {base h₀ : Heap} {L : Addr} {m : Str → Option Value} {s : Shared} {Q : Value → Shared → Prop} {E : Value → Shared → Prop}

theorem Ctx.Below.up {Γ : Ctx} {A A' : Around} (h : Γ.Below A) (hh : A.handled = A'.handled) (hd : A.depth ≤ A'.depth) (hf : A.frames = A'.frames) (hg : A.guards = A'.guards) (hu : A.units ≤ A'.units) : Γ.Below A' :=
  ⟨h.1.trans hh, Nat.le_trans h.2.1 hd, fun l hl => h.2.2.1 l (hf.trans hl), fun g hl => h.2.2.2.1 g (hg.trans hl), Nat.le_trans h.2.2.2.2 hu⟩

theorem Fn.code {R : Result → Shared → Prop} (C : Fn w D U f args news post) (B : Below A₀ base outer h₀) (F : Fr h₀ L s.heap m) (X : (Mine.hd.heap_1 w.params).In h₀) (N : News h₀ L s.heap news) (T : Top topProg loose mean mg mb h₀) (hk : cs.kind = .function)
    (hh : A.handled = none) (hd : A.depth ≤ D) (hf : A.frames = some (envX cn cs L a ccd cl :: outer)) (hu : A.units ≤ U)
    (ret : ∀ v h' tk' news', Fr h₀ L h' m → News h₀ L h' news' → post v news' → R (.ok (.ret v)) { s with heap := h', toks := tk' }) :
    codeAny (model PySem.Challenge.rw_op0160_01.row.prog w) A (.call (.ref f) args) R s := by
  refine codeAny_mono (R := fun r s' => match r with
        | .ok (.ret v) => ∃ h' tk' news', s' = { s with heap := h', toks := tk' } ∧ Fr h₀ L h' m ∧ News h₀ L h' news' ∧ post v news'
        | _ => False) ?_ ?_
  · intro Γ p hc hΓ
    exact C loose mean mg mb A.guards cn cs a ccd cl outer A₀ base h₀ L m s B F X N T hk Γ p hc (Ctx.Below.up hΓ hh hd hf rfl hu)
  · intro r s' h
    match r, h with
    | .ok (.ret v), h =>
      refine hideG fun G9 hG9 => ?_
      obtain ⟨h', tk', news', rfl, F', N', hp⟩ := h
      refine hG9.out ?_
      clear hG9 G9
      exact ret v h' tk' news' F' N' hp

theorem Fn.use {pos : List Value} {kw : List (Str × Value)} (C : Fn w D U f ⟨pos, kw⟩ news post) (hf : A.frames = some (envX cn cs L a ccd cl :: outer)) (B : Below A₀ base outer h₀) (F : Fr h₀ L s.heap m) (X : (Mine.hd.heap_1 w.params).In h₀) (N : News h₀ L s.heap news) (T : Top topProg loose mean mg mb h₀) (hk : cs.kind = .function)
    (hh : A.handled = none) (hd : A.depth ≤ D) (hu : A.units ≤ U)
    (ret : ∀ v h' tk' news', Fr h₀ L h' m → News h₀ L h' news' → post v news' → Q v { s with heap := h', toks := tk' }) :
    wpAny (model PySem.Challenge.rw_op0160_01.row.prog w) A (call (.ref f) pos kw) Q E s :=
  wpAny_call (C.code B F X N T hk hh hd hf hu ret)

theorem Fn.mono {post' : Value → Led → Prop} (C : Fn w D U f args news post) (h : ∀ v l, post v l → post' v l) : Fn w D U f args news post' := by
  intro loose mean mg mb gd cn cs a ccd cl outer A₀ base h₀ L m s B F X N T hk
  refine codeAny_mono (C loose mean mg mb gd cn cs a ccd cl outer A₀ base h₀ L m s B F X N T hk) ?_
  intro r s' x
  match r, x with
  | .ok (.ret v), x =>
    refine hideG fun G9 hG9 => ?_
    obtain ⟨h', tk', news', e, F', N', hp⟩ := x
    refine hG9.out ?_
    clear hG9 G9
    exact ⟨h', tk', news', e, F', N', h v _ hp⟩

/-- how a body ends -/
inductive Ends (g : Heap) (L' : Addr) (s : Shared) (post : Value → Led → Prop) (fl : Flow) (s' : Shared) : Prop
  | mk (h' : Heap) (tk' : Nat) (m' : Str → Option Value) (news' : Led) (e1 : s' = { s with heap := h', toks := tk' }) (e2 : Fr g L' h' m') (e3 : News g L' h' news') (e4 : post (match fl with | .ret v => v | _ => .none) news')

theorem Fn.intro {name qual : Str} {params : Arguments} {body : List Stmt} {scope : Scope} {dV kV doc pm cdv ct oc : Value} {an od : Option Addr} {osl : Array (Option Value)} {binds : List (Str × Value)}
    (ho : (Mine.hd.heap_1 w.params).lookup f = some ⟨oc, od, .func (fnOf name qual params body scope dV kV doc pm an cdv ct), osl⟩) (hcd : codeIn (Mine.hd.heap_1 w.params) cdv qual = true) (hroom : Nat.blt D 1000 = true)
    (hbind : ∀ s : Shared, (Mine.hd.heap_1 w.params).In s.heap → BindsTo s (fnOf name qual params body scope dV kV doc pm an cdv ct) args binds) (hloc : ∀ y ∈ binds, scope.names.lookup y.1 = some .local)
    (hcell : ∀ x ∈ scope.names, x.2 ≠ .cell) (hco : scope.isCoroutine = false) (hgen : scope.isGenerator = false) (hk : scope.kind = .function)
    (h : ∀ (loose : List Str) (mean : ExcName → Option Value) (mg mb : Str → Option Value) (gd : Option (List Code)) (env₀ : Env) (outer : List Env) (base g : Heap) (L : Addr) (h₁ : Heap) (s : Shared) (tk : Nat),
      Below { handled := none, depth := D, frames := some (env₀ :: outer), guards := gd, units := U } base (env₀ :: outer) g → Fr g L h₁ (fun y => binds.reverse.lookup y) → (Mine.hd.heap_1 w.params).In g → News g L h₁ news → Top topProg loose mean mg mb g → (∀ p ∈ news, p.1 < L) →
      wpAny (model PySem.Challenge.rw_op0160_01.row.prog w) (AR none (D + 1) (U + 3) (envOf qual scope L f cdv) gd env₀ outer) (execs body (envOf qual scope L f cdv)) (Ends g L s post) (fun _ _ => False) { s with heap := h₁, toks := tk }) :
    Fn w D U f args news post := by
  intro loose mean mg mb gd cn cs a ccd cl outer A₀ base h₀ L m s B F X N T hk'
  refine callX_plain (cl := []) B F N T.nolimit rfl rfl hk' ((X.keeps F.keep) _ _ ho) rfl (codeRec_of (X.keeps F.keep) hcd) (Nat.le_of_ble_eq_true hroom) (hbind s (X.keeps F.keep)) hloc ?_ hcell hco hgen hk
  intro g L' h₁ FG F' N' B' st hlt
  refine wpAny_mono (h loose mean mg mb gd _ outer base g L' h₁ s _ B' F' (X.keeps st) N' (T.keeps st) hlt) ?_ fun _ _ x => x.elim
  rintro fl s' hp9z
  refine hideG fun G9 hG9 => ?_
  obtain ⟨h', tk', m', news', rfl, F2, N2, hp⟩ := hp9z
  refine hG9.out ?_
  clear hG9 G9
  refine ⟨L', m', news', F2, N2, fun F3 N3 => ⟨h', tk', news', rfl, F3, N3, ?_⟩⟩
  cases fl <;> exact hp

theorem Fn.introV {name qual : Str} {params : Arguments} {body : List Stmt} {scope : Scope} {dV kV doc pm cdv ct oc : Value} {an od : Option Addr} {osl : Array (Option Value)} {vs : List Value} {g₁ : Addr → Option (List (Str × Value))} {binds : Addr → List (Str × Value)}
    (ho : (Mine.hd.heap_1 w.params).lookup f = some ⟨oc, od, .func (fnOf name qual params body scope dV kV doc pm an cdv ct), osl⟩) (hcd : codeIn (Mine.hd.heap_1 w.params) cdv qual = true) (hroom : Nat.blt D 1000 = true)
    (hv : args.pos.drop (params.posonlyargs.length + params.args.length) = vs)
    (hp : peek1 (Mine.hd.heap_1 w.params) ⟨PySem.Challenge.rw_op0160_01.row.prog, w.params⟩ (bindArgs (fnOf name qual params body scope dV kV doc pm an cdv ct) args) = some (({ cls := .type "tuple", data := .seq vs.toArray } : Obj), g₁))
    (hg : ∀ D, g₁ D = some (binds D)) (hloc : ∀ D, ∀ y ∈ binds D, scope.names.lookup y.1 = some .local)
    (hcell : ∀ x ∈ scope.names, x.2 ≠ .cell) (hco : scope.isCoroutine = false) (hgen : scope.isGenerator = false) (hk : scope.kind = .function)
    (h : ∀ (loose : List Str) (mean : ExcName → Option Value) (mg mb : Str → Option Value) (gd : Option (List Code)) (env₀ : Env) (outer : List Env) (base g : Heap) (V L : Addr) (h₁ : Heap) (s : Shared) (tk : Nat),
      Below { handled := none, depth := D, frames := some (env₀ :: outer), guards := gd, units := U } base (env₀ :: outer) g → Fr g L h₁ (fun y => (binds V).reverse.lookup y) → (Mine.hd.heap_1 w.params).In g → News g L h₁ ((V, ({ cls := .type "tuple", data := .seq vs.toArray } : Obj)) :: news) → Top topProg loose mean mg mb g → (∀ p ∈ news, p.1 < V) →
      wpAny (model PySem.Challenge.rw_op0160_01.row.prog w) (AR none (D + 1) (U + 3) (envOf qual scope L f cdv) gd env₀ outer) (execs body (envOf qual scope L f cdv)) (Ends g L s post) (fun _ _ => False) { s with heap := h₁, toks := tk }) :
    Fn w D U f args news post := by
  intro loose mean mg mb gd cn cs a ccd cl outer A₀ base h₀ L m s B F X N T hk'
  refine kp_rest B F X N T rfl rfl hk' ho hcd (Nat.le_of_ble_eq_true hroom) hv hp hg hloc ?_ hco hgen hk hcell
  intro V g L' h₁ hlt FG F' N' B' X' T'
  refine wpAny_mono (h loose mean mg mb gd _ outer base g V L' h₁ s _ B' F' X' N' T' hlt) ?_ fun _ _ x => x.elim
  rintro fl s' hp9z
  refine hideG fun G9 hG9 => ?_
  obtain ⟨h', tk', m', news', rfl, F2, N2, hp⟩ := hp9z
  refine hG9.out ?_
  clear hG9 G9
  refine ⟨L', m', news', F2, N2, fun F3 N3 => ⟨h', tk', news', rfl, F3, N3, ?_⟩⟩
  cases fl <;> exact hp
end

theorem fresh_P03_sep : True := by
  w_top off
  trivial
local macro_rules | `(tactic| k_room) => `(tactic| exact Nat.le_of_ble_eq_true rfl)
theorem sep_fn (w : World) (κ : Bool) (t : List Nat) (k : Tok) (news : Led) : Fn w 600 4000 148 ⟨[txt κ t k], []⟩ news (fun r l => l = news ∧ ∃ k', r = txt κ [47] k') := by
  unfold Fn; k_fill; show Fn _ _ _ _ _ _ _
  refine Fn.intro (binds := [(Str.ofString "path", txt κ t k)]) (by k_is) (by k_is) rfl (fun s _ => BindsTo.of_eq rfl) (locs rfl) (by decide) rfl rfl rfl ?_
  intro loose mean mg mb gd env₀ outer base g L h₁ s tk B F X N T hlt
  cases κ
  · unfold txt at *
    k_steps
    exact ⟨_, _, _, _, rfl, F, N, rfl, _, rfl⟩
  · unfold txt at *
    k_steps
    exact ⟨_, _, _, _, rfl, F, N, rfl, _, rfl⟩

theorem fresh_P04_loop : True := by
  w_top off
  trivial
inductive TurnE (h₀ : Heap) (L I : Addr) (oI : Obj) (J : (Str → Option Value) → Led → Prop) (s₁ s₂ : Shared) : Prop
  | mk (h' : Heap) (tk' : Nat) (m' : Str → Option Value) (led' : Led) (e1 : s₂ = { s₁ with heap := h', toks := tk' }) (e2 : Fr h₀ L h' m') (e3 : News h₀ L h' led') (e4 : (I, oI) ∈ led') (e5 : J m' led')
/-- how a turn of a loop ends -/
noncomputable def Turn (h₀ : Heap) (L I : Addr) (oI : Obj) (J : (Str → Option Value) → Led → Prop) (s₁ : Shared) (Q : Flow → Shared → Prop) (f : Flow) (s₂ : Shared) : Prop :=
  match f with
  | .ret v => Q (.ret v) s₂
  | .brk => Q .next s₂
  | _ => TurnE h₀ L I oI J s₁ s₂

section
variable {prog : Program} {w : World} {A : Around} {E : Value → Shared → Prop} {s : Shared} {env : Env} {h₀ : Heap} {x : Str} {body : List Stmt} {Q : Flow → Shared → Prop}
theorem loop_walk {I : Addr} {fp : List Addr} {n : Nat} {P : Nat → Value → Prop} {St : Nat → Heap → Prop} {C : String} {m₀ : Str → Option Value} {led₀ : Led} (J : Nat → (Str → Option Value) → Led → Prop)
    (W : Walks prog w A I fp [I] n P St) (hIf : I ∈ fp) (hLf : env.locals ∉ fp) (hI0 : h₀.get? I = none) (hIn : ∀ p ∈ led₀, p.1 ≠ I) (hst : St 0 s.heap)
    (hcls : ∀ i h, St i h → ∃ oI, h.get? I = some oI ∧ oI.cls = .type C)
    (hfp : ∀ b ∈ fp, b = I ∨ (∃ o, h₀.get? b = some o) ∨ ∃ o, o.cls ≠ .type C ∧ ∀ i m l, J i m l → (b, o) ∈ l)
    (F : Fr h₀ env.locals s.heap m₀) (N : News h₀ env.locals s.heap led₀) (hj : J 0 m₀ led₀)
    (hJ : ∀ i m l l', (∀ p ∈ l, (p.2.cls ≠ .type C ∨ p ∈ led₀) → p ∈ l') → J i m l → J i m l')
    (turn : ∀ i v m₁ led h tk oI, i < n → P i v → J i m₁ led → (I, oI) ∈ led → oI.cls = .type C → Fr h₀ env.locals h (fun y => if y = x then some v else m₁ y) → News h₀ env.locals h led →
      wpAny (model prog w) A (execs body env) (Turn h₀ env.locals I oI (J (i + 1)) { s with heap := h, toks := tk } Q) E { s with heap := h, toks := tk })
    (done : ∀ m₁ led h tk, J n m₁ led → Fr h₀ env.locals h m₁ → News h₀ env.locals h led → Q .next { s with heap := h, toks := tk }) :
    LoopAtV prog w A h₀ env x body Q E (.ref I) s := by
  refine ⟨I, fp, [I], n, P, St, m₀, led₀, fun i m l => J i m l ∧ ∀ p ∈ l, p.1 = I → False, rfl, W, hLf, fun b hb => by rw [List.mem_singleton.mp hb]; exact hI0, fun p hp hq => hIn p hp (List.mem_singleton.mp hq), hst, F, N, ⟨hj, hIn⟩, ?_, ?_⟩
  · rintro i v m₁ news₁ s₁ own ⟨h, tk, rfl⟩ hi hP ⟨hJ1, hoff⟩ hwr hown hget hall hSt F₁ N₁
    obtain ⟨oI, hoI, hoC⟩ := hcls _ _ hSt
    have hIo : (I, oI) ∈ own := hall I hIf hI0 oI hoI
    have hJ2 : J i m₁ (own ++ news₁) := hJ i m₁ _ _ (fun p hp _ => List.mem_append_right _ hp) hJ1
    refine wpAny_mono (turn i v m₁ (own ++ news₁) h tk oI hi hP hJ2 (List.mem_append_left _ hIo) hoC F₁ N₁) ?_ fun _ _ e => e
    intro f s₂ hf
    have fin : TurnE h₀ env.locals I oI (J (i + 1)) { s with heap := h, toks := tk } s₂ →
        LoopStepU h₀ env.locals [I] own (fun m l => J (i + 1) m l ∧ ∀ p ∈ l, p.1 = I → False) { s with heap := h, toks := tk } .next s₂ := by
      rintro hp9z
      refine hideG fun G9 hG9 => ?_
      obtain ⟨h', tk', m', led', rfl, F', N', hI', hJ'⟩ := hp9z
      refine hG9.out ?_
      clear hG9 G9
      have hmem : ∀ p ∈ led'.filter (fun p => decide (p.1 ≠ I)), p ∈ led' ∧ p.1 ≠ I := fun p hp => ⟨(List.mem_filter.mp hp).1, of_decide_eq_true (List.mem_filter.mp hp).2⟩
      have hJf : J (i + 1) m' (led'.filter (fun p => decide (p.1 ≠ I))) := by
        refine hJ _ _ _ _ (fun p hp hc => List.mem_filter.mpr ⟨hp, decide_eq_true fun e => ?_⟩) hJ'
        rcases hc with hc | hc
        · obtain ⟨a, o⟩ := p
          have e : a = I := e
          subst e
          exact hc ((congrArg Obj.cls (news_uniq N' hp hI')).trans hoC)
        · exact hIn p hc e
      refine ⟨rfl, h', tk', m', led'.filter (fun p => decide (p.1 ≠ I)), rfl, F', ?_, fun p hp hq => (hmem p hp).2 (List.mem_singleton.mp hq), hJf, fun p hp e => (hmem p hp).2 e⟩
      intro p hp
      rcases List.mem_append.mp hp with hq | hq
      · have hb := hown p hq
        have hn := (N₁ p (List.mem_append_left _ hq)).2.2
        rcases hfp _ hb with e | ⟨o, e⟩ | ⟨o, _, ho⟩
        · obtain ⟨a, o⟩ := p
          have e : a = I := e
          subst e
          have hg := hget _ hq
          have : o = oI := Option.some.inj (hg.symm.trans hoI)
          subst this
          exact N' _ hI'
        · rw [e] at hn; cases hn
        · have h1 := ho _ _ _ hJ2
          obtain ⟨a, o'⟩ := p
          have : o' = o := news_uniq N₁ (List.mem_append_left _ hq) h1
          subst this
          exact N' _ (ho _ _ _ hJ')
      · exact N' p (hmem p hq).1
    cases f with
    | ret v => exact .ret hf
    | brk => exact .brk hf
    | next => exact .next (fin hf)
    | cont => exact .cont (fin hf)
  · rintro h' tk m' news' F' N' _ ⟨hJ', _⟩
    exact done m' news' h' tk hJ' F' N'

theorem for_list {L l : Addr} (hL : env.locals = L) {vs : List Value} {k : Nat} {m₀ : Str → Option Value} {led₀ : Led} (J : Nat → (Str → Option Value) → Led → Prop) (hh : A.handled = none)
    (hkeep : ∀ i m led, J i m led → (l, listOf vs.toArray k) ∈ led) (F : Fr h₀ L s.heap m₀) (N : News h₀ L s.heap led₀) (hj : J 0 m₀ led₀)
    (hJ : ∀ i m l l', (∀ p ∈ l, (p.2.cls ≠ .type "list_iterator" ∨ p ∈ led₀) → p ∈ l') → J i m l → J i m l')
    (turn : ∀ i v m₁ led h tk I oI, vs[i]? = some v → J i m₁ led → (I, oI) ∈ led → oI.cls = .type "list_iterator" → Fr h₀ L h (fun y => if y = x then some v else m₁ y) → News h₀ L h led →
      wpAny (model prog w) A (execs body env) (Turn h₀ L I oI (J (i + 1)) { s with heap := h, toks := tk } Q) E { s with heap := h, toks := tk })
    (done : ∀ m₁ led h tk, J vs.length m₁ led → Fr h₀ L h m₁ → News h₀ L h led → Q .next { s with heap := h, toks := tk }) :
    wpAny (model prog w) A (pyIter (.ref l)) (fun it s₂ => LoopAtV prog w A h₀ env x body Q E it s₂) E s := by
  subst hL
  have hm := hkeep _ _ _ hj
  have hls : s.heap.IsList l vs.toArray := ⟨_, (N _ hm).1, rfl, k, rfl⟩
  refine wpAny_pyIter_list hls ?_
  have hlt : l < s.heap.objs.size := Heap.lt_size (N _ hm).1
  have W := Walks.list (prog := prog) (w := w) hh s.heap.objs.size l (Nat.ne_of_lt hlt) vs.toArray
  rw [List.size_toArray] at W
  refine loop_walk (C := "list_iterator") (led₀ := led₀) J W (List.mem_cons_self ..) ?_ (next_is_new F) (fun p hp => Nat.ne_of_lt (Heap.lt_size (N p hp).1)) ⟨⟨_, Heap.get?_push_size _ rfl, rfl, rfl⟩, hls.at fun o e => Heap.get?_push_of_some _ e⟩ ?_ ?_ (F.push _) (fun p hp => ⟨Heap.get?_push_of_some _ (N p hp).1, (N p hp).2⟩) hj hJ ?_ ?_
  · intro hq
    rcases List.mem_cons.mp hq with e | e
    · exact absurd F.ns.lt (e ▸ Nat.lt_irrefl _)
    · exact (N _ hm).2.1 (List.mem_singleton.mp e).symm
  · rintro i h hp9z
    refine hideG fun G9 hG9 => ?_
    obtain ⟨⟨o, ho, hc, _⟩, _⟩ := hp9z
    refine hG9.out ?_
    clear hG9 G9
    exact ⟨o, ho, hc⟩
  · intro b hb
    rcases List.mem_cons.mp hb with e | e
    · exact .inl e
    · refine .inr (.inr ⟨listOf vs.toArray k, (by show Value.type "list" ≠ Value.type "list_iterator"; decide), fun i m led hJ' => ?_⟩)
      rw [List.mem_singleton.mp e]; exact hkeep _ _ _ hJ'
  · intro i v m₁ led h tk oI hi hP hJ' hI hc F' N'
    exact turn i v m₁ led h tk _ oI (by simpa using hP) hJ' hI hc F' N'
  · intro m₁ led h tk hJ' F' N'
    exact done m₁ led h tk hJ' F' N'
theorem for_inv_of {L : Addr} {m : Str → Option Value} {x : Str} {px pos : Pos} {iter : Expr} {body : List Stmt} (F : Fr h₀ L s.heap m) (hx : env.kindOf x = some .local)
    (hp : (env.scope.kind == .class || (env.scope.kind == .module && env.locals != env.globals)) = false)
    (h : wpAny (model prog w) A (eval iter env) (fun xv s₁ => wpAny (model prog w) A (pyIter xv) (fun it s₂ => LoopAtV prog w A h₀ env x body Q (fun _ _ => False) it s₂) (fun _ _ => False) s₁) (fun _ _ => False) s)
    (hs : ∀ x, foldedSetIterable iter env x = pure x) :
    wpAny (model prog w) A (exec (.For (.Name x px) iter body [] pos) env) Q (fun _ _ => False) s := For_invV h₀ hx hp h hs PassesOwn.never
end

theorem fresh_P05_text : True := by
  w_top off
  trivial
/-- every sign below 128 -/
noncomputable def Asc (t : List Nat) : Prop := ∀ c ∈ t, c < 128
theorem Asc.app {t u : List Nat} (h : Asc t) (h' : Asc u) : Asc (t ++ u) := fun c hc => (List.mem_append.mp hc).elim (h c) (h' c)
theorem Asc.take {t : List Nat} (h : Asc t) (n : Nat) : Asc (t.take n) := fun c hc => h c (List.mem_of_mem_take hc)
theorem Asc.drop {t : List Nat} (h : Asc t) (n : Nat) : Asc (t.drop n) := fun c hc => h c (List.mem_of_mem_drop hc)
theorem asc_slash : Asc [47] := by unfold Asc; decide
theorem u8_inj {t u : List Nat} (ht : Asc t) (hu : Asc u) : t.map UInt8.ofNat = u.map UInt8.ofNat ↔ t = u := by
  constructor
  · intro e
    induction t generalizing u with
    | nil => cases u with
      | nil => rfl
      | cons c u => cases e
    | cons c t ih => cases u with
      | nil => cases e
      | cons d u =>
        simp only [List.map_cons, List.cons.injEq] at e
        have h1 : c = d := by
          have hc := ht c (.head _)
          have hd := hu d (.head _)
          have q := congrArg UInt8.toNat e.1
          rw [UInt8.toNat_ofNat', UInt8.toNat_ofNat', Nat.mod_eq_of_lt (by omega), Nat.mod_eq_of_lt (by omega)] at q
          exact q
        rw [h1, ih (fun x hx => ht x (.tail _ hx)) (fun x hx => hu x (.tail _ hx)) e.2]
  · intro e; rw [e]

section
variable {prog : Program} {w : World} {A : Around} {E : Value → Shared → Prop} {s : Shared} {κ : Bool} {t u : List Nat} {a b : Tok}
theorem str_app (t u : List Nat) : (⟨t.toArray⟩ : Str) ++ (⟨u.toArray⟩ : Str) = ⟨(t ++ u).toArray⟩ := by
  apply Str.ext'
  rw [Str.cps_append]
  simp
theorem txt_add {Q : Value → Shared → Prop} (hsz : t.length + u.length ≤ 16777216) (h : ∀ k tk, Q (txt κ (t ++ u) k) { s with toks := tk }) : wpAny (model prog w) A (binaryOp .Add (txt κ t a) (txt κ u b)) Q E s := by
  cases κ
  · refine PyProof.Rows.add_str (fun k tk => ?_) ?_
    · rw [str_app]; exact h k tk
    · show t.toArray.size + u.toArray.size ≤ sizeLine
      rw [List.size_toArray, List.size_toArray, sizeLine_eq]; exact hsz
  · refine KBy.add_bytes ?_ fun k tk => ?_
    · simpa using hsz
    · have e : (t.map UInt8.ofNat).toArray ++ (u.map UInt8.ofNat).toArray = ((t ++ u).map UInt8.ofNat).toArray := by simp
      rw [e]; exact h k tk
theorem txt_len {Q : Value → Shared → Prop} (hsz : t.length ≤ 16777216) (h : ∀ k tk, Q (.int t.length k) { s with toks := tk }) : wpAny (model prog w) A (call (.builtin "len") [txt κ t a]) Q E s := by
  cases κ
  · refine PyProof.Rows.len_str ?_ (h _ _)
    show ¬ ((t.toArray.size : Nat) : Int) ≥ 2 ^ 63
    rw [List.size_toArray]; omega
  · have e : ((t.map UInt8.ofNat).toArray.size) = t.length := by simp
    refine len_bytes (by rw [e]; omega) ?_
    rw [e]; exact h _ _
theorem txt_eq {Q : Value → Shared → Prop} (ht : Asc t) (hu : Asc u) (h : Q (.bool (decide (t = u))) s) : wpAny (model prog w) A (compareOp .Eq (txt κ t a) (txt κ u b)) Q E s := by
  cases κ
  · refine PyProof.Rows.eq_str ?_
    have e : ((⟨t.toArray⟩ : Str) == ⟨u.toArray⟩) = decide (t = u) := by
      rw [Bool.eq_iff_iff, beq_iff_eq, decide_eq_true_iff]
      constructor
      · intro q; have := congrArg (fun x : Str => x.cps.toList) q; simpa using this
      · intro q; rw [q]
    rw [e]; exact h
  · refine eq_bytes ?_
    have e : ((t.map UInt8.ofNat).toArray.toList == (u.map UInt8.ofNat).toArray.toList) = decide (t = u) := by
      rw [Bool.eq_iff_iff, beq_iff_eq, decide_eq_true_iff]
      simpa using u8_inj ht hu
    rw [e]; exact h
theorem txt_ne {Q : Value → Shared → Prop} (ht : Asc t) (hu : Asc u) (h : Q (.bool (decide (t ≠ u))) s) : wpAny (model prog w) A (compareOp .NotEq (txt κ t a) (txt κ u b)) Q E s := by
  cases κ
  · refine PyProof.Rows.ne_str ?_
    have e : ((⟨t.toArray⟩ : Str) != ⟨u.toArray⟩) = decide (t ≠ u) := by
      rw [Bool.eq_iff_iff, bne_iff_ne, decide_eq_true_iff]
      apply not_congr
      constructor
      · intro q; have := congrArg (fun x : Str => x.cps.toList) q; simpa using this
      · intro q; rw [q]
    rw [e]; exact h
  · refine ne_bytes ?_
    have e : ((t.map UInt8.ofNat).toArray.toList != (u.map UInt8.ofNat).toArray.toList) = decide (t ≠ u) := by
      rw [Bool.eq_iff_iff, bne_iff_ne, decide_eq_true_iff]
      exact not_congr (by simpa using u8_inj ht hu)
    rw [e]; exact h
end

/-- the values are these texts -/
inductive TxtsAre (κ : Bool) : List Value → List (List Nat) → Prop
  | nil : TxtsAre κ [] []
  | cons {t : List Nat} {k : Tok} {vs : List Value} {ts : List (List Nat)} : TxtsAre κ vs ts → TxtsAre κ (txt κ t k :: vs) (t :: ts)
theorem TxtsAre.length {κ : Bool} {vs : List Value} {ts : List (List Nat)} (h : TxtsAre κ vs ts) : vs.length = ts.length := by
  induction h with
  | nil => rfl
  | cons _ ih => simp [ih]
theorem TxtsAre.get {κ : Bool} {vs : List Value} {ts : List (List Nat)} (h : TxtsAre κ vs ts) : ∀ {i : Nat} {v : Value}, vs[i]? = some v → ∃ t k, ts[i]? = some t ∧ v = txt κ t k := by
  induction h with
  | nil => intro i v e; simp at e
  | @cons t k vs ts _ ih =>
    intro i v e
    cases i with
    | zero => simp at e; exact ⟨t, k, rfl, e.symm⟩
    | succ i => simpa using ih (by simpa using e)
theorem TxtsAre.at {κ : Bool} {vs : List Value} {ts : List (List Nat)} (h : TxtsAre κ vs ts) : ∀ {i : Nat} {t : List Nat}, ts[i]? = some t → ∃ k, vs[i]? = some (txt κ t k) := by
  induction h with
  | nil => intro i v e; simp at e
  | @cons t k vs ts _ ih =>
    intro i t' e
    cases i with
    | zero => simp at e; exact ⟨k, by simp [e]⟩
    | succ i => simpa using ih (by simpa using e)
theorem TxtsAre.app {κ : Bool} {vs us : List Value} {ts ss : List (List Nat)} (h : TxtsAre κ vs ts) (h' : TxtsAre κ us ss) : TxtsAre κ (vs ++ us) (ts ++ ss) := by
  induction h with
  | nil => exact h'
  | cons _ ih => exact .cons ih
theorem TxtsAre.take {κ : Bool} {vs : List Value} {ts : List (List Nat)} (h : TxtsAre κ vs ts) : ∀ n, TxtsAre κ (vs.take n) (ts.take n) := by
  induction h with
  | nil => intro n; simp; exact .nil
  | cons _ ih => intro n; cases n with
    | zero => exact .nil
    | succ n => exact .cons (ih n)
theorem TxtsAre.drop {κ : Bool} {vs : List Value} {ts : List (List Nat)} (h : TxtsAre κ vs ts) : ∀ n, TxtsAre κ (vs.drop n) (ts.drop n) := by
  induction h with
  | nil => intro n; simp; exact .nil
  | cons h ih => intro n; cases n with
    | zero => exact .cons h
    | succ n => exact ih n

theorem fresh_P06_path : True := by
  w_top off
  trivial
theorem words_all : True := by
  k_with "go" => repeat' ((fail_if_success (with_reducible show wpAny _ _ (exec (Stmt.While _ _ _ _) _) _ _ _)); (fail_if_success (with_reducible show wpAny _ _ (pyIter _) _ _ _)); first | (k_unfold; (try dsimp only)) | ((with_reducible show wpAny _ _ (call (Value.ref _) _ _) _ _ _); k_extra "callfn") | ((fail_if_success (with_reducible show wpAny _ _ (call (Value.ref _) _ _) _ _ _)); first | walk1 | (dsimp only; walk1)) | fail "no step")
  k_with "go1" => ((fail_if_success (with_reducible show wpAny _ _ (exec (Stmt.While _ _ _ _) _) _ _ _)); (fail_if_success (with_reducible show wpAny _ _ (pyIter _) _ _ _)); first | (k_unfold; (try dsimp only)) | ((with_reducible show wpAny _ _ (call (Value.ref _) _ _) _ _ _); k_extra "callfn") | ((fail_if_success (with_reducible show wpAny _ _ (call (Value.ref _) _ _) _ _ _)); first | walk1 | (dsimp only; walk1)) | fail "no step")
  k_with "callfn" => ((with_reducible show wpAny _ _ (call (Value.ref 148) _ _) _ _ _); k_dflt (refine' Fn.use (sep_fn _ _ _ _ _) ?kf ?kb ?kF ?kx ?kn ?kt ?kk ?kh ?kd ?ku ?_; (case kf => exact rfl); (case kb => k_asm); (case kF => k_asm); (case kx => k_asm); (case kn => k_asm); (case kt => k_asm); (case kk => exact rfl); (case kh => exact rfl); (case kd => exact Nat.le_of_ble_eq_true rfl); (case ku => exact Nat.le_of_ble_eq_true rfl)); (intro v9 h9 tk9 led9 F9 N9 hp9); (obtain ⟨e9, k9, e8⟩ := hp9); subst e9; subst e8; (try k_sweep))
  trivial
theorem lw0_all : True := by
  k_with "L eval Name" => (k_here; (with_reducible show wpAny _ _ (eval _ (envOf _ _ _ _ _)) _ _ _); k_dflt (refine' ld ?k1 ?k2 ?_; (case k1 => k_asm); (case k2 => first | exact rfl | assumption); k_whole))
  trivial
theorem lw1_all : True := by
  k_with "L binaryOp Add" => ((with_reducible show wpAny _ _ (binaryOp Operator.Add (txt _ _ _) (txt _ _ _)) _ _ _); refine txt_add ?k1 ?_; (case k1 => first | omega | ((simp only [List.length_append, List.length_cons, List.length_nil]); omega)); intro _ _)
  trivial
theorem lw2_all : True := by
  k_with "L exec For" => (k_here; k_dflt (refine' for_inv_of ?k1 ?k2 ?k3 ?_ ?k4; (case k1 => k_asm); (case k2 => rfl); (case k3 => rfl); (case k4 => exact fun _ => rfl); k_whole))
  trivial
noncomputable def pth (root : List Nat) (ns : List (List Nat)) : List Nat := ns.foldl (fun p n => p ++ n ++ [47]) root
theorem pth_snoc (root : List Nat) (ns : List (List Nat)) (n : List Nat) : pth root (ns ++ [n]) = pth root ns ++ n ++ [47] := by simp [pth]
theorem pth_le (root : List Nat) (ns : List (List Nat)) (i : Nat) (n : List Nat) (h : ns[i]? = some n) : (pth root (ns.take i)).length + n.length + 1 ≤ (pth root ns).length := by
  have mono : ∀ (l : List (List Nat)) (r : List Nat), r.length ≤ (pth r l).length := by
    intro l
    induction l with
    | nil => intro r; exact Nat.le_refl _
    | cons c l ih =>
      intro r
      have := ih (r ++ c ++ [47])
      show r.length ≤ (pth (r ++ c ++ [47]) l).length
      simp only [List.length_append] at this
      omega
  have e : ns = ns.take i ++ n :: ns.drop (i + 1) := by
    obtain ⟨hl, hg⟩ := List.getElem?_eq_some_iff.mp h
    rw [← hg, List.getElem_cons_drop]; exact (List.take_append_drop i ns).symm
  have q : pth root ns = pth (pth root (ns.take i) ++ n ++ [47]) (ns.drop (i + 1)) := by
    conv => lhs; rw [e]
    simp [pth]
  have := mono (ns.drop (i + 1)) (pth root (ns.take i) ++ n ++ [47])
  rw [← q] at this
  simp only [List.length_append, List.length_cons, List.length_nil] at this
  omega
theorem take_snoc {α : Type} {l : List α} {i : Nat} {a : α} (h : l[i]? = some a) : l.take (i + 1) = l.take i ++ [a] := by rw [List.take_add_one, h]; rfl

theorem path_fn (w : World) (κ : Bool) (root : List Nat) (k : Tok) (l : Addr) (vs : List Value) (n : Nat) (ns : List (List Nat)) (news : Led) (hl : (l, listOf vs.toArray n) ∈ news) (hv : TxtsAre κ vs ns) (hsz : (pth root ns).length ≤ 1000) :
    Fn w 590 3900 182 ⟨[txt κ root k, .ref l], []⟩ news (fun r led => led = news ∧ ∃ k', r = txt κ (pth root ns) k') := by
  unfold Fn; k_fill; show Fn _ _ _ _ _ _ _
  refine Fn.intro (binds := [(Str.ofString "root", txt κ root k), (Str.ofString "row", .ref l)]) (by k_is) (by k_is) rfl (fun s _ => BindsTo.of_eq rfl) (locs rfl) (by decide) rfl rfl rfl ?_
  intro loose mean mg mb gd env₀ outer base g L h₁ s tk B F X N T hlt
  k_extra "go"
  rename_i h2 F2 N2
  refine for_list (L := L) rfl (vs := vs) (k := n) (J := fun i m led => (∀ p ∈ news, p ∈ led) ∧ ∃ k', m (Str.ofString "path") = some (txt κ (pth root (ns.take i)) k')) rfl (fun i m led hj => hj.1 _ hl) F2 N2 ⟨fun p hp => hp, k, rfl⟩
    (fun i m l l' hs hj => ⟨fun p hp => hs p (hj.1 p hp) (.inr hp), hj.2⟩) ?_ ?_
  · rintro i v m₁ led h tk I oI hi ⟨hsub, k', hp⟩ hI hoI F3 N3
    obtain ⟨t, kt, ht, rfl⟩ := hv.get hi
    have hle := pth_le root ns i t ht
    k_extra "go"
    exact ⟨_, _, _, _, rfl, by k_asm, by k_asm, hI, hsub, _, by rw [take_snoc ht, pth_snoc]; rfl⟩
  · rintro m₁ led h tk ⟨hsub, k', hp⟩ F3 N3
    rw [hv.length, List.take_length] at hp
    k_extra "go"
    exact ⟨_, _, _, _, rfl, by k_asm, news_sub (by k_asm) hsub, rfl, _, rfl⟩

theorem fresh_P07_find : True := by
  w_top off
  trivial
noncomputable def occAt (t u : List Nat) (i : Nat) : Bool := decide (i + u.length ≤ t.length) && decide ((t.drop i).take u.length = u)
noncomputable def findFrom (t u : List Nat) (lo : Nat) : Option Nat := (List.range' lo (t.length + 1 - lo)).find? (occAt t u)
theorem find_range'_some {p : Nat → Bool} : ∀ {n lo i : Nat}, (List.range' lo n).find? p = some i ↔ lo ≤ i ∧ i < lo + n ∧ p i = true ∧ ∀ k, lo ≤ k → k < i → p k = false
  | 0, lo, i => by simp; omega
  | n + 1, lo, i => by
    rw [List.range'_succ, List.find?_cons]
    cases h : p lo with
    | true =>
      constructor
      · intro e; cases e; exact ⟨Nat.le_refl _, by omega, h, fun k h1 h2 => by omega⟩
      · rintro ⟨h1, h2, h3, h4⟩
        rcases Nat.lt_or_ge lo i with q | q
        · have := h4 lo (Nat.le_refl _) q; rw [h] at this; cases this
        · exact congrArg some (Nat.le_antisymm h1 q)
    | false =>
      rw [find_range'_some]
      constructor
      · rintro ⟨h1, h2, h3, h4⟩
        refine ⟨by omega, by omega, h3, fun k q1 q2 => ?_⟩
        rcases Nat.lt_or_ge lo k with q | q
        · exact h4 k q q2
        · have : k = lo := by omega
          rw [this]; exact h
      · rintro ⟨h1, h2, h3, h4⟩
        have : lo ≠ i := by rintro rfl; rw [h] at h3; cases h3
        exact ⟨by omega, by omega, h3, fun k q1 q2 => h4 k (by omega) q2⟩
theorem findFrom_some {t u : List Nat} {lo i : Nat} : findFrom t u lo = some i ↔ lo ≤ i ∧ occAt t u i = true ∧ ∀ k, lo ≤ k → k < i → occAt t u k = false := by
  unfold findFrom
  rw [find_range'_some]
  constructor
  · rintro ⟨h1, _, h3, h4⟩; exact ⟨h1, h3, h4⟩
  · rintro ⟨h1, h3, h4⟩
    refine ⟨h1, ?_, h3, h4⟩
    have := (Bool.and_eq_true_iff.mp h3).1
    have := of_decide_eq_true this
    omega
theorem findFrom_none {t u : List Nat} {lo : Nat} : findFrom t u lo = none ↔ ∀ k, lo ≤ k → occAt t u k = false := by
  unfold findFrom
  rw [List.find?_eq_none]
  constructor
  · intro h k hk
    by_cases hl : k < lo + (t.length + 1 - lo)
    · have := h k (List.mem_range'_1.mpr ⟨hk, hl⟩); simpa using this
    · unfold occAt
      rw [decide_eq_false (by omega), Bool.false_and]
  · intro h k hk; rw [h k (List.mem_range'_1.mp hk).1]; exact Bool.false_ne_true

namespace FB
open PySem.Builtin PySem.W.FB
theorem slot_bytes_index : Slot "bytes" "index" "bytes.index" :=
  .of (owner := "bytes") (n := "index") (by rw [typeLookup_type, builtinLookup_eq_fast]; kernel_rfl) (by decide +kernel) (by decide +kernel) (by decide +kernel)
    (by first | exact .inl (by decide +kernel) | exact .inr (by decide +kernel)) (by rw [isSubtype_type]; kernel_rfl)
theorem type_bytes_index : typeOf (.builtin "bytes.index") = pure (.type "method_descriptor") := by show builtinType _ = _; rw [builtinType_eq_fast]; kernel_rfl
theorem entry_bytes_index : entryFor table "bytes.index" = some Builtin.«bytes.index» := entryFor_of_tree (by kernel_rfl)
theorem args_bytes_index_3 (a b c : Value) : argsOk "bytes.index" ⟨[a, b, c], []⟩ := by
  unfold argsOk; rw [signature?_of (id := "bytes.index") (n := ['x', 'e', 'd', 'n', 'i']) (o := ['s', 'e', 't', 'y', 'b']) (by kernel_rfl) owner_bytes]; kernel_rfl
end FB
/-- the built-in behind «index» -/
noncomputable def idxId (κ : Bool) : String := match κ with
  | false => "str.index"
  | true => "bytes.index"
section
open PySem.Builtin PySem.Builtin.Str
variable {prog : Program} {w : World} {A : Around} {E : Value → Shared → Prop} {s : Shared} {κ : Bool} {t u : List Nat} {a b c : Tok}
theorem txt_method {pl : Sem Bool} {Q : Value × List Value → Shared → Prop} (h : Q (.builtin (idxId κ), [txt κ t a]) s) : wpAny (model prog w) A (getMethod (txt κ t a) (Str.ofString "index") pl) Q E s := by
  cases κ
  · exact GM.index h
  · exact getMethod_builtin (typeIs_bytes s _ _) PySem.W.FB.plainAttrs_bytes FB.slot_bytes_index FB.type_bytes_index (fun _ e => nomatch e) h
theorem gives_index_from (x y : Str) (i : Int) (t u v : Tok) (k : Nat) (rest : List Nat) (h : occurrences x y (fromIndex x.length i) x.length 1 = k :: rest) : Gives («str.index» ⟨[.str x t, .str y u, .int i v], []⟩) (.int k) := by
  show Gives (match occurrences x y (fromIndex x.length i) (min x.length x.length) 1 with | i :: _ => retInt i | [] => (do rule "str.index.not-found"; raiseError "ValueError" "substring not found")) _
  rw [Nat.min_self, h]
  exact .of_eq rfl
theorem raises_index_from (x y : Str) (i : Int) (t u v : Tok) (h : occurrences x y (fromIndex x.length i) x.length 1 = []) : Meets («str.index» ⟨[.str x t, .str y u, .int i v], []⟩) (raisesNew "ValueError") := by
  intro prog w A R s hS
  show wpAny _ _ (match occurrences x y (fromIndex x.length i) (min x.length x.length) 1 with | i :: _ => retInt i | [] => _) _ _ s
  rw [Nat.min_self, h]
  first
    | exact wpAny_bind (wpAny_rule (by exact_raiseError plainExc_ValueError hS.1 hS.2))
    | exact wpAny_bind (wpAny_rule (wpAny_bind (by exact_raiseError plainExc_ValueError hS.1 hS.2)))
theorem at_occ (t u : List Nat) (i : Nat) : StrLaws.At ⟨t.toArray⟩ ⟨u.toArray⟩ (⟨t.toArray⟩ : Str).length i ↔ occAt t u i = true := by
  unfold StrLaws.At occAt
  rw [StrLaws.subAt_eq, Bool.and_eq_true, decide_eq_true_iff, decide_eq_true_iff, beq_iff_eq]
  simp [Str.length]
theorem txt_index_str {lo : Nat} {Q : Value → Shared → Prop} (h1 : ∀ i, findFrom t u lo = some i → ∀ k tk, Q (.int i k) { s with toks := tk })
    (h0 : findFrom t u lo = none → A.handled = none ∧ ∀ h' tk e, Heap.NewExc s.heap h' e "ValueError" → E (.ref e) { s with heap := h', toks := tk }) :
    wpAny (model prog w) A (call (.builtin "str.index") [.str ⟨t.toArray⟩ a, .str ⟨u.toArray⟩ b, .int lo c]) Q E s := by
  have hlo : fromIndex (⟨t.toArray⟩ : Str).length (lo : Int) = lo := by unfold fromIndex; omega
  rcases StrLaws.occ_head_from ⟨t.toArray⟩ ⟨u.toArray⟩ lo 1 (Nat.le_refl 1) with ⟨ho, hn⟩ | ⟨i, r, ho, hi, hat, hn⟩
  · have hf : findFrom t u lo = none := findFrom_none.mpr fun k hk => Bool.eq_false_iff.mpr fun q => hn k hk ((at_occ t u k).mpr q)
    obtain ⟨hA, hE⟩ := h0 hf
    exact call_meets F.slot_str_index (typeIs_str _ _ _) F.entry_str_index (F.args_str_index_3 _ _ _) (raises_index_from _ _ _ _ _ _ (by rw [hlo]; exact ho)) ⟨hA, hE⟩
  · have hf : findFrom t u lo = some i := findFrom_some.mpr ⟨hi, (at_occ t u i).mp hat, fun k h1 h2 => Bool.eq_false_iff.mpr fun q => hn k h1 h2 ((at_occ t u k).mpr q)⟩
    exact call_gives F.slot_str_index (typeIs_str _ _ _) F.entry_str_index (F.args_str_index_3 _ _ _) (gives_index_from _ _ _ _ _ _ i r (by rw [hlo]; exact ho)) (h1 i hf _ _)
end

theorem fresh_P08_findb : True := by
  w_top off
  trivial
section
open PySem.Builtin
variable {prog : Program} {w : World} {A : Around} {E : Value → Shared → Prop} {s : Shared} {κ : Bool} {t u : List Nat} {a b c : Tok}
theorem bfind (ht : Asc t) (hu : Asc u) (lo : Nat) :
    ((if ((t.length : Int) - (lo : Int) < (u.length : Int)) then none else some (lo, t.length)).bind fun p : Nat × Nat => Bytes.find? (t.map UInt8.ofNat).toArray (u.map UInt8.ofNat).toArray p.1 p.2) = findFrom t u lo := by
  have key : ∀ i, ((t.map UInt8.ofNat).toArray.extract i (i + (u.map UInt8.ofNat).toArray.size) == (u.map UInt8.ofNat).toArray) = decide ((t.drop i).take u.length = u) := by
    intro i
    rw [Bool.eq_iff_iff, beq_iff_eq, decide_eq_true_iff]
    have e : ((t.map UInt8.ofNat).toArray.extract i (i + (u.map UInt8.ofNat).toArray.size)).toList = ((t.drop i).take u.length).map UInt8.ofNat := by
      simp [List.map_take, List.map_drop]
    constructor
    · intro q
      have q' := congrArg Array.toList q
      rw [e] at q'
      exact (u8_inj ((ht.drop i).take _) hu).mp (by simpa using q')
    · intro q
      apply Array.ext'
      rw [e, q]
  apply Option.ext
  intro i
  by_cases h : (t.length : Int) - (lo : Int) < (u.length : Int)
  · rw [if_pos h]
    constructor
    · intro q; cases q
    · intro q
      obtain ⟨h1, h2, _⟩ := findFrom_some.mp q
      have := of_decide_eq_true (Bool.and_eq_true_iff.mp h2).1
      omega
  · rw [if_neg h]
    show (((List.range (t.length + 1 - (lo + (u.map UInt8.ofNat).toArray.size))).map (· + lo)).find? fun i => (t.map UInt8.ofNat).toArray.extract i (i + (u.map UInt8.ofNat).toArray.size) == (u.map UInt8.ofNat).toArray) = some i ↔ _
    have hr : (List.range (t.length + 1 - (lo + (u.map UInt8.ofNat).toArray.size))).map (· + lo) = List.range' lo (t.length + 1 - (lo + u.length)) := by
      rw [List.range'_eq_map_range]
      simp only [List.size_toArray, List.length_map]
      apply List.map_congr_left
      intro x _; omega
    rw [hr, find_range'_some, findFrom_some]
    constructor
    · rintro ⟨h1, h2, h3, h4⟩
      rw [key] at h3
      refine ⟨h1, ?_, fun k q1 q2 => ?_⟩
      · unfold occAt
        rw [h3, decide_eq_true (by omega)]; rfl
      · have := h4 k q1 q2
        rw [key] at this
        unfold occAt
        rw [this, Bool.and_false]
    · rintro ⟨h1, h2, h3⟩
      obtain ⟨q1, q2⟩ := Bool.and_eq_true_iff.mp h2
      have q1 := of_decide_eq_true q1
      refine ⟨h1, by omega, by rw [key]; exact q2, fun k r1 r2 => ?_⟩
      have := h3 k r1 r2
      unfold occAt at this
      rw [decide_eq_true (by omega), Bool.true_and] at this
      rw [key]; exact this

theorem bytes_index_tree (x y : Array UInt8) (lo : Nat) (a b c : Tok) : ∀ (M : Model) (A : Around) (E : Value → Shared → Prop) (s : Shared) (P : PySem.Fin → Shared → Prop),
    wpAny M A (match (if ((x.size : Int) - (lo : Int) < (y.size : Int)) then none else some (lo, x.size)).bind fun p : Nat × Nat => Bytes.find? x y p.1 p.2 with
      | some i => retInt i
      | none => (do rule "bytes.index.not-found"; raiseError "ValueError" "subsection not found" : Sem PySem.Fin)) P E s →
    wpAny M A (Builtin.«bytes.index» ⟨[.bytes x a, .bytes y b, .int lo c], []⟩) P E s := by
  intro M A E s P h
  show wpAny M A (Bytes.searchM .bytes "index" false true ⟨[.bytes x a, .bytes y b, .int lo c], []⟩) P E s
  unfold Bytes.searchM Bytes.searchArgs
  refine wpAny_bind ?_
  show wpAny M A (Bytes.buffer? "bytes.index" (.bytes y b) >>= fun r => _) _ E s
  refine wpAny_bind (wpAny_of_eq KBy.buffer_eq ?_)
  have e1 : (Bytes.window x.size (some (lo : Int)) none).1 = (lo : Int) := by
    show (if (lo : Int) < 0 then max 0 ((lo : Int) + x.size) else (lo : Int)) = lo
    rw [if_neg (by omega)]
  have e2 : (Bytes.window x.size (some (lo : Int)) none).2 = (x.size : Int) := by
    show min (x.size : Int) (if (x.size : Int) < 0 then max 0 ((x.size : Int) + x.size) else (x.size : Int)) = x.size
    rw [if_neg (by omega)]; omega
  show wpAny M A (pure (x, y, if (Bytes.window x.size (some (lo : Int)) none).2 - (Bytes.window x.size (some (lo : Int)) none).1 < (y.size : Int) then none else some ((Bytes.window x.size (some (lo : Int)) none).1.toNat, (Bytes.window x.size (some (lo : Int)) none).2.toNat))) _ E s
  rw [e1, e2]
  refine wpAny_pure ?_
  show wpAny M A (match ((if ((x.size : Int) - (lo : Int) < (y.size : Int)) then none else some ((lo : Int).toNat, (x.size : Int).toNat)).bind fun p : Nat × Nat => if false = true then Bytes.rfind? x y p.1 p.2 else Bytes.find? x y p.1 p.2) with
      | some i => retInt i
      | none => (do rule (toString (toString Bytes.Kind.bytes.name ++ toString "." ++ toString "index" ++ toString ".not-found")); (if true = true then raiseErrorWords "ValueError" "subsection not found" else retInt (-1)) : Sem PySem.Fin)) P E s
  simp only [Bool.false_eq_true, if_false, if_true, Int.toNat_natCast]
  exact h
theorem txt_index_bytes {lo : Nat} {Q : Value → Shared → Prop} (ht : Asc t) (hu : Asc u) (h1 : ∀ i, findFrom t u lo = some i → ∀ k tk, Q (.int i k) { s with toks := tk })
    (h0 : findFrom t u lo = none → A.handled = none ∧ ∀ h' tk e, Heap.NewExc s.heap h' e "ValueError" → E (.ref e) { s with heap := h', toks := tk }) :
    wpAny (model prog w) A (call (.builtin "bytes.index") [.bytes (t.map UInt8.ofNat).toArray a, .bytes (u.map UInt8.ofNat).toArray b, .int lo c]) Q E s := by
  have hz : ∀ x : List Nat, (x.map UInt8.ofNat).toArray.size = x.length := fun x => by simp
  have eb := bfind ht hu lo
  cases hf : findFrom t u lo with
  | none =>
    obtain ⟨hA, hE⟩ := h0 hf
    refine call_meets (S := raisesNew "ValueError") FB.slot_bytes_index (typeIs_bytes _ _ _) FB.entry_bytes_index (FB.args_bytes_index_3 _ _ _) ?_ ⟨hA, hE⟩
    intro prog w A R s hS
    refine bytes_index_tree _ _ _ _ _ _ _ _ _ _ _ ?_
    rw [hz, hz, eb, hf]
    first
      | exact wpAny_bind (wpAny_rule (by exact_raiseError plainExc_ValueError hS.1 hS.2))
      | exact wpAny_bind (wpAny_rule (wpAny_bind (by exact_raiseError plainExc_ValueError hS.1 hS.2)))
  | some i =>
    refine call_gives (m := .int i) FB.slot_bytes_index (typeIs_bytes _ _ _) FB.entry_bytes_index (FB.args_bytes_index_3 _ _ _) ?_ (h1 i hf _ _)
    refine .of_wp fun M A E s Q hq => ?_
    refine bytes_index_tree _ _ _ _ _ _ _ _ _ _ _ ?_
    rw [hz, hz, eb, hf]
    exact wpAny_bind (wpAny_mkInt (wpAny_pure ⟨_, rfl, hq⟩))
theorem txt_index {lo : Nat} {Q : Value → Shared → Prop} (ht : Asc t) (hu : Asc u) (h1 : ∀ i, findFrom t u lo = some i → ∀ k tk, Q (.int i k) { s with toks := tk })
    (h0 : findFrom t u lo = none → A.handled = none ∧ ∀ h' tk e, Heap.NewExc s.heap h' e "ValueError" → E (.ref e) { s with heap := h', toks := tk }) :
    wpAny (model prog w) A (call (.builtin (idxId κ)) [txt κ t a, txt κ u b, .int lo c]) Q E s := by
  cases κ
  · exact txt_index_str h1 h0
  · exact txt_index_bytes ht hu h1 h0
end

theorem fresh_P095_slice : True := by
  w_top off
  trivial
/-- the cut of a list between two bounds, as Python clips them -/
noncomputable def cutL {α : Type} (t : List α) (lo hi : Option Int) : List α := (t.drop (lo.elim 0 (clipAt t.length))).take (hi.elim t.length (clipAt t.length) - lo.elim 0 (clipAt t.length))
theorem cutL_nat {α : Type} (t : List α) (i j : Nat) : cutL t (some (i : Int)) (some (j : Int)) = (t.drop i).take (j - i) := by
  simp only [cutL, Option.elim, clipAt_nat]
  by_cases hi : i ≤ t.length
  · rw [Nat.min_eq_left hi]
    by_cases hj : j ≤ t.length
    · rw [Nat.min_eq_left hj]
    · rw [Nat.min_eq_right (show t.length ≤ j by omega), List.take_of_length_le (by simp), List.take_of_length_le (by simp; omega)]
  · rw [Nat.min_eq_right (show t.length ≤ i by omega), List.drop_of_length_le (Nat.le_refl _), List.drop_of_length_le (show t.length ≤ i by omega)]; simp
theorem cutL_to {α : Type} (t : List α) (j : Nat) : cutL t none (some (j : Int)) = t.take j := by
  simp only [cutL, Option.elim, clipAt_nat, List.drop_zero, Nat.sub_zero]
  by_cases hj : j ≤ t.length
  · rw [Nat.min_eq_left hj]
  · rw [Nat.min_eq_right (by omega), List.take_length, List.take_of_length_le (by omega)]
theorem cutL_from {α : Type} (t : List α) (i : Nat) : cutL t (some (i : Int)) none = t.drop i := by
  simp only [cutL, Option.elim, clipAt_nat]
  by_cases hi : i ≤ t.length
  · rw [Nat.min_eq_left hi, List.take_of_length_le (by simp)]
  · rw [Nat.min_eq_right (by omega), List.drop_of_length_le (Nat.le_refl _), List.drop_of_length_le (by omega)]; simp
section
open PySem.Builtin PySem.Builtin.Str
theorem slice_eq (t : List Nat) (lo hi : Option Int) : Txt.slice ⟨t.toArray⟩ lo hi = ⟨(cutL t lo hi).toArray⟩ := by
  have e : strSliceIndices lo hi 1 t.length = (List.range (hi.elim t.length (clipAt t.length) - lo.elim 0 (clipAt t.length))).map (lo.elim 0 (clipAt t.length) + ·) := by
    have q := sliceBounds_plain lo hi t.length
    have : strSliceIndices lo hi 1 t.length = sliceRange (sliceBounds lo hi none t.length).1 (sliceBounds lo hi none t.length).2.1 1 := by
      cases lo <;> cases hi <;> rfl
    rw [this, q, sliceRange_one]
  have hl : (⟨t.toArray⟩ : Str).length = t.length := by simp [Str.length]
  unfold Txt.slice
  rw [hl, e]
  have pr := pick_run t.toArray (lo.elim 0 (clipAt t.length)) (hi.elim t.length (clipAt t.length) - lo.elim 0 (clipAt t.length))
  split
  · rename_i h
    have hn : (hi.elim t.length (clipAt t.length) - lo.elim 0 (clipAt t.length)) = t.length := by simpa using h
    have h0 : lo.elim 0 (clipAt t.length) = 0 ∨ t.length = 0 := by
      have hh : hi.elim t.length (clipAt t.length) ≤ t.length := by
        cases hi with
        | none => exact Nat.le_refl _
        | some i => show clipAt t.length i ≤ t.length; have := clipAt_cast t.length i; omega
      omega
    unfold cutL
    rw [hn]
    rcases h0 with h0 | h0
    · rw [h0]; simp
    · have : t = [] := List.length_eq_zero_iff.mp h0
      subst this; simp
  · show (⟨(((List.range _).map _).filterMap (t.toArray[·]?)).toArray⟩ : Str) = _
    rw [pr]
    rfl
variable {prog : Program} {w : World} {A : Around} {E : Value → Shared → Prop} {s : Shared} {h₀ : Heap} {L : Addr} {m : PySem.Str → Option Value} {led : Led} {κ : Bool} {t : List Nat} {a : Tok} {l u : Value} {lo hi : Option Int} {value slice : Expr}
theorem txt_slice {Q : Value → Shared → Prop} (F : Fr h₀ L s.heap m) (N : News h₀ L s.heap led) (hl : IsPart l lo) (hu : IsPart u hi) (hz : t.length ≤ 1000000)
    (h : ∀ h' k tk, Fr h₀ L h' m → News h₀ L h' led → Q (txt κ (cutL t lo hi) k) { s with heap := h', toks := tk })
    (hs : ∀ v i, subscripted slice false v i = operate [i, v] (getItem v i)) (hg : ∀ v r, letTemporaryGo value v r = pure ()) :
    wpAny (model prog w) A (subscriptTail value slice (txt κ t a) (.ref s.heap.objs.size)) Q E { s with heap := s.heap.push { cls := .type "slice", data := .fields #[l, u, .none] } } := by
  cases κ
  · have hsz : (⟨t.toArray⟩ : PySem.Str).length ≤ sizeLine := by rw [sizeLine_eq]; simp [Str.length]; omega
    have h' : ∀ h' t' k, Fr h₀ L h' m → News h₀ L h' led → Q (.str (Txt.slice ⟨t.toArray⟩ lo hi) t') { s with heap := h', toks := k } := fun h' t' k a b => by
      rw [slice_eq]; exact h h' t' k a b
    cases hl <;> cases hu
    · exact slice_strN_nn F N h' (hs _ _) (hg _) hsz
    · exact slice_strN_ns F N h' (hs _ _) (hg _) hsz
    · exact slice_strN_sn F N h' (hs _ _) (hg _) hsz
    · exact slice_strN_ss F N h' (hs _ _) (hg _) hsz
  · refine KBc.slice_K (ks := KBw.bInts (t.map UInt8.ofNat).toArray) F N rfl hl hu (by rw [KBw.ints_length]; simp; omega) (fun h' t' k a b _ => ?_) (hs _ _) (hg _)
    have e : KBy.picked (t.map UInt8.ofNat).toArray lo hi = ((cutL t lo hi).map UInt8.ofNat).toArray := by
      rw [KBc.picked_eq]
      simp [cutL, List.map_take, List.map_drop]
    rw [e]; exact h h' t' k a b
end

theorem fresh_P09_fz : True := by
  w_top off
  trivial
/-- the empty frozenset -/
noncomputable abbrev fzObj (led : Bool) : Obj := { cls := .type "frozenset", dict := none, data := .set #[] 0 (.fresh 0 0 led) }
namespace FZ
theorem slot_init : Slot "frozenset" "__init__" "object.__init__" :=
  .of (owner := "object") (n := "__init__") (by rw [typeLookup_type, builtinLookup_eq_fast]; kernel_rfl) (by decide +kernel) (by decide +kernel) (by decide +kernel)
    (by first | exact .inl (by decide +kernel) | exact .inr (by decide +kernel)) (by rw [isSubtype_type]; kernel_rfl)
theorem mro_fz : mroOf (.type "frozenset") = pure [.type "frozenset", .type "object"] := by rw [mroOf_type]; kernel_rfl
theorem lookup_new : typeLookup (.type "frozenset") "__new__" = pure (some (.builtin "frozenset.__new__")) := by rw [typeLookup_type, builtinLookup_eq_fast]; kernel_rfl
theorem called : TypeCalled "frozenset" "frozenset.__new__" "object.__init__" :=
  ⟨by decide +kernel, by decide +kernel, ⟨_, _, mro_fz⟩, madeBy_type mro_fz lookup_new (by decide +kernel), by decide +kernel, by rw [isSubtype_type]; kernel_rfl, slot_init⟩
theorem typeCall_0 : checkTypeCall "frozenset" ⟨[], []⟩ = pure () := by kernel_rfl
theorem newCall_0 : checkBuiltinCall "frozenset.__new__" ⟨[.type "frozenset"], []⟩ = pure () := by kernel_rfl
theorem entry_new : entryFor table "frozenset.__new__" = some Builtin.«frozenset.__new__» := entryFor_of_tree (by kernel_rfl)
theorem sub_self : isSubtype (.type "frozenset") (.type "frozenset") = pure true := by rw [isSubtype_type]; kernel_rfl
theorem plainAttrs : PlainAttrs "frozenset" :=
  ⟨⟨"object.__getattribute__", by rw [typeLookup_type, builtinLookup_eq_fast]; kernel_rfl, by decide +kernel⟩, by rw [typeLookup_type, builtinLookup_eq_fast]; kernel_rfl⟩
theorem owner_fz : Manifest.owners.lookup (String.ofList ['t', 'e', 's', 'n', 'e', 'z', 'o', 'r', 'f'].reverse) = some Manifest.sig_frozenset := by kernel_rfl
theorem slot_dis : Slot "frozenset" "isdisjoint" "frozenset.isdisjoint" :=
  .of (owner := "frozenset") (n := "isdisjoint") (by rw [typeLookup_type, builtinLookup_eq_fast]; kernel_rfl) (by decide +kernel) (by decide +kernel) (by decide +kernel)
    (by first | exact .inl (by decide +kernel) | exact .inr (by decide +kernel)) (by rw [isSubtype_type]; kernel_rfl)
theorem type_dis : typeOf (.builtin "frozenset.isdisjoint") = pure (.type "method_descriptor") := by show builtinType _ = _; rw [builtinType_eq_fast]; kernel_rfl
theorem entry_dis : entryFor table "frozenset.isdisjoint" = some Builtin.«frozenset.isdisjoint» := entryFor_of_tree (by kernel_rfl)
theorem entry_loop : entryFor table "frozenset.isdisjoint.loop" = some Builtin.«frozenset.isdisjoint.loop» := entryFor_of_tree (by kernel_rfl)
theorem plain_loop : plainId "frozenset.isdisjoint.loop" = true := by decide +kernel
theorem args_dis (a b : Value) : argsOk "frozenset.isdisjoint" ⟨[a, b], []⟩ := by
  unfold argsOk; rw [signature?_of (id := "frozenset.isdisjoint") (n := ['t', 'n', 'i', 'o', 'j', 's', 'i', 'd', 's', 'i']) (o := ['t', 'e', 's', 'n', 'e', 'z', 'o', 'r', 'f']) (by kernel_rfl) owner_fz]; kernel_rfl
section
variable {prog : Program} {w : World} {A : Around} {E : Value → Shared → Prop} {s : Shared}
theorem meets_new : Meets (Builtin.«frozenset.__new__» ⟨[.type "frozenset"], []⟩) (fun _ R s => ∀ led : Bool, R (.ok (.ret (.ref s.heap.objs.size))) { s with heap := s.heap.push (fzObj led) }) :=
  .of_wp fun prog w A R s h => by
    obtain ⟨hp, g, d, tk, os⟩ := s
    have hsub := sub_self
    have hinit := slot_init.lookup
    unfold Builtin.«frozenset.__new__» Builtin.Frozenset.newClass
    wp_walk
    refine wpAny_askSetting (wpAny_pure ?_)
    dsimp only
    simp only [newObj]
    refine wpAny_bind (wpAny_alloc (wpAny_pure ?_))
    exact wpAny_pure ⟨_, rfl, h _⟩
theorem make {Q : Value → Shared → Prop} (h : ∀ led : Bool, Q (.ref s.heap.objs.size) { s with heap := s.heap.push (fzObj led) }) : wpAny (model prog w) A (call (.type "frozenset") []) Q E s :=
  callType_new called (by decide) typeCall_0 newCall_0 (fun obj => F.args_object_init_1 obj) entry_new meets_new fun led => ⟨⟨_, Heap.get?_push_size _ rfl, rfl⟩, h led⟩
end
end FZ
namespace FZ
section
variable {prog : Program} {w : World} {A : Around} {E : Value → Shared → Prop} {s : Shared}
theorem contains_str {FZ : Addr} {led : Bool} {x : Str} {k : Tok} {Q : Bool → Shared → Prop} (ho : s.heap.get? FZ = some (fzObj led)) (h : ∀ tk, Q false { s with toks := tk }) : wpAny (model prog w) A (setContains FZ (.str x k)) Q E s := by
  unfold setContains
  refine wpAny_holding (wpAny_bind (wpAny_pyHash_str ?_))
  unfold setFind setFindIn
  refine wpAny_bind (wpAny_bind (wpAny_setState_of (s := { s with toks := s.toks + 1 }) ho rfl (by cases led <;> decide) ?_))
  dsimp only
  rw [if_pos (show byScan (Value.str x k) #[] = true by simp [byScan, Value.scannable, scanBound])]
  refine wpAny_bind (wpAny_rule ?_)
  refine wpAny_bind (wpAny_of_eq (show setScan FZ (Value.str x k) (hashStr w x) false #[] = pure ScanMet.absent by simp [setScan, setScanStrs]) ?_)
  exact wpAny_pure (wpAny_pure (h _))
theorem contains_int {FZ : Addr} {led : Bool} {x : Int} {k : Tok} {Q : Bool → Shared → Prop} (ho : s.heap.get? FZ = some (fzObj led)) (h : ∀ tk, Q false { s with toks := tk }) : wpAny (model prog w) A (setContains FZ (.int x k)) Q E s := by
  unfold setContains
  refine wpAny_holding (wpAny_bind (wpAny_pyHash_int ?_))
  unfold setFind setFindIn
  refine wpAny_bind (wpAny_bind (wpAny_setState_of (s := { s with toks := s.toks + 1 }) ho rfl (by cases led <;> decide) ?_))
  dsimp only
  rw [if_pos (show byScan (Value.int x k) #[] = true by simp [byScan, Value.scannable, scanBound])]
  refine wpAny_bind (wpAny_rule ?_)
  show wpAny _ _ (pure ScanMet.absent >>= fun r => _) _ _ _
  exact wpAny_bind (wpAny_pure (wpAny_pure (wpAny_pure (h _))))
theorem loop {R : Result → Shared → Prop} {I FZ : Addr} {led : Bool} {fp wr : List Addr} {n : Nat} {P : Nat → Value → Prop} {St : Nat → Heap → Prop} (W : Walks prog w A.in1 I fp wr n P St) (hw : FZ ∉ wr)
    (hP : ∀ i v, P i v → ∀ (s : Shared) (Q : Bool → Shared → Prop) (E : Value → Shared → Prop), s.heap.get? FZ = some (fzObj led) → (∀ tk, Q false { s with toks := tk }) → wpAny (model prog w) A.in1 (setContains FZ v) Q E s) :
    ∀ (k i : Nat) (s : Shared), n - i = k → i ≤ n → St i s.heap → s.heap.get? FZ = some (fzObj led) →
    (∀ h' tk, (∀ b o, b ∉ wr → s.heap.get? b = some o → h'.get? b = some o) → R (.ok (.ret (.bool true))) { s with heap := h', toks := tk }) →
    codeAny (model prog w) A (.builtin "frozenset.isdisjoint.loop" ⟨[.ref FZ, .ref I], []⟩) R s := by
  intro k
  induction k with
  | zero =>
    intro i s hk hi hst ho hR
    have hin : i = n := by omega
    subst hin
    refine codeAny_builtin entry_loop ?_
    rw [Around.under_plainId plain_loop _]
    show wpAny _ A.in1 (pyNext (.ref I) >>= _) _ _ s
    refine wpAny_bind (W.done s _ _ hst fun h' tk hk' => ?_)
    exact wpAny_pure (hR h' tk hk')
  | succ k ih =>
    intro i s hk hi hst ho hR
    have hlt : i < n := by omega
    refine codeAny_builtin entry_loop ?_
    rw [Around.under_plainId plain_loop _]
    show wpAny _ A.in1 (pyNext (.ref I) >>= _) _ _ s
    refine wpAny_bind (W.item i s _ _ hlt hst fun v h' tk hPv hst' hk' => ?_)
    refine wpAny_bind (wpAny_holding (hP i v hPv _ _ _ (hk' _ _ hw ho) fun tk' => ?_))
    simp only [Bool.false_eq_true, if_false]
    exact wpAny_pure ⟨plainId_quiet plain_loop _, ih (i + 1) _ (by omega) hlt hst' (hk' _ _ hw ho) fun h'' tk'' hk'' => hR h'' tk'' fun b o hbw e => hk'' b o hbw (hk' b o hbw e)⟩
/-- the empty frozenset and a text have nothing in common -/
theorem disjoint {FZ : Addr} {led κ : Bool} {t : List Nat} {k : Tok} {Q : Value → Shared → Prop} (hh : A.handled = none) (ho : s.heap.get? FZ = some (fzObj led))
    (h : ∀ h' tk, (∀ b o, s.heap.get? b = some o → h'.get? b = some o) → Q (.bool true) { s with heap := h', toks := tk }) :
    wpAny (model prog w) A (call (.builtin "frozenset.isdisjoint") [.ref FZ, txt κ t k]) Q E s := by
  have hne : FZ ∉ [s.heap.objs.size] := fun q => absurd (Heap.lt_size ho) (List.mem_singleton.mp q ▸ Nat.lt_irrefl _)
  have fin : ∀ h' tk, (∀ b o, b ∉ [s.heap.objs.size] → s.heap.get? b = some o → h'.get? b = some o) → Q (.bool true) { s with heap := h', toks := tk } := fun h' tk hk =>
    h h' tk fun b o e => hk b o (fun q => absurd (Heap.lt_size e) (List.mem_singleton.mp q ▸ Nat.lt_irrefl _)) e
  refine call_meets (S := fun A R s' => s' = s ∧ A.handled = none ∧ ∀ h' tk, (∀ b o, b ∉ [s.heap.objs.size] → s.heap.get? b = some o → h'.get? b = some o) → R (.ok (.ret (.bool true))) { s with heap := h', toks := tk }) slot_dis ⟨_, ho, rfl⟩ entry_dis (args_dis _ _) ?_ ⟨rfl, hh, fin⟩
  rintro prog' w' A' R s' ⟨rfl, hA, hR⟩
  cases κ
  · show wpAny _ _ (pyIter (.str ⟨t.toArray⟩ k) >>= fun it => again (.builtin "frozenset.isdisjoint.loop" ⟨[.ref FZ, it], []⟩)) _ _ s'
    refine wpAny_bind (wpAny_pyIter_str fun o St W hst => ?_)
    refine wpAny_pure ⟨plainId_quiet plain_loop _, loop (W A'.in1 hA) hne (fun i v hPv s Q E ho h => ?_) _ 0 _ rfl (Nat.zero_le _) hst (Heap.get?_push_of_some _ ho) fun h' tk hk => hR h' tk fun b o' hb e => hk b o' hb (Heap.get?_push_of_some _ e)⟩
    obtain ⟨c, u, _, rfl⟩ := hPv
    exact contains_str ho h
  · show wpAny _ _ (pyIter (.bytes (t.map UInt8.ofNat).toArray k) >>= fun it => again (.builtin "frozenset.isdisjoint.loop" ⟨[.ref FZ, it], []⟩)) _ _ s'
    refine wpAny_bind (KBw.pyIter_bytes ?_)
    refine wpAny_pure ⟨plainId_quiet plain_loop _, loop (KBw.walks (A := A'.in1) hA _ _ k) hne (fun i v hPv s Q E ho h => ?_) _ 0 _ rfl (Nat.zero_le _) ⟨_, Heap.get?_push_size _ rfl, rfl, rfl⟩ (Heap.get?_push_of_some _ ho) fun h' tk hk => hR h' tk fun b o' hb e => hk b o' hb (Heap.get?_push_of_some _ e)⟩
    obtain ⟨c, u, _, rfl⟩ := hPv
    exact contains_int ho h
end
end FZ
section
variable {prog : Program} {w : World} {A : Around} {E : Value → Shared → Prop} {s : Shared} {h₀ : Heap} {L z : Addr} {m : Str → Option Value} {led : Led} {lf : Bool}
theorem fr_keeps {h h' : Heap} (F : Fr h₀ L h m) (hk : ∀ b o, h.get? b = some o → h'.get? b = some o) : Fr h₀ L h' m := by
  obtain ⟨oL, es, ep, hL, r⟩ := F.ns
  exact ⟨⟨oL, es, ep, hk _ _ hL, r⟩, fun b x q => hk _ _ (F.keep b x q), F.above⟩
theorem news_keeps {h h' : Heap} (N : News h₀ L h led) (hk : ∀ b o, h.get? b = some o → h'.get? b = some o) : News h₀ L h' led := fun p hp => ⟨hk _ _ (N p hp).1, (N p hp).2⟩
theorem fz_method {pl : Sem Bool} {Q : Value × List Value → Shared → Prop} (N : News h₀ L s.heap led) (hm : (z, fzObj lf) ∈ led) (h : Q (.builtin "frozenset.isdisjoint", [.ref z]) s) :
    wpAny (model prog w) A (getMethod (.ref z) (Str.ofString "isdisjoint") pl) Q E s :=
  getMethod_builtin (T := "frozenset") ⟨_, (N _ hm).1, rfl⟩ FZ.plainAttrs FZ.slot_dis FZ.type_dis (fun a e => by cases e; exact ⟨_, (N _ hm).1, rfl⟩) h
theorem fz_disjoint {κ : Bool} {t : List Nat} {k : Tok} {Q : Value → Shared → Prop} (hh : A.handled = none) (F : Fr h₀ L s.heap m) (N : News h₀ L s.heap led) (hm : (z, fzObj lf) ∈ led)
    (h : ∀ h' tk, Fr h₀ L h' m → News h₀ L h' led → Q (.bool true) { s with heap := h', toks := tk }) : wpAny (model prog w) A (call (.builtin "frozenset.isdisjoint") [.ref z, txt κ t k]) Q E s :=
  FZ.disjoint hh (N _ hm).1 fun h' tk hk => h h' tk (fr_keeps F hk) (news_keeps N hk)
theorem fz_make {Q : Value → Shared → Prop} (F : Fr h₀ L s.heap m) (N : News h₀ L s.heap led)
    (h : ∀ z lf h', Fr h₀ L h' m → News h₀ L h' ((z, fzObj lf) :: led) → (∀ p ∈ led, p.1 < z) → Q (.ref z) { s with heap := h' }) : wpAny (model prog w) A (call (.type "frozenset") []) Q E s :=
  FZ.make fun lf => h _ lf _ (F.push _) (N.push F _) fun p hp => Heap.lt_size (N p hp).1
end

theorem fresh_P10_skip : True := by
  w_top off
  trivial
theorem lw3_all : True := by
  k_with "L getMethod" => ((with_reducible show wpAny _ _ (getMethod (txt _ _ _) _ _) _ _ _); refine txt_method ?_)
  trivial
theorem lw4_all : True := by
  k_with "L call builtin:len" => ((with_reducible show wpAny _ _ (call _ [txt _ _ _]) _ _ _); refine txt_len (by first | omega | (simp only [List.length_cons, List.length_append, List.length_nil]; omega)) ?_; intro _ _)
  trivial
theorem lw5_all : True := by
  k_with "L getMethod ref" => ((with_reducible show wpAny _ _ (getMethod (Value.ref _) (Str.ofString "isdisjoint") _) _ _ _); refine' fz_method ?k1 ?k2 ?_; (case k1 => k_asm); (case k2 => k_mem))
  trivial
theorem lw6_all : True := by
  k_with "L call builtin:frozenset.isdisjoint" => (refine' fz_disjoint ?k1 ?k2 ?k3 ?k4 ?_; (case k1 => exact rfl); (case k2 => k_asm); (case k3 => k_asm); (case k4 => k_mem); intro _ _ _ _; (try k_sweep))
  trivial
theorem lw7_all : True := by
  k_with "L subscriptTail" => ((with_reducible show wpAny _ _ (subscriptTail _ (Expr.Slice _ _ _ _) (txt _ _ _) (Value.ref _)) _ _ _); k_dflt (refine' txt_slice ?k1 ?k2 ?k3 ?k4 ?k5 ?_ ?k6 ?k7; (case k1 => k_asm); (case k2 => k_asm); (case k3 => first | exact IsPart.int _ _ | exact IsPart.none); (case k4 => first | exact IsPart.int _ _ | exact IsPart.none); (case k5 => first | omega | (simp only [List.length_cons, List.length_append, List.length_nil]; omega)); (case k6 => (intro v9 i9; with_unfolding_all rfl)); (case k7 => (intro v9 i9; with_unfolding_all rfl))); intro _ _ _ _ _; (try k_sweep))
  trivial
theorem skip_fn (w : World) (κ : Bool) (t u : List Nat) (k1 k2 kp : Tok) (p q : Nat) (z : Addr) (lf : Bool) (news : Led) (ht : Asc t) (hu : Asc u) (hf : findFrom t u p = some q) (hz : (z, fzObj lf) ∈ news) (hl : t.length ≤ 1000) :
    Fn w 580 3800 168 ⟨[txt κ t k1, .int p kp, txt κ u k2], [(Str.ofString "error_on", .ref z), (Str.ofString "error_on_eof", .bool true)]⟩ news (fun r led => led = news ∧ ∃ k', r = .int q k') := by
  unfold Fn; k_fill; show Fn _ _ _ _ _ _ _
  refine Fn.intro (binds := [(Str.ofString "src", txt κ t k1), (Str.ofString "pos", .int p kp), (Str.ofString "expect", txt κ u k2), (Str.ofString "error_on", .ref z), (Str.ofString "error_on_eof", .bool true)]) (by k_is) (by k_is) rfl (fun s _ => BindsTo.of_eq rfl) (locs rfl) (by decide) rfl rfl rfl ?_
  intro loose mean mg mb gd env₀ outer base g L h₁ s tk B F X N T hlt
  k_extra "go"
  refine txt_index ht hu ?_ (fun q => by rw [hf] at q; cases q)
  intro i hi kk tk
  rw [hf] at hi; cases hi
  k_extra "go"
  exact ⟨_, _, _, _, rfl, by k_asm, by k_asm, rfl, _, rfl⟩

theorem fresh_P11_purepath : True := by
  w_top off
  trivial
/-- the names, a slash behind each -/
noncomputable def bod (ns : List (List Nat)) : List Nat := ns.flatMap fun n => n ++ [47]
theorem pth_bod (ns : List (List Nat)) : ∀ root, pth root ns = root ++ bod ns := by
  induction ns with
  | nil => intro root; simp [pth, bod]
  | cons n ns ih =>
    intro root
    show pth (root ++ n ++ [47]) ns = _
    rw [ih]; simp [bod]
theorem bod_app (a b : List (List Nat)) : bod (a ++ b) = bod a ++ bod b := by simp [bod]
theorem bod_cons (n : List Nat) (b : List (List Nat)) : bod (n :: b) = n ++ 47 :: bod b := by simp [bod]
/-- no name holds a slash -/
noncomputable def Bare (ns : List (List Nat)) : Prop := ∀ n ∈ ns, 47 ∉ n
/-- the place of the i-th slash -/
noncomputable def sl (ns : List (List Nat)) (i : Nat) : Nat := (bod (ns.take i)).length
theorem sl_zero (ns : List (List Nat)) : sl ns 0 = 0 := by simp [sl, bod]
theorem sl_succ {ns : List (List Nat)} {i : Nat} {n : List Nat} (h : ns[i]? = some n) : sl ns (i + 1) = sl ns i + n.length + 1 := by
  unfold sl
  rw [take_snoc h, bod_app, bod_cons]
  simp [bod]; omega
theorem sl_last (ns : List (List Nat)) : sl ns ns.length = (bod ns).length := by simp [sl]
theorem split_at {α : Type} {ns : List α} {i : Nat} {n : α} (h : ns[i]? = some n) : ns = ns.take i ++ n :: ns.drop (i + 1) := by
  obtain ⟨hl, hg⟩ := List.getElem?_eq_some_iff.mp h
  rw [← hg, List.getElem_cons_drop]; exact (List.take_append_drop i ns).symm
theorem sl_lt {ns : List (List Nat)} {i : Nat} (h : i < ns.length) : sl ns i + 1 ≤ (bod ns).length := by
  obtain ⟨n, hn⟩ : ∃ n, ns[i]? = some n := ⟨ns[i], by simp [h]⟩
  have e := congrArg (fun l => (bod l).length) (split_at hn)
  simp only [bod_app, bod_cons, List.length_append, List.length_cons] at e
  unfold sl
  omega
theorem occAt_one (t : List Nat) (c k : Nat) : occAt t [c] k = decide (t[k]? = some c) := by
  unfold occAt
  rw [Bool.eq_iff_iff, Bool.and_eq_true, decide_eq_true_iff, decide_eq_true_iff, decide_eq_true_iff]
  constructor
  · rintro ⟨h1, h2⟩
    have h3 : (t.drop k)[0]? = some c := by
      have := congrArg (fun l : List Nat => l[0]?) h2
      simpa [List.getElem?_take] using this
    simpa using h3
  · intro h
    obtain ⟨hl, hg⟩ := List.getElem?_eq_some_iff.mp h
    refine ⟨by simp; omega, ?_⟩
    rw [List.drop_eq_getElem_cons hl, hg]; rfl
theorem find_slash {ns : List (List Nat)} {i : Nat} {n : List Nat} (hb : Bare ns) (h : ns[i]? = some n) : findFrom (47 :: bod ns) [47] (sl ns i + 1) = some (sl ns (i + 1)) := by
  have e : (47 :: bod ns) = (47 :: bod (ns.take i)) ++ (n ++ 47 :: bod (ns.drop (i + 1))) := by
    conv => lhs; rw [split_at h]
    rw [bod_app, bod_cons]; simp
  have hlen : (47 :: bod (ns.take i)).length = sl ns i + 1 := by simp [sl]
  have hn : 47 ∉ n := hb n (List.mem_of_getElem? h)
  rw [findFrom_some, sl_succ h]
  refine ⟨by omega, ?_, fun k h1 h2 => ?_⟩
  · rw [occAt_one, e, List.getElem?_append_right (by omega), hlen, List.getElem?_append_right (by omega)]
    have : sl ns i + n.length + 1 - (sl ns i + 1) - n.length = 0 := by omega
    rw [this]; rfl
  · rw [occAt_one, e, List.getElem?_append_right (by omega), hlen, List.getElem?_append_left (by omega)]
    apply decide_eq_false
    intro q
    exact hn (List.mem_of_getElem? q)
theorem ends_slash : ∀ (l : List (List Nat)) (y : List Nat), ∃ x, (y ++ [47]) ++ bod l = x ++ [47]
  | [], y => ⟨y, by simp [bod]⟩
  | n :: l, y => by
    obtain ⟨x, hx⟩ := ends_slash l (y ++ [47] ++ n)
    exact ⟨x, by rw [← hx, bod_cons]; simp⟩
theorem cut_name {ns : List (List Nat)} {i : Nat} {n : List Nat} (h : ns[i]? = some n) : (47 :: bod ns).take (sl ns i) ++ (47 :: bod ns).drop (sl ns (i + 1)) = 47 :: bod (ns.eraseIdx i) := by
  have e : (47 :: bod ns) = (47 :: bod (ns.take i)) ++ (n ++ 47 :: bod (ns.drop (i + 1))) := by
    conv => lhs; rw [split_at h]
    rw [bod_app, bod_cons]; simp
  obtain ⟨x, hx⟩ := ends_slash (ns.take i) []
  rw [List.nil_append, List.singleton_append] at hx
  have hxl : x.length = sl ns i := by
    have := congrArg List.length hx
    simp [sl] at this ⊢
    try omega
  have h1 : (47 :: bod ns).take (sl ns i) = x := by
    rw [e, hx, List.append_assoc, ← hxl, List.take_left' rfl]
  have h2 : (47 :: bod ns).drop (sl ns (i + 1)) = 47 :: bod (ns.drop (i + 1)) := by
    rw [sl_succ h, e]
    have : (47 :: bod (ns.take i)) ++ (n ++ 47 :: bod (ns.drop (i + 1))) = ((47 :: bod (ns.take i)) ++ n) ++ (47 :: bod (ns.drop (i + 1))) := by simp
    rw [this, List.drop_left' (by simp [sl]; try omega)]
  rw [h1, h2, List.eraseIdx_eq_take_drop_succ, bod_app]
  have : x ++ 47 :: bod (ns.drop (i + 1)) = (x ++ [47]) ++ bod (ns.drop (i + 1)) := by simp
  rw [this, ← hx]; simp
/-- the paths that come of one name cut out, each name in its turn -/
noncomputable def cuts (ns : List (List Nat)) : List (List Nat) := (List.range ns.length).map fun i => 47 :: bod (ns.eraseIdx i)
theorem cuts_take_succ {ns : List (List Nat)} {i : Nat} (h : i < ns.length) : (cuts ns).take (i + 1) = (cuts ns).take i ++ [47 :: bod (ns.eraseIdx i)] := by
  apply take_snoc
  simp [cuts, h]
theorem cuts_take_len (ns : List (List Nat)) : (cuts ns).take ns.length = cuts ns := List.take_of_length_le (by simp [cuts])

theorem fresh_P12_shorter : True := by
  w_top off
  trivial
theorem lw8_all : True := by
  k_with "lw8" => (refine' mem_setL_self ?km9; (case km9 => k_mem))
  trivial
local macro_rules | `(tactic| k_mem) => `(tactic| k_extra "lw8")
local macro_rules | `(tactic| k_mem) => `(tactic| assumption)
section
variable {prog : Program} {w : World} {A : Around} {E : Value → Shared → Prop} {s : Shared} {h₀ : Heap} {L D : Addr} {m : Str → Option Value} {led : Led}
theorem app_L {its : List Value} {n : Nat} {x : Value} {Q : Value → Shared → Prop} (F : Fr h₀ L s.heap m) (N : News h₀ L s.heap led) (hm : (D, listOf its.toArray n) ∈ led) (hsz : its.length ≤ 1000000)
    (h : ∀ h', Fr h₀ L h' m → News h₀ L h' (setL led D (listOf (its ++ [x]).toArray (n + 1))) → Q .none { s with heap := h' }) : wpAny (model prog w) A (call (.builtin "list.append") [.ref D, x]) Q E s := by
  refine append_at (hsz := by rw [List.size_toArray, sizeLine_eq]; omega) (N _ hm).1 fun h' hs ho' => h h' (fr_same F N hm hs) (news_same N hm hs ?_)
  have e : its.toArray.push x = (its ++ [x]).toArray := by simp
  rw [e] at ho'; exact ho'
theorem len_L {its : List Value} {n : Nat} {Q : Value → Shared → Prop} (N : News h₀ L s.heap led) (hm : (D, listOf its.toArray n) ∈ led) (hsz : its.length ≤ 1000000) (h : ∀ k tk, Q (.int its.length k) { s with toks := tk }) : wpAny (model prog w) A (call (.builtin "len") [.ref D]) Q E s := by
  refine len_list ⟨_, (N _ hm).1, rfl, n, rfl⟩ ?_ ?_
  · rw [List.size_toArray]; omega
  · rw [List.size_toArray]; exact h _ _
/-- how a loop's body may end, the invariant out of sight -/
structure LoopB (Qb Q : Flow → Shared → Prop) (P : Shared → Prop) : Prop where
  next : ∀ s', P s' → Qb .next s'
  cont : ∀ s', P s' → Qb .cont s'
  brk : ∀ s', Q .next s' → Qb .brk s'
  ret : ∀ v s', Q (.ret v) s' → Qb (.ret v) s'
theorem while_any {env : Env} {test : Expr} {body orelse : List Stmt} {pos : Pos} {Q : Flow → Shared → Prop} (I : Nat → Shared → Prop)
    (turn : ∀ n s, I n s → wpAny (model prog w) A (isTrue test env (eval test env)) (fun b s₂ =>
        if b = true then wpAny (model prog w) A (execs body env) (fun f s₃ => match f with
            | .next | .cont => Box (∃ m, m < n ∧ I m s₃)
            | .brk => Q .next s₃
            | .ret v => Q (.ret v) s₃) (fun _ _ => False) s₂
        else wpAny (model prog w) A (execs orelse env) Q (fun _ _ => False) s₂) (fun _ _ => False) s)
    (n : Nat) (h : I n s) : wpAny (model prog w) A (exec (.While test body orelse pos) env) Q (fun _ _ => False) s := by
  refine wpAny_While (codeAny_whileLoop I (fun n s hI => ?_) n h)
  refine wpAny_mono (turn n s hI) (fun b s₂ hb => ?_) fun _ _ e => e.elim
  cases b with
  | true => exact wpAny_mono hb (fun f s₃ hf => by cases f <;> first | exact hf.out | exact hf) fun _ _ e => e.elim
  | false => exact wpAny_mono hb (fun f s₃ hf => hf) fun _ _ e => e.elim
theorem while_anyH {env : Env} {test : Expr} {body orelse : List Stmt} {pos : Pos} {Q : Flow → Shared → Prop} (I : Nat → Shared → Prop)
    (turn : ∀ n s (Qb : Flow → Shared → Prop), LoopB Qb Q (fun s' => ∃ m, m < n ∧ I m s') → I n s → wpAny (model prog w) A (isTrue test env (eval test env)) (fun b s₂ =>
        if b = true then wpAny (model prog w) A (execs body env) Qb (fun _ _ => False) s₂
        else wpAny (model prog w) A (execs orelse env) Q (fun _ _ => False) s₂) (fun _ _ => False) s)
    (n : Nat) (h : I n s) : wpAny (model prog w) A (exec (.While test body orelse pos) env) Q (fun _ _ => False) s :=
  while_any I (fun n s hI => turn n s _ ⟨fun _ h => ⟨h⟩, fun _ h => ⟨h⟩, fun _ h => h, fun _ _ h => h⟩ hI) n h
end
theorem lw9_all : True := by
  k_with "L call builtin:list.append" => (k_here; k_dflt (refine' app_L ?k1 ?k2 ?k3 ?k4 ?_; (case k1 => k_asm); (case k2 => k_asm); (case k3 => k_mem); (case k4 => first | omega | exact Nat.le_of_ble_eq_true rfl)); intro _ _ _; (try k_sweep))
  trivial
theorem lw10_all : True := by
  k_with "L call builtin:len" => (k_here; (with_reducible show wpAny _ _ (call _ [Value.ref _]) _ _ _); k_dflt (refine' len_L ?k2 ?k3 ?k4 ?_; (case k2 => k_asm); (case k3 => k_mem); (case k4 => first | omega | exact Nat.le_of_ble_eq_true rfl)); intro _ _)
  trivial
theorem lw11_all : True := by
  k_with "L call type:frozenset" => (k_here; k_dflt (refine' fz_make ?k1 ?k2 ?_; (case k1 => k_asm); (case k2 => k_asm)); intro _ _ _ _ _ _; (try k_sweep))
  trivial
inductive ShI (κ : Bool) (ns : List (List Nat)) (k : Tok) (D : Addr) (news : Led) (g : Heap) (L : Addr) (s : Shared) (n : Nat) (s' : Shared) : Prop
  | mk (i : Nat) (h' : Heap) (tk' : Nat) (m' : Str → Option Value) (led : Led) (vs : List Value) (e : Nat) (kp : Tok)
      (e1 : n = ns.length - i) (e2 : i ≤ ns.length) (e3 : s' = { s with heap := h', toks := tk' }) (e4 : Fr g L h' m') (e5 : News g L h' led) (e6 : (D, listOf vs.toArray e) ∈ led) (e7 : (∀ p ∈ news, p ∈ led)) (e8 : TxtsAre κ vs ((cuts ns).take i)) (e9 : m' (Str.ofString "path") = some (txt κ (47 :: bod ns) k)) (e10 : m' (Str.ofString "shorter") = some (.ref D)) (e11 : m' (Str.ofString "place") = some (.int (sl ns i) kp))
theorem shorter_fn (w : World) (κ : Bool) (ns : List (List Nat)) (k : Tok) (news : Led) (hb : Bare ns) (ha : Asc (47 :: bod ns)) (hn : ns.length ≤ 8) (hsz : (bod ns).length ≤ 900) :
    Fn w 570 3700 189 ⟨[txt κ (47 :: bod ns) k], []⟩ news (fun r led => ∃ D vs e, r = .ref D ∧ led = (D, listOf vs.toArray e) :: news ∧ TxtsAre κ vs (cuts ns) ∧ ∀ p ∈ news, p.1 < D) := by
  unfold Fn; k_fill; show Fn _ _ _ _ _ _ _
  refine Fn.intro (binds := [(Str.ofString "path", txt κ (47 :: bod ns) k)]) (by k_is) (by k_is) rfl (fun s _ => BindsTo.of_eq rfl) (locs rfl) (by decide) rfl rfl rfl ?_
  intro loose mean mg mb gd env₀ outer base g L h₁ s tk B F X N T hlt
  refine wp_hide fun Qf hQf => ?_
  k_extra "go"
  rename_i D h2 hD h3 h4 F4 N4
  refine while_anyH (ShI κ ns k D news g L s) ?_ ns.length
    ⟨0, _, _, _, _, [], 0, _, by omega, Nat.zero_le _, rfl, F4, N4, List.mem_cons_self .., fun p hp => List.mem_cons_of_mem _ hp, .nil, rfl, rfl, by rw [sl_zero]; rfl⟩
  intro n s' Qb hQb hp9z
  refine hideG fun G9 hG9 => ?_
  obtain ⟨i, h', tk', m', led, vs, e, kp, rfl, hi, rfl, F5, N5, hm, hsub, hv, v1, v2, v3⟩ := hp9z
  refine hG9.out ?_
  clear hG9 G9
  have hlen := hv.length
  rw [List.length_take, show (cuts ns).length = ns.length by simp [cuts], Nat.min_eq_left hi] at hlen
  k_extra "go"
  ·
    have hx : (↑(sl ns i) + 1 : Int) < ↑(47 :: bod ns).length := ‹_›
    have hi' : i < ns.length := by
      rcases Nat.lt_or_ge i ns.length with q | q
      · exact q
      ·
        have e2 : i = ns.length := by omega
        subst e2; rw [sl_last] at hx; simp only [List.length_cons] at hx; omega
    obtain ⟨nm, hnm⟩ : ∃ nm, ns[i]? = some nm := ⟨ns[i], by simp [hi']⟩
    rename_i z9 lf9 h9' F9 N9 lt9
    show wpAny _ _ (call (.ref 168) [_, .int ((sl ns i + 1 : Nat) : Int) _, _] [(Str.ofString "error_on", .ref z9), (Str.ofString "error_on_eof", .bool true)]) _ _ _
    refine Fn.use (skip_fn w κ _ _ _ _ _ (sl ns i + 1) (sl ns (i+1)) z9 lf9 _ ha asc_slash (find_slash hb hnm) (List.mem_cons_self ..) (by simp only [List.length_cons]; omega)) rfl (by k_asm) F9 (by k_asm) N9 (by k_asm) rfl rfl (Nat.le_of_ble_eq_true rfl) (Nat.le_of_ble_eq_true rfl) ?_
    intro v h6 tk6 led6 F6 N6 hp9z
    refine hideG fun G9 hG9 => ?_
    obtain ⟨e1, k6, e2⟩ := hp9z
    refine hG9.out ?_
    clear hG9 G9
    subst e1 e2
    k_extra "go"
    rw [cutL_to, cutL_from]
    refine txt_add (Nat.le_trans (Nat.add_le_add (List.take_sublist _ _).length_le (List.drop_sublist _ _).length_le) (by simp only [List.length_cons]; omega)) ?_
    intro k7 tk7
    rw [cut_name hnm]
    k_extra "go"
    rename_i h8 F8 N8
    refine hQb.next _ ⟨ns.length - (i + 1), by omega, i + 1, _, _, _, _, vs ++ [txt κ (47 :: bod (ns.eraseIdx i)) k7], e + 1, k6, rfl, by omega, rfl, F8, N8, mem_setL_self (List.mem_cons_of_mem _ hm), fun p hp => mem_setL_ne (Nat.ne_of_lt (hD p hp)) (List.mem_cons_of_mem _ (hsub p hp)), ?_, v1, v2, rfl⟩
    rw [cuts_take_succ hi']; exact hv.app (.cons .nil)
  · rename_i hx
    have e2 : i = ns.length := by
      rcases Nat.lt_or_ge i ns.length with q | q
      ·
        have := sl_lt q; simp only [List.length_cons] at hx; omega
      · omega
    subst e2
    rw [cuts_take_len] at hv
    refine hQf.out _ _ ?_
    exact ⟨_, _, _, _, rfl, F5, news_sub N5 (fun p hp => (List.mem_cons.mp hp).elim (fun e => e ▸ hm) (hsub p)), D, vs, e, rfl, rfl, hv, hD⟩

theorem fresh_P13_fns : True := by
  w_top off
  trivial
noncomputable abbrev frs (l : List Env) : List Addr := l.filterMap (·.frame)
theorem up_of_turn {fs : List Addr} {g g' : Heap} (T : KtsTurn fs g g') : g.UpToSlots g' := fun _ _ e _ => T.up e
theorem below_turn {A : Around} {base g g' : Heap} {outer : List Env} (B : Below A base outer g) (T : KtsTurn (frs outer) g g') : Below A base outer g' :=
  ⟨B.stack, fun b o e => T.other b o (B.stays b o e) (fun hm => by
    rw [(B.frames.mem hm).1] at e
    cases e), B.frames.of_keeps fun b o e _ => by
    obtain ⟨sl', hs'⟩ := T.up e
    exact ⟨_, hs', rfl⟩⟩
theorem mem_frs {env : Env} {L b : Addr} {outer : List Env} (hf : env.frame = some L) (hm : b ∈ frs (env :: outer)) : b = L ∨ b ∈ frs outer := by
  obtain ⟨e, he, hf'⟩ := List.mem_filterMap.mp hm
  rcases List.mem_cons.mp he with rfl | he
  · exact .inl (Option.some.inj (hf'.symm.trans hf))
  · exact .inr (List.mem_filterMap.mpr ⟨e, he, hf'⟩)
theorem turn_back {A₀ : Around} {base h₀ g g' : Heap} {outer : List Env} {env : Env} {L : Addr} {m : Str → Option Value} (B : Below A₀ base outer h₀) (FG : Fr h₀ L g m) (hf : env.frame = some L) (T : KtsTurn (frs (env :: outer)) g g') :
    ∃ h₀', KtsTurn (frs outer) h₀ h₀' ∧ Fr h₀' L g' m ∧ Below A₀ base outer h₀' := by
  obtain ⟨T₁, S₁⟩ := kts_turn_at (h := g') (fs := frs outer) (g := h₀)
    (fun b hb => by
      refine hideG fun G9 hG9 => ?_
      obtain ⟨_, o, ho', _⟩ := B.frames.mem hb
      refine hG9.out ?_
      clear hG9 G9
      exact ⟨o, ho'⟩)
    (fun b o e nm => T.other b o (FG.keep b o e) (fun q => by
      rcases mem_frs hf q with z | z
      · rw [z, kts_self FG] at e
        cases e
      · exact nm z))
    (fun b o e _ => T.up (FG.keep b o e))
  exact ⟨_, T₁, ⟨(up_of_turn T).ns FG.ns, S₁, by rw [T₁.size]; exact FG.above⟩, below_turn B T₁⟩
/-- up from the callee's ground to the caller's -/
theorem fr_up {h₀ g h : Heap} {L L' : Addr} {m m' : Str → Option Value} (FG : Fr h₀ L g m) (F : Fr g L' h m') : Fr h₀ L h m := by
  refine hideG fun G9 hG9 => ?_
  obtain ⟨oL, es, ep, hL, hLd, hLk, hLf⟩ := FG.ns
  refine hG9.out ?_
  clear hG9 G9
  exact ⟨⟨oL, es, ep, F.keep _ _ hL, hLd, hLk, hLf⟩, fun b o e => F.keep b o (FG.keep b o e), FG.above⟩
theorem news_up {h₀ g h : Heap} {L L' : Addr} {m : Str → Option Value} {led : Led} (FG : Fr h₀ L g m) (N : News g L' h led) : News h₀ L h led := by
  refine hideG fun G9 hG9 => ?_
  obtain ⟨oL, es, ep, hL, _⟩ := FG.ns
  refine hG9.out ?_
  clear hG9 G9
  exact fun p hp => ⟨(N p hp).1, (fun q => by have := (N p hp).2.2; rw [q, hL] at this; cases this), kts_none FG.keep (N p hp).2.2⟩
/-- a call that may turn the frames' slots, and that may raise -/
noncomputable def FnS (w : World) (D U : Nat) (hdl : Option Value) (f : Addr) (args : Args) (news : Led) (post : Value → Led → Prop) (err : Value → List Value → Led → Prop) : Prop :=
  ∀ (loose : List Str) (mean : ExcName → Option Value) (mg mb : Str → Option Value) (gd : Option (List Code)) (env : Env) (outer : List Env) (A₀ : Around) (base h₀ : Heap) (L : Addr) (m : Str → Option Value) (s : Shared),
    env.frame = some L → env.scope.kind = .function → Below A₀ base outer h₀ → Fr h₀ L s.heap m → News h₀ L s.heap news → (Mine.hd.heap_1 w.params).In base → Top topProg loose mean mg mb base → KtsDicts (frs outer) h₀ →
    codeAny (model PySem.Challenge.rw_op0160_01.row.prog w) { handled := hdl, depth := D, frames := some (env :: outer), guards := gd, units := U } (.call (.ref f) args)
      (fun r s' => match r with
        | .ok (.ret v) => ∃ h₀' h' tk' news', s' = { s with heap := h', toks := tk' } ∧ KtsTurn (frs outer) h₀ h₀' ∧ Fr h₀' L h' m ∧ News h₀' L h' news' ∧ post v news'
        | .error (.ref e) => ∃ h₀' h' tk' G cls t vs led, s' = { s with heap := h', toks := tk' } ∧ KtsTurn (frs outer) h₀ h₀' ∧ Fr h₀' L G m ∧ RaisedS base G (env :: outer) e cls t vs led h' ∧ G.UpToSlots h' ∧ err cls vs led
        | _ => False) s
section
variable {w : World} {D U : Nat} {hdl : Option Value} {f : Addr} {args : Args} {news : Led} {post : Value → Led → Prop} {err : Value → List Value → Led → Prop}
variable {loose : List Str} {mean : ExcName → Option Value} {mg mb : Str → Option Value} {gd : Option (List Code)} {env : Env} {outer : List Env} {A A₀ : Around} {base h₀ g₀ : Heap} {L : Addr} {m : Str → Option Value} {s : Shared} {Q : Value → Shared → Prop} {E : Value → Shared → Prop}
theorem FnS.use {pos : List Value} {kw : List (Str × Value)} (C : FnS w D U hdl f ⟨pos, kw⟩ news post err) (hA : A.frames = some (env :: outer)) (hf : env.frame = some L) (hk : env.scope.kind = .function) (B : Below A₀ base outer h₀) (F : Fr h₀ L s.heap m) (N : News h₀ L s.heap news)
    (XB : (Mine.hd.heap_1 w.params).In base) (TB : Top topProg loose mean mg mb base) (KD : KtsDicts (frs outer) h₀) (T0 : KtsTurn (frs outer) g₀ h₀)
    (hh : A.handled = hdl) (hd : A.depth ≤ D) (hu : A.units ≤ U)
    (ret : ∀ v h₀' h' tk' news', KtsTurn (frs outer) g₀ h₀' → Below A₀ base outer h₀' → Fr h₀' L h' m → News h₀' L h' news' → (Mine.hd.heap_1 w.params).In h₀' → Top topProg loose mean mg mb h₀' → KtsDicts (frs outer) h₀' → post v news' → Q v { s with heap := h', toks := tk' })
    (exc : ∀ e h₀' h' tk' G cls t vs led, KtsTurn (frs outer) g₀ h₀' → Below A₀ base outer h₀' → Fr h₀' L G m → KtsDicts (frs outer) h₀' → RaisedS base G (env :: outer) e cls t vs led h' → G.UpToSlots h' → err cls vs led → E (.ref e) { s with heap := h', toks := tk' }) :
    wpAny (model PySem.Challenge.rw_op0160_01.row.prog w) A (call (.ref f) pos kw) Q E s := by
  refine wpAny_call (codeAny_mono (R := fun r s' => match r with
        | .ok (.ret v) => ∃ h₀' h' tk' news', s' = { s with heap := h', toks := tk' } ∧ KtsTurn (frs outer) h₀ h₀' ∧ Fr h₀' L h' m ∧ News h₀' L h' news' ∧ post v news'
        | .error (.ref e) => ∃ h₀' h' tk' G cls t vs led, s' = { s with heap := h', toks := tk' } ∧ KtsTurn (frs outer) h₀ h₀' ∧ Fr h₀' L G m ∧ RaisedS base G (env :: outer) e cls t vs led h' ∧ G.UpToSlots h' ∧ err cls vs led
        | _ => False) ?_ ?_)
  · intro Γ p hc hΓ
    exact C loose mean mg mb A.guards env outer A₀ base h₀ L m s hf hk B F N XB TB KD Γ p hc (Ctx.Below.up hΓ hh hd hA rfl hu)
  · intro r s' h
    match r, h with
    | .ok (.ret v), h =>
      refine hideG fun G9 hG9 => ?_
      obtain ⟨h₀', h', tk', news', rfl, T, F', N', hp⟩ := h
      refine hG9.out ?_
      clear hG9 G9
      have B' := below_turn B T
      exact ret v h₀' h' tk' news' (T0.trans T) B' F' N' (XB.keeps B'.stays) (TB.keeps B'.stays) (KD.turn T) hp
    | .error (.ref e), h =>
      refine hideG fun G9 hG9 => ?_
      obtain ⟨h₀', h', tk', G, cls, t, vs, led, rfl, T, F', R, hs, hp⟩ := h
      refine hG9.out ?_
      clear hG9 G9
      exact exc e h₀' h' tk' G cls t vs led (T0.trans T) (below_turn B T) F' (KD.turn T) R hs hp
/-- how a body ends -/
inductive EndsS (fs : List Addr) (g : Heap) (L' : Addr) (s : Shared) (post : Value → Led → Prop) (fl : Flow) (s' : Shared) : Prop
  | mk (g' h' : Heap) (tk' : Nat) (m' : Str → Option Value) (news' : Led) (e1 : s' = { s with heap := h', toks := tk' }) (e2 : KtsTurn fs g g') (e3 : Fr g' L' h' m') (e4 : News g' L' h' news') (e5 : post (match fl with | .ret v => v | _ => .none) news')
/-- how a body raises -/
inductive ErrS (base g : Heap) (own : Env) (outer : List Env) (L : Addr) (s : Shared) (err : Value → List Value → Led → Prop) : Value → Shared → Prop
  | made {e g' h h' m' cls vs led tk'} : KtsTurn (frs outer) g g' → Fr g' L h m' → News g' L h led → Heap.MadeExcOf h h' e cls vs → err cls vs led → ErrS base g own outer L s err (.ref e) { s with heap := h', toks := tk' }
  | on {e g' G h' m' cls t vs led tk'} : KtsTurn (frs outer) g g' → Fr g' L G m' → RaisedS base G (own :: outer) e cls t vs led h' → G.UpToSlots h' → err cls vs led → ErrS base g own outer L s err (.ref e) { s with heap := h', toks := tk' }
  | held {e g' G h' m' cls t vs led tk'} : KtsTurn (frs outer) g g' → Fr g' L G m' → RaisedH base G (own :: outer) L e cls t vs led h' → G.UpToSlots h' → err cls vs led → ErrS base g own outer L s err (.ref e) { s with heap := h', toks := tk' }
theorem FnS.intro {name qual : Str} {params : Arguments} {body : List Stmt} {scope : Scope} {dV kV doc pm cdv ct oc : Value} {an od : Option Addr} {osl : Array (Option Value)} {binds : List (Str × Value)}
    (ho : (Mine.hd.heap_1 w.params).lookup f = some ⟨oc, od, .func (fnOf name qual params body scope dV kV doc pm an cdv ct), osl⟩) (hcd : codeIn (Mine.hd.heap_1 w.params) cdv qual = true) (hroom : Nat.blt D 1000 = true)
    (hbind : ∀ s : Shared, (Mine.hd.heap_1 w.params).In s.heap → BindsTo s (fnOf name qual params body scope dV kV doc pm an cdv ct) args binds) (hloc : ∀ y ∈ binds, scope.names.lookup y.1 = some .local)
    (hcell : ∀ x ∈ scope.names, x.2 ≠ .cell) (hco : scope.isCoroutine = false) (hgen : scope.isGenerator = false) (hk : scope.kind = .function)
    (h : ∀ (loose : List Str) (mean : ExcName → Option Value) (mg mb : Str → Option Value) (gd : Option (List Code)) (env₀ : Env) (outer : List Env) (base g : Heap) (L : Addr) (h₁ : Heap) (s : Shared) (tk : Nat),
      Below { handled := hdl, depth := D, frames := some (env₀ :: outer), guards := gd, units := U } base (env₀ :: outer) g → Fr g L h₁ (fun y => binds.reverse.lookup y) → (Mine.hd.heap_1 w.params).In g → News g L h₁ news → Top topProg loose mean mg mb g → (∀ p ∈ news, p.1 < L) →
      Box ((Mine.hd.heap_1 w.params).In base ∧ Top topProg loose mean mg mb base) → KtsDicts (frs (env₀ :: outer)) g →
      wpAny (model PySem.Challenge.rw_op0160_01.row.prog w) (AR hdl (D + 1) (U + 3) (envOf qual scope L f cdv) gd env₀ outer) (execs body (envOf qual scope L f cdv)) (EndsS (frs (env₀ :: outer)) g L s post) (ErrS base g (envOf qual scope L f cdv) (env₀ :: outer) L s err) { s with heap := h₁, toks := tk }) :
    FnS w D U hdl f args news post err := by
  intro loose mean mg mb gd env outer A₀ base h₀ L m s hf hke B F N XB TB KD
  have X := XB.keeps B.stays
  have T := TB.keeps B.stays
  refine hideG fun G9 hG9 => ?_
  obtain ⟨FG, BG, st, _⟩ := groundX (R := fun _ _ => True) (A := { handled := hdl, depth := D, frames := some (env :: outer), guards := gd, units := U }) B F N rfl hf hke
  refine hG9.out ?_
  clear hG9 G9
  refine codeAny_call_def (fd := fnOf name qual params body scope dV kV doc pm an cdv ct) (body := body) (binds := binds) (Nat.le_of_ble_eq_true hroom) ((X.keeps F.keep) _ _ ho) rfl (T.nolimit.keeps F.keep) (codeRec_of (X.keeps F.keep) hcd) rfl (hbind s (X.keeps F.keep)) hcell hloc (fun h₁ hns hk₁ => ?_) hco hgen hk
  have KD' : KtsDicts (frs (env :: outer)) (hideAll s.heap (news.map (·.1))) := fun b hb => by
    rcases mem_frs hf hb with rfl | z
    · refine hideG fun G9 hG9 => ?_
      obtain ⟨oL, es, ep, hL, hLd, _⟩ := FG.ns
      refine hG9.out ?_
      clear hG9 G9
      exact ⟨oL, es, ep, hL, hLd⟩
    · refine hideG fun G9 hG9 => ?_
      obtain ⟨o, es', n', ho', hd'⟩ := KD b z
      refine hG9.out ?_
      clear hG9 G9
      exact ⟨o, es', n', st b o ho', hd'⟩
  refine wpAny_mono (h loose mean mg mb gd env outer base _ s.heap.objs.size h₁ s _ BG ⟨hns, fun b o e => hk₁ b o (of_hideAll _ e), Nat.le_of_eq (hideAll_size _ _)⟩ (X.keeps st)
    (fun p hp => ⟨hk₁ _ _ (N p hp).1, Nat.ne_of_lt (Heap.lt_size (N p hp).1), hideAll_none _ (List.mem_map_of_mem hp)⟩) (T.keeps st) (fun p hp => Heap.lt_size (N p hp).1) ⟨XB, TB⟩ KD') ?_ ?_
  · rintro fl s' hp9z
    refine hideG fun G9 hG9 => ?_
    obtain ⟨g', h', tk', m', news', rfl, T1, F2, N2, hp⟩ := hp9z
    refine hG9.out ?_
    clear hG9 G9
    refine hideG fun G9 hG9 => ?_
    obtain ⟨h₀', T2, F3, B3⟩ := turn_back B FG hf T1
    refine hG9.out ?_
    clear hG9 G9
    refine ⟨h₀', h', tk', news', rfl, T2, fr_up F3 F2, news_up F3 N2, ?_⟩
    cases fl <;> exact hp
  · rintro ev s' hE
    cases hE with
    | made T1 F2 N2 hx he =>
      refine hideG fun G9 hG9 => ?_
      obtain ⟨h₀', T2, F3, B3⟩ := turn_back B FG hf T1
      refine hG9.out ?_
      clear hG9 G9
      exact leave_raiseS (below_turn BG T1) hx F2 N2 (fun h' t R _ hs => ⟨h₀', h', _, _, _, t, _, _, rfl, T2, F3, R, hs, he⟩) hk
    | on T1 F2 R hs he =>
      refine hideG fun G9 hG9 => ?_
      obtain ⟨h₀', T2, F3, B3⟩ := turn_back B FG hf T1
      refine hG9.out ?_
      clear hG9 G9
      exact leave_onS (below_turn BG T1) F2 R hs (fun h' R _ hs => ⟨h₀', h', _, _, _, _, _, _, rfl, T2, F3, R, hs, he⟩)
    | held T1 F2 R hs he =>
      refine hideG fun G9 hG9 => ?_
      obtain ⟨h₀', T2, F3, B3⟩ := turn_back B FG hf T1
      refine hG9.out ?_
      clear hG9 G9
      exact leave_heldS R F2 hs (fun h' R _ hs => ⟨h₀', h', _, _, _, _, _, _, rfl, T2, F3, R, hs, he⟩)
end

theorem fresh_P145_raise : True := by
  w_top off
  trivial
section
variable {prog : Program} {w : World} {A : Around} {E : Value → Shared → Prop} {env : Env}
variable {nm q : Str} {C N : Addr} {bs bm : List Value} {hdct : Bool} {sn : List Str} {sub : List Value} {ab : Bool} {col : Option Bool} {dd : Option Addr} {k0 k1 k2 k3 k5 : Option Value} {newId : String}
theorem unchain_none {A : Around} {E : Value → Shared → Prop} {e₀ : Addr} {v : Value} {o₀ : Obj} {vs₀ : Array Value} {Q : Value → Shared → Prop} {s : Shared} (h0 : s.heap.get? e₀ = some o₀) (hd0 : o₀.data = .fields vs₀) (h2 : vs₀[2]? = some .none) (hq : Q .none s) :
    wpAny (model prog w) A (runValue (.builtin "proto.unchain" ⟨[v, .ref e₀, .ref e₀, .bool false], []⟩)) Q E s := by
  refine wpAny_runValue (codeAny_builtin (b := Builtin.«proto.unchain») (by first | exact entryFor_of_fast (by kernel_rfl) | exact entryFor_of_tree (by kernel_rfl)) ?_)
  unfold Builtin.«proto.unchain»
  refine wpAny_bind (wpAny_field h0 hd0 h2 ?_)
  rw [if_pos (by rfl)]
  wp_walk
  exact hq
theorem raise_from_none {s : Shared} {x : Expr} {kk : Nat} {cp pos : Pos} {e₀ : Addr} {Q : Flow → Shared → Prop} (hbase : bm.contains (.type "BaseException") = true) (hh : A.handled = some (.ref e₀))
    (h : wpAny (model prog w) A (eval x env) (fun v s₁ => ∃ e t o₀ vs₀, v = .ref e ∧ s₁.heap.get? C = some (excClassObj nm q C N bs bm hdct sn sub ab col dd k0 k1 k2 k3 k5 newId) ∧
      s₁.heap.get? e = some { cls := .ref C, data := .fields #[.ref t, .none, .none, .none, .bool false, .none] } ∧ s₁.heap.get? e₀ = some o₀ ∧ o₀.data = .fields vs₀ ∧ vs₀[2]? = some .none ∧ e ≠ e₀ ∧
      ∀ h', h'.get? e = some { cls := .ref C, data := .fields #[.ref t, .none, .ref e₀, .none, .bool true, .none] } → (∀ b, b ≠ e → h'.get? b = s₁.heap.get? b) → E (.ref e) { s₁ with heap := h' }) E s) :
    wpAny (model prog w) A (exec (.Raise (some x) (some (.Constant .none kk cp)) pos) env) Q E s := by
  have hcB : (Value.ref C :: bm).contains (.type "BaseException") = true := by rw [List.contains_cons, hbase, Bool.or_true]
  show wpAny _ A (do standAt pos; raiseStmt env (some (do let v ← eval x env; standAt pos; pure v)) (some (do let v ← eval (.Constant .none kk cp) env; standAt pos; pure v))) Q E s
  refine wpAny_bind (wpAny_standAt ?_)
  unfold raiseStmt
  refine wpAny_bind (wpAny_bind (wpAny_mono h (fun v s₁ h₁ => wpAny_bind (wpAny_standAt (wpAny_pure ?_))) fun _ _ x => x))
  refine hideG fun G9 hG9 => ?_
  obtain ⟨e, t, o₀, vs₀, rfl, hC, he, h0, hd0, h2, hne, hE⟩ := h₁
  obtain ⟨hp, g, d, tk, os⟩ := s₁
  refine hG9.out ?_
  clear hG9 G9
  repeat (first | with_reducible refine wpAny_loadPart_at he ?_ | with_reducible refine wpAny_loadPart_at hC ?_ | (with_reducible refine wpAny_isSubtype_exc hC ?_; rw [hcB]) | wp_step)
  have hCe : C ≠ e := fun z => by rw [z, he] at hC; cases hC
  have he1 : (hp.update e (Obj.mapFields fun x => x.setIfInBounds 3 Value.none)).get? e = some { cls := .ref C, data := .fields #[.ref t, .none, .none, .none, .bool false, .none] } := Heap.get?_update_self _ he rfl
  have he2 : ((hp.update e (Obj.mapFields fun x => x.setIfInBounds 3 Value.none)).update e (Obj.mapFields fun x => x.setIfInBounds 4 (Value.bool true))).get? e = some { cls := .ref C, data := .fields #[.ref t, .none, .none, .none, .bool true, .none] } := Heap.get?_update_self _ he1 rfl
  have ot : ∀ b, b ≠ e → ((hp.update e (Obj.mapFields fun x => x.setIfInBounds 3 Value.none)).update e (Obj.mapFields fun x => x.setIfInBounds 4 (Value.bool true))).get? b = hp.get? b := fun b hb => by
    rw [Heap.get?_update_other _ _ (Ne.symm hb), Heap.get?_update_other _ _ (Ne.symm hb)]
  generalize ((hp.update e (Obj.mapFields fun x => x.setIfInBounds 3 Value.none)).update e (Obj.mapFields fun x => x.setIfInBounds 4 (Value.bool true))) = h1 at he2 ot ⊢
  have hC1 := (ot C hCe).trans hC
  refine wpAny_loadPart_at hC1 (wpAny_pure ?_)
  rw [if_pos (by rfl)]
  refine wpAny_pure ?_
  show wpAny _ A (do setFlight (.ref e) none; raiseNew (.ref e)) Q E _
  refine wpAny_bind ?_
  unfold setFlight
  refine wpAny_bind (wpAny_field (x := Value.none) he2 rfl rfl ?_)
  rw [if_neg (by decide)]
  refine wpAny_pure ?_
  unfold raiseNew
  refine wpAny_bind (wpAny_handled ?_)
  rw [hh]
  dsimp only
  rw [if_pos (by simp; exact fun z => hne z.symm)]
  refine wpAny_bind (wpAny_holding (unchain_none ((ot e₀ (Ne.symm hne)).trans h0) hd0 h2 ?_))
  refine wpAny_bind ?_
  show wpAny _ A (setField (.ref e) 2 (.ref e₀)) _ E _
  refine wpAny_setField he2 rfl (by show 2 < 6; decide) ?_
  refine wpAny_throw (hE _ (Heap.get?_update_self _ he2 rfl) fun b hb => ?_)
  rw [Heap.get?_update_other _ _ (Ne.symm hb)]; exact ot b hb
end

theorem fresh_P146_suf : True := by
  w_top off
  trivial
theorem updF_of {d : Addr} {o : Obj} : ∀ {led : Led}, (led.map (·.1)).Nodup → (d, o) ∈ led → UpdF d o led (fun o' => setL led d o')
  | p :: r, D, h => by
    rw [List.map_cons] at D
    obtain ⟨hn, D'⟩ := List.nodup_cons.mp D
    rcases List.mem_cons.mp h with e | h1
    · subst e
      have hr : ∀ p ∈ r, p.1 ≠ d := fun p hp e => hn (List.mem_map.mpr ⟨p, hp, e⟩)
      have : (fun o' => setL ((d, o) :: r) d o') = fun o' => (d, o') :: r := by
        funext o'
        show (if (d, o).1 = d then (d, o') else (d, o)) :: setL r d o' = _
        rw [if_pos rfl, setL_id hr]
      rw [this]
      exact UpdF.head hr
    ·
      have hne : p.1 ≠ d := fun e => hn (List.mem_map.mpr ⟨(d, o), h1, e.symm⟩)
      have : (fun o' => setL (p :: r) d o') = fun o' => p :: setL r d o' := by
        funext o'
        show (if p.1 = d then (d, o') else p) :: setL r d o' = _
        rw [if_neg hne]
      rw [this]
      exact UpdF.tail hne (updF_of D' h1)
theorem code_hd {w : World} {h : Heap} (X : (Mine.hd.heap_1 w.params).In h) : CodeHd h 174 170 := by
  have e := X 174 _ rfl
  exact ⟨_, _, _, _, _, _, _, _, _, e, rfl, rfl, rfl, rfl, rfl, rfl, rfl, rfl, by decide⟩
theorem nest_L {prog : Program} {w : World} {A : Around} {E : Value → Shared → Prop} {s : Shared} {h₀ : Heap} {L a c P : Addr} {m mg mb : Str → Option Value} {led : Led} {p : Program} {loose : List Str} {mean : ExcName → Option Value} {cn : Str} {cs : Scope} {ccd : Value} {cl clos : List (Str × Addr)} {ps : Array Value} {pos : Pos} {firstLine : Nat}
    {name qual : Str} {params : Arguments} {body : List Stmt} {scope : Scope} {Q : Value → Shared → Prop} (F : Fr h₀ L s.heap m) (N : News h₀ L s.heap led) (T : Top p loose mean mg mb h₀) (C : CodeHd h₀ c P) (hcd : ccd = .ref c) (hm : (P, tabObj ps) ∈ led) (ht : TriplesOk ps.toList) (hnf : codeAmong pos ps.toList = none)
    (hcl : closureFor scope (envX cn cs L a ccd cl) = pure clos)
    (h : ∀ f c' oc vs t ctv doc h' tk, Fr h₀ L h' m →
      News h₀ L h' ((f, fnMade name qual params body scope clos doc ((mg "__name__").getD .none) c' ctv) :: (c', oc) :: setL led P (tabObj (ps ++ #[rawInt pos.line, rawInt pos.col, .ref c']))) →
      oc.data = .fields vs → vs[1]? = some (.str qual t) → (∀ q ∈ led, q.1 < c') → c' < f → Q (.ref f) { s with heap := h', toks := tk }) :
    wpAny (model prog w) A (makeFunction name qual params (.stmts body) scope (envX cn cs L a ccd cl) [] [] [] pos firstLine) Q E s := by
  refine nest_K F (news_dd N) T C hcd (g := fun o' => setL (dd led) P o') (updF_of (nodup_dd _) ((mem_dd N _).mpr hm)) ht hnf hcl ?_
  intro f c' oc vs t ctv doc h' tk F' N' hd hv l1 l2
  refine h f c' oc vs t ctv doc h' tk F' ?_ hd hv (fun q hq => ?_) l2
  ·
    have N2 := news_setL_dd N (news_sub N' fun p hp => List.mem_cons_of_mem _ (List.mem_cons_of_mem _ hp))
    intro p hp
    rcases List.mem_cons.mp hp with rfl | hp
    · exact N' _ (List.mem_cons_self ..)
    rcases List.mem_cons.mp hp with rfl | hp
    · exact N' _ (List.mem_cons_of_mem _ (List.mem_cons_self ..))
    · exact N2 p hp
  · exact l1 q ((mem_dd N q).mpr hq)
noncomputable abbrev excO (C t : Addr) : Obj := { cls := .ref C, data := .fields #[.ref t, .none, .none, .none, .bool false, .none] }
noncomputable abbrev tupO (vs : List Value) : Obj := { cls := .type "tuple", data := .seq vs.toArray }
theorem made_led {h₀ h h' : Heap} {L e : Addr} {m : Str → Option Value} {led : Led} {C : Addr} {vs : List Value} (F : Fr h₀ L h m) (N : News h₀ L h led) (hm : Heap.MadeExcOf h h' e (.ref C) vs) :
    ∃ t, Fr h₀ L h' m ∧ News h₀ L h' ((e, excO C t) :: (t, tupO vs) :: led) ∧ h.get? e = none ∧ h.get? t = none := by
  refine hideG fun G9 hG9 => ?_
  obtain ⟨t, he, htn, ht⟩ := hm.there
  refine hG9.out ?_
  clear hG9 G9
  have hL : ∀ b, h.get? b = none → b ≠ L := fun b hb z => by
    refine hideG fun G9 hG9 => ?_
    obtain ⟨oL, es, ep, hL, _⟩ := F.ns
    refine hG9.out ?_
    clear hG9 G9
    rw [z, hL] at hb; cases hb
  refine ⟨t, ⟨F.ns.keeps hm.keeps, fun b o q => hm.keeps b o (F.keep b o q), F.above⟩, fun p hp => ?_, hm.new, htn⟩
  rcases List.mem_cons.mp hp with rfl | hp
  · exact ⟨he, hL _ hm.new, kts_none F.keep hm.new⟩
  rcases List.mem_cons.mp hp with rfl | hp
  · exact ⟨ht, hL _ htn, kts_none F.keep htn⟩
  · exact ⟨hm.keeps _ _ (N p hp).1, (N p hp).2⟩
theorem exc_make {prog : Program} {w : World} {A : Around} {E : Value → Shared → Prop} {s : Shared} {h₀ : Heap} {L C : Addr} {m mg : Str → Option Value} {led : Led} {x : Str} {bmB : List Value} {B newId initId : String} {vs : List Value} {Q : Value → Shared → Prop}
    (O : OwnCls x C bmB newId mg h₀) (FB : ExcBaseFacts B newId initId bmB) (F : Fr h₀ L s.heap m) (N : News h₀ L s.heap led) (hv : vs.length ≤ 100)
    (hq : ∀ h' e t, Fr h₀ L h' m → News h₀ L h' ((e, excO C t) :: (t, tupO vs) :: led) → s.heap.get? e = none → s.heap.get? t = none → Q (.ref e) { s with heap := h' }) : wpAny (model prog w) A (call (.ref C) vs) Q E s := by
  refine hideG fun G9 hG9 => ?_
  obtain ⟨bm, N', nm, q, bs, hdct, sn, sub, ab, col, dd, k0, k1, k2, k3, k5, mN, hC, hN, hni, T⟩ := (O.keeps F.keep).obj
  obtain ⟨hp, g, d, tk, os⟩ := s
  refine hG9.out ?_
  clear hG9 G9
  refine wpAny_call_exc_subT FB T hC hN hni (fun h' e hm => ?_) (by rw [sizeLine_eq]; omega)
  refine hideG fun G9 hG9 => ?_
  obtain ⟨t, F', N2, h1, h2⟩ := made_led F N hm
  refine hG9.out ?_
  clear hG9 G9
  exact hq h' e t F' N2 h1 h2
theorem fit_app {a b : Str} {k : Nat} (ha : a.length ≤ k * 5000) (hb : b.length ≤ 1 * 5000) : (a ++ b).length ≤ (k + 1) * 5000 := by
  have : (a ++ b).length = a.length + b.length := by
    show (a ++ b).cps.size = a.cps.size + b.cps.size
    rw [Str.cps_append, Array.size_append]
  omega
theorem fit_txt {l : List Nat} {k : Nat} (h : l.length ≤ 5000) : (⟨l.toArray⟩ : Str).length ≤ (k + 1) * 5000 := by
  show l.toArray.size ≤ _
  have : l.toArray.size = l.length := by simp
  omega
theorem fit_lit {s : Str} {k : Nat} (h : Nat.ble s.length 500 = true) : s.length ≤ (k + 1) * 5000 := by
  have := Nat.le_of_ble_eq_true h
  omega
theorem fits_of {a : Str} (h : a.length ≤ 20 * 5000) : a.length ≤ sizeLine := by rw [sizeLine_eq]; omega
theorem words_strle_all : True := by
  k_with "strle" => repeat' (first | (with_reducible refine fit_app ?_ ?_) | (with_reducible refine fit_txt ?_; first | omega | (simp only [List.length_append, List.length_cons, List.length_nil]; omega)) | (refine fit_lit ?_; decide +kernel))
  trivial
theorem lw12_all : True := by
  k_with "L And" => ((with_reducible show Str.length _ ≤ sizeLine ∧ _); refine' ⟨fits_of ?k1, ?_⟩; (case k1 => k_extra "strle"))
  trivial
theorem lw13_all : True := by
  k_with "L joinParts" => ((with_reducible show wpAny _ _ (joinParts _ (evalEach [] _)) _ _ _); refine' joinParts_nilE (joinParts_nil ?_ (fits_of ?k1)); (case k1 => k_extra "strle"))
  trivial
theorem lw14_all : True := by
  k_with "L formatField" => ((with_reducible show wpAny _ _ (formatField (txt false _ _) _) _ _ _); (show wpAny _ _ (formatField (Value.str ⟨List.toArray _⟩ _) _) _ _ _))
  trivial
noncomputable abbrev cqual : Str := Str.ofString "suffixed_err.<locals>.coord_repr"
/-- the table of suffixed_err's own defs: empty, or holding its one def's code -/
noncomputable def CoTab (led : Led) : Prop := (170, tabObj #[]) ∈ led ∨ ∃ c' oc vs t, (170, tabObj (#[] ++ #[rawInt ((145 : Nat) : Int), rawInt ((4 : Nat) : Int), Value.ref c'])) ∈ led ∧ (c', oc) ∈ led ∧ oc.data = .fields vs ∧ vs[1]? = some (.str cqual t)
/-- all but that table stays -/
noncomputable def Ext (a b : Led) : Prop := ∀ p ∈ a, p.1 ≠ 170 → p ∈ b
/-- " (at end of document)" -/
noncomputable def sfx : List Nat := [32, 40, 97, 116, 32, 101, 110, 100, 32, 111, 102, 32, 100, 111, 99, 117, 109, 101, 110, 116, 41]
theorem sfx_app (msg : List Nat) : (Str.empty ++ ⟨msg.toArray⟩ ++ Str.ofString " (at " ++ Str.ofString "end of document" ++ Str.ofString ")" : Str) = ⟨(msg ++ sfx).toArray⟩ := by
  have e0 : Str.empty = ⟨([] : List Nat).toArray⟩ := rfl
  have e1 : Str.ofString " (at " = ⟨[32, 40, 97, 116, 32].toArray⟩ := by decide +kernel
  have e2 : Str.ofString "end of document" = ⟨[101, 110, 100, 32, 111, 102, 32, 100, 111, 99, 117, 109, 101, 110, 116].toArray⟩ := by decide +kernel
  have e3 : Str.ofString ")" = ⟨[41].toArray⟩ := by decide +kernel
  rw [e0, e1, e2, e3]
  unfold sfx
  simp only [str_app, List.nil_append, List.append_assoc, List.cons_append]
theorem some_ne {h : Heap} {a b : Addr} {o : Obj} (h1 : h.get? a = some o) (h2 : h.get? b = none) : a ≠ b := fun z => by rw [z, h2] at h1; cases h1
theorem suf_fn (w : World) (κ : Bool) (e₀ : Addr) (t msg : List Nat) (k1 k2 kp : Tok) (news : Led) (hl : t.length ≤ 1000) (hm : msg.length ≤ 1000) (ht : CoTab news) :
    FnS w 590 3900 (some (.ref e₀)) 175 ⟨[txt κ t k1, .int t.length kp, txt false msg k2], []⟩ news (fun r led => ∃ e u k led₀, r = .ref e ∧ led = (e, excO 158 u) :: (u, tupO [txt false (msg ++ sfx) k]) :: led₀ ∧ Ext news led₀ ∧ CoTab led₀ ∧ ∀ p ∈ led₀, p.1 ≠ e ∧ p.1 ≠ u) (fun _ _ _ => False) := by
  unfold FnS; k_fill; show FnS _ _ _ _ _ _ _ _ _
  refine FnS.intro (binds := [(Str.ofString "src", txt κ t k1), (Str.ofString "pos", .int t.length kp), (Str.ofString "msg", txt false msg k2)]) (by k_is) (by k_is) rfl (fun s _ => BindsTo.of_eq rfl) (locs rfl) (by decide) rfl rfl rfl ?_
  intro loose mean mg mb gd env₀ outer base g L h₁ s tk B F X N T hlt HB KD
  have C := code_hd X
  refine wp_hide fun Qf hQf => ?_
  k_extra "go"
  refine nestDef_K rfl rfl rfl ?_
  have fin : ∀ {h4 : Heap} {e4 t4 : Addr} {m4 : Str → Option Value} {led₀ : Led} {h3 : Heap} {tk' : Nat} {s4 : Shared} {k : Tok}, Fr g L h4 m4 → News g L h4 ((e4, excO 158 t4) :: (t4, tupO [Value.str (Str.empty ++ ⟨msg.toArray⟩ ++ Str.ofString " (at " ++ Str.ofString "end of document" ++ Str.ofString ")") k]) :: led₀) →
      News g L h3 led₀ → h3.get? e4 = none → h3.get? t4 = none → Ext news led₀ → CoTab led₀ → s4 = { s with heap := h4, toks := tk' } →
      EndsS (frs (env₀ :: outer)) g L s (fun r led => ∃ e u k led₀, r = .ref e ∧ led = (e, excO 158 u) :: (u, tupO [txt false (msg ++ sfx) k]) :: led₀ ∧ Ext news led₀ ∧ CoTab led₀ ∧ ∀ p ∈ led₀, p.1 ≠ e ∧ p.1 ≠ u) (Flow.ret (Value.ref e4)) s4 := by
    rintro h4 e4 t4 m4 led₀ h3 tk' s4 k F4 N4 N3 n1 n2 x1 x2 rfl
    rw [sfx_app] at N4
    exact ⟨g, h4, tk', m4, _, rfl, KtsTurn.refl, F4, N4, e4, t4, k, led₀, rfl, rfl, x1, x2, fun p hp => ⟨some_ne (N3 p hp).1 n1, some_ne (N3 p hp).1 n2⟩⟩
  rcases ht with ht | ⟨cc, occ, vcc, tcc, ht, hcc, hcd, hcv⟩
  · refine nest_L F N T C rfl ht True.intro rfl rfl ?_
    intro f c' oc vs tq ctv doc h2 tk2 F2 N2 hd hv l1 l2
    clear F N
    k_extra "go"
    refine wpAny_call ?_
    kn_enter
    k_extra "go"
    refine exc_make (own_of_in X (topRead_of T) (x := Str.ofString "TOMLDecodeError") (by k_is) (by k_exc)) PySem.F.excBase_ValueError (by k_asm) (by k_asm) (by simp) ?_
    intro h4 e4 t4 F4 N4 n1 n2
    refine hQf.out _ _ ?_
    refine fin F4 N4 (by k_asm) n1 n2 ?_ (.inr ⟨c', oc, vs, tq, ?_, ?_, hd, hv⟩) rfl
    · exact fun p hp hne => List.mem_cons_of_mem _ (List.mem_cons_of_mem _ (mem_setL_ne hne hp))
    · exact List.mem_cons_of_mem _ (List.mem_cons_of_mem _ (mem_setL_self ht))
    · exact List.mem_cons_of_mem _ (List.mem_cons_self ..)
  · refine nestHit_K F N T C rfl ht (by simp [TriplesOk, rawInt]) (by simp [codeAmong, rawInt]; rfl) rfl ?_
    intro f ctv doc h2 tk2 F2 N2 l1
    clear F N
    k_extra "go"
    refine wpAny_call ?_
    kn_enter
    k_extra "go"
    refine exc_make (own_of_in X (topRead_of T) (x := Str.ofString "TOMLDecodeError") (by k_is) (by k_exc)) PySem.F.excBase_ValueError (by k_asm) (by k_asm) (by simp) ?_
    intro h4 e4 t4 F4 N4 n1 n2
    refine hQf.out _ _ ?_
    refine fin F4 N4 (by k_asm) n1 n2 ?_ (.inr ⟨cc, occ, vcc, tcc, ?_, ?_, hcd, hcv⟩) rfl
    · exact fun p hp hne => List.mem_cons_of_mem _ hp
    · exact List.mem_cons_of_mem _ ht
    · exact List.mem_cons_of_mem _ hcc

theorem fresh_P147_repr : True := by
  w_top off
  trivial
/-- "Expected " -/
noncomputable def expd : List Nat := [69, 120, 112, 101, 99, 116, 101, 100, 32]
/-- the repr of a text of plain signs -/
noncomputable def reprT (κ : Bool) (u : List Nat) : List Nat := if κ then 98 :: 39 :: (u ++ [39]) else 39 :: (u ++ [39])
/-- slashes and the names' letters alone -/
noncomputable def Plain (t : List Nat) : Prop := ∀ c ∈ t, c = 47 ∨ c = 97 ∨ c = 98
theorem Plain.asc {t : List Nat} (h : Plain t) : Asc t := fun c hc => by rcases h c hc with e | e | e <;> omega
theorem Plain.app {t u : List Nat} (h : Plain t) (h' : Plain u) : Plain (t ++ u) := fun c hc => (List.mem_append.mp hc).elim (h c) (h' c)
theorem reprT_len (κ : Bool) (u : List Nat) : (reprT κ u).length ≤ u.length + 3 := by cases κ <;> simp [reprT]
section
open PySem.Builtin
theorem foldl_app {α : Type} (g : α → Array Nat) : ∀ (l : List α) (acc : Array Nat), l.foldl (fun out c => out ++ g c) acc = acc ++ (l.flatMap fun c => (g c).toList).toArray
  | [], acc => by simp
  | c :: l, acc => by rw [List.foldl_cons, foldl_app g l]; apply Array.ext'; simp
theorem flatMap_id {g : Nat → List Nat} : ∀ {t : List Nat}, (∀ c ∈ t, g c = [c]) → t.flatMap g = t
  | [], _ => rfl
  | c :: t, h => by rw [List.flatMap_cons, h c (.head _), flatMap_id fun x hx => h x (.tail _ hx)]; rfl
theorem plain_char {c : Nat} (h : c = 47 ∨ c = 97 ∨ c = 98) : PySem.Builtin.Str.reprChar 39 c = [c] := by
  rcases h with e | e | e <;> subst e <;> decide +kernel
theorem no39 {t : List Nat} (h : Plain t) : t.toArray.contains 39 = false := by
  rw [Bool.eq_false_iff]
  intro q
  have : 39 ∈ t := by simpa using q
  rcases h _ this with e | e | e <;> omega
theorem reprText_plain {t : List Nat} (h : Plain t) : reprText ⟨t.toArray⟩ = ⟨(reprT false t).toArray⟩ := by
  have hq : reprQuote ⟨t.toArray⟩ = 39 := by
    unfold reprQuote
    rw [show (⟨t.toArray⟩ : Str).cps = t.toArray from rfl, no39 h]; rfl
  unfold reprText
  rw [hq]
  have e : (t.flatMap fun c => ((PySem.Builtin.Str.reprChar 39 c).toArray).toList) = t := by
    exact flatMap_id fun c hc => by rw [plain_char (h c hc)]
  have e2 : t.toArray.foldl (fun out c => out ++ (PySem.Builtin.Str.reprChar 39 c).toArray) #[39] = #[39] ++ t.toArray := by
    rw [← Array.foldl_toList, foldl_app]
    show #[39] ++ (t.flatMap fun c => ((PySem.Builtin.Str.reprChar 39 c).toArray).toList).toArray = _
    rw [e]
  apply Str.ext'
  show ((t.toArray.foldl (fun out c => out ++ (PySem.Builtin.Str.reprChar 39 c).toArray) #[39]).push 39) = _
  rw [e2]; simp [reprT]
theorem literal_plain {t : List Nat} (h : Plain t) : Bytes.literal (t.map UInt8.ofNat).toArray = ⟨(reprT true t).toArray⟩ := by
  have hc : (t.map UInt8.ofNat).toArray.contains 39 = false := by
    rw [Bool.eq_false_iff]
    intro q
    have : (39 : UInt8) ∈ t.map UInt8.ofNat := by simpa using q
    obtain ⟨c, hc, e⟩ := List.mem_map.mp this
    rcases h _ hc with z | z | z <;> subst z <;> exact absurd e (by decide)
  unfold Bytes.literal
  rw [hc]
  simp only [Bool.false_and, Bool.false_eq_true, if_false]
  apply Str.ext'
  simp only
  rw [← Array.foldl_toList, foldl_app]
  have e : ((t.map UInt8.ofNat).toArray.toList.flatMap fun c => (if (c.toNat == 39 || c.toNat == 92) = true then (#[92, c.toNat] : Array Nat) else if (c.toNat == 9) = true then #[92, 116] else if (c.toNat == 10) = true then #[92, 110] else if (c.toNat == 13) = true then #[92, 114]
      else if (decide (c.toNat < 32) || decide (c.toNat ≥ 127)) = true then #[92, 120, if c.toNat / 16 < 10 then 48 + c.toNat / 16 else 87 + c.toNat / 16, if c.toNat % 16 < 10 then 48 + c.toNat % 16 else 87 + c.toNat % 16] else #[c.toNat]).toList) = t := by
    rw [List.flatMap_map]
    refine flatMap_id fun c hc => ?_
    rcases h c hc with z | z | z <;> subst z <;> decide
  rw [e]
  simp [reprT]
end
section
open PySem.Builtin
theorem slot_bytes_repr : Slot "bytes" "__repr__" "bytes.__repr__" :=
  .of (owner := "bytes") (n := "__repr__") (by rw [typeLookup_type, builtinLookup_eq_fast]; kernel_rfl) (by decide +kernel) (by decide +kernel) (by decide +kernel)
    (by first | exact .inl (by decide +kernel) | exact .inr (by decide +kernel)) (by rw [isSubtype_type]; kernel_rfl)
theorem entry_bytes_repr : entryFor table "bytes.__repr__" = some Builtin.«bytes.__repr__» := entryFor_of_tree (by kernel_rfl)
theorem args_bytes_repr_1 (a : Value) : argsOk "bytes.__repr__" ⟨[a], []⟩ := by
  unfold argsOk; rw [signature?_of (id := "bytes.__repr__") (n := ['_', '_', 'r', 'p', 'e', 'r', '_', '_']) (o := ['s', 'e', 't', 'y', 'b']) (by kernel_rfl) PySem.W.FB.owner_bytes]; kernel_rfl
variable {prog : Program} {w : World} {A : Around} {E : Value → Shared → Prop} {s : Shared}
theorem txt_repr {κ : Bool} {t : List Nat} {k : Tok} {Q : Value → Shared → Prop} (h : Plain t) (hl : t.length ≤ 2000) (hq : ∀ k' tk, Q (txt false (reprT κ t) k') { s with toks := tk }) : wpAny (model prog w) A (pyReprObj (txt κ t k)) Q E s := by
  have hr := reprT_len κ t
  cases κ
  · refine wpAny_pyReprObj_str ?_ ?_
    · rw [reprText_plain h]; exact hq _ _
    · rw [reprText_plain h, sizeLine_eq]
      show (reprT false t).toArray.size ≤ _
      rw [List.size_toArray]; omega
  · refine wpAny_pyReprObj_gives (typeIs_bytes s _ _) slot_bytes_repr entry_bytes_repr (args_bytes_repr_1 _) (x := ⟨(reprT true t).toArray⟩) ?_ (hq _ _) rfl ?_
    · refine .of_wp fun M A E s Q hQ => ?_
      show wpAny M A (Bytes.literalAsked (t.map UInt8.ofNat).toArray >>= fun r => _) _ E s
      refine wpAny_bind ?_
      unfold Bytes.literalAsked
      rw [if_neg ?_]
      · refine wpAny_pure ?_
        rw [literal_plain h]
        exact wpAny_bind (wpAny_mkStr (wpAny_pure ⟨_, rfl, hQ.2⟩) hQ.1)
      · simp only [Bool.and_eq_true, not_and]
        intro q
        exfalso
        revert q
        simp [Bytes.tooLong, sizeLine_eq]
        omega
    · rw [sizeLine_eq]
      show (reprT true t).toArray.size ≤ _
      rw [List.size_toArray]; omega
end
theorem lw15_all : True := by
  k_with "L pyReprObj" => ((with_reducible show wpAny _ _ (pyReprObj (txt _ _ _)) _ _ _); refine' txt_repr ?k1 ?k2 ?_; (case k1 => assumption); (case k2 => first | omega | (simp only [List.length_append, List.length_cons, List.length_nil] at *; omega)); intro _ _)
  trivial

theorem fresh_P14_own : True := by
  w_top off
  trivial
section
variable {prog : Program} {w : World} {A₀ : Around} {E : Value → Shared → Prop} {s' : Shared} {base g h : Heap} {outer : List Env} {L a e : Addr} {m : Str → Option Value} {name : Str} {scope : Scope} {cd cls : Value} {news : Led}
theorem fr_hide (F : Fr g L h m) (N : News g L h news) : Fr g L (hideAll h (news.map (·.1))) m := by
  refine hideG fun G9 hG9 => ?_
  obtain ⟨oL, es, ep, hL, hLd, hLk, hLf⟩ := F.ns
  refine hG9.out ?_
  clear hG9 G9
  refine ⟨⟨oL, es, ep, hideAll_get _ hL ?_, hLd, hLk, hLf⟩, fun b o q => hideAll_get _ (F.keep b o q) ?_, F.above⟩
  · intro q
    refine hideG fun G9 hG9 => ?_
    obtain ⟨p, hp, e⟩ := List.mem_map.mp q
    refine hG9.out ?_
    clear hG9 G9
    exact (N p hp).2.1 e
  · intro z
    refine hideG fun G9 hG9 => ?_
    obtain ⟨p, hp, rfl⟩ := List.mem_map.mp z
    refine hG9.out ?_
    clear hG9 G9
    rw [(N p hp).2.2] at q; cases q
/-- the frames, hidden, and what lies beside them -/
theorem own_ground (K : Below A₀ base outer g) (F : Fr g L h m) (N : News g L h news) (hk : scope.kind = .function) :
    base.StaysIn (hideAll h (frs (envOf name scope L a cd :: outer))) ∧ (∀ b o, (hideAll h (news.map (·.1))).get? b = some o → b ∉ frs (envOf name scope L a cd :: outer) → (hideAll h (frs (envOf name scope L a cd :: outer))).get? b = some o) ∧
    (∀ q ∈ news, (hideAll h (frs (envOf name scope L a cd :: outer))).get? q.1 = some q.2 ∧ (hideAll h (news.map (·.1))).get? q.1 = none ∧ base.get? q.1 = none) ∧ h.FunFrames (hideAll h (frs (envOf name scope L a cd :: outer))) (envOf name scope L a cd :: outer) := by
  have K' := K.push (name := name) (a := a) (cd := cd) F hk
  refine ⟨fun b o q => hideAll_get _ (K'.stays b o q) fun hm => ?_, fun b o q nm => hideAll_get _ (of_hideAll _ q) nm, fun q hq => ⟨hideAll_get _ (N q hq).1 fun hm => ?_, hideAll_none _ (List.mem_map_of_mem hq), fresh_of_stays K.stays (N q hq).2.2⟩, ?_⟩
  · rw [(K'.frames.mem hm).1] at q; cases q
  · rcases mem_frs rfl hm with z | z
    · exact (N q hq).2.1 z
    ·
      refine hideG fun G9 hG9 => ?_
      obtain ⟨o, ho, _⟩ := (K.frames.mem z).2
      refine hG9.out ?_
      clear hG9 G9
      rw [(N q hq).2.2] at ho; cases ho
  · exact funFrames_hide K'.frames fun env he b hb => List.mem_filterMap.mpr ⟨env, he, hb⟩
/-- an exception that is new, seen by the frame that it arose in -/
theorem own_look {ob : Obj} {ws : Array Value} {a0 : Value} {Q : Unit → Shared → Prop} (K : Below A₀ base outer g) (F : Fr g L h m) (N : News g L h news) (keeps : ∀ b o, h.get? b = some o → s'.heap.get? b = some o) (new : h.get? e = none)
    (he : s'.heap.get? e = some ob) (hc : ob.cls = cls) (hd : ob.data = .fields ws) (h1 : ws[1]? = some .none) (h0 : ws[0]? = some a0) (hk : scope.kind = .function)
    (k : ∀ h', Heap.HeldW (hideAll h (frs (envOf name scope L a cd :: outer))) (envOf name scope L a cd :: outer) e cls a0 L h' → s'.heap.UpToSlots h' → Q () { s' with heap := h' }) {A : Around} (hA : A.frames = some (envOf name scope L a cd :: outer)) :
    wpAny (model prog w) A (noteFrame (.ref e) (envOf name scope L a cd)) Q E s' := by
  refine hideG fun G9 hG9 => ?_
  obtain ⟨st, sg, hl, hff⟩ := own_ground (name := name) (a := a) (cd := cd) K F N hk
  refine hG9.out ?_
  clear hG9 G9
  have hen : (hideAll h (frs (envOf name scope L a cd :: outer))).get? e = none := by
    cases q : (hideAll h (frs (envOf name scope L a cd :: outer))).get? e with
    | none => rfl
    | some o => have := of_hideAll _ q; rw [new] at this; cases this
  unfold noteFrame
  simp only [show (envOf name scope L a cd).frame = some L from rfl]
  refine wpAny_bind (wpAny_field he hd h1 ?_)
  rw [if_neg (by decide)]
  refine wpAny_entryW (a0 := a0) hA (hff.of_keeps fun b o hb _ => ⟨o, keeps b o hb, rfl⟩) rfl he (fun b o eb => keeps b o (of_hideAll _ eb)) hen hd ?_ h0 fun h' hN => ?_
  · exact (Array.getElem?_eq_some_iff.mp h1).1
  ·
    refine hideG fun G9 hG9 => ?_
    obtain ⟨k1, k2, k3, k4⟩ := hN
    refine hG9.out ?_
    clear hG9 G9
    exact k h' ⟨k1, hen, k2, by rw [← hc]; exact k3⟩ k4
/-- an exception that is on its way, its object told -/
noncomputable def FlyX (B : Heap) (l : List Env) (e : Addr) (oe : Obj) (fl : Value) (h : Heap) : Prop :=
  B.StaysIn h ∧ B.get? e = none ∧ h.FunFrames B l ∧ h.get? e = some oe ∧ ∃ vs T oT ts, oe.data = .fields vs ∧ vs[1]? = some (.ref T) ∧ B.get? T = none ∧ T ≠ e ∧ h.get? T = some oT ∧ oT.data = .fields ts ∧ ts[3]? = some fl
theorem FlyX.flight {M : Model} {A : Around} {B : Heap} {l : List Env} {oe : Obj} {fl : Value} {fr : Option Addr} {Q : Unit → Shared → Prop} {s : Shared} (R : FlyX B l e oe fl s.heap)
    (k : ∀ h', FlyX B l e oe (fr.elim .none fun f => rawInt f) h' → s.heap.UpToSlots h' → Q () { s with heap := h' }) : wpAny M A (setFlight (.ref e) fr) Q E s := by
  refine hideG fun G9 hG9 => ?_
  obtain ⟨hkb, hen, hl, he, vs, T, oT, ts, hd, h1, hnT, hTe, hT, hdT, h3⟩ := R
  refine hG9.out ?_
  clear hG9 G9
  have hsz3 : 3 < ts.size := (Array.getElem?_eq_some_iff.mp h3).1
  have other : ∀ b, b ≠ T → (s.heap.update T (Obj.mapFields (·.setIfInBounds 3 (fr.elim Value.none fun f => rawInt f)))).get? b = s.heap.get? b :=
    fun b hb => Heap.get?_update_other _ _ (Ne.symm hb)
  have noRecord : ∀ b o, s.heap.get? b = some o → (∀ vs, o.data ≠ .fields vs) → b ≠ T := fun b o hb hnf q => by
    rw [q, hT] at hb; injection hb with hb; subst hb; exact hnf ts hdT
  unfold setFlight
  refine wpAny_bind (wpAny_field he hd h1 ?_)
  rw [if_pos (show (Value.ref T != Value.none) = true from by simp)]
  refine wpAny_setField hT hdT hsz3 (k _ ⟨fun b o hbo => (other b fun q => by rw [q, hnT] at hbo; cases hbo).trans (hkb b o hbo), hen,
    hl.of_keeps fun b o hb hnf => ⟨o, (other b (noRecord b o hb hnf)).trans hb, rfl⟩, (other e (Ne.symm hTe)).trans he, ?_⟩ fun b o hb hnf => ⟨o.slots, (other b (noRecord b o hb hnf)).trans hb⟩)
  exact ⟨vs, T, _, _, hd, h1, hnT, hTe, Heap.get?_update_self _ hT (Obj.isFreed_of_fields (Obj.data_mapFields hdT _)), Obj.data_mapFields hdT _, by simp [hsz3]⟩
theorem FlyX.keeps {B h h' : Heap} {l : List Env} {oe : Obj} {fl : Value} (R : FlyX B l e oe fl h) (k : ∀ b o, h.get? b = some o → h'.get? b = some o) : FlyX B l e oe fl h' := by
  refine hideG fun G9 hG9 => ?_
  obtain ⟨hkb, hen, hl, he, vs, T, oT, ts, hd, h1, hnT, hTe, hT, hdT, h3⟩ := R
  refine hG9.out ?_
  clear hG9 G9
  exact ⟨fun b o q => k _ _ (hkb b o q), hen, hl.of_keeps fun b o hb _ => ⟨o, k _ _ hb, rfl⟩, k _ _ he, vs, T, oT, ts, hd, h1, hnT, hTe, k _ _ hT, hdT, h3⟩
/-- an exception that is new, seen by the frame that it arose in -/
theorem own_lookX {ob : Obj} {ws : Array Value} {Q : Unit → Shared → Prop} (K : Below A₀ base outer g) (F : Fr g L h m) (N : News g L h news) (keeps : ∀ b o, h.get? b = some o → s'.heap.get? b = some o) (new : h.get? e = none)
    (he : s'.heap.get? e = some ob) (hd : ob.data = .fields ws) (h1 : ws[1]? = some .none) (hk : scope.kind = .function)
    (k : ∀ h' T, FlyX (hideAll h (frs (envOf name scope L a cd :: outer))) (envOf name scope L a cd :: outer) e (ob.mapFields (·.setIfInBounds 1 (.ref T))) (rawInt L) h' → s'.heap.UpToSlots h' → Q () { s' with heap := h' }) {A : Around} (hA : A.frames = some (envOf name scope L a cd :: outer)) :
    wpAny (model prog w) A (noteFrame (.ref e) (envOf name scope L a cd)) Q E s' := by
  refine hideG fun G9 hG9 => ?_
  obtain ⟨st, sg, hl, hff⟩ := own_ground (name := name) (a := a) (cd := cd) K F N hk
  refine hG9.out ?_
  clear hG9 G9
  have hen : (hideAll h (frs (envOf name scope L a cd :: outer))).get? e = none := by
    cases q : (hideAll h (frs (envOf name scope L a cd :: outer))).get? e with
    | none => rfl
    | some o => have := of_hideAll _ q; rw [new] at this; cases this
  have hl : s'.heap.FunFrames (hideAll h (frs (envOf name scope L a cd :: outer))) (envOf name scope L a cd :: outer) := hff.of_keeps fun b o hb _ => ⟨o, keeps b o hb, rfl⟩
  have hkb : (hideAll h (frs (envOf name scope L a cd :: outer))).StaysIn s'.heap := fun b o eb => keeps b o (of_hideAll _ eb)
  have hsz : 1 < ws.size := (Array.getElem?_eq_some_iff.mp h1).1
  have hene : e ∉ frs (envOf name scope L a cd :: outer) := fun hm => by
    refine hideG fun G9 hG9 => ?_
    obtain ⟨_, o, ho, hnf⟩ := hl.mem hm
    refine hG9.out ?_
    clear hG9 G9
    rw [he] at ho; injection ho with ho; subst ho; exact hnf ws hd
  unfold noteFrame
  simp only [show (envOf name scope L a cd).frame = some L from rfl]
  refine wpAny_bind (wpAny_field he hd h1 ?_)
  rw [if_neg (by decide)]
  refine wpAny_bind (wpAny_frameOf_fun hA hl rfl fun h₁ hs₁ => ?_)
  refine wpAny_bind (wpAny_entryPlaceOf fun pl hpl => ?_)
  unfold EntryCells.newEntry newFields
  refine wpAny_bind (wpAny_newObj_type ?_ (hpl.sizeOk5 _ _ _ _ _))
  have he₁ : h₁.get? e = some ob := (hs₁.2.1 e hene).trans he
  have kb₁ : (hideAll h (frs (envOf name scope L a cd :: outer))).StaysIn h₁ := fun b o hbo => (hs₁.2.1 b fun hm => by rw [(hl.mem hm).1] at hbo; cases hbo).trans (hkb b o hbo)
  have he₂ := Heap.get?_push_of_some (h := h₁) { cls := .type "traceback", dict := none, data := .fields ([Value.none, .ref L, .none, rawInt L, .none] ++ (if pl.isEmpty then List.replicate 6 Value.none else pl)).toArray } he₁
  have hTe : h₁.objs.size ≠ e := Nat.ne_of_gt (Heap.lt_size he₁)
  refine wpAny_setField he₂ hd hsz (k _ h₁.objs.size ?_ ?_)
  all_goals
    have hd₃ := Obj.data_mapFields hd (·.setIfInBounds 1 (Value.ref h₁.objs.size))
    have he₃ := Heap.get?_update_self (Obj.mapFields (·.setIfInBounds 1 (Value.ref h₁.objs.size))) he₂ (Obj.isFreed_of_fields hd₃)
    have hT₃ := (Heap.get?_update_other (h₁.push { cls := .type "traceback", dict := none, data := .fields ([Value.none, .ref L, .none, rawInt L, .none] ++ (if pl.isEmpty then List.replicate 6 Value.none else pl)).toArray })
      (Obj.mapFields (·.setIfInBounds 1 (Value.ref h₁.objs.size))) (Ne.symm hTe)).trans (Heap.get?_push_size h₁ rfl)
    have keep : ∀ b o, b ≠ e → h₁.get? b = some o →
        ((h₁.push { cls := .type "traceback", dict := none, data := .fields ([Value.none, .ref L, .none, rawInt L, .none] ++ (if pl.isEmpty then List.replicate 6 Value.none else pl)).toArray }).update e (Obj.mapFields (·.setIfInBounds 1 (Value.ref h₁.objs.size)))).get? b = some o :=
      fun b o hbe hb => by
        rw [Heap.get?_update_other _ _ (Ne.symm hbe)]
        exact Heap.get?_push_of_some _ hb
    have noRecord : ∀ b o, s'.heap.get? b = some o → (∀ vs, o.data ≠ .fields vs) → b ≠ e := fun b o hb hnf q => by
      rw [q, he] at hb; injection hb with hb; subst hb; exact hnf ws hd
  · refine ⟨fun b o hbo => keep b o (fun q => by rw [q, hen] at hbo; cases hbo) (kb₁ b o hbo), hen, hl.of_keeps fun b o hb hnf => ?_, he₃, ?_⟩
    ·
      obtain ⟨sl, hs⟩ := hs₁.2.2 b o hb
      exact ⟨_, keep b _ (noRecord b o hb hnf) hs, rfl⟩
    · exact ⟨_, h₁.objs.size, _, _, hd₃, by simp [hsz], kb₁.fresh, hTe, hT₃, rfl, by first | (simp; done) | (rcases hpl with rfl | ⟨_, _, _, _, _, _, _, rfl⟩ <;> simp)⟩
  · intro b o hb hnf
    obtain ⟨sl, hs⟩ := hs₁.2.2 b o hb
    exact ⟨sl, keep b _ (noRecord b o hb hnf) hs⟩
theorem own_look_new {X : String} {Q : Unit → Shared → Prop} (K : Below A₀ base outer g) (F : Fr g L h m) (N : News g L h news) (hx : Heap.NewExc h s'.heap e X) (hk : scope.kind = .function)
    (k : ∀ h', RaisedSN base (hideAll h (news.map (·.1))) (envOf name scope L a cd :: outer) e (.type X) news h' → (hideAll h (news.map (·.1))).UpToSlots h' → Fr g L (hideAll h (news.map (·.1))) m → Q () { s' with heap := h' }) {A : Around} (hA : A.frames = some (envOf name scope L a cd :: outer)) :
    wpAny (model prog w) A (noteFrame (.ref e) (envOf name scope L a cd)) (fun _ s₂ => wpAny (model prog w) A (setFlight (.ref e) none) Q E s₂) E s' := by
  refine hideG fun G9 hG9 => ?_
  obtain ⟨ob, tp, he, hcls, hd⟩ := hx.there
  obtain ⟨st, sg, hl, hff⟩ := own_ground (name := name) (a := a) (cd := cd) K F N hk
  refine hG9.out ?_
  clear hG9 G9
  refine own_look K F N hx.keeps hx.new he hcls hd rfl rfl hk (fun h₄ hh hs => ?_) hA
  refine wpAny_landsW hh fun h₅ hfl hs' => ?_
  exact k h₅ ⟨_, tp, st, sg, hl, hfl⟩ (((Heap.UpToSlots.of_keeps fun b o q => hx.keeps b o (of_hideAll _ q)).trans hs).trans hs') (fr_hide F N)
/-- the clause takes a new exception: what its body may raise is told behind it -/
theorem hit_new {X : String} {KF : Frag} {p : Program} {loose : List Str} {mean : ExcName → Option Value} {mg mb : Str → Option Value} {g₀ : Heap} {tt : Expr} {b₀ : Stmt} {suite : List Stmt} {pos : Pos} {rest : List ExceptHandler} {Q : Flow → Shared → Prop} {A : Around}
    (K : Below A₀ base outer g) (F : Fr g L h m) (N : News g L h news) (hx : Heap.NewExc h s'.heap e X) (hk : scope.kind = .function) (HB : Box (KF.In base ∧ Top p loose mean mg mb base))
    (D : KtsDicts (frs outer) g) (T0 : KtsTurn (frs outer) g₀ g) (hA : A.frames = some (envOf name scope L a cd :: outer)) (T : KtsTest prog w KF p loose mg mb name scope L a cd (.type X) tt true)
    (k : ∀ h' g' oe t tb, KtsTurn (frs outer) g₀ g' → Fr g' L h' m → News g' L h' ((e, oe) :: news) → oe.data = .fields #[t, .ref tb, .none, .none, .bool false, .none] → Below A₀ base outer g' → KF.In g' → Top p loose mean mg mb g' → KtsDicts (frs outer) g' →
      wpAny (model prog w) (A.mark (some (.ref e))) (execs (b₀ :: suite) (envOf name scope L a cd)) Q (notedBy (model prog w) (A.mark (some (.ref e))) (envOf name scope L a cd) (cameBackBy (model prog w) A (envOf name scope L a cd) E)) { s' with heap := h' }) :
    wpAny (model prog w) A (noteFrame (.ref e) (envOf name scope L a cd)) (fun _ s₂ => wpAny (model prog w) A (setFlight (.ref e) none) (fun _ s₃ =>
      wpAny (model prog w) A (handleBy (.ref e) (envOf name scope L a cd) (.ExceptHandler (some tt) none (b₀ :: suite) pos :: rest)) Q E s₃) E s₂) E s' := by
  refine hideG fun G9 hG9 => ?_
  obtain ⟨ob, t, he, hcls, hd⟩ := hx.there
  obtain ⟨st, sg, hl, hff⟩ := own_ground (name := name) (a := a) (cd := cd) K F N hk
  obtain ⟨XB, TB⟩ := HB.out
  refine hG9.out ?_
  clear hG9 G9
  have FG := fr_hide F N
  refine own_lookX K F N hx.keeps hx.new he hd rfl hk (fun h₁ tb R hs => ?_) hA
  refine R.flight fun h₂ R₂ hs₂ => ?_
  have hsm := ((Heap.UpToSlots.of_keeps fun b o q => hx.keeps b o (of_hideAll (news.map (·.1)) q)).trans hs).trans hs₂
  refine hideG fun G9 hG9 => ?_
  obtain ⟨g₅, T₅, F₅, K₅⟩ := kts_ground K FG sg R₂.1 hsm
  refine hG9.out ?_
  clear hG9 G9
  have ty : Looks (model prog w) h₂ (typeOf (.ref e)) (.type X) := by
    have e1 : (ob.mapFields (·.setIfInBounds 1 (Value.ref tb))).cls = .type X := (Obj.cls_mapFields ob _).trans hcls
    rw [← e1]
    exact (Looks.ld R₂.2.2.2.1).andThen .now
  refine wpAny_handleBy_cons (codeAny_handlers_test (T _ _ _ _ g₅ e m F₅ (XB.keeps K₅.stays) (topRead_of (TB.keeps K₅.stays)) ty fun h₅ kp => ?_)) (by intro q; cases q)
  have R₅ := R₂.keeps kp
  have hsm₅ := hsm.trans (Heap.UpToSlots.of_keeps kp)
  refine codeAny_handlers_suite ?_
  refine R₅.flight fun h₆ R₆ hs₆ => ?_
  refine hideG fun G9 hG9 => ?_
  obtain ⟨g₆, T₆, F₆, K₆⟩ := kts_ground K FG sg R₆.1 (hsm₅.trans hs₆)
  refine hG9.out ?_
  clear hG9 G9
  have hL : (hideAll h (frs (envOf name scope L a cd :: outer))).get? L = none := hideAll_none _ (List.mem_filterMap.mpr ⟨_, List.mem_cons_self .., rfl⟩)
  have hge : g.get? e = none := kts_none F.keep hx.new
  refine k h₆ g₆ (ob.mapFields (·.setIfInBounds 1 (Value.ref tb))) t tb (T0.trans T₆) F₆ (fun q hq => ?_) ?_ K₆ (XB.keeps K₆.stays) (TB.keeps K₆.stays) (D.turn T₆)
  · rcases List.mem_cons.mp hq with rfl | hq
    · refine ⟨R₆.2.2.2.1, fun z => ?_, T₆.none_ _ hge⟩
      refine hideG fun G9 hG9 => ?_
      obtain ⟨oL, es, ep, hL', hLd, _⟩ := F₆.ns
      refine hG9.out ?_
      clear hG9 G9
      rw [← z, R₆.2.2.2.1] at hL'
      cases hL'
      rw [Obj.data_mapFields hd] at hLd; cases hLd
    · exact ⟨R₆.1 _ _ (hl q hq).1, (fun z => by have := (hl q hq).1; rw [z, hL] at this; cases this), T₆.none_ _ (kts_none FG.keep (hl q hq).2.1)⟩
  · rw [Obj.data_mapFields hd]; rfl
theorem flight_held {M : Model} {A : Around} {B : Heap} {l : List Env} {cls a0 : Value} {Q : Unit → Shared → Prop} {s : Shared} (R : Heap.HeldW B l e cls a0 L s.heap)
    (k : ∀ h', Heap.HeldW B l e cls a0 L h' → s.heap.UpToSlots h' → Q () { s with heap := h' }) : wpAny M A (setFlight (.ref e) (some L)) Q E s := by
  refine hideG fun G9 hG9 => ?_
  obtain ⟨hkb, hen, hl, oe, vs, T, oT, ts, he, hcls, hd, h1, hnT, hTe, hT, hdT, h3⟩ := R
  refine hG9.out ?_
  clear hG9 G9
  have hsz3 : 3 < ts.size := (Array.getElem?_eq_some_iff.mp h3).1
  have other : ∀ b, b ≠ T → (s.heap.update T (Obj.mapFields (·.setIfInBounds 3 ((some L).elim Value.none fun f => rawInt f)))).get? b = s.heap.get? b :=
    fun b hb => Heap.get?_update_other _ _ (Ne.symm hb)
  have noRecord : ∀ b o, s.heap.get? b = some o → (∀ vs, o.data ≠ .fields vs) → b ≠ T := fun b o hb hnf q => by
    rw [q, hT] at hb; injection hb with hb; subst hb; exact hnf ts hdT
  unfold setFlight
  refine wpAny_bind (wpAny_field he hd h1 ?_)
  rw [if_pos (show (Value.ref T != Value.none) = true from by simp)]
  refine wpAny_setField hT hdT hsz3 (k _ ⟨fun b o hbo => (other b fun q => by rw [q, hnT] at hbo; cases hbo).trans (hkb b o hbo), hen,
    hl.of_keeps fun b o hb hnf => ⟨o, (other b (noRecord b o hb hnf)).trans hb, rfl⟩, ?_⟩ fun b o hb hnf => ⟨o.slots, (other b (noRecord b o hb hnf)).trans hb⟩)
  exact ⟨oe, vs, T, _, _, (other e (Ne.symm hTe)).trans he, hcls, hd, h1, hnT, hTe, Heap.get?_update_self _ hT (Obj.isFreed_of_fields (Obj.data_mapFields hdT _)), Obj.data_mapFields hdT _, by simp [hsz3]⟩
/-- an exception raised within a clause, on its way out of it -/
theorem own_raise_in {ob : Obj} {ws : Array Value} {t : Addr} {vs : List Value} (K : Below A₀ base outer g) (F : Fr g L h m) (N : News g L h news) (keeps : ∀ b o, h.get? b = some o → s'.heap.get? b = some o) (new : h.get? e = none)
    (he : s'.heap.get? e = some ob) (hc : ob.cls = cls) (hd : ob.data = .fields ws) (h1 : ws[1]? = some .none) (h0 : ws[0]? = some (.ref t)) (htn : h.get? t = none) (ht : s'.heap.TupAt t vs) (hk : scope.kind = .function)
    (k : ∀ h', RaisedH base (hideAll h (news.map (·.1))) (envOf name scope L a cd :: outer) L e cls t vs news h' → (hideAll h (news.map (·.1))).UpToSlots h' → Fr g L (hideAll h (news.map (·.1))) m → E (.ref e) { s' with heap := h' }) {A A' : Around} (hA : A.frames = some (envOf name scope L a cd :: outer)) :
    notedBy (model prog w) A (envOf name scope L a cd) (cameBackBy (model prog w) A' (envOf name scope L a cd) E) (.ref e) s' := by
  refine hideG fun G9 hG9 => ?_
  obtain ⟨st, sg, hl, hff⟩ := own_ground (name := name) (a := a) (cd := cd) K F N hk
  refine hG9.out ?_
  clear hG9 G9
  unfold notedBy
  refine own_look K F N keeps new he hc hd h1 h0 hk (fun h₄ hh hs => ?_) hA
  have hh' := hh
  refine hideG fun G9 hG9 => ?_
  obtain ⟨f1, f2, f3, oe, vs', T, oT, ts, he', hcl, hd', h1', hnT, hTe, hT, hdT, h3⟩ := hh'
  refine hG9.out ?_
  clear hG9 G9
  unfold cameBackBy
  refine wpAny_bind (wpAny_field he' hd' h1' ?_)
  rw [if_neg (show ¬ ((Value.ref T == Value.none) = true) from by simp)]
  have fin : wpAny (model prog w) A' (setFlight (.ref e) (some L)) (fun _ s'' => E (.ref e) s'') E { s' with heap := h₄ } := by
    refine wpAny_mono (Q := fun _ s'' => ∃ h', s'' = { s' with heap := h' } ∧ Heap.HeldW (hideAll h (frs (envOf name scope L a cd :: outer))) (envOf name scope L a cd :: outer) e cls (.ref t) L h' ∧ h₄.UpToSlots h') (E := fun _ _ => False) ?_ ?_ (fun _ _ x => x.elim)
    · exact flight_held hh fun h' hH hs' => ⟨h', rfl, hH, hs'⟩
    · rintro _ _ ⟨h', rfl, hH, hs'⟩
      have htf : (hideAll h (frs (envOf name scope L a cd :: outer))).get? t = none := by
        cases q : (hideAll h (frs (envOf name scope L a cd :: outer))).get? t with
        | none => rfl
        | some o => have := of_hideAll _ q; rw [htn] at this; cases this
      exact k h' ⟨⟨_, st, sg, hl, hH, htf⟩, (ht.of_slots hs).of_slots hs'⟩ (((Heap.UpToSlots.of_keeps fun b o q => keeps b o (of_hideAll _ q)).trans hs).trans hs') (fr_hide F N)
  first
    | exact wpAny_bind (wpAny_pure fin)
    | exact fin
end

theorem fresh_P15_skiperr : True := by
  w_top off
  trivial
theorem expd_app (u : List Nat) : (Str.empty ++ Str.ofString "Expected " ++ ⟨u.toArray⟩ : Str) = ⟨(expd ++ u).toArray⟩ := by
  have e0 : Str.empty = ⟨([] : List Nat).toArray⟩ := rfl
  have e1 : Str.ofString "Expected " = ⟨expd.toArray⟩ := by decide +kernel
  rw [e0, e1]
  simp only [str_app, List.nil_append]
theorem CoTab.more {p : Addr × Obj} {led : Led} (h : CoTab led) : CoTab (p :: led) := by
  rcases h with h | ⟨c', oc, vs, t, h1, h2, h3⟩
  · exact .inl (List.mem_cons_of_mem _ h)
  · exact .inr ⟨c', oc, vs, t, List.mem_cons_of_mem _ h1, List.mem_cons_of_mem _ h2, h3⟩
/-- what is written where the text is not found -/
theorem skip_err (w : World) (κ : Bool) (t u : List Nat) (k1 k2 kp : Tok) (p : Nat) (z : Addr) (news : Led) (ht : Asc t) (hu : Plain u) (hul : u.length ≤ 500) (hf : findFrom t u p = none) (hl : t.length ≤ 1000) (hT : CoTab news) :
    FnS w 580 3800 none 168 ⟨[txt κ t k1, .int p kp, txt κ u k2], [(Str.ofString "error_on", .ref z), (Str.ofString "error_on_eof", .bool true)]⟩ news (fun _ _ => False) (fun cls vs led => cls = .ref 158 ∧ (∃ k', vs = [txt false (expd ++ reprT κ u ++ sfx) k']) ∧ Ext news led ∧ CoTab led) := by
  unfold FnS; k_fill; show FnS _ _ _ _ _ _ _ _ _
  refine FnS.intro (binds := [(Str.ofString "src", txt κ t k1), (Str.ofString "pos", .int p kp), (Str.ofString "expect", txt κ u k2), (Str.ofString "error_on", .ref z), (Str.ofString "error_on_eof", .bool true)]) (by k_is) (by k_is) rfl (fun s _ => BindsTo.of_eq rfl) (locs rfl) (by decide) rfl rfl rfl ?_
  have hrl := reprT_len κ u
  intro loose mean mg mb gd env₀ outer base g L h₁ s tk B F X N T hlt HB KD
  refine wp_hideE fun Ef hEf => ?_
  refine wp_hide fun Qf hQf => ?_
  k_extra "go"
  refine txt_index ht hu.asc (fun i hi => by rw [hf] at hi; cases hi) fun _ => ⟨rfl, ?_⟩
  intro h2 tk2 e hx
  have hfe : ∀ p ∈ news, p.1 ≠ e := fun p hp => some_ne (N p hp).1 hx.new
  have he170 : e ≠ 170 := by
    rcases hT with q | ⟨_, _, _, _, q, _⟩
    · exact (hfe _ q).symm
    · exact (hfe _ q).symm
  refine hideG fun G9 hG9 => ?_
  obtain ⟨tl, N8, nm8, q8, bs8, hdct8, sn8, sub8, ab8, col8, dd8, k08, k18, k28, k38, k58, mN8, hC8, hN8, hni8, T8⟩ := (own_of_in HB.out.1 (topRead_of HB.out.2) (x := Str.ofString "TOMLDecodeError") (C := 158) (bmB := [.type "ValueError", .type "Exception", .type "BaseException", .type "object"]) (newId := "ValueError.__new__") (by k_is) (by k_exc)).obj
  refine hG9.out ?_
  clear hG9 G9
  refine hit_new B F N hx rfl HB KD KtsTurn.refl rfl (by kts_test) ?_
  clear B F X N T KD
  intro h3 g3 oe te tb T3 F N hoe B X T KD
  k_extra "go"
  refine raise_from_none (C := 158) (nm := nm8) (q := q8) (N := N8) (bs := bs8) (bm := tl) (hdct := hdct8) (sn := sn8) (sub := sub8) (ab := ab8) (col := col8) (dd := dd8) (k0 := k08) (k1 := k18) (k2 := k28) (k3 := k38) (k5 := k58) (newId := "ValueError.__new__") (T8.hasType PySem.F.excBase_ValueError.hasBase) rfl ?_
  k_extra "go"
  rw [show (Str.empty ++ Str.ofString "Expected " ++ ⟨(reprT κ u).toArray⟩ : Str) = ⟨(expd ++ reprT κ u).toArray⟩ from expd_app _]
  show wpAny _ _ (call _ [_, _, txt false _ _]) _ _ _
  refine FnS.use (suf_fn w κ e t (expd ++ reprT κ u) k1 _ _ ((e, oe) :: news) hl (by rw [List.length_append]; show 9 + _ ≤ _; omega) hT.more) rfl rfl rfl (by k_asm) (by k_asm) (by k_asm) HB.out.1 HB.out.2 (by k_asm) T3 rfl (Nat.le_of_ble_eq_true rfl) (Nat.le_of_ble_eq_true rfl) ?_ ?_
  · rintro v g4 h4 tk4 led4 T4 B4 F4 N4 X4 P4 D4 hp9z
    refine hideG fun G9 hG9 => ?_
    obtain ⟨e1, t1, k5, led₀, rfl, rfl, hext, hco, hne⟩ := hp9z
    refine hG9.out ?_
    clear hG9 G9
    have hoe' : (e, oe) ∈ led₀ := hext _ (List.mem_cons_self ..) he170
    have Ne : News g4 L h4 [(e1, excO 158 t1), (t1, tupO [txt false (expd ++ reprT κ u ++ sfx) k5])] := news_sub N4 fun p hp => by
      rcases List.mem_cons.mp hp with rfl | hp
      · exact List.mem_cons_self ..
      · rw [List.mem_singleton.mp hp]; exact List.mem_cons_of_mem _ (List.mem_cons_self ..)
    have N0 : News g4 L (hideAll h4 [e1, t1]) led₀ := fun p hp => ⟨hideAll_get _ (N4 p (List.mem_cons_of_mem _ (List.mem_cons_of_mem _ hp))).1 (by simp [hne p hp]), (N4 p (List.mem_cons_of_mem _ (List.mem_cons_of_mem _ hp))).2⟩
    have F0 : Fr g4 L (hideAll h4 [e1, t1]) _ := fr_hide F4 Ne
    refine ⟨e1, t1, oe, _, rfl, F4.keep _ _ (B4.stays _ _ hC8), (N4 _ (List.mem_cons_self ..)).1, (N4 _ (List.mem_cons_of_mem _ (List.mem_cons_of_mem _ hoe'))).1, hoe, rfl, (hne _ hoe').1.symm, fun h' he' hot => ?_⟩
    have hte : t1 ≠ e1 := by
      have n1 := (N4 _ (List.mem_cons_self ..)).1
      have n2 := (N4 _ (List.mem_cons_of_mem _ (List.mem_cons_self ..))).1
      intro z
      rw [z] at n2
      rw [n1] at n2
      cases n2
    refine own_raise_in (t := t1) (vs := [txt false (expd ++ reprT κ u ++ sfx) k5]) B4 F0 N0 (fun b o hb => ?_) (hideAll_none _ (by simp)) he' rfl rfl rfl rfl (hideAll_none _ (by simp)) ?_ rfl (fun h5 R hs F5 => ?_) rfl
    ·
      have hb' : b ≠ e1 := fun z => by
        rw [z, hideAll_none _ (by simp)] at hb
        cases hb
      exact (hot b hb').trans (of_hideAll _ hb)
    · exact ⟨_, _, (hot t1 hte).trans (N4 _ (List.mem_cons_of_mem _ (List.mem_cons_self ..))).1, rfl, rfl⟩
    · refine hEf.out _ _ ?_
      exact ErrS.held T4 F5 R hs ⟨rfl, ⟨_, rfl⟩, fun p hp hne => hext p (List.mem_cons_of_mem _ hp) hne, hco⟩
  · rintro _ _ _ _ _ _ _ _ _ _ _ _ _ _ _ hh
    exact hh.elim

theorem fresh_P16_excstr : True := by
  w_top off
  trivial
section
open PySem.Builtin PySem.Builtin.BaseException PySem.Builtin.Str
variable {prog : Program} {w : World} {A : Around} {E : Value → Shared → Prop} {s : Shared} {K : Frag} {e t0 C : Addr} {oe : Obj} {vs0 : Array Value}
theorem own_special {name : Str} {id : String} {args : List Value} {Q : Option Value → Shared → Prop} (X : K.In s.heap) (he : s.heap.get? e = some oe) (hc : oe.cls = .ref C) (hs : findIn K (.ref C) name = some (some (.builtin id)))
    (hb : ∀ self, bindSpecial (.builtin id) self = pure (.builtin id, [self])) (h : wpAny (model prog w) A (call (.builtin id) (.ref e :: args)) (fun v => Q (some v)) E s) : wpAny (model prog w) A (callSpecial? (.ref e) name args) Q E s := by
  have ty : Looks (model prog w) s.heap (typeOf (.ref e)) (.ref C) := by rw [← hc]; exact (Looks.ld he).andThen .now
  exact wpAny_bind (wpAny_bind (ty.here ((looks_findIn X hs).here (wpAny_holding (wpAny_bind ((Looks.of_pure (hb _)).here (wpAny_bind (wpAny_mono h (fun _ _ z => wpAny_pure z) fun _ _ z => z))))))))
theorem own_bexcArgs {M : Model} {items : List Value} {Q : Value × List Value → Shared → Prop} (he : s.heap.get? e = some oe) (hd : oe.data = .fields vs0) (h0 : vs0[0]? = some (.ref t0)) (ht : s.heap.TupAt t0 items) (hq : Q (.ref t0, items) s) :
    wpAny M A (bexcArgs (.ref e)) Q E s := by
  obtain ⟨ot, k, hto, _, htd⟩ := ht
  unfold bexcArgs
  refine wpAny_bind (wpAny_field he hd h0 (wpAny_bind (wpAny_seqItems hto htd ?_)))
  have : items.toArray.toList = items := by simp
  show wpAny M A (pure (Value.ref t0, items.toArray.toList)) Q E s
  rw [this]; exact wpAny_pure hq
theorem own_strOf {m : Str} {tk : Tok} {Q : Value → Shared → Prop} (hu : A.units < cLine) (X : K.In s.heap) (he : s.heap.get? e = some oe) (hc : oe.cls = .ref C) (hd : oe.data = .fields vs0) (h0 : vs0[0]? = some (.ref t0)) (ht : s.heap.TupAt t0 [.str m tk])
    (hs : findIn K (.ref C) "__str__" = some (some (.builtin "BaseException.__str__"))) (hm : mroIn K C (.type "BaseException") = some true) (hq : Q (.str m tk) s) : wpAny (model prog w) A (PySem.Builtin.Str.strOf (.ref e)) Q E s := by
  have ty : Looks (model prog w) s.heap (typeOf (.ref e)) (.ref C) := by rw [← hc]; exact (Looks.ld he).andThen .now
  have hcall : wpAny (model prog w) A (call (.builtin "BaseException.__str__") [.ref e]) (fun v s' => v = .str m tk ∧ Q v s') E s := by
    refine wpAny_call (codeAny_call_builtin (by decide +kernel) F.entry_bexc_str (check_slot (i := "BaseException.__str__") (owner := "BaseException") (n := "__str__") (by decide +kernel) (by decide +kernel) (ty.andThen (looks_mroIn X hm)) (F.args_bexc_str _) ?_))
    unfold Builtin.«BaseException.__str__»
    repeat (first | with_reducible refine own_bexcArgs he hd h0 ht ?_ | wp_step)
    exact ⟨rfl, hq⟩
  unfold PySem.Builtin.Str.strOf
  show wpAny _ A (do cRoomFor "str" [Value.ref e]; _) Q E s
  refine wpAny_bind (m := cRoomFor _ _) (wpAny_cRoomFor hu ?_)
  refine wpAny_bind (m := callSpecial? (.ref e) (Str.ofString "__str__")) (own_special X he hc hs (fun _ => rfl) (wpAny_mono hcall (fun v s' hv => ?_) fun _ _ z => z))
  obtain ⟨rfl, hq⟩ := hv
  repeat wp_step
  exact hq
theorem own_str {m : Str} {tk : Tok} {Q : Value → Shared → Prop} (hu : A.units + 2 < cLine) (X : K.In s.heap) (he : s.heap.get? e = some oe) (hc : oe.cls = .ref C) (hd : oe.data = .fields vs0) (h0 : vs0[0]? = some (.ref t0)) (ht : s.heap.TupAt t0 [.str m tk])
    (hs : findIn K (.ref C) "__str__" = some (some (.builtin "BaseException.__str__"))) (hm : mroIn K C (.type "BaseException") = some true) (hq : Q (.str m tk) s) : wpAny (model prog w) A (call (.type "str") [.ref e]) Q E s :=
  callType_new F.called_str (by decide) (F.typeCall_str_1 _) (F.newCall_str_1 _) (fun obj => F.args_object_init_2 obj _) F.entry_str_new
    (meets_str_new (S := fun A' R s' => A'.units + 1 < cLine ∧ K.In s'.heap ∧ s'.heap.get? e = some oe ∧ s'.heap.TupAt t0 [.str m tk] ∧ R (.ok (.ret (.str m tk))) s')
      fun _ _ A' _ _ hq => own_strOf (A := A'.in1) hq.1 hq.2.1 hq.2.2.1 hc hd h0 hq.2.2.2.1 hs hm hq.2.2.2.2)
    ⟨(show A.units + 1 + 1 < cLine from hu), X, he, ht, typeIs_str _ _ _, hq⟩
end

theorem fresh_P17_leaps : True := by
  w_top off
  trivial
/-- leaps from name to name: what is sought in vain, if anything -/
noncomputable def leap (t : List Nat) : List (List Nat) → Nat → Option (List Nat)
  | [], _ => none
  | n :: r, p => match findFrom t (47 :: (n ++ [47])) p with
    | none => some (47 :: (n ++ [47]))
    | some q => leap t r (q + n.length + 1)
noncomputable def leapsT (κ : Bool) (ns : List (List Nat)) (t : List Nat) : List Nat := match leap t ns 0 with
  | none => []
  | some u => expd ++ reprT κ u ++ sfx
theorem CoTab.sub {a b : Led} (h : CoTab a) (hs : ∀ p ∈ a, p ∈ b) : CoTab b := by
  rcases h with h | ⟨c', oc, vs, t, h1, h2, h3⟩
  · exact .inl (hs _ h)
  · exact .inr ⟨c', oc, vs, t, hs _ h1, hs _ h2, h3⟩
theorem leap_step {t : List Nat} {ns : List (List Nat)} {i p : Nat} {n : List Nat} (h : ns[i]? = some n) : leap t (ns.drop i) p = match findFrom t (47 :: (n ++ [47])) p with
    | none => some (47 :: (n ++ [47]))
    | some q => leap t (ns.drop (i + 1)) (q + n.length + 1) := by
  obtain ⟨hl, hg⟩ := List.getElem?_eq_some_iff.mp h
  rw [List.drop_eq_getElem_cons hl, hg]
  rfl
theorem leaps_fn (w : World) (κ : Bool) (t : List Nat) (k : Tok) (l : Addr) (vs : List Value) (n : Nat) (ns : List (List Nat)) (news : Led) (hl : (l, listOf vs.toArray n) ∈ news) (hv : TxtsAre κ vs ns) (ht : Asc t) (htl : t.length ≤ 900) (hp : ∀ n ∈ ns, Plain n ∧ n.length ≤ 100) (hT : CoTab news) :
    FnS w 560 3600 none 196 ⟨[.ref l, txt κ t k], []⟩ news (fun r led => Ext news led ∧ CoTab led ∧ ∃ k', r = txt false (leapsT κ ns t) k') (fun _ _ _ => False) := by
  unfold FnS; k_fill; show FnS _ _ _ _ _ _ _ _ _
  refine FnS.intro (binds := [(Str.ofString "row", .ref l), (Str.ofString "path", txt κ t k)]) (by k_is) (by k_is) rfl (fun s _ => BindsTo.of_eq rfl) (locs rfl) (by decide) rfl rfl rfl ?_
  intro loose mean mg mb gd env₀ outer base g L h₁ s tk B F X N T hlt HB KD
  k_extra "go"
  refine wpAny_mono (E := fun _ _ => False) ?_ (fun _ _ h => h) (fun _ _ h => h.elim)
  refine wp_hide fun Qf hQf => ?_
  k_extra "go"
  rename_i h2 F2 N2
  refine for_list (L := L) rfl (vs := vs) (k := n) (J := fun i m led => (∀ p ∈ news, p ∈ led) ∧ m (Str.ofString "path") = some (txt κ t k) ∧ ∃ p kp, m (Str.ofString "place") = some (.int (p : Nat) kp) ∧ leap t (ns.drop i) p = leap t ns 0) rfl (fun i m led hj => hj.1 _ hl) F2 N2 ?_
    (fun i m l l' hs hj => ⟨fun p hp => hs p (hj.1 p hp) (.inr hp), hj.2⟩) ?_ ?_
  · exact ⟨fun p hp => hp, rfl, 0, _, rfl, by rw [List.drop_zero]⟩
  · rintro i v m₁ led h tk I oI hi ⟨hsub, vp, p, kp, vpl, hleap⟩ hI hoI F3 N3
    refine wp_hide fun Qb hQb => ?_
    refine hideG fun G9 hG9 => ?_
    obtain ⟨nm, kt, hgt, rfl⟩ := hv.get hi
    refine hG9.out ?_
    clear hG9 G9
    have hnm := hp nm (List.mem_of_getElem? hgt)
    have hsl : (47 :: (nm ++ [47])).length = nm.length + 2 := by simp
    have hpl : Plain (47 :: (nm ++ [47])) := by
      intro c hc
      rcases List.mem_cons.mp hc with rfl | hc
      · exact .inl rfl
      · rcases List.mem_append.mp hc with hc | hc
        · exact hnm.1 c hc
        · exact .inl (List.mem_singleton.mp hc)
    rw [leap_step hgt] at hleap
    k_extra "go"
    rename_i z9 lf9 h9' F9 N9 lt9
    show wpAny _ _ (call (.ref 168) [_, _, _] [(Str.ofString "error_on", .ref z9), (Str.ofString "error_on_eof", .bool true)]) _ _ _
    cases hf : findFrom t (47 :: (nm ++ [47])) p with
    | some q =>
      rw [hf] at hleap
      refine Fn.use (skip_fn w κ _ _ _ _ _ p q z9 lf9 _ ht hpl.asc hf (List.mem_cons_self ..) (by omega)) rfl (by k_asm) F9 (by k_asm) N9 (by k_asm) rfl rfl (Nat.le_of_ble_eq_true rfl) (Nat.le_of_ble_eq_true rfl) ?_
      intro v h6 tk6 led6 F6 N6 hp9z
      refine hideG fun G9 hG9 => ?_
      obtain ⟨e1, k6, e2⟩ := hp9z
      refine hG9.out ?_
      clear hG9 G9
      subst e1 e2
      k_extra "go"
      have e : ((q : Int) + ((47 :: (nm ++ [47])).length : Nat) - 1) = ((q + nm.length + 1 : Nat) : Int) := by rw [hsl]; omega
      rename Fr _ _ _ _ => F8
      rename News _ _ _ _ => N8
      refine hQb.out _ _ ?_
      exact ⟨_, _, _, _, rfl, F8, N8, List.mem_cons_of_mem _ hI, fun p hp => List.mem_cons_of_mem _ (hsub p hp), vp, q + nm.length + 1, _, (by show some (Value.int ((q : Int) + ((47 :: (nm ++ [47])).length : Nat) - 1) _) = _; rw [e]), hleap⟩
    | none =>
      rw [hf] at hleap
      refine FnS.use (skip_err w κ t _ _ _ _ p z9 _ ht hpl (by omega) hf (by omega) (hT.sub fun p hp => List.mem_cons_of_mem _ (hsub p hp))) rfl rfl rfl (by k_asm) F9 N9 HB.out.1 HB.out.2 KD KtsTurn.refl rfl (Nat.le_of_ble_eq_true rfl) (Nat.le_of_ble_eq_true rfl) ?_ ?_
      · rintro _ _ _ _ _ _ _ _ _ _ _ _ hh
        exact hh.elim
      · rintro e g6 h6 tk6 G6 cls t6 vs6 led6 T6 B6 F6 KD6 R6 U6 hp9z
        refine hideG fun G9 hG9 => ?_
        obtain ⟨rfl, ⟨k6, rfl⟩, hext, hco⟩ := hp9z
        refine hG9.out ?_
        clear hG9 G9
        with_unfolding_all refine' kts_lookS R6 F6 B6 U6 KD6 (fun h7 R7 U7 => ?_)
        with_unfolding_all refine' hit_SB R7 F6 B6 U7 HB.out.1 HB.out.2 KD6 T6 (by kts_test) ?_
        intro h8 g8 n8 tk8 T8 F8 N8 G8 NN8 B8 X8 P8 D8
        refine hideG fun G9 hG9 => ?_
        obtain ⟨oe, ot, ws, nt, m1, m2, hcc, hdd, h0, htc, htd⟩ := G8
        refine hG9.out ?_
        clear hG9 G9
        k_extra "go"
        refine own_str (C := 158) (K := Mine.hd.heap_1 w.params) (show 3600 + 3 + 2 < cLine by decide) (X8.keeps F8.keep) (N8 _ m1).1 hcc hdd h0 ⟨_, _, (N8 _ m2).1, htc, htd⟩ (by k_is) (by k_is) ?_
        k_extra "go"
        rename_i hx vx Fx Nx
        refine hQb.out _ _ ?_
        refine hQf.out _ _ ?_
        refine ⟨g8, _, _, _, led6, rfl, T8, Fx, Nx, fun p hp hne => hext p (List.mem_cons_of_mem _ (hsub p hp)) hne, hco, k6, ?_⟩
        unfold leapsT
        rw [← hleap]
        rfl
  · rintro m₁ led h tk ⟨hsub, vp, p, kp, vpl, hleap⟩ F3 N3
    have hlen := hv.length
    rw [hlen, List.drop_length] at hleap
    k_extra "go"
    refine hQf.out _ _ ?_
    dsimp only
    k_extra "go"
    refine ⟨_, _, _, _, _, rfl, KtsTurn.refl, F3, N3, fun p hp _ => hsub p hp, hT.sub hsub, tk, ?_⟩
    unfold leapsT
    rw [← hleap]
    rfl

theorem fresh_P18_for : True := by
  w_top off
  trivial
/-- a For's loop at its iterator -/
noncomputable def ForAt (M : Model) (A : Around) (env : Env) (target : Expr) (body : List Stmt) (Q : Flow → Shared → Prop) (E : Value → Shared → Prop) (it : Value) (s : Shared) : Prop :=
  codeAny M A (.forLoop target it body [] env) (fun r s' => match r with | .ok f => Q f s' | .error e => cameBackBy M A env E e s') s
/-- errors of a loop's body -/
noncomputable abbrev LoopE (M : Model) (A : Around) (env : Env) (E : Value → Shared → Prop) : Value → Shared → Prop := notedBy M A env (cameBackBy M A env E)
section
variable {prog : Program} {w : World} {A : Around} {E : Value → Shared → Prop} {s : Shared} {env : Env} {target : Expr} {body : List Stmt} {Q : Flow → Shared → Prop} {it : Value}
theorem for_at {iter : Expr} {pos : Pos} (h : wpAny (model prog w) A (eval iter env) (fun x s₁ => wpAny (model prog w) A (pyIter x) (fun it s₂ => ForAt (model prog w) A env target body Q E it s₂) E s₁) E s)
    (hs : ∀ x, foldedSetIterable iter env x = pure x) : wpAny (model prog w) A (exec (.For target iter body [] pos) env) Q E s := wpAny_For h hs
theorem ForAt.intro (I : Nat → Shared → Prop)
    (turn : ∀ n s, I n s → wpAny (model prog w) A (pyNext it) (fun r s₁ => match r with
      | none => Q .next s₁
      | some v => wpAny (model prog w) A (assign target env v) (fun _ s₂ => wpAny (model prog w) A (execs body env) (fun f s₃ => match f with
          | .next | .cont => Box (∃ m, m < n ∧ I m s₃)
          | .brk => Q .next s₃
          | .ret v => Q (.ret v) s₃) (LoopE (model prog w) A env E) s₂) (LoopE (model prog w) A env E) s₁) (LoopE (model prog w) A env E) s)
    (n : Nat) (h : I n s) (ht : ∀ v, letOwnedTupleGo target it v = pure () := by intro _; rfl) : ForAt (model prog w) A env target body Q E it s := by
  refine codeAny_forLoop I (fun n s hI => wpAny_mono (turn n s hI) (fun r s₁ h₁ => ?_) fun _ _ e => e) n h ht
  cases r with
  | none => exact wpAny_execs_nil h₁
  | some v => exact wpAny_mono h₁ (fun _ s₂ h₂ => wpAny_mono h₂ (fun f s₃ h₃ => by cases f <;> first | exact h₃.out | exact h₃) fun _ _ e => e) fun _ _ e => e
theorem ForAt.intro0 (I : Nat → Shared → Prop)
    (turn : ∀ n s, I n s → wpAny (model prog w) A (pyNext it) (fun r s₁ => match r with
      | none => Q .next s₁
      | some v => wpAny (model prog w) A (assign target env v) (fun _ s₂ => wpAny (model prog w) A (execs body env) (fun f s₃ => match f with
          | .next | .cont => Box (∃ m, m < n ∧ I m s₃)
          | .brk => Q .next s₃
          | .ret v => Q (.ret v) s₃) (fun _ _ => False) s₂) (fun _ _ => False) s₁) (fun _ _ => False) s)
    (n : Nat) (h : I n s) (ht : ∀ v, letOwnedTupleGo target it v = pure () := by intro _; rfl) : ForAt (model prog w) A env target body Q E it s :=
  ForAt.intro I (fun n s hI => wpAny_mono (turn n s hI) (fun r s₁ h₁ => by
    cases r with
    | none => exact h₁
    | some v => exact wpAny_mono h₁ (fun _ s₂ h₂ => wpAny_mono h₂ (fun _ _ x => x) fun _ _ e => e.elim) fun _ _ e => e.elim) fun _ _ e => e.elim) n h ht
theorem ForAt.introH (I : Nat → Shared → Prop)
    (turn : ∀ n s (Qb : Flow → Shared → Prop), LoopB Qb Q (fun s' => ∃ m, m < n ∧ I m s') → I n s → wpAny (model prog w) A (pyNext it) (fun r s₁ => match r with
      | none => Q .next s₁
      | some v => wpAny (model prog w) A (assign target env v) (fun _ s₂ => wpAny (model prog w) A (execs body env) Qb (fun _ _ => False) s₂) (fun _ _ => False) s₁) (fun _ _ => False) s)
    (n : Nat) (h : I n s) (ht : ∀ v, letOwnedTupleGo target it v = pure () := by intro _; rfl) : ForAt (model prog w) A env target body Q E it s :=
  ForAt.intro0 I (fun n s hI => turn n s _ ⟨fun _ h => ⟨h⟩, fun _ h => ⟨h⟩, fun _ h => h, fun _ _ h => h⟩ hI) n h ht
end
/-- a thing of the ledger, told by what holds of it -/
noncomputable def Ob (led : Led) (a : Addr) (P : Obj → Prop) : Prop := ∃ o, (a, o) ∈ led ∧ P o
theorem Ob.sub {a b : Led} {x : Addr} {P : Obj → Prop} (h : Ob a x P) (hs : ∀ p ∈ a, p ∈ b) : Ob b x P := let ⟨o, h1, h2⟩ := h; ⟨o, hs _ h1, h2⟩
theorem Ob.more {a : Led} {x : Addr} {P : Obj → Prop} {p : Addr × Obj} (h : Ob a x P) : Ob (p :: a) x P := h.sub fun _ hp => List.mem_cons_of_mem _ hp
theorem Ob.setNe {a : Led} {x d : Addr} {o' : Obj} {P : Obj → Prop} (h : Ob a x P) (hne : x ≠ d) : Ob (setL a d o') x P := let ⟨o, h1, h2⟩ := h; ⟨o, mem_setL_ne hne h1, h2⟩
noncomputable abbrev IsLIt (l : Addr) (i : Nat) (o : Obj) : Prop := o.cls = .type "list_iterator" ∧ o.data = .fields #[.ref l, .int (i : Nat) 0]
noncomputable abbrev IsCell (v : Option Value) (o : Obj) : Prop := o.data = .cell v
theorem cell_lit {o : Obj} {l : Addr} {i : Nat} {v : Option Value} (h : IsCell v o) (h2 : IsLIt l i o) : False := by have := h.symm.trans h2.2; cases this
theorem list_cell {its : Array Value} {n : Nat} {v : Option Value} (h2 : IsCell v (listOf its n)) : False := by cases h2
theorem list_lit {its : Array Value} {n : Nat} {l : Addr} {i : Nat} (h2 : IsLIt l i (listOf its n)) : False := absurd h2.1 (by show Value.type "list" ≠ Value.type "list_iterator"; decide)
section
variable {prog : Program} {w : World} {A : Around} {E : Value → Shared → Prop} {s : Shared} {h₀ : Heap} {L l I : Addr} {m : Str → Option Value} {led : Led}
/-- all but one address stays: the ledger without it -/
theorem news_less {h h' : Heap} {d : Addr} (N : News h₀ L h led) (hk : ∀ b o, b ≠ d → h.get? b = some o → h'.get? b = some o) : News h₀ L h' (led.filter fun p => decide (p.1 ≠ d)) := fun p hp => by
  obtain ⟨h1, h2⟩ := List.mem_filter.mp hp
  exact ⟨hk _ _ (of_decide_eq_true h2) (N p h1).1, (N p h1).2⟩
theorem mem_less {d : Addr} {p : Addr × Obj} (h : p ∈ led) (hne : p.1 ≠ d) : p ∈ led.filter fun p => decide (p.1 ≠ d) := List.mem_filter.mpr ⟨h, decide_eq_true hne⟩
theorem fr_less {h h' : Heap} {d : Addr} {o : Obj} (F : Fr h₀ L h m) (N : News h₀ L h led) (hm : (d, o) ∈ led) (hk : ∀ b o, b ≠ d → h.get? b = some o → h'.get? b = some o) : Fr h₀ L h' m := by
  have D := N _ hm
  obtain ⟨oL, es, ep, hL, r⟩ := F.ns
  exact ⟨⟨oL, es, ep, hk _ _ (Ne.symm D.2.1) hL, r⟩, fun b x q => hk _ _ (fun z => by have := D.2.2; rw [← z, q] at this; cases this) (F.keep b x q), F.above⟩
theorem iter_L {its : List Value} {n : Nat} {Q : Value → Shared → Prop} (F : Fr h₀ L s.heap m) (N : News h₀ L s.heap led) (hm : (l, listOf its.toArray n) ∈ led)
    (h : ∀ I h' o, Fr h₀ L h' m → News h₀ L h' ((I, o) :: led) → IsLIt l 0 o → (∀ p ∈ led, p.1 < I) → Q (.ref I) { s with heap := h' }) : wpAny (model prog w) A (pyIter (.ref l)) Q E s := by
  refine wpAny_pyIter_list (items := its.toArray) ⟨_, (N _ hm).1, rfl, n, rfl⟩ ?_
  refine h s.heap.objs.size _ { cls := .type "list_iterator", data := .fields #[.ref l, .int 0 0] } (F.push _) (fun p hp => ?_) ⟨rfl, rfl⟩ (fun p hp => Heap.lt_size (N p hp).1)
  rcases List.mem_cons.mp hp with rfl | hp
  · exact ⟨Heap.get?_push_size _ rfl, Nat.ne_of_gt F.ns.lt, next_is_new F⟩
  · exact ⟨Heap.get?_push_of_some _ (N p hp).1, (N p hp).2⟩
theorem next_L {its : List Value} {n i : Nat} {Q : Option Value → Shared → Prop} (hh : A.handled = none) (F : Fr h₀ L s.heap m) (N : News h₀ L s.heap led) (hI : Ob led I (IsLIt l i)) (hm : (l, listOf its.toArray n) ∈ led)
    (hs : ∀ v h' led', its[i]? = some v → Fr h₀ L h' m → News h₀ L h' led' → Ob led' I (IsLIt l (i + 1)) → (∀ p ∈ led, p.1 ≠ I → p ∈ led') → Q (some v) { s with heap := h' })
    (he : ∀ h' led', its.length ≤ i → Fr h₀ L h' m → News h₀ L h' led' → (∀ p ∈ led, p.1 ≠ I → p ∈ led') → Q none { s with heap := h' }) : wpAny (model prog w) A (pyNext (.ref I)) Q E s := by
  obtain ⟨oI, hI, hc, hd⟩ := hI
  have hit : s.heap.IsListIter I l i := ⟨oI, (N _ hI).1, hc, hd⟩
  have hl : s.heap.IsList l its.toArray := ⟨_, (N _ hm).1, rfl, n, rfl⟩
  cases hx : its[i]? with
  | some v =>
    refine wpAny_pyNext_list_item hit hl (by simpa using hx) fun h' hit' hb => ?_
    obtain ⟨o', ho', hc', hd'⟩ := hit'
    exact hs v h' _ hx (fr_same F N hI hb) (news_same N hI hb ho') ⟨o', mem_setL_self hI, hc', hd'⟩ fun p hp hne => mem_setL_ne hne hp
  | none =>
    refine wpAny_pyNext_list_end hh hit hl (by simpa using hx) fun h' hb => ?_
    exact he h' _ (by simpa using hx) (fr_less F N hI fun b o hne e => hb b o hne e) (news_less N fun b o hne e => hb b o hne e) fun p hp hne => mem_less hp hne
/-- what one thing's change leaves as it is -/
theorem mem_keep {h : Heap} {P : Obj → Prop} {led' : Led} {a : Addr} {o : Obj} (N : News h₀ L h led) (hI : Ob led I P) (hk : ∀ p ∈ led, p.1 ≠ I → p ∈ led') (hm : (a, o) ∈ led) (hn : ¬ P o) : (a, o) ∈ led' :=
  hk _ hm fun e => by
    have e : a = I := e
    subst e
    obtain ⟨o', m', p'⟩ := hI
    exact hn (news_uniq N m' hm ▸ p')
theorem ob_keep {h : Heap} {P R : Obj → Prop} {led' : Led} {a : Addr} (N : News h₀ L h led) (hI : Ob led I P) (hk : ∀ p ∈ led, p.1 ≠ I → p ∈ led') (hm : Ob led a R) (hn : ∀ o, R o → ¬ P o) : Ob led' a R :=
  let ⟨o, h1, h2⟩ := hm; ⟨o, mem_keep N hI hk h1 (hn o h2), h2⟩
theorem lit_ne {i : Nat} {h : Heap} (N : News h₀ L h led) (hI : Ob led I (IsLIt l i)) {a : Addr} {o : Obj} (ha : (a, o) ∈ led) (hc : o.cls ≠ .type "list_iterator") : a ≠ I := by
  obtain ⟨oI, hI, hcI, _⟩ := hI
  exact news_ne N ha hI fun e => hc (e ▸ hcI)
theorem storeC {cn : Str} {cs : Scope} {a c : Addr} {ccd : Value} {cl : List (Str × Addr)} {x : Str} {v : Value} {v₀ : Option Value} {Q : Unit → Shared → Prop} (F : Fr h₀ L s.heap m) (N : News h₀ L s.heap led) (hm : Ob led c (IsCell v₀)) (hc : cl.lookup x = some c)
    (h : ∀ h' led', Fr h₀ L h' m → News h₀ L h' led' → Ob led' c (IsCell (some v)) → (∀ p ∈ led, p.1 ≠ c → p ∈ led') → Q () { s with heap := h' })
    (hk : cs.kind = .function := by rfl) (hx : (envX cn cs L a ccd cl).kindOf x = some .cell := by rfl) : wpAny (model prog w) A (storeName (envX cn cs L a ccd cl) x v) Q E s := by
  obtain ⟨o, hm, hd⟩ := hm
  refine storeX_C F (news_dd N) hc (g := fun o' => setL (dd led) c o') (updF_of (nodup_dd _) ((mem_dd N _).mpr hm)) hd (fun h' o' F' N' hd' => ?_) hk hx
  exact h h' _ F' (news_setL_dd N N') ⟨o', mem_setL_self hm, hd'⟩ fun p hp hne => mem_setL_ne hne hp
theorem nameC {cn : Str} {cs : Scope} {a c : Addr} {ccd : Value} {cl : List (Str × Addr)} {x : Str} {pos : Pos} {v : Value} {Q : Value → Shared → Prop} (N : News h₀ L s.heap led) (hm : Ob led c (IsCell (some v))) (hc : cl.lookup x = some c) (h : Q v s)
    (hk : cs.kind = .function) (hx : (envX cn cs L a ccd cl).kindOf x = some .cell) (hb : (x == ("__debug__" : Str)) = false) :
    wpAny (model prog w) A (eval (.Name x pos) (envX cn cs L a ccd cl)) Q E s :=
  let ⟨_, hm, hd⟩ := hm
  nameX_C N hc hm hd h hk hx hb
theorem cell_ne {h : Heap} {c a : Addr} {v : Option Value} {o : Obj} (N : News h₀ L h led) (hI : Ob led c (IsCell v)) (ha : (a, o) ∈ led) (hc : ∀ v, o.data ≠ .cell v) : a ≠ c := by
  obtain ⟨oI, hI, hd⟩ := hI
  exact news_ne N ha hI fun e => hc v (e ▸ hd)
end

theorem fresh_P19_cells : True := by
  w_top off
  trivial
section
variable {w : World} {D U : Nat} {f : Addr} {args : Args} {news : Led} {post : Value → Led → Prop}
theorem Fn.introC {name qual : Str} {params : Arguments} {body : List Stmt} {scope : Scope} {dV kV doc pm cdv ct oc : Value} {an od : Option Addr} {osl : Array (Option Value)} {binds : List (Str × Value)} (clL : Addr → List (Str × Addr)) (mm cm : Str → Option Value)
    (ho : (Mine.hd.heap_1 w.params).lookup f = some ⟨oc, od, .func (fnOf name qual params body scope dV kV doc pm an cdv ct), osl⟩) (hcd : codeIn (Mine.hd.heap_1 w.params) cdv qual = true) (hroom : Nat.blt D 1000 = true)
    (hbind : ∀ s : Shared, (Mine.hd.heap_1 w.params).In s.heap → BindsTo s (fnOf name qual params body scope dV kV doc pm an cdv ct) args binds)
    (hkind : ∀ n, ∀ x ∈ binds, scope.names.lookup x.1 = some .local ∨ (scope.names.lookup x.1 = some .cell ∧ ((cellsFrom n scope.names []).lookup x.1).isSome = true))
    (hcl : ∀ L, cellsFrom (L + 1) scope.names [] = clL L) (hmm : ∀ L, bindL (envOfC qual scope L f cdv).kindOf binds (fun _ => none) = mm) (hcm : ∀ L, bindC (envOfC qual scope L f cdv).kindOf binds (fun _ => none) = cm)
    (hnd : ((cellsFrom 0 scope.names []).map (·.1)).Nodup) (hco : scope.isCoroutine = false) (hgen : scope.isGenerator = false) (hk : scope.kind = .function)
    (h : ∀ (loose : List Str) (mean : ExcName → Option Value) (mg mb : Str → Option Value) (gd : Option (List Code)) (env₀ : Env) (outer : List Env) (base g : Heap) (L : Addr) (h₁ : Heap) (s : Shared) (tk : Nat) (cells : Led),
      Below { handled := none, depth := D, frames := some (env₀ :: outer), guards := gd, units := U } base (env₀ :: outer) g → Fr g L h₁ mm → (Mine.hd.heap_1 w.params).In g → News g L h₁ (cells ++ news) →
      CellsAre cm (clL L) cells → Top topProg loose mean mg mb g → (∀ p ∈ news, p.1 < L) →
      wpAny (model PySem.Challenge.rw_op0160_01.row.prog w) (AR none (D + 1) (U + 3) (envX qual scope L f cdv (clL L)) gd env₀ outer) (execs body (envX qual scope L f cdv (clL L))) (Ends g L s post) (fun _ _ => False) { s with heap := h₁, toks := tk }) :
    Fn w D U f args news post := by
  intro loose mean mg mb gd cn cs a ccd cl outer A₀ base h₀ L m s B F X N T hk'
  refine callX_cells B F N T.nolimit rfl rfl hk' ((X.keeps F.keep) _ _ ho) rfl (codeRec_of (X.keeps F.keep) hcd) (Nat.le_of_ble_eq_true hroom) (hbind s (X.keeps F.keep)) hkind hnd ?_ hco hgen hk
  intro g L' h₁ tk cells FG F' N' Y B' st hlt
  rw [hmm] at F'
  rw [hcm, hcl] at Y
  have he : envOfC qual scope L' f cdv = envX qual scope L' f cdv (clL L') := by rw [← hcl]; rfl
  rw [he]
  refine wpAny_mono (h loose mean mg mb gd _ outer base g L' h₁ s _ cells B' F' (X.keeps st) N' Y (T.keeps st) hlt) ?_ fun _ _ x => x.elim
  rintro fl s' hp9z
  refine hideG fun G9 hG9 => ?_
  obtain ⟨h', tk', m', news', rfl, F2, N2, hp⟩ := hp9z
  refine hG9.out ?_
  clear hG9 G9
  refine ⟨L', m', news', F2, N2, fun F3 N3 => ⟨h', tk', news', rfl, F3, N3, ?_⟩⟩
  cases fl <;> exact hp
end
/-- lists of texts, each an object of the ledger -/
inductive RowsIn (κ : Bool) (led : Led) : List Value → List (List (List Nat)) → Prop
  | nil : RowsIn κ led [] []
  | cons {a : Addr} {us : List Value} {n : Nat} {r : List (List Nat)} {vs : List Value} {rs : List (List (List Nat))} : (a, listOf us.toArray n) ∈ led → TxtsAre κ us r → RowsIn κ led vs rs → RowsIn κ led (.ref a :: vs) (r :: rs)
section
variable {κ : Bool} {led led' : Led} {vs us : List Value} {rs ss : List (List (List Nat))}
theorem RowsIn.sub (h : RowsIn κ led vs rs) (hs : ∀ p ∈ led, p ∈ led') : RowsIn κ led' vs rs := by
  induction h with
  | nil => exact .nil
  | cons h1 h2 _ ih => exact .cons (hs _ h1) h2 ih
/-- the lists stay where things of another kind come or go -/
theorem RowsIn.keep (h : RowsIn κ led vs rs) (hs : ∀ a us n, (a, listOf us n) ∈ led → (a, listOf us n) ∈ led') : RowsIn κ led' vs rs := by
  induction h with
  | nil => exact .nil
  | cons h1 h2 _ ih => exact .cons (hs _ _ _ h1) h2 ih
theorem RowsIn.kept {h₀ h : Heap} {L I : Addr} {P : Obj → Prop} (N : News h₀ L h led) (hI : Ob led I P) (hk : ∀ p ∈ led, p.1 ≠ I → p ∈ led') (hn : ∀ us n, ¬ P (listOf us n)) (h : RowsIn κ led vs rs) : RowsIn κ led' vs rs :=
  h.keep fun _ us n hm => mem_keep N hI hk hm (hn us n)
theorem RowsIn.length (h : RowsIn κ led vs rs) : vs.length = rs.length := by
  induction h with
  | nil => rfl
  | cons _ _ _ ih => simp [ih]
theorem RowsIn.app (h : RowsIn κ led vs rs) (h' : RowsIn κ led us ss) : RowsIn κ led (vs ++ us) (rs ++ ss) := by
  induction h with
  | nil => exact h'
  | cons h1 h2 _ ih => exact .cons h1 h2 ih
theorem RowsIn.get (h : RowsIn κ led vs rs) : ∀ {i : Nat} {v : Value}, vs[i]? = some v → ∃ a us n r, v = .ref a ∧ (a, listOf us.toArray n) ∈ led ∧ TxtsAre κ us r ∧ rs[i]? = some r := by
  induction h with
  | nil => intro i v e; simp at e
  | @cons a us n r vs rs h1 h2 _ ih =>
    intro i v e
    cases i with
    | zero => simp at e; exact ⟨a, us, n, r, e.symm, h1, h2, rfl⟩
    | succ i => simpa using ih (by simpa using e)
theorem RowsIn.at (h : RowsIn κ led vs rs) : ∀ {i : Nat} {r : List (List Nat)}, rs[i]? = some r → ∃ a us n, vs[i]? = some (.ref a) ∧ (a, listOf us.toArray n) ∈ led ∧ TxtsAre κ us r := by
  induction h with
  | nil => intro i v e; simp at e
  | @cons a us n r vs rs h1 h2 _ ih =>
    intro i r' e
    cases i with
    | zero => simp at e; subst e; exact ⟨a, us, n, rfl, h1, h2⟩
    | succ i => simpa using ih (by simpa using e)
theorem RowsIn.take (h : RowsIn κ led vs rs) : ∀ n, RowsIn κ led (vs.take n) (rs.take n) := by
  induction h with
  | nil => intro n; simp; exact .nil
  | cons h1 h2 _ ih => intro n; cases n with
    | zero => exact .nil
    | succ n => exact .cons h1 h2 (ih n)
theorem RowsIn.drop (h : RowsIn κ led vs rs) : ∀ n, RowsIn κ led (vs.drop n) (rs.drop n) := by
  induction h with
  | nil => intro n; simp; exact .nil
  | cons h1 h2 h3 ih => intro n; cases n with
    | zero => exact .cons h1 h2 h3
    | succ n => exact ih n
end
section
variable {prog : Program} {w : World} {A : Around} {E : Value → Shared → Prop} {s : Shared} {h₀ : Heap} {L l b : Addr} {m : Str → Option Value} {led : Led}
theorem addL {vs ws : List Value} {n k : Nat} {Q : Value → Shared → Prop} (F : Fr h₀ L s.heap m) (N : News h₀ L s.heap led) (hl : (l, listOf vs.toArray n) ∈ led) (hb : (b, listOf ws.toArray k) ∈ led) (hsz : vs.length + ws.length ≤ 1000000)
    (h : ∀ D h', Fr h₀ L h' m → News h₀ L h' ((D, listOf (vs ++ ws).toArray 0) :: led) → (∀ p ∈ led, p.1 < D) → Q (.ref D) { s with heap := h' }) : wpAny (model prog w) A (binaryOp .Add (.ref l) (.ref b)) Q E s :=
  add_lists F N ⟨_, (N _ hl).1, rfl, n, rfl⟩ ⟨_, (N _ hb).1, rfl, k, rfl⟩ (fun h' F' N' => h _ h' F' N' fun p hp => Heap.lt_size (N p hp).1) (by rw [sizeLine_eq]; omega)
theorem itemL {value slice : Expr} {vs : List Value} {n : Nat} {k : Int} {i : Nat} {u : Tok} {v : Value} {Q : Value → Shared → Prop} (N : News h₀ L s.heap led) (hl : (l, listOf vs.toArray n) ∈ led) (hk : k = i) (hi : i < 1000000) (hx : vs[i]? = some v) (h : Q v s)
    (hs : subscripted slice false (.ref l) (.int k u) = operate [.ref l, .int k u] (getItem (.ref l) (.int k u)) := by with_unfolding_all rfl) : wpAny (model prog w) A (subscriptTail value slice (.ref l) (.int k u)) Q E s := by
  subst hk
  have il : s.heap.IsList l vs.toArray := ⟨_, (N _ hl).1, rfl, n, rfl⟩
  exact tail_any il.typeIs slot_list_getitem.lookup (wpAny_getItem_list il (by omega) (by omega) (by simpa using hx) h) hs
end
/-- the turns of a comprehension, by what holds of the ledger between them -/
theorem compRest_of {prog : Program} {w : World} {A : Around} {h₀ : Heap} {L : Addr} {m : Str → Option Value} {env : Env} {elt : Expr} {x : Str} {scope : Scope} {cl : List (Str × Addr)} {s : Shared} {S : Led → Prop} {P : Nat → Value → Prop} {Fin : List Value → Led → Prop} (J : Nat → List Value → Led → Prop) {n : Nat}
    (turn : ∀ i ys news v I oI C oC D m₂ h tk (E' : Value → Shared → Prop), i < n → J i ys news → P i v → LCg.NsObj oC m₂ → m₂ x = some v → Fr h₀ L h m → News h₀ L h ((I, oI) :: (C, oC) :: (D, LCg.lst ys) :: news) → LCg.Off3 I C D news → ((@Ne Nat I C) ∧ (@Ne Nat I D) ∧ (@Ne Nat C D)) →
      wpAny (model prog w) A (eval elt (compEnvC scope cl C env)) (LCg.CompEnd h₀ L m { s with heap := h, toks := tk } I oI C oC D (LCg.lst ys) S (fun y news' => J (i + 1) (ys ++ [y]) news')) E' { s with heap := h, toks := tk })
    (fin : ∀ ys news, J n ys news → Fin ys news) : ∀ k i ys news, i + k = n → J i ys news → LCg.CompRest prog w A h₀ L m env elt x scope cl s S P Fin k i ys news
  | 0, i, ys, news, e, hj => by
    have e : i = n := e
    subst e; exact fin _ _ hj
  | k + 1, i, ys, news, e, hj => by
    refine LCg.CompRest.succ fun v I oI C oC D m₂ h tk E' hP hC hx F N off ne => ?_
    refine wpAny_mono (turn i ys news v I oI C oC D m₂ h tk E' (by omega) hj hP hC hx F N off ne) (fun y s₂ hy => ?_) fun _ _ e => e
    refine hideG fun G9 hG9 => ?_
    obtain ⟨h', tk', news', rfl, F', N', off', hS', hj'⟩ := hy
    refine hG9.out ?_
    clear hG9 G9
    exact ⟨h', tk', news', rfl, F', N', off', hS', compRest_of J turn fin k (i + 1) _ _ (by omega) hj'⟩
theorem comp_sub1 {α : Type} {a b c d : α} {l : List α} : ∀ p ∈ a :: b :: c :: d :: l, p ∈ d :: a :: b :: c :: l := fun p hp => by
  rcases List.mem_cons.mp hp with rfl | hp
  · exact .tail _ (.head _)
  rcases List.mem_cons.mp hp with rfl | hp
  · exact .tail _ (.tail _ (.head _))
  rcases List.mem_cons.mp hp with rfl | hp
  · exact .tail _ (.tail _ (.tail _ (.head _)))
  rcases List.mem_cons.mp hp with rfl | hp
  · exact .head _
  · exact .tail _ (.tail _ (.tail _ (.tail _ hp)))
theorem comp_sub2 {α : Type} {a b c d e : α} {l : List α} : ∀ p ∈ a :: b :: c :: d :: e :: l, p ∈ d :: e :: a :: b :: c :: l := fun p hp => by
  rcases List.mem_cons.mp hp with rfl | hp
  · exact .tail _ (.tail _ (.head _))
  rcases List.mem_cons.mp hp with rfl | hp
  · exact .tail _ (.tail _ (.tail _ (.head _)))
  rcases List.mem_cons.mp hp with rfl | hp
  · exact .tail _ (.tail _ (.tail _ (.tail _ (.head _))))
  rcases List.mem_cons.mp hp with rfl | hp
  · exact .head _
  rcases List.mem_cons.mp hp with rfl | hp
  · exact .tail _ (.head _)
  · exact .tail _ (.tail _ (.tail _ (.tail _ (.tail _ hp))))
theorem compRestT_of {prog : Program} {w : World} {A : Around} {h₀ : Heap} {L : Addr} {m : Str → Option Value} {env : Env} {ct elt : Expr} {x : Str} {scope : Scope} {cl : List (Str × Addr)} {s : Shared} {S : Led → Prop} {P : Nat → Value → Prop} {Fin : List Value → Led → Prop} (J : Nat → List Value → Led → Prop) {n : Nat}
    (turn : ∀ i ys news v I oI C oC D m₂ h tk (E' : Value → Shared → Prop), i < n → J i ys news → P i v → LCg.NsObj oC m₂ → m₂ x = some v → Fr h₀ L h m → News h₀ L h ((I, oI) :: (C, oC) :: (D, LCg.lst ys) :: news) → LCg.Off3 I C D news → ((@Ne Nat I C) ∧ (@Ne Nat I D) ∧ (@Ne Nat C D)) →
      wpAny (model prog w) A (isTrue ct (compEnvC scope cl C env) (eval ct (compEnvC scope cl C env))) (fun ok s' => if ok = true then
        wpAny (model prog w) A (eval elt (compEnvC scope cl C env)) (LCg.CompEnd h₀ L m { s with heap := h, toks := tk } I oI C oC D (LCg.lst ys) S (fun y news' => J (i + 1) (ys ++ [y]) news')) E' s'
        else LCg.CompEnd h₀ L m { s with heap := h, toks := tk } I oI C oC D (LCg.lst ys) S (fun _ news' => J (i + 1) ys news') Value.none s') E' { s with heap := h, toks := tk })
    (fin : ∀ ys news, J n ys news → Fin ys news) : ∀ k i ys news, i + k = n → J i ys news → LCt.CompRestT prog w A h₀ L m env ct elt x scope cl s S P Fin k i ys news
  | 0, i, ys, news, e, hj => by
    have e : i = n := e
    subst e; exact fin _ _ hj
  | k + 1, i, ys, news, e, hj => by
    refine LCt.CompRestT.succ fun v I oI C oC D m₂ h tk E' hP hC hx F N off ne => ?_
    refine wpAny_mono (turn i ys news v I oI C oC D m₂ h tk E' (by omega) hj hP hC hx F N off ne) (fun ok s₂ hy => ?_) fun _ _ e => e
    cases ok with
    | true =>
      simp only [if_true] at hy ⊢
      refine wpAny_mono hy (fun y s₃ hy => ?_) fun _ _ e => e
      refine hideG fun G9 hG9 => ?_
      obtain ⟨h', tk', news', rfl, F', N', off', hS', hj'⟩ := hy
      refine hG9.out ?_
      clear hG9 G9
      exact ⟨h', tk', news', rfl, F', N', off', hS', compRestT_of J turn fin k (i + 1) _ _ (by omega) hj'⟩
    | false =>
      simp only [Bool.false_eq_true, if_false] at hy ⊢
      refine hideG fun G9 hG9 => ?_
      obtain ⟨h', tk', news', rfl, F', N', off', hS', hj'⟩ := hy
      refine hG9.out ?_
      clear hG9 G9
      exact ⟨h', tk', news', rfl, F', N', off', hS', compRestT_of J turn fin k (i + 1) _ _ (by omega) hj'⟩
theorem range_small {n : Nat} (h : n ≤ 1000000) : Builtin.Range.small 0 (n : Int) 1 = true := small_one (by omega) (by omega) (by omega) (by omega)
theorem range_size (n : Nat) : Builtin.Range.rangeSize 0 (n : Int) 1 = (n : Int) := by rw [rangeSize_nat]; omega

theorem fresh_P19a_eq : True := by
  w_top off
  trivial
theorem txt_inj {κ : Bool} {t u : List Nat} {a b : Tok} (ht : Asc t) (hu : Asc u) (h : txt κ t a = txt κ u b) : t = u := by
  cases κ
  · have h1 : (⟨t.toArray⟩ : Str) = ⟨u.toArray⟩ := by injection h
    have := congrArg (fun x : Str => x.cps.toList) h1
    simpa using this
  · have h1 : (t.map UInt8.ofNat).toArray = (u.map UInt8.ofNat).toArray := by injection h
    exact (u8_inj ht hu).mp (by simpa using h1)
/-- all texts of plain signs -/
noncomputable def AscR (r : List (List Nat)) : Prop := ∀ t ∈ r, Asc t
theorem TxtsAre.fn {κ : Bool} {vs : List Value} {r : List (List Nat)} (h : TxtsAre κ vs r) : ∀ {r' : List (List Nat)}, TxtsAre κ vs r' → AscR r → AscR r' → r = r' := by
  induction h with
  | nil => intro r' h' _ _; cases h'; rfl
  | @cons t k vs ts _ ih =>
    intro r' h' a1 a2
    generalize hv : txt κ t k :: vs = ws at h'
    cases h' with
    | nil => cases hv
    | cons h2 =>
      injection hv with e1 e2
      subst e2
      rw [txt_inj (a1 t (.head _)) (a2 _ (.head _)) e1, ih h2 (fun x hx => a1 x (.tail _ hx)) (fun x hx => a2 x (.tail _ hx))]
section
variable {prog : Program} {w : World} {A : Around} {E : Value → Shared → Prop} {s : Shared} {κ : Bool}
open PySem.SeqAt
theorem eqAt_txt {t u : List Nat} {a b : Tok} (ht : Asc t) (hu : Asc u) : EqAt A s (txt κ t a) (txt κ u b) (decide (t = u)) := fun prog w E Q hq => by
  cases κ
  · refine (PySem.strKind prog w).eqBool (a := ⟨t.toArray⟩) (b := ⟨u.toArray⟩) (strKind_is _ _ _ _) (strKind_is _ _ _ _) ?_
    have e : decide ((⟨t.toArray⟩ : Str) = ⟨u.toArray⟩) = decide (t = u) := by
      rw [decide_eq_decide]
      exact ⟨fun q => by have := congrArg (fun x : Str => x.cps.toList) q; simpa using this, fun q => by rw [q]⟩
    rw [e]; exact hq
  · refine (PySem.W.bytesKind prog w).eqBool (a := t.map UInt8.ofNat) (b := u.map UInt8.ofNat) (bytesKind_is _ _ _ _) (bytesKind_is _ _ _ _) ?_
    rw [decide_eq_decide.mpr (u8_inj ht hu)]; exact hq
theorem row_eq {us vs : List Value} {r r' : List (List Nat)} (hu : TxtsAre κ us r) (hv : TxtsAre κ vs r') (h1 : AscR r) (h2 : AscR r') (hl : us.toArray.size = vs.toArray.size) :
    (∀ j (q1 : j < us.toArray.size) (q2 : j < vs.toArray.size), EqAt A s us.toArray[j] vs.toArray[j] (decide (r[j]? = r'[j]?))) ∧ (List.range us.toArray.size).all (fun j => decide (r[j]? = r'[j]?)) = decide (r = r') := by
  constructor
  · intro j q1 q2
    have e1 : us[j]? = some us.toArray[j] := by simp at q1 ⊢
    have e2 : vs[j]? = some vs.toArray[j] := by simp at q2 ⊢
    obtain ⟨t, k, g1, g2⟩ := hu.get e1
    obtain ⟨t', k', g1', g2'⟩ := hv.get e2
    rw [g2, g2', g1, g1']
    have := eqAt_txt (A := A) (s := s) (κ := κ) (a := k) (b := k') (h1 t (List.mem_of_getElem? g1)) (h2 t' (List.mem_of_getElem? g1'))
    simpa using this
  · rw [Bool.eq_iff_iff, List.all_eq_true, decide_eq_true_iff]
    have l1 := hu.length
    have l2 := hv.length
    simp only [List.size_toArray] at hl ⊢
    constructor
    · intro h
      apply List.ext_getElem?
      intro j
      by_cases hj : j < us.length
      · exact of_decide_eq_true (h j (List.mem_range.mpr hj))
      · rw [List.getElem?_eq_none (by omega), List.getElem?_eq_none (by omega)]
    · intro h j _
      rw [h]; exact decide_eq_true rfl
theorem eqAt_rows {l b : Addr} {us vs : List Value} {n k : Nat} {r r' : List (List Nat)} {h₀ : Heap} {L : Addr} {led : Led} (N : News h₀ L s.heap led) (hl : (l, listOf us.toArray n) ∈ led) (hb : (b, listOf vs.toArray k) ∈ led)
    (hu : TxtsAre κ us r) (hv : TxtsAre κ vs r') (h1 : AscR r) (h2 : AscR r') (hA : A.units < cLine) : EqAt A s (.ref l) (.ref b) (decide (r = r')) := by
  by_cases e : l = b
  · subst e
    have e2 := news_uniq N hl hb
    have e3 : us = vs := by
      have h3 := congrArg (fun o : Obj => match o.data with | .seq a _ => a.toList | _ => []) e2
      simpa using h3
    subst e3
    have := hu.fn hv h1 h2
    subst this
    rw [decide_eq_true rfl]
    exact EqAt.same _
  · refine EqAt.of_refs e ?_
    have il : s.heap.IsList l us.toArray := ⟨_, (N _ hl).1, rfl, n, rfl⟩
    have ib : s.heap.IsList b vs.toArray := ⟨_, (N _ hb).1, rfl, k, rfl⟩
    by_cases hs : us.toArray.size = vs.toArray.size
    · obtain ⟨q1, q2⟩ := row_eq (A := A.in1) (s := s) hu hv h1 h2 hs
      rw [← q2]
      exact RcAt.lists il ib hs hA q1
    · have : r ≠ r' := fun z => hs (by subst z; simp [hu.length, hv.length])
      rw [decide_eq_false this]
      exact RcAt.lists_lengths il ib (by simpa using hs) hA
end
section
variable {prog : Program} {w : World} {A : Around} {E : Value → Shared → Prop} {s : Shared} {κ : Bool} {h₀ : Heap} {L : Addr} {m : Str → Option Value} {led : Led} {l b : Addr} {vs us : List Value} {n k : Nat} {rs : List (List (List Nat))} {r : List (List Nat)}
open PySem.SeqAt
/-- which of these lists of texts are like this one -/
noncomputable def likeRow (κ : Bool) (led : Led) (r : List (List Nat)) (y : Value) : Bool := @decide (∃ a us n, y = .ref a ∧ (a, listOf us.toArray n) ∈ led ∧ TxtsAre κ us r) (Classical.propDecidable _)
theorem like_row (N : News h₀ L s.heap led) (hr : RowsIn κ led vs rs) (ha : ∀ r ∈ rs, AscR r) (h1 : AscR r) {i : Nat} {v : Value} (hv : vs[i]? = some v) : ∃ r', rs[i]? = some r' ∧ likeRow κ led r v = decide (r' = r) ∧ ∀ (b : Addr) (us : List Value) (k : Nat), (b, listOf us.toArray k) ∈ led → TxtsAre κ us r → A.units < cLine → EqAt A s v (.ref b) (likeRow κ led r v) := by
  obtain ⟨a, vs', n', r', rfl, m1, t1, g⟩ := hr.get hv
  have hr' := ha r' (List.mem_of_getElem? g)
  have e : likeRow κ led r (.ref a) = decide (r' = r) := by
    unfold likeRow
    rw [decide_eq_decide]
    constructor
    · rintro ⟨a', us', n2, e, m2, t2⟩
      injection e with e
      subst e
      have e2 := news_uniq N m1 m2
      have e3 : vs' = us' := by
        have h3 := congrArg (fun o : Obj => match o.data with | .seq a _ => a.toList | _ => []) e2
        simpa using h3
      subst e3
      exact t1.fn t2 hr' h1
    · rintro rfl
      exact ⟨a, vs', n', rfl, m1, t1⟩
  refine ⟨r', g, e, fun b us k m2 t2 hu => ?_⟩
  rw [e]
  exact eqAt_rows N m1 m2 t1 t2 hr' h1 hu
theorem any_like (N : News h₀ L s.heap led) (hr : RowsIn κ led vs rs) (ha : ∀ r ∈ rs, AscR r) (h1 : AscR r) : vs.toArray.any (likeRow κ led r) = decide (r ∈ rs) := by
  rw [Bool.eq_iff_iff, decide_eq_true_iff, Array.any_eq_true]
  constructor
  · rintro ⟨i, hi, h⟩
    have hv : vs[i]? = some vs.toArray[i] := by simp at hi ⊢
    obtain ⟨r', g, e, _⟩ := like_row (A := { handled := none, depth := 0, frames := none, guards := none, units := 0 }) N hr ha h1 hv
    rw [e] at h
    rw [← of_decide_eq_true h]; exact List.mem_of_getElem? g
  · intro h
    obtain ⟨i, hi, g⟩ := List.getElem_of_mem h
    have hl := hr.length
    have hi' : i < vs.toArray.size := by simp; omega
    have hv : vs[i]? = some vs.toArray[i] := by simp at hi' ⊢
    obtain ⟨r', g', e, _⟩ := like_row (A := { handled := none, depth := 0, frames := none, guards := none, units := 0 }) N hr ha h1 hv
    refine ⟨i, hi', ?_⟩
    rw [e]
    rw [List.getElem?_eq_getElem hi, g] at g'
    exact decide_eq_true (Option.some.inj g').symm
theorem notInRows {Q : Value → Shared → Prop} (N : News h₀ L s.heap led) (hl : (l, listOf vs.toArray n) ∈ led) (hr : RowsIn κ led vs rs) (ha : ∀ r ∈ rs, AscR r) (hb : (b, listOf us.toArray k) ∈ led) (hu : TxtsAre κ us r) (h1 : AscR r) (hA : A.units + 2 < cLine)
    (h : Q (.bool (!decide (r ∈ rs))) s) : wpAny (model prog w) A (compareOp .NotIn (.ref b) (.ref l)) Q E s := by
  refine notIn_listAt (items := vs.toArray) (likeRow κ led r) ⟨_, (N _ hl).1, rfl, n, rfl⟩ (fun y hy => ?_) ?_
  · obtain ⟨i, hi, rfl⟩ := Array.getElem_of_mem hy
    have hv : vs[i]? = some vs.toArray[i] := by simp at hi ⊢
    obtain ⟨r', g, e', q⟩ := like_row (A := A.in1) N hr ha h1 hv
    exact q b us k hb hu (by show A.units + 1 < cLine; omega)
  · rw [any_like N hr ha h1]; exact h
theorem inRows {Q : Value → Shared → Prop} (N : News h₀ L s.heap led) (hl : (l, listOf vs.toArray n) ∈ led) (hr : RowsIn κ led vs rs) (ha : ∀ r ∈ rs, AscR r) (hb : (b, listOf us.toArray k) ∈ led) (hu : TxtsAre κ us r) (h1 : AscR r) (hA : A.units + 2 < cLine)
    (h : Q (.bool (decide (r ∈ rs))) s) : wpAny (model prog w) A (compareOp .In (.ref b) (.ref l)) Q E s := by
  refine in_listAt (items := vs.toArray) (likeRow κ led r) ⟨_, (N _ hl).1, rfl, n, rfl⟩ (fun y hy => ?_) ?_
  · obtain ⟨i, hi, rfl⟩ := Array.getElem_of_mem hy
    have hv : vs[i]? = some vs.toArray[i] := by simp at hi ⊢
    obtain ⟨r', g, e', q⟩ := like_row (A := A.in1) N hr ha h1 hv
    exact q b us k hb hu (by show A.units + 1 < cLine; omega)
  · rw [any_like N hr ha h1]; exact h
theorem sliceL {value slice : Expr} {vl vu : Value} {lo hi : Option Int} {Q : Value → Shared → Prop} (F : Fr h₀ L s.heap m) (N : News h₀ L s.heap led) (hl : (l, listOf vs.toArray n) ∈ led) (pl : IsPart vl lo) (pu : IsPart vu hi) (hsz : vs.length ≤ 1000000)
    (h : ∀ D h', Fr h₀ L h' m → News h₀ L h' ((D, listOf (cutL vs lo hi).toArray 0) :: led) → (∀ p ∈ led, p.1 < D) → Q (.ref D) { s with heap := h' })
    (hs : ∀ v i, subscripted slice false v i = operate [i, v] (getItem v i)) (ht : ∀ v r, letTemporaryGo value v r = pure ()) :
    wpAny (model prog w) A (subscriptTail value slice (.ref l) (.ref s.heap.objs.size)) Q E { s with heap := s.heap.push { cls := .type "slice", data := .fields #[vl, vu, .none] } } := by
  refine slice_list F N ⟨_, (N _ hl).1, rfl, n, rfl⟩ pl pu (fun h' F' N' => h _ h' F' ?_ fun p hp => Nat.lt_succ_of_lt (Heap.lt_size (N p hp).1)) (hs _ _) (ht _) (by rw [List.size_toArray, sizeLine_eq]; omega)
  have e : slicePick vs.toArray lo hi none = (cutL vs lo hi).toArray := by
    rw [slicePick_plain]
    simp [cutL]
  rw [e] at N'
  exact N'
end

theorem fresh_P20_choices : True := by
  w_top off
  trivial
theorem lw16_all : True := by
  k_with "L exec For" => (k_here; k_dflt (refine' for_at ?_ ?k4; (case k4 => exact fun _ => rfl); k_whole))
  trivial
theorem lw17_all : True := by
  k_with "L binaryOp Add" => ((with_reducible show wpAny _ _ (binaryOp Operator.Add (Value.ref _) (Value.ref _)) _ _ _); refine' addL ?k1 ?k2 ?k3 ?k4 ?k5 ?_; (case k1 => k_asm); (case k2 => k_asm); (case k3 => k_mem); (case k4 => k_mem); (case k5 => first | omega | ((simp only [List.length_append, List.length_cons, List.length_nil]); omega)); intro _ _ _ _ _; (try k_sweep))
  trivial
theorem words_ob_all : True := by
  k_with "gg" => repeat' ((fail_if_success (with_reducible show wpAny _ _ (exec (Stmt.While _ _ _ _) _) _ _ _)); (fail_if_success (with_reducible show wpAny _ _ (exec (Stmt.For _ _ _ _ _) _) _ _ _)); (fail_if_success (with_reducible show wpAny _ _ (eval (Expr.ListComp _ _ _ _) _) _ _ _)); (fail_if_success (with_reducible show wpAny _ _ (pyIter _) _ _ _)); (fail_if_success (with_reducible show LCt.CompSrcT _ _ _ _ _ _ _ _ _ _ _ _ _ _ _)); (fail_if_success (with_reducible show LCg.CompSrc _ _ _ _ _ _ _ _ _ _ _ _ _ _)); first | (k_unfold; (try dsimp only)) | ((with_reducible show wpAny _ _ (call (Value.ref _) _ _) _ _ _); k_extra "callfn") | ((fail_if_success (with_reducible show wpAny _ _ (call (Value.ref _) _ _) _ _ _)); first | walk1 | (dsimp only; walk1)) | fail "no step")
  k_with "ob" => first | assumption | exact ⟨_, List.Mem.head _, by assumption⟩ | exact ⟨_, List.Mem.tail _ (List.Mem.head _), by assumption⟩ | exact ⟨_, List.Mem.tail _ (List.Mem.tail _ (List.Mem.head _)), by assumption⟩ | exact ⟨_, List.Mem.tail _ (List.Mem.tail _ (List.Mem.tail _ (List.Mem.head _))), by assumption⟩
  trivial
theorem lw18_all : True := by
  k_with "L storeName" => (k_here; k_dflt (refine' storeC ?k1 ?k2 ?k3 ?k4 ?_ ?k5 ?k6; (case k4 => exact rfl); (case k5 => exact rfl); (case k6 => exact rfl); (case k1 => k_asm); (case k2 => k_asm); (case k3 => k_extra "ob")); intro _ _ _ _ _ _; refine Box.out ?_)
  trivial
theorem lw19_all : True := by
  k_with "L eval Name" => (k_here; (with_reducible show wpAny _ _ (eval _ (envX _ _ _ _ _ _)) _ _ _); k_dflt (first | (name_kind "local"; refine' nameX_L ?k1 ?k2 ?_ ?k3 ?k4; (case k1 => k_asm); (case k3 => exact rfl); (case k4 => exact rfl); (case k2 => first | exact rfl | assumption); k_whole) | (name_kind "cell"; refine' nameC ?k1 ?k2 ?k3 ?_ ?k4 ?k5 ?k6; (case k3 => exact rfl); (case k4 => exact rfl); (case k5 => exact rfl); (case k6 => decide); (case k1 => k_asm); (case k2 => k_extra "ob"))))
  trivial
theorem lw20_all : True := by
  k_with "L subscriptTail" => ((with_reducible show wpAny _ _ (subscriptTail _ _ (Value.ref _) (Value.int _ _)) _ _ _); k_dflt (refine' itemL ?k1 ?k2 ?k3 ?k4 ?k5 ?_ ?k6; (case k1 => k_asm); (case k2 => k_mem); (case k3 => exact rfl); (case k5 => assumption); (case k4 => omega); (case k6 => with_unfolding_all rfl)))
  trivial
theorem lw21_all : True := by
  k_with "L subscriptTail" => ((with_reducible show wpAny _ _ (subscriptTail _ (Expr.Slice _ _ _ _) (Value.ref _) (Value.ref _)) _ _ _); k_dflt (refine' sliceL ?k1 ?k2 ?k3 ?k4 ?k5 ?k6 ?_ ?k7 ?k8; (case k1 => k_asm); (case k2 => k_asm); (case k3 => k_mem); (case k4 => first | exact IsPart.int _ _ | exact IsPart.none); (case k5 => first | exact IsPart.int _ _ | exact IsPart.none); (case k6 => omega); (case k7 => (intro v9 i9; with_unfolding_all rfl)); (case k8 => (intro v9 i9; with_unfolding_all rfl))); intro _ _ _ _ _; (try k_sweep))
  trivial
/-- all choices of a row, like ones as often as they come -/
noncomputable def pw (row : List (List Nat)) : List (List (List Nat)) := row.foldl (fun cs n => cs ++ cs.map (· ++ [n])) [[]]
theorem pw_snoc (r : List (List Nat)) (n : List Nat) : pw (r ++ [n]) = pw r ++ (pw r).map (· ++ [n]) := by simp [pw]
theorem pw_mem_aux : ∀ (row : List (List Nat)) (acc : List (List (List Nat))) (k : Nat) (S : List Nat → Prop), (∀ c ∈ acc, c.length ≤ k ∧ ∀ t ∈ c, S t) → (∀ t ∈ row, S t) → ∀ c ∈ row.foldl (fun cs n => cs ++ cs.map (· ++ [n])) acc, c.length ≤ k + row.length ∧ ∀ t ∈ c, S t
  | [], acc, k, S, h, _, c, hc => h c hc
  | n :: row, acc, k, S, h, hs, c, hc => by
    have := pw_mem_aux row (acc ++ acc.map (· ++ [n])) (k + 1) S ?_ (fun t ht => hs t (.tail _ ht)) c hc
    · exact ⟨by have := this.1; simp only [List.length_cons]; omega, this.2⟩
    · intro c' hc'
      rcases List.mem_append.mp hc' with q | q
      · exact ⟨Nat.le_succ_of_le (h c' q).1, (h c' q).2⟩
      ·
        refine hideG fun G9 hG9 => ?_
        obtain ⟨c0, q0, rfl⟩ := List.mem_map.mp q
        refine hG9.out ?_
        clear hG9 G9
        refine ⟨by have := (h c0 q0).1; simp; omega, fun t ht => ?_⟩
        rcases List.mem_append.mp ht with q1 | q1
        · exact (h c0 q0).2 t q1
        · rw [List.mem_singleton.mp q1]; exact hs n (.head _)
theorem pw_mem {row : List (List Nat)} {c : List (List Nat)} (h : c ∈ pw row) : c.length ≤ row.length ∧ ∀ t ∈ c, t ∈ row := by
  have := pw_mem_aux row [[]] 0 (· ∈ row) (by intro c hc; rw [List.mem_singleton.mp hc]; exact ⟨Nat.le_refl _, fun t ht => nomatch ht⟩) (fun t ht => ht) c h
  exact ⟨by omega, this.2⟩
theorem pw_len_aux : ∀ (row : List (List Nat)) (acc : List (List (List Nat))), (row.foldl (fun cs n => cs ++ cs.map (· ++ [n])) acc).length = acc.length * 2 ^ row.length
  | [], acc => by simp
  | n :: row, acc => by
    rw [List.foldl_cons, pw_len_aux row, List.length_append, List.length_map, List.length_cons, Nat.pow_succ]
    rw [← Nat.mul_two, Nat.mul_assoc, Nat.mul_comm 2]
theorem pw_len {row : List (List Nat)} (h : row.length ≤ 4) : (pw row).length ≤ 16 := by
  have e : (pw row).length = 1 * 2 ^ row.length := pw_len_aux row [[]]
  rw [e, Nat.one_mul]
  exact Nat.pow_le_pow_right (by omega) h
/-- the first k of them, like ones once -/
noncomputable def dis (cs : List (List (List Nat))) : Nat → List (List (List Nat))
  | 0 => []
  | k + 1 => match cs[k]? with
    | some c => if c ∈ cs.take k then dis cs k else dis cs k ++ [c]
    | none => dis cs k
noncomputable def choices (row : List (List Nat)) : List (List (List Nat)) := dis (pw row) (pw row).length
theorem dis_sub (cs : List (List (List Nat))) : ∀ k, ∀ c ∈ dis cs k, c ∈ cs
  | 0, c, h => nomatch h
  | k + 1, c, h => by
    unfold dis at h
    split at h
    · rename_i c' hc'
      split at h
      · exact dis_sub cs k c h
      · rcases List.mem_append.mp h with q | q
        · exact dis_sub cs k c q
        · rw [List.mem_singleton.mp q]; exact List.mem_of_getElem? hc'
    · exact dis_sub cs k c h
inductive ChoI (κ : Bool) (row : List (List Nat)) (us : List Value) (l : Addr) (IT : Addr) (news : Led) (g : Heap) (L : Addr) (s : Shared) (n : Nat) (s' : Shared) : Prop
  | mk (i : Nat) (h' : Heap) (tk' : Nat) (led : Led) (D : Addr) (vs : List Value) (e : Nat) (v2 : Option Value)
      (e1 : n = us.length - i) (e2 : i ≤ us.length) (e3 : s' = { s with heap := h', toks := tk' }) (e4 : Fr g L h' (fun y => if y = Str.ofString "row" then some (.ref l) else none)) (e5 : News g L h' led) (e6 : Ob led IT (IsLIt l i)) (e7 : (∀ p ∈ news, p ∈ led)) (e8 : Ob led (L + 1) (IsCell (some (.ref D)))) (e9 : Ob led (L + 1 + 1) (IsCell v2)) (e10 : (D, listOf vs.toArray e) ∈ led) (e11 : RowsIn κ led vs (pw (row.take i)))
theorem choices_fn (w : World) (κ : Bool) (row : List (List Nat)) (l : Addr) (us : List Value) (n : Nat) (news : Led) (hl : (l, listOf us.toArray n) ∈ news) (hv : TxtsAre κ us row) (hlen : row.length ≤ 4) (ha : ∀ t ∈ row, Asc t ∧ t.length ≤ 100) :
    Fn w 560 3600 201 ⟨[.ref l], []⟩ news (fun r led => ∃ D vs e, r = .ref D ∧ (D, listOf vs.toArray e) ∈ led ∧ RowsIn κ led vs (choices row) ∧ ∀ p ∈ news, p ∈ led) := by
  unfold Fn; k_fill; show Fn _ _ _ _ _ _ _
  refine Fn.introC (binds := [(Str.ofString "row", .ref l)]) (fun L => [(Str.ofString "name", L + 1 + 1), (Str.ofString "choices", L + 1)]) (fun y => if y = Str.ofString "row" then some (.ref l) else none) (fun _ => none) (by k_is) (by k_is) rfl (fun s _ => BindsTo.of_eq rfl) (by intro n x hx; rcases List.mem_singleton.mp hx with rfl; exact .inl rfl) (fun _ => rfl) (fun _ => rfl) (fun _ => rfl) (by decide) rfl rfl rfl ?_
  intro loose mean mg mb gd env₀ outer base g L h₁ s tk cells B F X N Y T hlt
  refine wp_hide fun Qf hQf => ?_
  refine hideG fun G9 hG9 => ?_
  obtain ⟨oc2, oc1, rfl, hc2, hc1⟩ := CellsAre.two Y
  refine hG9.out ?_
  clear hG9 G9
  clear Y
  k_extra "gg"
  rename_i D0 _ lt0 D1 _ _ _ lt1 h3 led3 F3 N3 cc3 k3
  have l1 : L + 1 < D0 := lt0 (L + 1, oc1) (by simp)
  have l2 : L + 1 + 1 < D0 := lt0 (L + 1 + 1, oc2) (by simp)
  have l3 : D0 < D1 := lt1.1
  have hn3 : ∀ p ∈ news, p ∈ led3 := fun p hp => k3 p (by simp [hp]) (Nat.ne_of_lt (Nat.lt_succ_of_lt (hlt p hp)))
  have hD1 : (D1, listOf [Value.ref D0].toArray 0) ∈ led3 := k3 _ (by simp) (Nat.ne_of_gt (Nat.lt_trans l1 l3))
  have hD0 : (D0, listOf ([] : List Value).toArray 0) ∈ led3 := k3 _ (by simp) (Nat.ne_of_gt l1)
  have hc23 : Ob led3 (L + 1 + 1) (IsCell none) := ⟨oc2, k3 _ (by simp) (Nat.succ_ne_self _), hc2⟩
  clear lt0 lt1 k3 hc1 hc2
  refine ⟨?_⟩
  k_extra "gg"
  refine for_at ?_ (fun _ => rfl)
  k_extra "gg"
  refine iter_L F3 N3 (hn3 _ hl) ?_
  intro IT h4 oI F4 N4 hIT ltI
  have ltn : ∀ p ∈ news, p.1 < IT := fun p hp => ltI p (hn3 p hp)
  refine ForAt.introH (ChoI κ row us l IT news g L s) ?_ us.length
    ⟨0, _, _, _, D1, _, _, _, by omega, Nat.zero_le _, rfl, F4, N4, ⟨oI, List.mem_cons_self .., hIT⟩, fun p hp => List.mem_cons_of_mem _ (hn3 p hp), cc3.more, hc23.more, List.mem_cons_of_mem _ hD1, .cons (List.mem_cons_of_mem _ hD0) .nil .nil⟩
  intro n' s' Qb hQb hp9z
  refine hideG fun G9 hG9 => ?_
  obtain ⟨i, h', tk', led, D, vs, e, v2, rfl, hi, rfl, F5, N5, hit, hsub, hcD, hc2, hD, hrows⟩ := hp9z
  refine hG9.out ?_
  clear hG9 G9
  refine next_L rfl F5 N5 hit (hsub _ hl) ?_ ?_
  · intro v h6 led6 hv6 F6 N6 hit6 k6
    refine hideG fun G9 hG9 => ?_
    obtain ⟨nm, kt, hgt, rfl⟩ := hv.get hv6
    refine hG9.out ?_
    clear hG9 G9
    have hn6 : ∀ p ∈ news, p ∈ led6 := fun p hp => k6 p (hsub p hp) (Nat.ne_of_lt (ltn p hp))
    have hcD6 := ob_keep N5 hit k6 hcD (fun _ => cell_lit)
    have hc26 := ob_keep N5 hit k6 hc2 (fun _ => cell_lit)
    have hD6 := mem_keep N5 hit k6 hD list_lit
    have hrows6 := hrows.kept N5 hit k6 (fun _ _ => list_lit)
    clear hcD hc2 hD hrows F5 N5 F4 N4 k6 hit
    k_extra "gg"
    rename_i h7 led7 F7 N7 cn7 k7
    have hn7 : ∀ p ∈ news, p ∈ led7 := fun p hp => k7 p (hn6 p hp) (Nat.ne_of_lt (Nat.lt_succ_of_lt (Nat.lt_succ_of_lt (hlt p hp))))
    have hcD7 : Ob led7 (L + 1) (IsCell (some (.ref D))) := let ⟨o, m, p⟩ := hcD6; ⟨o, k7 _ m (Nat.ne_of_lt (Nat.lt_succ_self _)), p⟩
    have hD7 := mem_keep N6 hc26 k7 hD6 list_cell
    have hrows7 := hrows6.kept N6 hc26 k7 (fun _ _ => list_cell)
    have hit7 := ob_keep N6 hc26 k7 hit6 (fun o h1 h2 => cell_lit h2 h1)
    clear hcD6 hc26 hD6 hrows6 F6 N6 k7 hit6
    refine ⟨?_⟩
    k_extra "gg"
    refine LCg.ListComp_U (F₀ := F7) (by with_unfolding_all rfl) (by decide) (by rfl) (by decide) (by rfl) ?_
    k_extra "gg"
    refine LCg.CompSrc.ledger rfl F7 N7 hD7 ?_ fun g' => compRest_of (fun j ys led' => (∀ p ∈ led7, p ∈ led') ∧ RowsIn κ led' ys (((pw (row.take i)).take j).map (· ++ [nm]))) (n := vs.length) ?_ ?_ _ 0 [] led7 ?_ ⟨fun p hp => hp, .nil⟩
    · rw [List.size_toArray, hrows7.length, sizeLine_eq]
      have := pw_len (row := row.take i) (by rw [List.length_take]; omega)
      omega
    · rintro j ys news9 v I oI C oC Dc m₂ h8 tk8 E' hj ⟨hs9, hr9⟩ hP hC hx F8 N8 off ne
      refine wp_hide fun Qe hQe => ?_
      refine hideG fun G9 hG9 => ?_
      obtain ⟨ac, uc, nc, rc, rfl, hac, huc, hrc⟩ := hrows7.get (by simpa using hP)
      obtain ⟨ocn, mcn, dcn⟩ := cn7
      refine hG9.out ?_
      clear hG9 G9
      have mcn' := hs9 _ mcn
      have hac' := hs9 _ hac
      have hul : uc.length ≤ 4 := by
        have h1 := (pw_mem (List.mem_of_getElem? hrc)).1
        rw [List.length_take] at h1
        rw [huc.length]; omega
      k_extra "gg"
      rename_i D8 _ lt8 d9 h9 F9 N9 lt9
      have hI9 : I < d9 := lt9 (I, oI) (.tail _ (.head _))
      have hC9 : C < d9 := lt9 (C, oC) (.tail _ (.tail _ (.head _)))
      have hDc9 : Dc < d9 := lt9 (Dc, LCg.lst ys) (.tail _ (.tail _ (.tail _ (.head _))))
      refine hQe.out _ _ ?_
      refine LCg.CompEnd.intro F9 N9 ((d9, listOf (uc ++ [txt κ nm kt]).toArray 0) :: (D8, listOf [txt κ nm kt].toArray 0) :: news9) comp_sub2 ⟨⟨Nat.ne_of_gt hI9, Nat.ne_of_gt hC9, Nat.ne_of_gt hDc9⟩, ⟨Nat.ne_of_gt lt8.1, Nat.ne_of_gt lt8.2.1, Nat.ne_of_gt lt8.2.2.1⟩, off⟩
        (.inr ⟨_, .tail _ (.tail _ (hs9 _ hD7)), rfl, _, rfl⟩) ⟨fun p hp => .tail _ (.tail _ (hs9 p hp)), ?_⟩
      rw [take_snoc hrc, List.map_append]
      exact (hr9.sub fun p hp => .tail _ (.tail _ hp)).app (.cons (.head _) (huc.app (.cons .nil)) .nil)
    · rintro ys news9 ⟨hs9, hr9⟩ D9 h9 tk9 F9 N9 o9
      rw [hrows7.length, List.take_length] at hr9
      have hD9 := hs9 _ hD7
      have hvl : vs.length + ys.length ≤ 1000000 := by
        have := pw_len (row := row.take i) (by rw [List.length_take]; omega)
        rw [hrows7.length, hr9.length, List.length_map]; omega
      k_extra "gg"
      rename_i d9 h10 F10 N10 lt10
      have hc10 := (hcD7.sub hs9).more.more (p := (d9, listOf (vs ++ ys).toArray 0)) (a := (D9, LCg.lst ys) :: news9)
      have hr10 : RowsIn κ ((d9, listOf (vs ++ ys).toArray 0) :: (D9, LCg.lst ys) :: news9) (vs ++ ys) (pw (row.take (i + 1))) := by
        rw [take_snoc hgt, pw_snoc]
        exact ((hrows7.sub hs9).app hr9).sub fun p hp => .tail _ (.tail _ hp)
      k_extra "gg"
      rename_i h11 led11 F11 N11 c11 k11
      have hn11 : ∀ p ∈ news, p ∈ led11 := fun p hp => k11 p (.tail _ (.tail _ (hs9 p (hn7 p hp)))) (Nat.ne_of_lt (Nat.lt_succ_of_lt (hlt p hp)))
      have hit11 := ob_keep N10 hc10 k11 ((hit7.sub hs9).more.more) (fun o h1 h2 => cell_lit h2 h1)
      have hnm11 : Ob led11 (L + 1 + 1) (IsCell (some (txt κ nm kt))) := let ⟨o, m, p⟩ := cn7; ⟨o, k11 _ (.tail _ (.tail _ (hs9 _ m))) (Nat.succ_ne_self _), p⟩
      have hd11 := mem_keep N10 hc10 k11 (.head _) list_cell
      have hr11 := hr10.kept N10 hc10 k11 (fun _ _ => list_cell)
      clear F10 N10 k11 hc10 hr10
      refine ⟨?_⟩
      k_extra "gg"
      obtain ⟨hii, _⟩ := List.getElem?_eq_some_iff.mp hv6
      exact hQb.next _ ⟨us.length - (i + 1), by omega, i + 1, _, _, led11, d9, _, _, _, rfl, hii, rfl, F11, N11, hit11, hn11, c11, hnm11, hd11, hr11⟩
    · simp
  · intro h6 led6 hv6 F6 N6 k6
    have hei : i = us.length := by omega
    subst hei
    have hn6 : ∀ p ∈ news, p ∈ led6 := fun p hp => k6 p (hsub p hp) (Nat.ne_of_lt (ltn p hp))
    have hcD6 := ob_keep N5 hit k6 hcD (fun _ => cell_lit)
    have hD6 := mem_keep N5 hit k6 hD list_lit
    have hrows6 := hrows.kept N5 hit k6 (fun _ _ => list_lit)
    clear hcD hc2 hD hrows F5 N5 F4 N4 k6 hit
    have hcl := hrows6.length
    rw [hv.length, List.take_length] at hrows6
    have hvl : vs.length ≤ 16 := by rw [hrows6.length]; exact pw_len hlen
    k_extra "gg"
    refine LCt.ListComp_T (F₀ := F6) (by with_unfolding_all rfl) (by decide) (by rfl) (by decide) (by rfl) ?_
    k_extra "gg"
    rename_i hr6 F9 N9 _
    refine LCt.CompSrcT.range (n := vs.length) rfl F9 N9 hr6 (range_small (by omega)) (range_size _) (by rw [sizeLine_eq]; omega) fun g' => compRestT_of (fun j ys led' => (∀ p ∈ led6, p ∈ led') ∧ RowsIn κ led' ys (dis (pw row) j)) (n := vs.length) ?_ ?_ _ 0 [] led6 ?_ ⟨fun p hp => hp, .nil⟩
    · rintro j ys news9 v I oI C oC Dc m₂ h8 tk8 E' hj ⟨hs9, hr9⟩ ⟨t9, rfl⟩ hC hx F8 N8 off ne
      refine wp_hide fun Qe hQe => ?_
      rw [Int.zero_add] at hx
      refine hideG fun G9 hG9 => ?_
      obtain ⟨v, hv⟩ : ∃ v, vs[j]? = some v := ⟨vs[j], by simp [hj]⟩
      obtain ⟨ac, uc, nc, rc, rfl, hac, huc, hrc⟩ := hrows6.get hv
      obtain ⟨ocn, mcn, dcn⟩ := hcD6
      refine hG9.out ?_
      clear hG9 G9
      have mcn' := hs9 _ mcn
      have hD9 := hs9 _ hD6
      have hac' := hs9 _ hac
      k_extra "gg"
      rename_i d9 h9 F9 N9 lt9
      have hra : ∀ r ∈ pw row, AscR r := fun r hr t ht => (ha t ((pw_mem hr).2 t ht)).1
      refine notInRows N9 (.head _) (rs := (pw row).take j) (r := rc) ?_ (fun r hr => hra r (List.mem_of_mem_take hr)) (.tail _ (.tail _ (.tail _ (.tail _ hac')))) huc (hra rc (List.mem_of_getElem? hrc)) (by show 3600 + 3 + 2 < cLine; decide) ?_
      · rw [cutL_to]; exact (hrows6.take j).sub fun p hp => .tail _ (.tail _ (.tail _ (.tail _ (hs9 p hp))))
      have hI9 : I < d9 := lt9 (I, oI) (.head _)
      have hC9 : C < d9 := lt9 (C, oC) (.tail _ (.head _))
      have hDc9 : Dc < d9 := lt9 (Dc, LCg.lst ys) (.tail _ (.tail _ (.head _)))
      have hdis : dis (pw row) (j + 1) = if rc ∈ (pw row).take j then dis (pw row) j else dis (pw row) j ++ [rc] := by
        conv => lhs; unfold dis
        rw [hrc]
      by_cases hin : rc ∈ (pw row).take j
      · rw [if_pos hin] at hdis
        rw [decide_eq_true hin]
        k_extra "gg"
        refine hQe.out _ _ ?_
        k_extra "gg"
        refine LCg.CompEnd.intro F9 N9 ((d9, _) :: news9) comp_sub1 ⟨⟨Nat.ne_of_gt hI9, Nat.ne_of_gt hC9, Nat.ne_of_gt hDc9⟩, off⟩ trivial ⟨fun p hp => .tail _ (hs9 p hp), ?_⟩
        rw [hdis]; exact hr9.sub fun p hp => .tail _ hp
      · rw [if_neg hin] at hdis
        rw [decide_eq_false hin]
        k_extra "gg"
        refine hQe.out _ _ ?_
        k_extra "gg"
        refine LCg.CompEnd.intro F9 N9 ((d9, _) :: news9) comp_sub1 ⟨⟨Nat.ne_of_gt hI9, Nat.ne_of_gt hC9, Nat.ne_of_gt hDc9⟩, off⟩ trivial ⟨fun p hp => .tail _ (hs9 p hp), ?_⟩
        rw [hdis]; exact (hr9.sub fun p hp => .tail _ hp).app (.cons (.tail _ hac') huc .nil)
    · rintro ys news9 ⟨hs9, hr9⟩ D9 h9 tk9 F9 N9 o9
      rw [hrows6.length] at hr9
      refine hQf.out _ _ ?_
      exact ⟨_, _, _, _, rfl, F9, N9, D9, ys, _, rfl, .head _, hr9.sub fun p hp => .tail _ hp, fun p hp => .tail _ (hs9 p (hn6 p hp))⟩
    · simp

theorem fresh_P21_refusal : True := by
  w_top off
  trivial
noncomputable abbrev riO (x left step : Int) : Obj := { cls := .type "range_iterator", dict := none, data := .fields #[rawInt x, rawInt left, rawInt step], slots := #[] }
noncomputable abbrev IsRIt (x left step : Int) (o : Obj) : Prop := o = riO x left step
theorem list_rit {its : Array Value} {n : Nat} {x l s : Int} (h2 : IsRIt x l s (listOf its n)) : False := by
  have := congrArg Obj.cls h2
  exact absurd this (by show Value.type "list" ≠ Value.type "range_iterator"; decide)
theorem cell_rit {o : Obj} {v : Option Value} {x l s : Int} (h : IsCell v o) (h2 : IsRIt x l s o) : False := by subst h2; cases h
section
variable {prog : Program} {w : World} {A : Around} {E : Value → Shared → Prop} {s : Shared} {h₀ : Heap} {L I : Addr} {m : Str → Option Value} {led : Led}
theorem iter_R {r : Addr} {a b c : Int} {t u v : Tok} {Q : Value → Shared → Prop} (F : Fr h₀ L s.heap m) (N : News h₀ L s.heap led) (hr : IsRange s.heap r a b c t u v) (hsmall : Builtin.Range.small a b c = true)
    (h : ∀ I h', Fr h₀ L h' m → News h₀ L h' ((I, riO a (Builtin.Range.rangeSize a b c) c) :: led) → (∀ p ∈ led, p.1 < I) → Q (.ref I) { s with heap := h' }) : wpAny (model prog w) A (pyIter (.ref r)) Q E s := by
  refine wpAny_pyIter_range hr hsmall ?_
  refine h s.heap.objs.size _ (F.push _) (fun p hp => ?_) (fun p hp => Heap.lt_size (N p hp).1)
  rcases List.mem_cons.mp hp with rfl | hp
  · exact ⟨Heap.get?_push_size _ rfl, Nat.ne_of_gt F.ns.lt, next_is_new F⟩
  · exact ⟨Heap.get?_push_of_some _ (N p hp).1, (N p hp).2⟩
theorem next_R {x left step : Int} {Q : Option Value → Shared → Prop} (hh : A.handled = none) (F : Fr h₀ L s.heap m) (N : News h₀ L s.heap led) (hI : Ob led I (IsRIt x left step))
    (hs : ∀ h' led' tk t, 0 < left → Fr h₀ L h' m → News h₀ L h' led' → Ob led' I (IsRIt (x + step) (left - 1) step) → (∀ p ∈ led, p.1 ≠ I → p ∈ led') → Q (some (.int x t)) { s with heap := h', toks := tk })
    (he : ∀ h' led', left ≤ 0 → Fr h₀ L h' m → News h₀ L h' led' → (∀ p ∈ led, p.1 ≠ I → p ∈ led') → Q none { s with heap := h' }) : wpAny (model prog w) A (pyNext (.ref I)) Q E s := by
  refine hideG fun G9 hG9 => ?_
  obtain ⟨oI, hI, rfl⟩ := hI
  refine hG9.out ?_
  clear hG9 G9
  have hit : IsRangeIter s.heap I x left step := (N _ hI).1
  by_cases hl : 0 < left
  · refine wpAny_pyNext_range_item hit hl fun h' hit' hb => ?_
    exact hs h' _ _ _ hl (fr_same F N hI hb) (news_same N hI hb hit') ⟨_, mem_setL_self hI, rfl⟩ fun p hp hne => mem_setL_ne hne hp
  · refine wpAny_pyNext_range_end hh hit (by omega) fun h' hb => ?_
    exact he h' _ (by omega) (fr_less F N hI fun b o hne e => hb b o hne e) (news_less N fun b o hne e => hb b o hne e) fun p hp hne => mem_less hp hne
end
/-- the words of refusal, if any -/
noncomputable def refu (κ : Bool) (root : List Nat) (row : List (List Nat)) (cs : List (List (List Nat))) : List Nat :=
  match (List.range row.length).find? (fun k => decide (row.take (k + 1) ∉ cs)) with
  | some k => expd ++ reprT κ (root ++ row.getD k [] ++ root) ++ sfx
  | none => []
theorem msg_app (u : List Nat) : (Str.empty ++ Str.ofString "Expected " ++ ⟨u.toArray⟩ ++ Str.ofString " (at end of document)" : Str) = ⟨(expd ++ u ++ sfx).toArray⟩ := by
  have e1 : Str.ofString " (at end of document)" = ⟨sfx.toArray⟩ := by decide +kernel
  rw [expd_app, e1, str_app]
inductive RefI (κ : Bool) (root : List Nat) (kr : Tok) (row : List (List Nat)) (cs : List (List (List Nat))) (us : List Value) (l : Addr) (c : Addr) (IT : Addr) (news : Led) (g : Heap) (L : Addr) (s : Shared) (n' : Nat) (s' : Shared) : Prop
  | mk (i : Nat) (h' : Heap) (tk' : Nat) (m' : Str → Option Value) (led : Led)
      (e1 : n' = us.length - i) (e2 : i ≤ us.length) (e3 : s' = { s with heap := h', toks := tk' }) (e4 : Fr g L h' m') (e5 : News g L h' led) (e6 : Ob led IT (IsRIt (i : Int) ((us.length : Int) - (i : Int)) 1)) (e7 : (∀ p ∈ news, p ∈ led)) (e8 : m' (Str.ofString "root") = some (txt κ root kr)) (e9 : m' (Str.ofString "row") = some (.ref l)) (e10 : m' (Str.ofString "choices") = some (.ref c)) (e11 : ∀ j : Nat, j < i → row.take (j + 1) ∈ cs)
theorem refusal_fn (w : World) (κ : Bool) (root : List Nat) (kr : Tok) (row : List (List Nat)) (cs : List (List (List Nat))) (l c : Addr) (us vs : List Value) (n k : Nat) (news : Led) (hl : (l, listOf us.toArray n) ∈ news) (hv : TxtsAre κ us row) (hlen : row.length ≤ 4) (ha : ∀ t ∈ row, Plain t ∧ t.length ≤ 100)
    (hc : (c, listOf vs.toArray k) ∈ news) (hr : RowsIn κ news vs cs) (hca : ∀ r ∈ cs, AscR r) (hcl : cs.length ≤ 100) (hroot : Plain root ∧ root.length ≤ 100) :
    Fn w 560 3600 208 ⟨[txt κ root kr, .ref l, .ref c], []⟩ news (fun r led => (∀ p ∈ news, p ∈ led) ∧ ∃ k', r = txt false (refu κ root row cs) k') := by
  unfold Fn; k_fill; show Fn _ _ _ _ _ _ _
  refine Fn.intro (binds := [(Str.ofString "root", txt κ root kr), (Str.ofString "row", .ref l), (Str.ofString "choices", .ref c)]) (by k_is) (by k_is) rfl (fun s _ => BindsTo.of_eq rfl) (locs rfl) (by decide) rfl rfl rfl ?_
  intro loose mean mg mb gd env₀ outer base g L h₁ s tk B F X N T hlt
  refine wp_hide fun Qf hQf => ?_
  have hul := hv.length
  k_extra "gg"
  refine for_at ?_ (fun _ => rfl)
  k_extra "gg"
  rename_i hR F2 N2 _
  refine iter_R F2 N2 hR (range_small (by omega)) ?_
  rw [range_size]
  intro IT h3 F3 N3 ltI
  refine ForAt.introH (RefI κ root kr row cs us l c IT news g L s) ?_ us.length
    ⟨0, _, _, _, _, by omega, Nat.zero_le _, rfl, F3, N3, ⟨_, .head _, by simp⟩, fun p hp => .tail _ hp, rfl, rfl, rfl, fun j hj => absurd hj (Nat.not_lt_zero _)⟩
  intro n' s' Qb hQb hp9z
  refine hideG fun G9 hG9 => ?_
  obtain ⟨i, h', tk', m', led, rfl, hi, rfl, F5, N5, hit, hsub, v1, v2, v3, hall⟩ := hp9z
  refine hG9.out ?_
  clear hG9 G9
  refine next_R rfl F5 N5 hit ?_ ?_
  · intro h6 led6 tk6 t6 hlt6 F6 N6 hit6 k6
    have hn6 : ∀ p ∈ news, p ∈ led6 := fun p hp => k6 p (hsub p hp) (Nat.ne_of_lt (ltI p hp))
    refine hideG fun G9 hG9 => ?_
    obtain ⟨nm, hnm⟩ : ∃ nm, row[i]? = some nm := ⟨row[i]'(by omega), by simp⟩
    obtain ⟨kt, hvi⟩ := hv.at hnm
    refine hG9.out ?_
    clear hG9 G9
    have hl6 := hn6 _ hl
    have hc6 := hn6 _ hc
    clear F5 N5 hit k6 F3 N3 F2 N2
    k_extra "gg"
    rename_i d9 h9 F9 N9 lt9
    rw [show ((i : Int) + 1) = ((i + 1 : Nat) : Int) by omega, cutL_to] at N9
    have harow : AscR row := fun t ht => (ha t ht).1.asc
    refine notInRows N9 (.tail _ hc6) (hr.sub fun p hp => .tail _ (hn6 p hp)) hca (.head _) (hv.take (i + 1)) (fun t ht => harow t (List.mem_of_mem_take ht)) (by show 3600 + 3 + 2 < cLine; decide) ?_
    have hii : i < row.length := by omega
    by_cases hin : row.take (i + 1) ∈ cs
    · rw [decide_eq_true hin]
      k_extra "gg"
      refine hQb.next _ ⟨us.length - (i + 1), by omega, i + 1, _, _, _, _, rfl, by omega, rfl, F9, N9, ?_, fun p hp => .tail _ (hn6 p hp), v1, v2, v3, fun j hj => ?_⟩
      ·
        have e1 : (((i + 1 : Nat)) : Int) = (i : Int) + 1 := by omega
        have e2 : (us.length : Int) - ((i : Int) + 1) = (us.length : Int) - (i : Int) - 1 := by omega
        rw [e1, e2]; exact hit6.more
      · rcases Nat.lt_succ_iff_lt_or_eq.mp hj with q | q
        · exact hall j q
        · rw [q]; exact hin
    · rw [decide_eq_false hin]
      have hpl : Plain (root ++ nm ++ root) := (hroot.1.app (ha nm (List.mem_of_getElem? hnm)).1).app hroot.1
      have hrl := reprT_len κ (root ++ nm ++ root)
      have hnl := (ha nm (List.mem_of_getElem? hnm)).2
      have hrr := hroot.2
      simp only [List.length_append] at hrl
      k_extra "gg"
      have hrefu : refu κ root row cs = expd ++ reprT κ (root ++ nm ++ root) ++ sfx := by
        unfold refu
        have hf : (List.range row.length).find? (fun k => decide (row.take (k + 1) ∉ cs)) = some i := by
          rw [List.range_eq_range']
          exact find_range'_some.mpr ⟨Nat.zero_le i, by omega, decide_eq_true hin, fun j _ hj => decide_eq_false fun q => q (hall j hj)⟩
        rw [hf]
        show expd ++ reprT κ (root ++ row.getD i [] ++ root) ++ sfx = _
        rw [List.getD_eq_getElem?_getD, hnm]; rfl
      refine hQb.ret _ _ (hQf.out _ _ ?_)
      exact ⟨_, _, _, _, rfl, F9, N9, fun p hp => .tail _ (hn6 p hp), _, by
        rw [hrefu]
        show Value.str _ _ = Value.str _ _
        rw [← msg_app]⟩
  · intro h6 led6 hlt6 F6 N6 k6
    have hei : i = us.length := by omega
    have hn6 : ∀ p ∈ news, p ∈ led6 := fun p hp => k6 p (hsub p hp) (Nat.ne_of_lt (ltI p hp))
    k_extra "gg"
    refine hQf.out _ _ ?_
    refine ⟨_, _, _, _, rfl, F6, N6, hn6, tk', ?_⟩
    unfold refu
    rw [List.find?_eq_none.mpr]
    · rfl
    · intro j hj
      have := hall j (by have := List.mem_range.mp hj; omega)
      simpa using this

theorem fresh_P30_node : True := by
  w_top off
  trivial
/-- the nodes: a text for each number -/
structure NodeFn where
  f : Nat → List Nat
  inj : ∀ a b, f a = f b → a = b
  asc : ∀ a, Asc (f a)
theorem NodeFn.eq_iff (Φ : NodeFn) (a b : Nat) : Φ.f a = Φ.f b ↔ a = b := ⟨Φ.inj a b, fun e => by rw [e]⟩
theorem NodeFn.map_iff (Φ : NodeFn) (a b : Nat) : (Φ.f a).map UInt8.ofNat = (Φ.f b).map UInt8.ofNat ↔ a = b := (u8_inj (Φ.asc a) (Φ.asc b)).trans (Φ.eq_iff a b)
noncomputable def isNode (κ : Bool) (Φ : NodeFn) (a : Nat) (v : Value) : Bool := match κ, v with
  | false, .str x _ => x == ⟨(Φ.f a).toArray⟩
  | true, .bytes b _ => b.toList == (Φ.f a).map UInt8.ofNat
  | _, _ => false
theorem isNode_txt (κ : Bool) (Φ : NodeFn) (a : Nat) (k : Tok) : isNode κ Φ a (txt κ (Φ.f a) k) = true := by
  cases κ <;> simp [isNode, txt]
theorem isNode_shape {κ : Bool} {Φ : NodeFn} {a : Nat} {v : Value} (h : isNode κ Φ a v = true) : ∃ k, v = txt κ (Φ.f a) k := by
  cases κ <;> cases v <;> simp [isNode] at h
  · rename_i x k; exact ⟨k, by rw [h]; rfl⟩
  · rename_i b k; obtain ⟨l⟩ := b; have h : l = (Φ.f a).map UInt8.ofNat := h; subst h; exact ⟨k, rfl⟩
noncomputable def nodeKind (prog : Program) (w : World) (κ : Bool) (Φ : NodeFn) : KeyKind prog w Nat where
  is := isNode κ Φ
  hash a := if κ then (bytesKind prog w).hash ((Φ.f a).map UInt8.ofNat) else (PySem.strKind prog w).hash ⟨(Φ.f a).toArray⟩
  inj v a b h1 h2 := by
    obtain ⟨k, rfl⟩ := isNode_shape h1
    obtain ⟨k', e⟩ := isNode_shape h2
    exact Φ.inj a b (txt_inj (Φ.asc a) (Φ.asc b) e)
  byValue k v h := by obtain ⟨t, rfl⟩ := isNode_shape h; cases κ <;> rfl
  pyHash := fun {A E s k v Q} h hq => by
    obtain ⟨t, rfl⟩ := isNode_shape h
    cases κ
    · exact (PySem.strKind prog w).pyHash (k := ⟨(Φ.f k).toArray⟩) (strKind_is _ _ _ _) hq
    · exact (bytesKind prog w).pyHash (k := (Φ.f k).map UInt8.ofNat) (bytesKind_is _ _ _ _) hq
  eqBool := fun {A E s a b u v Q} h1 h2 hq => by
    obtain ⟨t, rfl⟩ := isNode_shape h1
    obtain ⟨t', rfl⟩ := isNode_shape h2
    refine eqAt_txt (A := A) (s := s) (Φ.asc a) (Φ.asc b) prog w E Q ?_
    rw [decide_eq_decide.mpr (Φ.eq_iff a b)]; exact hq
  «strs» k x t v h := by
    cases κ
    · simp only [isNode, beq_iff_eq] at h
      subst h
      cases v <;> rfl
    · simp [isNode] at h
theorem node_is (prog : Program) (w : World) (κ : Bool) (Φ : NodeFn) (a : Nat) (k : Tok) : (nodeKind prog w κ Φ).is a (txt κ (Φ.f a) k) = true := isNode_txt κ Φ a k
theorem txt_scan (κ : Bool) (t : List Nat) (k : Tok) : (txt κ t k).scannable = true := by cases κ <;> rfl
/-- the values are these nodes -/
inductive NodesAre (κ : Bool) (Φ : NodeFn) : List Value → List Nat → Prop
  | nil : NodesAre κ Φ [] []
  | cons {a : Nat} {k : Tok} {vs : List Value} {ns : List Nat} : NodesAre κ Φ vs ns → NodesAre κ Φ (txt κ (Φ.f a) k :: vs) (a :: ns)
section
variable {κ : Bool} {Φ : NodeFn} {vs us : List Value} {ns ms : List Nat}
theorem NodesAre.length (h : NodesAre κ Φ vs ns) : vs.length = ns.length := by
  induction h with
  | nil => rfl
  | cons _ ih => simp [ih]
theorem NodesAre.app (h : NodesAre κ Φ vs ns) (h' : NodesAre κ Φ us ms) : NodesAre κ Φ (vs ++ us) (ns ++ ms) := by
  induction h with
  | nil => exact h'
  | cons _ ih => exact .cons ih
theorem NodesAre.get (h : NodesAre κ Φ vs ns) : ∀ {i : Nat} {v : Value}, vs[i]? = some v → ∃ a k, v = txt κ (Φ.f a) k ∧ ns[i]? = some a := by
  induction h with
  | nil => intro i v e; simp at e
  | @cons a k vs ns _ ih =>
    intro i v e
    cases i with
    | zero => simp at e; exact ⟨a, k, e.symm, rfl⟩
    | succ i => simpa using ih (by simpa using e)
theorem NodesAre.at (h : NodesAre κ Φ vs ns) : ∀ {i : Nat} {a : Nat}, ns[i]? = some a → ∃ k, vs[i]? = some (txt κ (Φ.f a) k) := by
  induction h with
  | nil => intro i v e; simp at e
  | @cons a k vs ns _ ih =>
    intro i a' e
    cases i with
    | zero => simp at e; subst e; exact ⟨k, rfl⟩
    | succ i => simpa using ih (by simpa using e)
theorem NodesAre.take (h : NodesAre κ Φ vs ns) : ∀ n, NodesAre κ Φ (vs.take n) (ns.take n) := by
  induction h with
  | nil => intro n; simp; exact .nil
  | cons h ih => intro n; cases n with
    | zero => exact .nil
    | succ n => exact .cons (ih n)
theorem NodesAre.drop (h : NodesAre κ Φ vs ns) : ∀ n, NodesAre κ Φ (vs.drop n) (ns.drop n) := by
  induction h with
  | nil => intro n; simp; exact .nil
  | cons h ih => intro n; cases n with
    | zero => exact .cons h
    | succ n => exact ih n
theorem NodesAre.txts (h : NodesAre κ Φ vs ns) : TxtsAre κ vs (ns.map Φ.f) := by
  induction h with
  | nil => exact .nil
  | cons _ ih => exact .cons ih
theorem NodesAre.of (h : TxtsAre κ vs (ns.map Φ.f)) : NodesAre κ Φ vs ns := by
  induction ns generalizing vs with
  | nil => cases h; exact .nil
  | cons a ns ih => cases h with
    | cons h => exact .cons (ih h)
end

theorem fresh_P31_attr : True := by
  w_top off
  trivial
/-- what one object bears, told by a map -/
noncomputable def Attrs (es : List DictEntry) (am : Str → Option Value) : Prop := es.any (·.refKey) = false ∧ ∀ name, (es.find? (·.key.isStr name)).map (·.val) = am name
noncomputable def IsAttrs (am : Str → Option Value) (o : Obj) : Prop := ∃ es n, o = dictOf es n ∧ Attrs es am ∧ es.length ≤ 100
theorem Attrs.get {es : List DictEntry} {am : Str → Option Value} {name : Str} (h : Attrs es am) : getL name es = some (am name) := by
  unfold getL
  have := h.2 name
  cases q : es.find? (·.key.isStr name) with
  | some e => rw [q] at this; simp [← this]
  | none => rw [q] at this; simp [← this, h.1]
theorem Attrs.nil : Attrs [] (fun _ => none) := ⟨rfl, fun _ => rfl⟩
theorem isStr_inj {v : Value} {a b : Str} (h1 : v.isStr a = true) (h2 : v.isStr b = true) : a = b := by
  cases v <;> simp [Value.isStr] at h1 h2
  rw [← h1, ← h2]
theorem putL_any (name : Str) (hsh : Int) (tk : Tok) (v : Value) : ∀ es : List DictEntry, es.any (·.refKey) = false → (putL name hsh (.str name tk) v es).any (·.refKey) = false
  | [], _ => rfl
  | e :: r, h => by
    rw [List.any_cons, Bool.or_eq_false_iff] at h
    unfold putL
    by_cases q : e.key.isStr name = true
    · rw [if_pos q, List.any_cons, Bool.or_eq_false_iff]
      exact ⟨h.1, h.2⟩
    · rw [if_neg q, List.any_cons, Bool.or_eq_false_iff]
      exact ⟨h.1, putL_any name hsh tk v r h.2⟩
theorem putL_get (name : Str) (hsh : Int) (tk : Tok) (v : Value) (y : Str) : ∀ es : List DictEntry, ((putL name hsh (.str name tk) v es).find? (·.key.isStr y)).map (·.val) = if y = name then some v else (es.find? (·.key.isStr y)).map (·.val)
  | [] => by
    unfold putL
    by_cases q : y = name
    · subst q; simp [Value.isStr]
    · have : (Value.str name tk).isStr y = false := by simp [Value.isStr]; exact fun z => q z.symm
      simp [this, q]
  | e :: r => by
    unfold putL
    by_cases q : e.key.isStr name = true
    · rw [if_pos q]
      by_cases z : y = name
      · subst z; simp [q]
      · have : e.key.isStr y = false := by
          rw [Bool.eq_false_iff]; exact fun z' => z (isStr_inj z' q)
        simp [this, z]
    · rw [if_neg q]
      by_cases z : e.key.isStr y = true
      · have : y ≠ name := fun w => q (w ▸ z)
        simp [z, this]
      · have z' : e.key.isStr y = false := by simpa using z
        simp only [List.find?_cons, z']
        exact putL_get name hsh tk v y r
theorem putL_len (name : Str) (hsh : Int) (key v : Value) : ∀ es : List DictEntry, (putL name hsh key v es).length ≤ es.length + 1
  | [] => Nat.le_refl _
  | e :: r => by
    unfold putL
    split
    · simp
    · simp only [List.length_cons]; have := putL_len name hsh key v r; omega
theorem putL_len_in (name : Str) (hsh : Int) (key v : Value) : ∀ es : List DictEntry, (es.find? (·.key.isStr name)).isSome = true → (putL name hsh key v es).length = es.length
  | [], h => by cases h
  | e :: r, h => by
    unfold putL
    by_cases q : e.key.isStr name = true
    · rw [if_pos q]; rfl
    · rw [if_neg q]; have q' : e.key.isStr name = false := by simpa using q
      simp only [List.find?_cons, q'] at h; simp only [List.length_cons]; rw [putL_len_in name hsh key v r h]
theorem Attrs.put {es : List DictEntry} {am : Str → Option Value} (h : Attrs es am) (name : Str) (hsh : Int) (tk : Tok) (v : Value) : Attrs (putL name hsh (.str name tk) v es) (fun y => if y = name then some v else am y) :=
  ⟨putL_any name hsh tk v es h.1, fun y => by rw [putL_get, h.2 y]⟩
section
variable {prog : Program} {w : World} {A : Around} {E : Value → Shared → Prop} {s : Shared} {K : Frag} {x C dx L : Addr} {h₀ : Heap} {m : Str → Option Value} {led : Led} {name : Str} {v : Value} {am : Str → Option Value}
theorem getA {expr : Bool} {Q : Value → Shared → Prop} {attr : Option Value} (F : Fr h₀ L s.heap m) (N : News h₀ L s.heap led) (hx : (x, instObj C dx) ∈ led) (hd : Ob led dx (IsAttrs am)) (X₀ : K.In h₀) (hg : plainGet K C name = true) (hh : hasDictIn K C = true)
    (ha : findIn K (.ref C) name = some attr) (hn : noGet K attr = true) (hl : am name = some v) (hv : handedIn v = true) (h : Q v { s with toks := s.toks + 1 }) : wpAny (model prog w) A (getAttr (.ref x) name expr) Q E s := by
  obtain ⟨o, hm, es, n, rfl, hat, _⟩ := hd
  exact get_own F X₀ (InstAt.of_news N hx hm) hg hh ha hn (by rw [hat.get, hl]) hv h
theorem methA {pl : Sem Bool} {Q : Value × List Value → Shared → Prop} {f : Addr} (F : Fr h₀ L s.heap m) (N : News h₀ L s.heap led) (hx : (x, instObj C dx) ∈ led) (hd : Ob led dx (IsAttrs am)) (X₀ : K.In h₀) (hg : plainGet K C name = true)
    (hf : findIn K (.ref C) name = some (some (.ref f))) (ht : isFn K (.ref f) = true) (hl : am name = none) (h : Q (.ref f, [.ref x]) s) : wpAny (model prog w) A (getMethod (.ref x) name pl) Q E s := by
  obtain ⟨o, hm, es, n, rfl, hat, _⟩ := hd
  exact method_inst F X₀ (InstAt.of_news N hx hm) hg hf ht (by rw [hat.get, hl]) h
theorem setA {Q : Unit → Shared → Prop} (F : Fr h₀ L s.heap m) (N : News h₀ L s.heap led) (hx : (x, instObj C dx) ∈ led) (hd : Ob led dx (IsAttrs am)) (X₀ : K.In h₀)
    (hs : findIn K (.ref C) "__setattr__" = some (some (.builtin "object.__setattr__"))) (hp : plainOver K C = true) (ht : takerIn K C name = some none) (hh : hasDictIn K C = true) (hl : (am name).isSome = true)
    (h : ∀ h' led', Fr h₀ L h' m → News h₀ L h' led' → Ob led' dx (IsAttrs fun y => if y = name then some v else am y) → (∀ p ∈ led, p.1 ≠ dx → p ∈ led') → Q () { s with heap := h', toks := s.toks + 2 }) : wpAny (model prog w) A (setAttr (.ref x) name v) Q E s := by
  obtain ⟨o, hm, es, n, rfl, hat, hz⟩ := hd
  refine set_dict F X₀ (news_dd N) (InstAt.of_news N hx hm) rfl hs hp ht hh (by rw [hat.get]; rfl) rfl (upd_of (nodup_dd _) ((mem_dd N _).mpr hm)) (by have := putL_len name (PyData.keyHash w.params name) (.str name (s.toks + 1)) v es; omega) fun h' F' N' => ?_
  refine h h' _ F' (news_setL_dd N N') ⟨_, mem_setL_self hm, _, _, rfl, hat.put name _ _ v, ?_⟩ fun p hp hne => mem_setL_ne hne hp
  have hsm : (es.find? (·.key.isStr name)).isSome = true := by
    have := hat.2 name
    rw [← this] at hl; simpa using hl
  rw [putL_len_in _ _ _ _ _ hsm]; exact hz
end
theorem lw22_all : True := by
  k_with "L getAttr ref" => (k_here; k_dflt (refine' getA ?k1 ?k2 ?k3 ?k4 ?k5 ?k6 ?k7 ?k8 ?k9 ?k10 ?k11 ?_; (case k1 => k_asm); (case k2 => k_asm); (case k3 => k_mem); (case k4 => k_extra "ob"); (case k5 => k_asm); (case k6 => k_is); (case k7 => k_is); (case k8 => k_is); (case k9 => k_is); (case k10 => exact rfl); (case k11 => exact rfl); k_whole))
  trivial
theorem lw23_all : True := by
  k_with "L getMethod ref" => (k_here; k_dflt (refine' methA ?k1 ?k2 ?k3 ?k4 ?k5 ?k6 ?k7 ?k8 ?k9 ?_; (case k1 => k_asm); (case k2 => k_asm); (case k3 => k_mem); (case k4 => k_extra "ob"); (case k5 => k_asm); (case k6 => k_is); (case k7 => k_is); (case k8 => k_is); (case k9 => exact rfl); k_whole))
  trivial
theorem lw24_all : True := by
  k_with "L setAttr ref" => (k_here; k_dflt (refine' setA ?k1 ?k2 ?k3 ?k4 ?k5 ?k6 ?k7 ?k8 ?k9 ?k10 ?_; (case k1 => k_asm); (case k2 => k_asm); (case k3 => k_mem); (case k4 => k_extra "ob"); (case k5 => k_asm); (case k6 => k_is); (case k7 => k_is); (case k8 => k_is); (case k9 => k_is); (case k10 => exact rfl)); intro _ _ _ _ _ _; refine Box.out ?_)
  trivial

theorem fresh_P32_dict : True := by
  w_top off
  trivial
section
variable {w : World} {κ : Bool} {Φ : NodeFn} {A : Around} {E : Value → Shared → Prop} {s : Shared} {h₀ : Heap} {L d : Addr} {m : Str → Option Value} {led : Led} {kvs : List (Nat × Value)} {a : Nat} {k : Tok} {v : Value}
/-- a dict whose keys are nodes -/
noncomputable abbrev NK (w : World) (κ : Bool) (Φ : NodeFn) : KeyKind PySem.Challenge.rw_op0160_01.row.prog w Nat := nodeKind PySem.Challenge.rw_op0160_01.row.prog w κ Φ
noncomputable abbrev IsD (w : World) (κ : Bool) (Φ : NodeFn) (kvs : List (Nat × Value)) (o : Obj) : Prop := o.IsDictOf (NK w κ Φ) kvs
theorem IsD.empty {o : Obj} (h : o.IsDictOf (PySem.strKind PySem.Challenge.rw_op0160_01.row.prog w) []) : IsD w κ Φ [] o := by
  obtain ⟨es, ep, h1, h2, h3, h4, _⟩ := h
  have : es.toList = [] := by
    have := h4.length
    simpa using this
  obtain ⟨l⟩ := es
  simp only at this
  subst this
  exact ⟨_, ep, h1, h2, fun e he => by simp at he, .nil, List.nodup_nil⟩
theorem getD1 {Q : Value → Shared → Prop} (N : News h₀ L s.heap led) (hd : Ob led d (IsD w κ Φ kvs)) (lo : (d == sysModules) = false) (x : Option Value) (hl : valueAt kvs a = x) (h : ∀ tk, Q (x.getD .none) { s with toks := tk }) :
    wpAny (model PySem.Challenge.rw_op0160_01.row.prog w) A (call (.builtin "dict.get") [.ref d, txt κ (Φ.f a) k]) Q E s := by
  obtain ⟨o, hm, hd⟩ := hd
  exact kdg_get1 N hm hd lo (node_is _ _ _ _ _ _) x hl (h _)
theorem getDh {Q : Value → Shared → Prop} (N : News h₀ L s.heap led) (hd : Ob led d (IsD w κ Φ kvs)) (lo : (d == sysModules) = false) (hl : valueAt kvs a = some v) (h : ∀ tk, Q v { s with toks := tk }) :
    wpAny (model PySem.Challenge.rw_op0160_01.row.prog w) A (call (.builtin "dict.get") [.ref d, txt κ (Φ.f a) k]) Q E s := getD1 N hd lo _ hl h
theorem getDm {Q : Value → Shared → Prop} (N : News h₀ L s.heap led) (hd : Ob led d (IsD w κ Φ kvs)) (lo : (d == sysModules) = false) (hl : valueAt kvs a = none) (h : ∀ tk, Q .none { s with toks := tk }) :
    wpAny (model PySem.Challenge.rw_op0160_01.row.prog w) A (call (.builtin "dict.get") [.ref d, txt κ (Φ.f a) k]) Q E s := getD1 N hd lo _ hl h
theorem methD {pl : Sem Bool} {Q : Value × List Value → Shared → Prop} (N : News h₀ L s.heap led) (hd : Ob led d (IsD w κ Φ kvs)) (h : Q (.builtin "dict.get", [.ref d]) s) : wpAny (model PySem.Challenge.rw_op0160_01.row.prog w) A (getMethod (.ref d) (Str.ofString "get") pl) Q E s := by
  obtain ⟨o, hm, hd⟩ := hd
  exact kdg_method N hm hd h
theorem setD {Q : Unit → Shared → Prop} (F : Fr h₀ L s.heap m) (N : News h₀ L s.heap led) (hd : Ob led d (IsD w κ Φ kvs)) (hsz : kvs.length ≤ 1000000)
    (h : ∀ h' led' tk, Fr h₀ L h' m → News h₀ L h' led' → Ob led' d (IsD w κ Φ (stored kvs a v)) → (∀ p ∈ led, p.1 ≠ d → p ∈ led') → Q () { s with heap := h', toks := tk }) : wpAny (model PySem.Challenge.rw_op0160_01.row.prog w) A (setItem (.ref d) (txt κ (Φ.f a) k) v) Q E s := by
  obtain ⟨o, hm, hd⟩ := hd
  refine kda_set F (news_dd N) (g := fun o' => setL (dd led) d o') (updF_of (nodup_dd _) ((mem_dd N _).mpr hm)) hd (node_is _ _ _ _ _ _) (by rw [sizeLine_eq]; omega) fun h' o' F' N' hd' => ?_
  exact h h' _ _ F' (news_setL_dd N N') ⟨o', mem_setL_self hm, hd'⟩ fun p hp hne => mem_setL_ne hne hp
theorem itemD {value slice : Expr} {Q : Value → Shared → Prop} (N : News h₀ L s.heap led) (hd : Ob led d (IsD w κ Φ kvs)) (hl : valueAt kvs a = some v) (h : ∀ tk, Q v { s with toks := tk })
    (hs : subscripted slice false (.ref d) (txt κ (Φ.f a) k) = operate [.ref d, txt κ (Φ.f a) k] (getItem (.ref d) (txt κ (Φ.f a) k))) (hg : ∀ r, letTemporaryGo value (.ref d) r = pure ()) :
    wpAny (model PySem.Challenge.rw_op0160_01.row.prog w) A (subscriptTail value slice (.ref d) (txt κ (Φ.f a) k)) Q E s := by
  obtain ⟨o, hm, hd⟩ := hd
  exact kda_item N hm hd (node_is _ _ _ _ _ _) hl (h _) hs hg
theorem inD {Q : Value → Shared → Prop} (N : News h₀ L s.heap led) (hd : Ob led d (IsD w κ Φ kvs)) (lo : (d == sysModules) = false) (h : ∀ tk, Q (.bool (valueAt kvs a).isSome) { s with toks := tk }) :
    wpAny (model PySem.Challenge.rw_op0160_01.row.prog w) A (compareOp .In (txt κ (Φ.f a) k) (.ref d)) Q E s := by
  obtain ⟨o, hm, hd⟩ := hd
  exact kda_in N hm hd lo (node_is _ _ _ _ _ _) _ rfl (h _)
theorem delD {Q : Unit → Shared → Prop} (F : Fr h₀ L s.heap m) (N : News h₀ L s.heap led) (hd : Ob led d (IsD w κ Φ kvs)) (hsz : kvs.length ≤ 1000000) (hl : (valueAt kvs a).isSome = true)
    (h : ∀ h' led' tk, Fr h₀ L h' m → News h₀ L h' led' → Ob led' d (IsD w κ Φ (without kvs a)) → (∀ p ∈ led, p.1 ≠ d → p ∈ led') → Q () { s with heap := h', toks := tk }) : wpAny (model PySem.Challenge.rw_op0160_01.row.prog w) A (delItem (.ref d) (txt κ (Φ.f a) k)) Q E s := by
  obtain ⟨o, hm, hd⟩ := hd
  have hD := kda_dict N hm hd
  unfold delItem
  try with_reducible refine wpAny_holding ?_
  refine wpAny_bind (wpAny_sequenceKey hD.typeIs (by decide) ?_)
  refine wpAny_bind (wpAny_callSpecial?_slot (name := Str.ofString "__delitem__") hD.typeIs PySem.F.slot_dict_delitem
    (call_meetsIn PySem.F.slot_dict_delitem hD.typeIs PySem.F.entry_dict_delitem (PySem.F.args_dict_delitem_2 _ _) (meets_dict_delitem_pairs (NK w κ Φ) d (node_is _ _ _ _ _ _)) ⟨kvs, hD, (by rw [sizeLine_eq]; omega), hl, fun h' hmm hs => ?_⟩))
  obtain ⟨o', ho', hd'⟩ := Heap.dictOf_iff.mp hmm
  exact wpAny_pure (h h' _ _ (fr_same F N hm hs) (news_same N hm hs ho') ⟨o', mem_setL_self hm, hd'⟩ fun p hp hne => mem_setL_ne hne hp)
/-- a set of nodes -/
noncomputable abbrev IsS (w : World) (κ : Bool) (Φ : NodeFn) (S : Nat → Bool) (n : Nat) (o : Obj) : Prop := o.SetObjOf (NK w κ Φ) S n
variable {S : Nat → Bool} {n : Nat}
theorem newS {Q : Value → Shared → Prop} (F : Fr h₀ L s.heap m) (N : News h₀ L s.heap led)
    (h : ∀ D h' o, Fr h₀ L h' m → News h₀ L h' ((D, o) :: led) → (∀ p ∈ led, p.1 < D) → IsS w κ Φ (fun _ => false) 0 o → Q (.ref D) { s with heap := h' }) : wpAny (model PySem.Challenge.rw_op0160_01.row.prog w) A (call (.type "set") []) Q E s :=
  newSet_N F N fun h' led F' N' => h _ h' _ F' N' (fun p hp => Heap.lt_size (N p hp).1) (setObjOf_fresh led)
theorem methS {pl : Sem Bool} {Q : Value × List Value → Shared → Prop} (N : News h₀ L s.heap led) (hd : Ob led d (IsS w κ Φ S n)) (hb : n ≤ 1000) (h : Q (.builtin "set.add", [.ref d]) s) : wpAny (model PySem.Challenge.rw_op0160_01.row.prog w) A (getMethod (.ref d) (Str.ofString "add") pl) Q E s := by
  obtain ⟨o, hm, hd⟩ := hd
  exact kse_method (news_dd N) (g := fun o' => setL (dd led) d o') (updF_of (nodup_dd _) ((mem_dd N _).mpr hm)) hd (by unfold scanBound; omega) h
theorem addS {Q : Value → Shared → Prop} (F : Fr h₀ L s.heap m) (N : News h₀ L s.heap led) (hd : Ob led d (IsS w κ Φ S n)) (hb : n ≤ 1000)
    (h : ∀ h' led' tk, Fr h₀ L h' m → News h₀ L h' led' → Ob led' d (IsS w κ Φ (fun k' => S k' || decide (k' = a)) (if S a then n else n + 1)) → (∀ p ∈ led, p.1 ≠ d → p ∈ led') → Q .none { s with heap := h', toks := tk }) :
    wpAny (model PySem.Challenge.rw_op0160_01.row.prog w) A (call (.builtin "set.add") [.ref d, txt κ (Φ.f a) k]) Q E s := by
  obtain ⟨o, hm, hd⟩ := hd
  refine kse_add F (news_dd N) (g := fun o' => setL (dd led) d o') (updF_of (nodup_dd _) ((mem_dd N _).mpr hm)) hd (by unfold scanBound; omega) (node_is _ _ _ _ _ _) (txt_scan _ _ _) fun h' o' F' N' hd' => ?_
  exact h h' _ _ F' (news_setL_dd N N') ⟨o', mem_setL_self hm, hd'⟩ fun p hp hne => mem_setL_ne hne hp
theorem inS {Q : Value → Shared → Prop} (N : News h₀ L s.heap led) (hd : Ob led d (IsS w κ Φ S n)) (hb : n ≤ 1000) (h : ∀ tk, Q (.bool (S a)) { s with toks := tk }) : wpAny (model PySem.Challenge.rw_op0160_01.row.prog w) A (compareOp .In (txt κ (Φ.f a) k) (.ref d)) Q E s := by
  obtain ⟨o, hm, hd⟩ := hd
  exact kse_in (news_dd N) (g := fun o' => setL (dd led) d o') (updF_of (nodup_dd _) ((mem_dd N _).mpr hm)) hd (by unfold scanBound; omega) (node_is _ _ _ _ _ _) (txt_scan _ _ _) (h _)
/-- the iterator over a dict's keys -/
noncomputable abbrev IsKIt (d : Addr) (i n ep : Nat) (o : Obj) : Prop := KdkIter o d i n ep
noncomputable abbrev IsDE (w : World) (κ : Bool) (Φ : NodeFn) (kvs : List (Nat × Value)) (ep : Nat) (o : Obj) : Prop := KdkAt (NK w κ Φ) o kvs ep
theorem IsDE.of {led : Led} (h : Ob led d (IsD w κ Φ kvs)) : ∃ ep, Ob led d (IsDE w κ Φ kvs ep) := by
  obtain ⟨o, hm, hd⟩ := h
  obtain ⟨ep, ha⟩ := KdkAt.of hd
  exact ⟨ep, o, hm, ha⟩
theorem IsDE.isD {led : Led} {ep : Nat} (h : Ob led d (IsDE w κ Φ kvs ep)) : Ob led d (IsD w κ Φ kvs) := by
  obtain ⟨o, hm, es, r⟩ := h
  exact ⟨o, hm, es, ep, r⟩
theorem iter_D {ep : Nat} {Q : Value → Shared → Prop} (F : Fr h₀ L s.heap m) (N : News h₀ L s.heap led) (hd : Ob led d (IsDE w κ Φ kvs ep)) (lo : (d == sysModules) = false)
    (h : ∀ I h' o, Fr h₀ L h' m → News h₀ L h' ((I, o) :: led) → IsKIt d 0 kvs.length ep o → (∀ p ∈ led, p.1 < I) → Q (.ref I) { s with heap := h' }) : wpAny (model PySem.Challenge.rw_op0160_01.row.prog w) A (pyIter (.ref d)) Q E s := by
  obtain ⟨o, hm, hd⟩ := hd
  refine wpAny_pyIter_dict lo (hd.dictAt (N _ hm).1) ?_
  exact h _ _ _ (F.push _) (News.push F N _ rfl) ⟨rfl, rfl⟩ (fun q hq => Heap.lt_size (N q hq).1)
theorem next_D {I : Addr} {i ep : Nat} {Q : Option Value → Shared → Prop} (hh : A.handled = none) (F : Fr h₀ L s.heap m) (N : News h₀ L s.heap led) (hI : Ob led I (IsKIt d i kvs.length ep)) (hd : Ob led d (IsDE w κ Φ kvs ep))
    (hs : ∀ a v k h' led', kvs[i]? = some (a, v) → Fr h₀ L h' m → News h₀ L h' led' → Ob led' I (IsKIt d (i + 1) kvs.length ep) → (∀ p ∈ led, p.1 ≠ I → p ∈ led') → Q (some (txt κ (Φ.f a) k)) { s with heap := h' })
    (he : ∀ h' led', kvs.length ≤ i → Fr h₀ L h' m → News h₀ L h' led' → (∀ p ∈ led, p.1 ≠ I → p ∈ led') → Q none { s with heap := h' }) : wpAny (model PySem.Challenge.rw_op0160_01.row.prog w) A (pyNext (.ref I)) Q E s := by
  obtain ⟨oI, hI, hi⟩ := hI
  obtain ⟨o, hm, hd⟩ := hd
  have hit := hi.at (N _ hI).1
  cases hx : kvs[i]? with
  | some kv =>
    obtain ⟨a, v⟩ := kv
    refine wpAny_pyNext_dict_item hit (hd.dictAt (N _ hm).1) hx fun key h' hkey hit' hb => ?_
    obtain ⟨o', ho', hc', hd'⟩ := hit'
    obtain ⟨k, rfl⟩ := isNode_shape hkey
    exact hs a v k h' _ hx (fr_same F N hI hb) (news_same N hI hb ho') ⟨o', mem_setL_self hI, hc', hd'⟩ fun p hp hne => mem_setL_ne hne hp
  | none =>
    refine wpAny_pyNext_dict_end hh hit (hd.dictAt (N _ hm).1) hx fun h' hb => ?_
    exact he h' _ (by simpa using hx) (fr_less F N hI fun b o hne e => hb b o hne e) (news_less N fun b o hne e => hb b o hne e) fun p hp hne => mem_less hp hne
end

theorem fresh_P33_sorter : True := by
  w_top off
  trivial
theorem lw25_all : True := by
  k_with "L getMethod ref" => ((with_reducible show wpAny _ _ (getMethod (Value.ref _) (Str.ofString "get") _) _ _ _); k_here; k_dflt (refine' methD ?k1 ?k2 ?_; (case k1 => k_asm); (case k2 => k_extra "ob")))
  trivial
theorem lw26_all : True := by
  k_with "L call builtin:dict.get" => ((with_reducible show wpAny _ _ (call (Value.builtin "dict.get") [Value.ref _, txt _ _ _]) _ _ _); k_here; k_dflt (first | (refine' getDh ?k1 ?k2 ?k3 ?k4 ?_; (case k1 => k_asm); (case k2 => k_extra "ob"); (case k3 => assumption); (case k4 => assumption)) | (refine' getDm ?k1 ?k2 ?k3 ?k4 ?_; (case k1 => k_asm); (case k2 => k_extra "ob"); (case k3 => assumption); (case k4 => assumption))); intro _)
  trivial
structure Ent where
  a : Nat
  np : Int
  su : List Nat
structure CE where
  e : Ent
  ia : Addr
  dx : Addr
  sa : Addr
  kn : Tok
  kp : Tok
  us : List Value
  c : Nat
noncomputable def infoObj (κ : Bool) (Φ : NodeFn) (c : CE) : Obj := { cls := .ref 40, dict := some c.dx, data := .plain, slots := #[some (txt κ (Φ.f c.e.a) c.kn), some (.int c.e.np c.kp), some (.ref c.sa)] }
structure EntIn (κ : Bool) (Φ : NodeFn) (led : Led) (c : CE) : Prop where
  info : (c.ia, infoObj κ Φ c) ∈ led
  dict : (c.dx, emptyDict) ∈ led
  succ : (c.sa, listOf c.us.toArray c.c) ∈ led
  are : NodesAre κ Φ c.us c.e.su
noncomputable def sam (D : Addr) (vR : Value) (p f : Int) (kp kf : Tok) : Str → Option Value := fun y =>
  if y = Str.ofString "_node2info" then some (.ref D) else if y = Str.ofString "_ready_nodes" then some vR else if y = Str.ofString "_npassedout" then some (.int p kp) else if y = Str.ofString "_nfinished" then some (.int f kf) else none
structure SrtIn (w : World) (κ : Bool) (Φ : NodeFn) (led : Led) (S di D : Addr) (cs : List CE) (vR : Value) (p f : Int) : Prop where
  inst : (S, instObj 137 di) ∈ led
  attr : ∃ kp kf, Ob led di (IsAttrs (sam D vR p f kp kf))
  low : (D == sysModules) = false
  dict : Ob led D (IsD w κ Φ (cs.map fun c => (c.e.a, Value.ref c.ia)))
  ents : ∀ c ∈ cs, EntIn κ Φ led c
  apart : (cs.map (·.sa)).Nodup
  dD : di ≠ D
  dxs : ∀ c ∈ cs, c.dx ≠ D ∧ c.dx ≠ di
theorem isD_cls {w : World} {κ : Bool} {Φ : NodeFn} {kvs : List (Nat × Value)} {o : Obj} (h : IsD w κ Φ kvs o) : o.cls = .type "dict" := let ⟨_, _, h1, _⟩ := h; h1.1
theorem attrs_cls {am : Str → Option Value} {o : Obj} (h : IsAttrs am o) : o.cls = .type "dict" := by obtain ⟨_, _, rfl, _⟩ := h; rfl
theorem ob_ne {h₀ h : Heap} {L : Addr} {led : Led} {a b : Addr} {P : Obj → Prop} {o : Obj} (N : News h₀ L h led) (hb : Ob led b P) (ha : (a, o) ∈ led) (hn : ¬ P o) : a ≠ b := fun e => by
  subst e
  obtain ⟨o', m', p'⟩ := hb
  exact hn (news_uniq N m' ha ▸ p')
theorem cls_ref_ne {c : Addr} {t : String} : Value.ref c ≠ Value.type t := by intro h; cases h
/-- every address that the sorter is made of -/
noncomputable def Adr (S di D : Addr) (cs : List CE) (a : Addr) : Prop := a = S ∨ a = di ∨ a = D ∨ ∃ c ∈ cs, a = c.ia ∨ a = c.dx ∨ a = c.sa
section
variable {w : World} {κ : Bool} {Φ : NodeFn} {led led' : Led} {S di D : Addr} {cs : List CE} {vR : Value} {p f : Int} {h₀ h : Heap} {L : Addr}
theorem EntIn.keep {c : CE} (H : EntIn κ Φ led c) (hk : ∀ q ∈ led, q.1 = c.ia ∨ q.1 = c.dx ∨ q.1 = c.sa → q ∈ led') : EntIn κ Φ led' c :=
  ⟨hk _ H.info (.inl rfl), hk _ H.dict (.inr (.inl rfl)), hk _ H.succ (.inr (.inr rfl)), H.are⟩
theorem SrtIn.keep (H : SrtIn w κ Φ led S di D cs vR p f) (hk : ∀ q ∈ led, Adr S di D cs q.1 → q ∈ led') : SrtIn w κ Φ led' S di D cs vR p f where
  inst := hk _ H.inst (.inl rfl)
  attr := let ⟨kp, kf, o, m, q⟩ := H.attr; ⟨kp, kf, o, hk _ m (.inr (.inl rfl)), q⟩
  low := H.low
  dict := let ⟨o, m, q⟩ := H.dict; ⟨o, hk _ m (.inr (.inr (.inl rfl))), q⟩
  ents c hc := (H.ents c hc).keep fun q hq e => hk q hq (.inr (.inr (.inr ⟨c, hc, e⟩)))
  apart := H.apart
  dD := H.dD
  dxs := H.dxs
theorem SrtIn.sub (H : SrtIn w κ Φ led S di D cs vR p f) (hs : ∀ q ∈ led, q ∈ led') : SrtIn w κ Φ led' S di D cs vR p f := H.keep fun q hq _ => hs q hq
theorem SrtIn.adr_in (H : SrtIn w κ Φ led S di D cs vR p f) {a : Addr} (ha : Adr S di D cs a) : ∃ o, (a, o) ∈ led := by
  rcases ha with rfl | rfl | rfl | ⟨c, hc, rfl | rfl | rfl⟩
  · exact ⟨_, H.inst⟩
  · obtain ⟨_, _, o, m, _⟩ := H.attr; exact ⟨o, m⟩
  · obtain ⟨o, m, _⟩ := H.dict; exact ⟨o, m⟩
  · exact ⟨_, (H.ents c hc).info⟩
  · exact ⟨_, (H.ents c hc).dict⟩
  · exact ⟨_, (H.ents c hc).succ⟩
/-- the dict of nodes is the only thing that changed -/
theorem SrtIn.setDict (H : SrtIn w κ Φ led S di D cs vR p f) (N : News h₀ L h led) (hk : ∀ q ∈ led, q.1 ≠ D → q ∈ led') {cs' : List CE} (hd : Ob led' D (IsD w κ Φ (cs'.map fun c => (c.e.a, Value.ref c.ia)))) (he : ∀ c ∈ cs', EntIn κ Φ led c) (hap : (cs'.map (·.sa)).Nodup) (hdx : ∀ c ∈ cs', c.dx ≠ D ∧ c.dx ≠ di) : SrtIn w κ Φ led' S di D cs' vR p f where
  inst := hk _ H.inst (ob_ne N H.dict H.inst fun q => cls_ref_ne (isD_cls q))
  attr := let ⟨kp, kf, o, m, q⟩ := H.attr; ⟨kp, kf, o, hk _ m H.dD, q⟩
  low := H.low
  dict := hd
  ents c hc := (he c hc).keep fun q hq e => hk q hq fun z => by
    rcases e with e | e | e
    · exact ob_ne N H.dict (he c hc).info (fun q => cls_ref_ne (isD_cls q)) (e.symm.trans z)
    · exact (hdx c hc).1 (e.symm.trans z)
    · exact ob_ne N H.dict (he c hc).succ (fun q => absurd (isD_cls q) (by show Value.type "list" ≠ Value.type "dict"; decide)) (e.symm.trans z)
  apart := hap
  dD := H.dD
  dxs := hdx
/-- the attributes are the only thing that changed -/
theorem SrtIn.setAttr (H : SrtIn w κ Φ led S di D cs vR p f) (N : News h₀ L h led) (hk : ∀ q ∈ led, q.1 ≠ di → q ∈ led') {vR' : Value} {p' f' : Int} (hd : ∃ kp kf, Ob led' di (IsAttrs (sam D vR' p' f' kp kf))) : SrtIn w κ Φ led' S di D cs vR' p' f' := by
  obtain ⟨kp, kf, hat⟩ := H.attr
  exact {
    inst := hk _ H.inst (ob_ne N hat H.inst fun q => cls_ref_ne (attrs_cls q))
    attr := hd
    low := H.low
    dict := let ⟨o, m, q⟩ := H.dict; ⟨o, hk _ m (Ne.symm H.dD), q⟩
    ents := fun c hc => (H.ents c hc).keep fun q hq e => hk q hq fun z => by
      rcases e with e | e | e
      · exact ob_ne N hat (H.ents c hc).info (fun q => cls_ref_ne (attrs_cls q)) (e.symm.trans z)
      · exact (H.dxs c hc).2 (e.symm.trans z)
      · exact ob_ne N hat (H.ents c hc).succ (fun q => absurd (attrs_cls q) (by show Value.type "list" ≠ Value.type "dict"; decide)) (e.symm.trans z)
    apart := H.apart
    dD := H.dD
    dxs := H.dxs }
end
noncomputable def ensure (es : List Ent) (a : Nat) : List Ent := if es.any (fun e => decide (e.a = a)) then es else es ++ [⟨a, 0, []⟩]
/-- the dict from nodes to their records -/
noncomputable abbrev cd (cs : List CE) : List (Nat × Value) := cs.map fun c => (c.e.a, Value.ref c.ia)
theorem va_some {cs : List CE} {a : Nat} {v : Value} (h : valueAt (cd cs) a = some v) : ∃ c ∈ cs, c.e.a = a ∧ v = .ref c.ia := by
  unfold valueAt at h
  obtain ⟨kv, h1, h2⟩ := Option.map_eq_some_iff.mp h
  have h3 := List.mem_of_find?_eq_some h1
  obtain ⟨c, hc, rfl⟩ := List.mem_map.mp h3
  have h4 := List.find?_some h1
  exact ⟨c, hc, by simpa using h4, h2.symm⟩
theorem va_none {cs : List CE} {a : Nat} : valueAt (cd cs) a = none ↔ ∀ c ∈ cs, c.e.a ≠ a := by
  unfold valueAt
  rw [Option.map_eq_none_iff, List.find?_eq_none]
  constructor
  · intro h c hc
    have := h (c.e.a, .ref c.ia) (List.mem_map.mpr ⟨c, hc, rfl⟩)
    simpa using this
  · intro h kv hkv
    obtain ⟨c, hc, rfl⟩ := List.mem_map.mp hkv
    simpa using h c hc

theorem fresh_P33a_info : True := by
  w_top off
  trivial
section
variable {prog : Program} {w : World} {A : Around} {E : Value → Shared → Prop} {s : Shared} {K : Frag} {x C dx p L : Addr} {h₀ : Heap} {m : Str → Option Value} {led : Led} {name : Str} {v : Value} {ox ox' od : Obj} {i : Nat} {sl : Array (Option Value)}
theorem getSl {expr : Bool} {Q : Value → Shared → Prop} (F : Fr h₀ L s.heap m) (N : News h₀ L s.heap led) (hx : (x, (⟨.ref C, some dx, .plain, sl⟩ : Obj)) ∈ led) (hd : (dx, od) ∈ led) (X₀ : K.In h₀) (hg : plainGet K C name = true) (hc : isClsIn K C = true)
    (ha : findIn K (.ref C) name = some (some (.ref p))) (hn : specialIn K (.ref p) "__get__" = some (some (.builtin "member_descriptor.__get__"))) (ht : takesIn K (.ref p) = some true) (hp : slotIn K p C = some i)
    (hv : (sl[i]?).join = some v) (hh : handedIn v = true) (h : Q v { s with toks := s.toks + 1 }) : wpAny (model prog w) A (getAttr (.ref x) name expr) Q E s :=
  get_slot F X₀ (InstAt.of_news N hx hd) hg hc ha hn ht hp hv hh h
theorem setSl {Q : Unit → Shared → Prop} (F : Fr h₀ L s.heap m) (N : News h₀ L s.heap led) (hx : (x, ox) ∈ led) (hox : ox = ⟨.ref C, some dx, .plain, sl⟩) (hd : (dx, od) ∈ led) (X₀ : K.In h₀)
    (hs : findIn K (.ref C) "__setattr__" = some (some (.builtin "object.__setattr__"))) (hp : plainOver K C = true) (ht : takerIn K C name = some (some (.ref p))) (hT : typeIn K (.ref p) = some (.type "member_descriptor")) (hi : slotIn K p C = some i) (hz : i < 1000)
    (e : { ox with slots := (ox.slots ++ Array.replicate (i + 1 - ox.slots.size) none).setIfInBounds i (some v) } = ox') (hf : ox'.isFreed = false)
    (h : ∀ h' led', Fr h₀ L h' m → News h₀ L h' led' → (x, ox') ∈ led' → (∀ p ∈ led, p.1 ≠ x → p ∈ led') → Q () { s with heap := h', toks := s.toks + 1 }) : wpAny (model prog w) A (setAttr (.ref x) name v) Q E s := by
  subst hox
  refine set_slot F X₀ (news_dd N) (InstAt.of_news N hx hd) hs hp ht hT hi hz e hf (upd_of (nodup_dd _) ((mem_dd N _).mpr hx)) fun h' F' N' => ?_
  exact h h' _ F' (news_setL_dd N N') (mem_setL_self hx) fun p hp hne => mem_setL_ne hne hp
end
section
variable {w : World} {D U : Nat} {news : Led} {L C fI : Addr} {A A₀ : Around} {base h₀ : Heap} {outer : List Env} {m : Str → Option Value} {s : Shared} {Q : Value → Shared → Prop} {E : Value → Shared → Prop} {loose : List Str} {mean : ExcName → Option Value} {mg mb : Str → Option Value} {cn : Str} {cs : Scope} {a : Addr} {ccd : Value} {cl : List (Str × Addr)}
/-- an object made: the class's own __init__ by its contract -/
theorem Fn.make {pos : List Value} {post : Addr → Addr → Led → Prop} (hm : makesIn (Mine.hd.heap_1 w.params) C = true) (hi : findIn (Mine.hd.heap_1 w.params) (.ref C) "__init__" = some (some (.ref fI))) (hfn : typeIn (Mine.hd.heap_1 w.params) (.ref fI) = some (.type "function"))
    (K : ∀ x dx, (∀ p ∈ news, p.1 < dx) → dx < x → Fn w D U fI ⟨.ref x :: pos, []⟩ ((x, instObj C dx) :: (dx, emptyDict) :: news) (fun r led => r = .none ∧ post x dx led))
    (hf : (A.under (.builtin "type.__call__" ⟨.ref C :: pos, []⟩)).frames = some (envX cn cs L a ccd cl :: outer)) (B : Below A₀ base outer h₀) (F : Fr h₀ L s.heap m) (X : (Mine.hd.heap_1 w.params).In h₀) (N : News h₀ L s.heap news) (T : Top topProg loose mean mg mb h₀) (hk : cs.kind = .function)
    (hh : (A.under (.builtin "type.__call__" ⟨.ref C :: pos, []⟩)).handled = none) (hd : (A.under (.builtin "type.__call__" ⟨.ref C :: pos, []⟩)).depth ≤ D) (hu : (A.under (.builtin "type.__call__" ⟨.ref C :: pos, []⟩)).units ≤ U)
    (ret : ∀ x dx h' tk' news', Fr h₀ L h' m → News h₀ L h' news' → (∀ p ∈ news, p.1 < dx) → dx < x → post x dx news' → Q (.ref x) { s with heap := h', toks := tk' }) :
    wpAny (model PySem.Challenge.rw_op0160_01.row.prog w) A (call (.ref C) pos []) Q E s := by
  refine wpAny_call (make_K F N (X.keeps F.keep) hm hi hfn fun x dx h1 F1 N1 l1 l2 => ?_)
  refine (K x dx l1 l2).code (s := { s with heap := h1 }) B F1 X N1 T hk hh hd hf hu ?_
  rintro v h' tk' news' F' N' ⟨rfl, hp⟩
  exact ⟨rfl, ret x dx h' tk' news' F' N' l1 l2 hp⟩
end
theorem lw27_all : True := by
  k_with "L getAttr ref" => (k_here; k_dflt (refine' getSl ?k1 ?k2 ?k3 ?k4 ?k5 ?k6 ?k7 ?k8 ?k9 ?k10 ?k11 ?k12 ?k13 ?_; (case k1 => k_asm); (case k2 => k_asm); (case k3 => assumption); (case k4 => assumption); (case k5 => k_asm); (case k6 => k_is); (case k7 => k_is); (case k8 => k_is); (case k9 => k_is); (case k10 => k_is); (case k11 => k_is); (case k12 => exact rfl); (case k13 => exact rfl); k_whole))
  trivial
theorem lw28_all : True := by
  k_with "L setAttr ref" => (k_here; k_dflt (refine' setSl ?k1 ?k2 ?k3 ?k3b ?k4 ?k5 ?k6 ?k7 ?k8 ?k9 ?k10 ?k11 ?k12 ?k13 ?_; (case k1 => k_asm); (case k2 => k_asm); (case k3 => assumption); (case k3b => exact rfl); (case k4 => assumption); (case k5 => k_asm); (case k6 => k_is); (case k7 => k_is); (case k8 => k_is); (case k9 => k_is); (case k10 => k_is); (case k11 => decide); (case k12 => k_slotset); (case k13 => exact rfl)); intro _ _ _ _ _ _; refine Box.out ?_)
  trivial
theorem info_init (w : World) (κ : Bool) (Φ : NodeFn) (a : Nat) (k : Tok) (x dx : Addr) (news : Led) (l1 : ∀ p ∈ news, p.1 < dx) (l2 : dx < x) :
    Fn w 580 3800 36 ⟨[.ref x, txt κ (Φ.f a) k], []⟩ ((x, instObj 40 dx) :: (dx, emptyDict) :: news) (fun r led => r = .none ∧ ∃ c : CE, c.e = ⟨a, 0, []⟩ ∧ c.ia = x ∧ c.dx = dx ∧ EntIn κ Φ led c ∧ (∀ p ∈ news, p ∈ led) ∧ x < c.sa) := by
  unfold Fn; k_fill; show Fn _ _ _ _ _ _ _
  refine Fn.intro (binds := [(Str.ofString "self", .ref x), (Str.ofString "node", txt κ (Φ.f a) k)]) (by k_is) (by k_is) rfl (fun s _ => BindsTo.of_eq rfl) (locs rfl) (by decide) rfl rfl rfl ?_
  intro loose mean mg mb gd env₀ outer base g L h₁ s tk B F X N T hlt
  have m1 : (x, instObj 40 dx) ∈ (x, instObj 40 dx) :: (dx, emptyDict) :: news := .head _
  have m2 : (dx, emptyDict) ∈ (x, instObj 40 dx) :: (dx, emptyDict) :: news := .tail _ (.head _)
  have nx : ∀ p ∈ news, p.1 ≠ x := fun p hp => Nat.ne_of_lt (Nat.lt_trans (l1 p hp) l2)
  k_extra "gg"
  rename_i h2 led2 F2 N2 c2 k2
  have hn2 : ∀ p ∈ news, p ∈ led2 := fun p hp => k2 p (.tail _ (.tail _ hp)) (nx p hp)
  have hd2 := k2 _ m2 (Nat.ne_of_lt l2)
  clear F N k2 m1 m2
  refine ⟨?_⟩
  k_extra "gg"
  rename_i h3 led3 F3 N3 c3 k3
  have hn3 : ∀ p ∈ news, p ∈ led3 := fun p hp => k3 p (hn2 p hp) (nx p hp)
  have hd3 := k3 _ hd2 (Nat.ne_of_lt l2)
  clear F2 N2 k3 c2 hd2 hn2
  refine ⟨?_⟩
  k_extra "gg"
  rename_i sa h4 F4 N4 lt4
  have hxs : x < sa := lt4 _ c3
  have c4 : (x, _) ∈ (sa, listOf ([] : List Value).toArray 0) :: led3 := .tail _ c3
  have hd4 : (dx, _) ∈ (sa, listOf ([] : List Value).toArray 0) :: led3 := .tail _ hd3
  k_extra "gg"
  rename_i h5 led5 F5 N5 c5 k5
  have hn5 : ∀ p ∈ news, p ∈ led5 := fun p hp => k5 p (.tail _ (hn3 p hp)) (nx p hp)
  have hd5 := k5 _ hd4 (Nat.ne_of_lt l2)
  have hs5 := k5 _ (.head _) (Nat.ne_of_gt hxs)
  refine ⟨?_⟩
  k_extra "gg"
  exact ⟨_, _, _, _, rfl, F5, N5, rfl, ⟨⟨a, 0, []⟩, x, dx, sa, k, _, [], 0⟩, rfl, rfl, rfl, ⟨c5, hd5, hs5, .nil⟩, hn5, hxs⟩

theorem fresh_P33b_getinfo : True := by
  w_top off
  trivial
inductive GetP (w : World) (κ : Bool) (Φ : NodeFn) (a : Nat) (S : Addr) (di : Addr) (D : Addr) (cs : List CE) (vR : Value) (p : Int) (f : Int) (news : Led) (r : Value) (led : Led) : Prop
  | mk  (cs' : List CE) (c : CE)
      (e1 : c ∈ cs') (e2 : c.e.a = a) (e3 : r = .ref c.ia) (e4 : SrtIn w κ Φ led S di D cs' vR p f) (e5 : cs'.map (·.e) = ensure (cs.map (·.e)) a) (e6 : (∀ q ∈ news, q.1 ≠ D → q ∈ led)) (e7 : (∃ ds, cs' = cs ++ ds ∧ ds.length ≤ 1 ∧ ∀ d ∈ ds, ∀ q ∈ news, q.1 < d.ia ∧ q.1 < d.dx ∧ q.1 < d.sa))
theorem getinfo_fn (w : World) (κ : Bool) (Φ : NodeFn) (a : Nat) (k : Tok) (S di D : Addr) (cs : List CE) (vR : Value) (p f : Int) (news : Led) (H : SrtIn w κ Φ news S di D cs vR p f) (hn : cs.length ≤ 100) :
    Fn w 560 3600 80 ⟨[.ref S, txt κ (Φ.f a) k], []⟩ news (GetP w κ Φ a S di D cs vR p f news) := by
  unfold Fn; k_fill; show Fn _ _ _ _ _ _ _
  refine Fn.intro (binds := [(Str.ofString "self", .ref S), (Str.ofString "node", txt κ (Φ.f a) k)]) (by k_is) (by k_is) rfl (fun s _ => BindsTo.of_eq rfl) (locs rfl) (by decide) rfl rfl rfl ?_
  intro loose mean mg mb gd env₀ outer base g L h₁ s tk B F X N T hlt
  refine wp_hide fun Qf hQf => ?_
  have H' := H
  refine hideG fun G9 hG9 => ?_
  obtain ⟨hS, ⟨kp, kf, hat⟩, low, hD, hents, hap, hdD, hdxs⟩ := H'
  refine hG9.out ?_
  clear hG9 G9
  cases hva : valueAt (cd cs) a with
  | some v =>
    refine hideG fun G9 hG9 => ?_
    obtain ⟨c, hc, hca, rfl⟩ := va_some hva
    refine hG9.out ?_
    clear hG9 G9
    k_extra "gg"
    rename Fr _ _ _ _ => F2
    rename News _ _ _ _ => N2
    refine hQf.out _ _ ?_
    refine ⟨_, _, _, _, rfl, F2, N2, cs, c, hc, hca, rfl, H, ?_, fun q hq _ => hq, [], by simp, Nat.zero_le _, fun d hd => nomatch hd⟩
    unfold ensure
    rw [if_pos]
    exact List.any_eq_true.mpr ⟨c.e, List.mem_map.mpr ⟨c, hc, rfl⟩, decide_eq_true hca⟩
  | none =>
    k_extra "gg"
    refine Fn.make (by k_is) (by k_is) (by k_is) (fun x dx l1 l2 => info_init w κ Φ a k x dx news l1 l2) rfl (by k_asm) (by k_asm) (by k_asm) (by k_asm) (by k_asm) rfl rfl (Nat.le_of_ble_eq_true rfl) (Nat.le_of_ble_eq_true rfl) ?_
    rintro x dx h2 tk2 led2 F2 N2 l1 l2 hp9z
    refine hideG fun G9 hG9 => ?_
    obtain ⟨c, hce, rfl, rfl, hE, hn2, hsa⟩ := hp9z
    refine hG9.out ?_
    clear hG9 G9
    have H2 := H.sub hn2
    have hat2 := hat.sub hn2
    have hD2 := H2.dict
    have hS2 := hn2 _ hS
    k_extra "gg"
    clear hD hat hS
    refine setD F2 N2 hD2 (by simp; omega) ?_
    intro h3 led3 tk3 F3 N3 hD3 k3
    have hnone := va_none.mp hva
    have hst : stored (cd cs) a (Value.ref c.ia) = cd (cs ++ [c]) := by
      unfold stored
      rw [if_neg]
      · simp [cd, hce]
      · intro q
        obtain ⟨kv, hkv, e⟩ := List.any_eq_true.mp q
        obtain ⟨c', hc', rfl⟩ := List.mem_map.mp hkv
        exact hnone c' hc' (by simpa using e)
    rw [hst] at hD3
    have hDdx : ∀ q ∈ news, q.1 ≠ c.dx := fun q hq => Nat.ne_of_lt (l1 q hq)
    have hents2 := H2.ents
    have H3 : SrtIn w κ Φ led3 S di D (cs ++ [c]) vR p f := H2.setDict N2 k3 hD3 (fun c' hc' => by
      rcases List.mem_append.mp hc' with q | q
      · exact H2.ents c' q
      · rw [List.mem_singleton.mp q]; exact hE) (by
      rw [List.map_append, List.nodup_append]
      refine ⟨hap, by simp, fun x hx y hy e => ?_⟩
      obtain ⟨c', hc', rfl⟩ := List.mem_map.mp hx
      have hy : y = c.sa := by simpa using hy
      subst hy
      exact Nat.ne_of_lt (Nat.lt_trans (l1 _ (hents c' hc').succ) (Nat.lt_trans l2 hsa)) e) (fun c' hc' => by
      rcases List.mem_append.mp hc' with q | q
      · exact hdxs c' q
      · rw [List.mem_singleton.mp q]
        obtain ⟨o, m, _⟩ := H.dict
        refine hideG fun G9 hG9 => ?_
        obtain ⟨_, _, o2, m2, _⟩ := H.attr
        refine hG9.out ?_
        clear hG9 G9
        exact ⟨(hDdx _ m).symm, (hDdx _ m2).symm⟩)
    k_extra "gg"
    rename Fr _ _ _ _ => F4
    rename News _ _ _ _ => N4
    refine hQf.out _ _ ?_
    refine ⟨_, _, _, _, rfl, F4, N4, cs ++ [c], c, List.mem_append_right _ (.head _), by rw [hce], rfl, H3, ?_, fun q hq hne => k3 q (hn2 q hq) hne, [c], rfl, Nat.le_refl _, fun d hd q hq => ?_⟩
    · unfold ensure
      rw [if_neg, List.map_append]
      · simp [hce]
      · intro q
        refine hideG fun G9 hG9 => ?_
        obtain ⟨e, he, e2⟩ := List.any_eq_true.mp q
        obtain ⟨c', hc', rfl⟩ := List.mem_map.mp he
        refine hG9.out ?_
        clear hG9 G9
        exact hnone c' hc' (of_decide_eq_true e2)
    · rw [List.mem_singleton.mp hd]
      exact ⟨Nat.lt_trans (l1 q hq) l2, l1 q hq, Nat.lt_trans (l1 q hq) (Nat.lt_trans l2 hsa)⟩

theorem fresh_P34_upd : True := by
  w_top off
  trivial
noncomputable abbrev IsTIt (t : Addr) (i : Nat) (o : Obj) : Prop := o.cls = .type "tuple_iterator" ∧ o.data = .fields #[.ref t, .int (i : Nat) 0]
section
variable {prog : Program} {w : World} {A : Around} {E : Value → Shared → Prop} {s : Shared} {h₀ : Heap} {L t I : Addr} {m : Str → Option Value} {led : Led}
theorem iter_T {its : List Value} {Q : Value → Shared → Prop} (F : Fr h₀ L s.heap m) (N : News h₀ L s.heap led) (hm : (t, tupO its) ∈ led)
    (h : ∀ I h' o, Fr h₀ L h' m → News h₀ L h' ((I, o) :: led) → IsTIt t 0 o → (∀ p ∈ led, p.1 < I) → Q (.ref I) { s with heap := h' }) : wpAny (model prog w) A (pyIter (.ref t)) Q E s := by
  refine wpAny_pyIter_tuple (items := its.toArray) ⟨_, (N _ hm).1, rfl, _, rfl⟩ ?_
  refine h s.heap.objs.size _ { cls := .type "tuple_iterator", data := .fields #[.ref t, .int 0 0] } (F.push _) (fun p hp => ?_) ⟨rfl, rfl⟩ (fun p hp => Heap.lt_size (N p hp).1)
  rcases List.mem_cons.mp hp with rfl | hp
  · exact ⟨Heap.get?_push_size _ rfl, Nat.ne_of_gt F.ns.lt, next_is_new F⟩
  · exact ⟨Heap.get?_push_of_some _ (N p hp).1, (N p hp).2⟩
theorem next_T {its : List Value} {i : Nat} {Q : Option Value → Shared → Prop} (hh : A.handled = none) (F : Fr h₀ L s.heap m) (N : News h₀ L s.heap led) (hI : Ob led I (IsTIt t i)) (hm : (t, tupO its) ∈ led)
    (hs : ∀ v h' led', its[i]? = some v → Fr h₀ L h' m → News h₀ L h' led' → Ob led' I (IsTIt t (i + 1)) → (∀ p ∈ led, p.1 ≠ I → p ∈ led') → Q (some v) { s with heap := h' })
    (he : ∀ h' led', its.length ≤ i → Fr h₀ L h' m → News h₀ L h' led' → (∀ p ∈ led, p.1 ≠ I → p ∈ led') → Q none { s with heap := h' }) : wpAny (model prog w) A (pyNext (.ref I)) Q E s := by
  obtain ⟨oI, hI, hc, hd⟩ := hI
  have hit : s.heap.IsTupleIter I t i := ⟨oI, (N _ hI).1, hc, hd⟩
  have hl : s.heap.IsTuple t its.toArray := ⟨_, (N _ hm).1, rfl, _, rfl⟩
  cases hx : its[i]? with
  | some v =>
    refine wpAny_pyNext_tuple_item hit hl (by simpa using hx) fun h' hit' hb => ?_
    obtain ⟨o', ho', hc', hd'⟩ := hit'
    exact hs v h' _ hx (fr_same F N hI hb) (news_same N hI hb ho') ⟨o', mem_setL_self hI, hc', hd'⟩ fun p hp hne => mem_setL_ne hne hp
  | none =>
    refine wpAny_pyNext_tuple_end hh hit hl (by simpa using hx) fun h' hb => ?_
    exact he h' _ (by simpa using hx) (fr_less F N hI fun b o hne e => hb b o hne e) (news_less N fun b o hne e => hb b o hne e) fun p hp hne => mem_less hp hne
theorem lenT {its : List Value} {Q : Value → Shared → Prop} (N : News h₀ L s.heap led) (hm : (t, tupO its) ∈ led) (hsz : its.length ≤ 1000000) (h : ∀ k tk, Q (.int its.length k) { s with toks := tk }) : wpAny (model prog w) A (call (.builtin "len") [.ref t]) Q E s := by
  refine len_tuple ⟨_, (N _ hm).1, rfl, _, rfl⟩ ?_ ?_
  · rw [List.size_toArray]; omega
  · rw [List.size_toArray]; exact h _ _
end
/-- numbers of predecessors, successors: what a change at one node makes of all -/
noncomputable def atNode (es : List Ent) (a : Nat) (g : Ent → Ent) : List Ent := es.map fun e => if e.a = a then g e else e
noncomputable def bump (n : Int) (e : Ent) : Ent := { e with np := e.np + n }
noncomputable def link (b : Nat) (e : Ent) : Ent := { e with su := e.su ++ [b] }
section
variable {w : World} {κ : Bool} {Φ : NodeFn} {led led' : Led} {S di D : Addr} {cs : List CE} {vR : Value} {p f : Int} {h₀ h : Heap} {L : Addr}
theorem SrtIn.keys (H : SrtIn w κ Φ led S di D cs vR p f) : (cs.map (·.e.a)).Nodup := by
  obtain ⟨o, m, es, ep, _, _, _, _, hn⟩ := H.dict
  rw [List.map_map] at hn; exact hn
theorem atNode_split {l r : List CE} {c c' : CE} {g : Ent → Ent} (hn : ((l ++ c :: r).map (·.e.a)).Nodup) (hg : c'.e = g c.e) : (l ++ c' :: r).map (·.e) = atNode ((l ++ c :: r).map (·.e)) c.e.a g := by
  unfold atNode
  rw [List.map_append, List.map_cons, List.map_append, List.map_cons, List.map_append, List.map_cons, if_pos rfl, hg]
  rw [List.map_append, List.map_cons, List.nodup_append] at hn
  obtain ⟨_, hn2, hn3⟩ := hn
  have hl : ∀ d ∈ l, d.e.a ≠ c.e.a := fun d hd e => hn3 d.e.a (List.mem_map.mpr ⟨d, hd, rfl⟩) c.e.a (.head _) e
  have hr : ∀ d ∈ r, d.e.a ≠ c.e.a := fun d hd e => (List.nodup_cons.mp hn2).1 (List.mem_map.mpr ⟨d, hd, e⟩)
  have e1 : (l.map (·.e)).map (fun e => if e.a = c.e.a then g e else e) = l.map (·.e) := by
    rw [List.map_map]; exact List.map_congr_left fun d hd => if_neg (hl d hd)
  have e2 : (r.map (·.e)).map (fun e => if e.a = c.e.a then g e else e) = r.map (·.e) := by
    rw [List.map_map]; exact List.map_congr_left fun d hd => if_neg (hr d hd)
  rw [e1, e2]
theorem info_ne {c d : CE} (N : News h₀ L h led) (hc : EntIn κ Φ led c) (hd : EntIn κ Φ led d) (hn : d.e.a ≠ c.e.a) : d.ia ≠ c.ia := by
  refine news_ne N hd.info hc.info fun e => ?_
  have h1 := congrArg (fun o : Obj => o.slots[0]?) e
  have h2 : some (some (txt κ (Φ.f d.e.a) d.kn)) = some (some (txt κ (Φ.f c.e.a) c.kn)) := h1
  injection h2 with h2
  injection h2 with h2
  exact hn (Φ.inj _ _ (txt_inj (Φ.asc _) (Φ.asc _) h2))
theorem split_ne {l r : List CE} {c d : CE} (hn : ((l ++ c :: r).map (·.e.a)).Nodup) (hd : d ∈ l ∨ d ∈ r) : d.e.a ≠ c.e.a := by
  rw [List.map_append, List.map_cons, List.nodup_append] at hn
  obtain ⟨_, hn2, hn3⟩ := hn
  rcases hd with hd | hd
  · exact fun e => hn3 d.e.a (List.mem_map.mpr ⟨d, hd, rfl⟩) c.e.a (.head _) e
  · exact fun e => (List.nodup_cons.mp hn2).1 (List.mem_map.mpr ⟨d, hd, e⟩)
/-- one record's own fields are the only thing that changed -/
theorem SrtIn.setInfo {l r : List CE} {c c' : CE} (H : SrtIn w κ Φ led S di D (l ++ c :: r) vR p f) (N : News h₀ L h led) (hk : ∀ q ∈ led, q.1 ≠ c.ia → q ∈ led') (hi : (c.ia, infoObj κ Φ c') ∈ led')
    (ea : c'.e.a = c.e.a) (es : c'.e.su = c.e.su) (ei : c'.ia = c.ia) (ed : c'.dx = c.dx) (eS : c'.sa = c.sa) (eu : c'.us = c.us) (ec : c'.c = c.c) : SrtIn w κ Φ led' S di D (l ++ c' :: r) vR p f := by
  have hc := H.ents c (List.mem_append_right _ (.head _))
  have listne : ∀ {a : Addr} {us : Array Value} {n : Nat}, (a, listOf us n) ∈ led → a ≠ c.ia := fun hm => news_ne N hm hc.info fun e => absurd (congrArg Obj.cls e) (by show Value.type "list" ≠ Value.ref 40; exact fun h => by cases h)
  have dictne : ∀ {a : Addr} {o : Obj}, (a, o) ∈ led → o.cls = .type "dict" → a ≠ c.ia := fun hm hc' => news_ne N hm hc.info fun e => by rw [e] at hc'; cases hc'
  have other : ∀ d ∈ l ++ r, EntIn κ Φ led' d := fun d hd => by
    have hd' : d ∈ l ∨ d ∈ r := List.mem_append.mp hd
    have hdm : d ∈ l ++ c :: r := by rcases hd' with q | q; exact List.mem_append_left _ q; exact List.mem_append_right _ (.tail _ q)
    have hE := H.ents d hdm
    exact ⟨hk _ hE.info (info_ne N hc hE (split_ne H.keys hd')), hk _ hE.dict (dictne hE.dict rfl), hk _ hE.succ (listne hE.succ), hE.are⟩
  exact {
    inst := hk _ H.inst (news_ne N H.inst hc.info fun e => by have := congrArg Obj.cls e; cases this)
    attr := let ⟨kp, kf, o, m, q⟩ := H.attr; ⟨kp, kf, o, hk _ m (dictne m (attrs_cls q)), q⟩
    low := H.low
    dict := by
      obtain ⟨o, m, q⟩ := H.dict
      refine ⟨o, hk _ m (dictne m (isD_cls q)), ?_⟩
      have : (l ++ c' :: r).map (fun c => (c.e.a, Value.ref c.ia)) = (l ++ c :: r).map (fun c => (c.e.a, Value.ref c.ia)) := by simp [ea, ei]
      rw [this]; exact q
    ents := fun d hd => by
      rcases List.mem_append.mp hd with q | q
      · exact other d (List.mem_append_left _ q)
      rcases List.mem_cons.mp q with rfl | q
      · exact ⟨ei ▸ hi, ed ▸ hk _ hc.dict (dictne hc.dict rfl), by rw [eS, eu, ec]; exact hk _ hc.succ (listne hc.succ), by rw [eu, es]; exact hc.are⟩
      · exact other d (List.mem_append_right _ q)
    apart := by have := H.apart; simp only [List.map_append, List.map_cons] at this ⊢; rw [eS]; exact this
    dD := H.dD
    dxs := fun d hd => by
      rcases List.mem_append.mp hd with q | q
      · exact H.dxs d (List.mem_append_left _ q)
      rcases List.mem_cons.mp q with rfl | q
      · rw [ed]; exact H.dxs c (List.mem_append_right _ (.head _))
      · exact H.dxs d (List.mem_append_right _ (.tail _ q)) }
/-- one record's list of successors is the only thing that changed -/
theorem SrtIn.setSucc {l r : List CE} {c c' : CE} (H : SrtIn w κ Φ led S di D (l ++ c :: r) vR p f) (N : News h₀ L h led) (hk : ∀ q ∈ led, q.1 ≠ c.sa → q ∈ led') (hs : (c.sa, listOf c'.us.toArray c'.c) ∈ led') (hus : NodesAre κ Φ c'.us c'.e.su)
    (ea : c'.e.a = c.e.a) (en : c'.e.np = c.e.np) (ei : c'.ia = c.ia) (ed : c'.dx = c.dx) (eS : c'.sa = c.sa) (ek : c'.kn = c.kn) (ep : c'.kp = c.kp) : SrtIn w κ Φ led' S di D (l ++ c' :: r) vR p f := by
  have hc := H.ents c (List.mem_append_right _ (.head _))
  have ne : ∀ {a : Addr} {o : Obj}, (a, o) ∈ led → o.cls ≠ .type "list" → a ≠ c.sa := fun hm hc' => news_ne N hm hc.succ fun e => hc' (by rw [e])
  have hap := H.apart
  rw [List.map_append, List.map_cons, List.nodup_append] at hap
  have other : ∀ d, d ∈ l ∨ d ∈ r → EntIn κ Φ led' d := fun d hd' => by
    have hdm : d ∈ l ++ c :: r := by rcases hd' with q | q; exact List.mem_append_left _ q; exact List.mem_append_right _ (.tail _ q)
    have hE := H.ents d hdm
    have hne : d.sa ≠ c.sa := by
      rcases hd' with q | q
      · exact fun e => hap.2.2 d.sa (List.mem_map.mpr ⟨d, q, rfl⟩) c.sa (.head _) e
      · exact fun e => (List.nodup_cons.mp hap.2.1).1 (List.mem_map.mpr ⟨d, q, e⟩)
    exact ⟨hk _ hE.info (ne hE.info (by show Value.ref 40 ≠ _; exact cls_ref_ne)), hk _ hE.dict (ne hE.dict (by show Value.type "dict" ≠ Value.type "list"; decide)), hk _ hE.succ hne, hE.are⟩
  exact {
    inst := hk _ H.inst (ne H.inst (by show Value.ref 137 ≠ _; exact cls_ref_ne))
    attr := let ⟨kp, kf, o, m, q⟩ := H.attr; ⟨kp, kf, o, hk _ m (ne m (by rw [attrs_cls q]; decide)), q⟩
    low := H.low
    dict := by
      obtain ⟨o, m, q⟩ := H.dict
      refine ⟨o, hk _ m (ne m (by rw [isD_cls q]; decide)), ?_⟩
      have : (l ++ c' :: r).map (fun c => (c.e.a, Value.ref c.ia)) = (l ++ c :: r).map (fun c => (c.e.a, Value.ref c.ia)) := by simp [ea, ei]
      rw [this]; exact q
    ents := fun d hd => by
      rcases List.mem_append.mp hd with q | q
      · exact other d (.inl q)
      rcases List.mem_cons.mp q with rfl | q
      · refine ⟨?_, ed ▸ hk _ hc.dict (ne hc.dict (by show Value.type "dict" ≠ Value.type "list"; decide)), by rw [eS]; exact hs, hus⟩
        have e : infoObj κ Φ d = infoObj κ Φ c := by unfold infoObj; rw [ea, en, ed, eS, ek, ep]
        rw [e, ei]; exact hk _ hc.info (ne hc.info (by show Value.ref 40 ≠ _; exact cls_ref_ne))
      · exact other d (.inr q)
    apart := by have := H.apart; simp only [List.map_append, List.map_cons] at this ⊢; rw [eS]; exact this
    dD := H.dD
    dxs := fun d hd => by
      rcases List.mem_append.mp hd with q | q
      · exact H.dxs d (List.mem_append_left _ q)
      rcases List.mem_cons.mp q with rfl | q
      · rw [ed]; exact H.dxs c (List.mem_append_right _ (.head _))
      · exact H.dxs d (List.mem_append_right _ (.tail _ q)) }
end
/-- what does not belong to the sorter stays, and does not come to belong to it -/
noncomputable def Kept (S di D : Addr) (cs cs' : List CE) (led led' : Led) : Prop := ∀ q ∈ led, ¬ Adr S di D cs q.1 → q ∈ led' ∧ ¬ Adr S di D cs' q.1
section
variable {led led' led'' : Led} {S di D : Addr} {cs cs' cs'' : List CE}
theorem Kept.refl : Kept S di D cs cs led led := fun _ hq hn => ⟨hq, hn⟩
theorem Kept.trans (a : Kept S di D cs cs' led led') (b : Kept S di D cs' cs'' led' led'') : Kept S di D cs cs'' led led'' := fun q hq hn => b q (a q hq hn).1 (a q hq hn).2
theorem kept_get {ds : List CE} (hk : ∀ q ∈ led, q.1 ≠ D → q ∈ led') (hds : cs' = cs ++ ds) (hdf : ∀ d ∈ ds, ∀ q ∈ led, q.1 < d.ia ∧ q.1 < d.dx ∧ q.1 < d.sa) : Kept S di D cs cs' led led' := fun q hq hn => by
  refine ⟨hk q hq fun e => hn (.inr (.inr (.inl e))), fun h => ?_⟩
  rcases h with h | h | h | ⟨c, hc, h⟩
  · exact hn (.inl h)
  · exact hn (.inr (.inl h))
  · exact hn (.inr (.inr (.inl h)))
  · rw [hds] at hc
    rcases List.mem_append.mp hc with hc | hc
    · exact hn (.inr (.inr (.inr ⟨c, hc, h⟩)))
    · obtain ⟨h1, h2, h3⟩ := hdf c hc q hq
      rcases h with h | h | h
      · exact Nat.ne_of_lt h1 h
      · exact Nat.ne_of_lt h2 h
      · exact Nat.ne_of_lt h3 h
theorem kept_upd {X : Addr} (hk : ∀ q ∈ led, q.1 ≠ X → q ∈ led') (hX : Adr S di D cs X) (he : ∀ a, Adr S di D cs' a → Adr S di D cs a) : Kept S di D cs cs' led led' := fun q hq hn =>
  ⟨hk q hq fun e => hn (e ▸ hX), fun h => hn (he _ h)⟩
theorem adr_split {l r : List CE} {c c' : CE} (ei : c'.ia = c.ia) (ed : c'.dx = c.dx) (eS : c'.sa = c.sa) (a : Addr) (h : Adr S di D (l ++ c' :: r) a) : Adr S di D (l ++ c :: r) a := by
  rcases h with h | h | h | ⟨d, hd, h⟩
  · exact .inl h
  · exact .inr (.inl h)
  · exact .inr (.inr (.inl h))
  · rcases List.mem_append.mp hd with q | q
    · exact .inr (.inr (.inr ⟨d, List.mem_append_left _ q, h⟩))
    rcases List.mem_cons.mp q with rfl | q
    · rw [ei, ed, eS] at h
      exact .inr (.inr (.inr ⟨c, List.mem_append_right _ (.head _), h⟩))
    · exact .inr (.inr (.inr ⟨d, List.mem_append_right _ (.tail _ q), h⟩))
theorem adr_fresh {w : World} {κ : Bool} {Φ : NodeFn} {vR : Value} {p f : Int} {X : Addr} (H : SrtIn w κ Φ led S di D cs vR p f) (hX : ∀ q ∈ led, q.1 ≠ X) : ¬ Adr S di D cs X := fun h => by
  obtain ⟨o, m⟩ := H.adr_in h
  exact hX _ m rfl
end
theorem SrtIn.npAt {w : World} {κ : Bool} {Φ : NodeFn} {vR : Value} {p f : Int} {h₀ h : Heap} {L : Addr} {l r : List CE} {c : CE} {np : Int} {kp : Tok} (H : SrtIn w κ Φ led S di D (l ++ c :: r) vR p f) (N : News h₀ L h led) (hk : ∀ q ∈ led, q.1 ≠ c.ia → q ∈ led')
    (hi : (c.ia, (⟨.ref 40, some c.dx, .plain, #[some (txt κ (Φ.f c.e.a) c.kn), some (.int np kp), some (.ref c.sa)]⟩ : Obj)) ∈ led') :
    ∃ c' : CE, SrtIn w κ Φ led' S di D (l ++ c' :: r) vR p f ∧ c'.e = { c.e with np := np } ∧ Kept S di D (l ++ c :: r) (l ++ c' :: r) led led' :=
  ⟨{ c with e := { c.e with np := np }, kp := kp }, H.setInfo N hk hi rfl rfl rfl rfl rfl rfl rfl, rfl,
    kept_upd hk (.inr (.inr (.inr ⟨c, List.mem_append_right _ (.head _), .inl rfl⟩))) (adr_split rfl rfl rfl)⟩
theorem SrtIn.suAt {w : World} {κ : Bool} {Φ : NodeFn} {vR : Value} {p f : Int} {h₀ h : Heap} {L : Addr} {l r : List CE} {c : CE} {us : List Value} {n : Nat} {su : List Nat} (H : SrtIn w κ Φ led S di D (l ++ c :: r) vR p f) (N : News h₀ L h led) (hk : ∀ q ∈ led, q.1 ≠ c.sa → q ∈ led')
    (hi : (c.sa, listOf us.toArray n) ∈ led') (hu : NodesAre κ Φ us su) :
    ∃ c' : CE, SrtIn w κ Φ led' S di D (l ++ c' :: r) vR p f ∧ c'.e = { c.e with su := su } ∧ Kept S di D (l ++ c :: r) (l ++ c' :: r) led led' :=
  ⟨{ c with e := { c.e with su := su }, us := us, c := n }, H.setSucc N hk hi hu rfl rfl rfl rfl rfl rfl rfl, rfl,
    kept_upd hk (.inr (.inr (.inr ⟨c, List.mem_append_right _ (.head _), .inr (.inr rfl)⟩))) (adr_split rfl rfl rfl)⟩

theorem fresh_P35_add : True := by
  w_top off
  trivial
noncomputable def addE (es : List Ent) (a : Nat) (ps : List Nat) : List Ent := ps.foldl (fun es b => atNode (ensure es b) b (link a)) (atNode (ensure es a) a (bump ps.length))
theorem lw29_all : True := by
  k_with "L call builtin:len" => (k_here; (with_reducible show wpAny _ _ (call _ [Value.ref _]) _ _ _); k_dflt (refine' lenT ?k2 ?k3 ?k4 ?_; (case k2 => k_asm); (case k3 => k_mem); (case k4 => first | omega | exact Nat.le_of_ble_eq_true rfl)); intro _ _)
  trivial
noncomputable def SuLe (es : List Ent) (M : Nat) : Prop := ∀ e ∈ es, e.su.length ≤ M
theorem SuLe.ensure {es : List Ent} {M a : Nat} (h : SuLe es M) : SuLe (ensure es a) M := by
  unfold Mine.ensure
  split
  · exact h
  · intro e he
    rcases List.mem_append.mp he with q | q
    · exact h e q
    · rw [List.mem_singleton.mp q]; exact Nat.zero_le _
theorem SuLe.bump {es : List Ent} {M a : Nat} {n : Int} (h : SuLe es M) : SuLe (atNode es a (bump n)) M := fun e he => by
  refine hideG fun G9 hG9 => ?_
  obtain ⟨e0, h0, rfl⟩ := List.mem_map.mp he
  refine hG9.out ?_
  clear hG9 G9
  by_cases q : e0.a = a
  · rw [if_pos q]; exact h e0 h0
  · rw [if_neg q]; exact h e0 h0
theorem SuLe.link {es : List Ent} {M a b : Nat} (h : SuLe es M) : SuLe (atNode es a (link b)) (M + 1) := fun e he => by
  refine hideG fun G9 hG9 => ?_
  obtain ⟨e0, h0, rfl⟩ := List.mem_map.mp he
  refine hG9.out ?_
  clear hG9 G9
  by_cases q : e0.a = a
  · rw [if_pos q]; have := h e0 h0; simp [Mine.link]; omega
  · rw [if_neg q]; exact Nat.le_succ_of_le (h e0 h0)
theorem SuLe.fold {a : Nat} : ∀ (ps : List Nat) {es : List Ent} {M : Nat}, SuLe es M → SuLe (ps.foldl (fun es b => atNode (Mine.ensure es b) b (Mine.link a)) es) (M + ps.length)
  | [], _, _, h => h
  | b :: ps, es, M, h => by
    have := SuLe.fold (a := a) ps ((h.ensure (a := b)).link (a := b) (b := a))
    rw [List.length_cons, ← Nat.add_assoc, Nat.add_right_comm]; exact this
theorem SuLe.add {es : List Ent} {M a : Nat} {ps : List Nat} (h : SuLe es M) : SuLe (addE es a ps) (M + ps.length) := SuLe.fold ps h.ensure.bump
theorem tit_ne {h₀ h : Heap} {L I a : Addr} {t : Addr} {i : Nat} {o : Obj} {led : Led} (N : News h₀ L h led) (hI : Ob led I (IsTIt t i)) (ha : (a, o) ∈ led) (hc : o.cls ≠ .type "tuple_iterator") : a ≠ I := ob_ne N hI ha fun q => hc q.1
inductive AddI (w : World) (κ : Bool) (Φ : NodeFn) (a : Nat) (k : Tok) (vs : List Value) (ps : List Nat) (S : Addr) (di : Addr) (D : Addr) (V : Addr) (IT : Addr) (cs : List CE) (p : Int) (f : Int) (news : Led) (g : Heap) (L : Addr) (s : Shared) (n' : Nat) (s' : Shared) : Prop
  | mk (i : Nat) (h' : Heap) (tk' : Nat) (m' : Str → Option Value) (led : Led) (cs' : List CE)
      (e1 : n' = vs.length - i) (e2 : i ≤ vs.length) (e3 : s' = { s with heap := h', toks := tk' }) (e4 : Fr g L h' m') (e5 : News g L h' led) (e6 : Ob led IT (IsTIt V i)) (e7 : (V, tupO vs) ∈ led) (e8 : ¬ Adr S di D cs' V) (e9 : ¬ Adr S di D cs' IT) (e10 : SrtIn w κ Φ led S di D cs' .none p f) (e11 : cs'.map (·.e) = (ps.take i).foldl (fun es b => atNode (ensure es b) b (link a)) (atNode (ensure (cs.map (·.e)) a) a (bump ps.length))) (e12 : cs'.length ≤ cs.length + 1 + i) (e13 : Kept S di D cs cs' news led) (e14 : m' (Str.ofString "self") = some (.ref S)) (e15 : m' (Str.ofString "node") = some (txt κ (Φ.f a) k))
theorem add_fn (w : World) (κ : Bool) (Φ : NodeFn) (a : Nat) (k : Tok) (vs : List Value) (ps : List Nat) (S di D : Addr) (cs : List CE) (p f : Int) (news : Led) (hv : NodesAre κ Φ vs ps) (H : SrtIn w κ Φ news S di D cs .none p f) (hn : cs.length + ps.length + 1 ≤ 100) (hp4 : ps.length ≤ 4) (hsu : SuLe (cs.map (·.e)) 1000) :
    Fn w 540 3400 87 ⟨.ref S :: txt κ (Φ.f a) k :: vs, []⟩ news (fun r led => r = .none ∧ ∃ cs', SrtIn w κ Φ led S di D cs' .none p f ∧ cs'.map (·.e) = addE (cs.map (·.e)) a ps ∧ cs'.length ≤ cs.length + 1 + ps.length ∧ Kept S di D cs cs' news led) := by
  unfold Fn; k_fill; show Fn _ _ _ _ _ _ _
  have hvl := hv.length
  have hv4 : vs.length ≤ 4 := by omega
  refine Fn.introV (g₁ := fun V => some [(Str.ofString "self", .ref S), (Str.ofString "node", txt κ (Φ.f a) k), (Str.ofString "predecessors", .ref V)]) (binds := fun V => [(Str.ofString "self", .ref S), (Str.ofString "node", txt κ (Φ.f a) k), (Str.ofString "predecessors", .ref V)]) (vs := vs) (by k_is) (by k_is) rfl rfl (by
      rcases vs with _ | ⟨a0, _ | ⟨a1, _ | ⟨a2, _ | ⟨a3, _ | ⟨a4, vs⟩⟩⟩⟩⟩
      all_goals first | rfl | (simp at hv4)) (fun _ => rfl) (fun _ => locs rfl) (by decide) rfl rfl rfl ?_
  intro loose mean mg mb gd env₀ outer base g V L h₁ s tk B F X N T hlt
  refine wp_hide fun Qf hQf => ?_
  have H1 : SrtIn w κ Φ ((V, tupO vs) :: news) S di D cs .none p f := H.sub fun q hq => .tail _ hq
  have hS1 := H1.inst
  refine hideG fun G9 hG9 => ?_
  obtain ⟨kp, kf, hat1⟩ := H1.attr
  refine hG9.out ?_
  clear hG9 G9
  k_extra "gg"
  refine Fn.use (getinfo_fn w κ Φ a k S di D cs .none p f _ H1 (by omega)) rfl (by k_asm) (by k_asm) (by k_asm) (by k_asm) (by k_asm) rfl rfl (Nat.le_of_ble_eq_true rfl) (Nat.le_of_ble_eq_true rfl) ?_
  rintro v h2 tk2 led2 F2 N2 hp9z
  refine hideG fun G9 hG9 => ?_
  obtain ⟨cs2, c2, hc2, hca2, rfl, H2, he2, hk2, ds, hds, hdl, hdf⟩ := hp9z
  refine hG9.out ?_
  clear hG9 G9
  have hVD : V ≠ D := by
    obtain ⟨o, m, _⟩ := H.dict
    exact Nat.ne_of_gt (hlt _ m)
  have hV2 : (V, tupO vs) ∈ led2 := hk2 _ (.head _) hVD
  have hI2 : (c2.ia, (⟨.ref 40, some c2.dx, .plain, #[some (txt κ (Φ.f c2.e.a) c2.kn), some (.int c2.e.np c2.kp), some (.ref c2.sa)]⟩ : Obj)) ∈ led2 := (H2.ents c2 hc2).info
  have hdx2 := (H2.ents c2 hc2).dict
  have N2b : Box (News g L h2 led2) := ⟨N2⟩
  have hV0 : ¬ Adr S di D cs V := adr_fresh H fun q hq => Nat.ne_of_lt (hlt q hq)
  have K2 : Kept S di D cs cs2 ((V, tupO vs) :: news) led2 := kept_get hk2 hds hdf
  k_extra "gg"
  rename_i h3 led3 F3 N3 c3 k3
  refine hideG fun G9 hG9 => ?_
  obtain ⟨l, r, hlr⟩ := List.append_of_mem hc2
  have hsz2 : (l ++ c2 :: r).length ≤ cs.length + 1 := by rw [← hlr, hds, List.length_append]; omega
  rw [hlr] at H2 K2 he2
  obtain ⟨c3', H3, hce3, K3'⟩ := H2.npAt N2b.out k3 c3
  refine hG9.out ?_
  clear hG9 G9
  have K3 := K2.trans K3'
  have he3 := (atNode_split (g := bump vs.length) H2.keys hce3).trans (by rw [he2, hca2])
  have hV3 := K3 _ (.head _) hV0
  clear N2b hI2 hdx2 c3 k3 H1 hat1 hS1 K3' H2 K2
  refine ⟨?_⟩
  k_extra "gg"
  refine for_at ?_ (fun _ => rfl)
  k_extra "gg"
  refine iter_T F3 N3 hV3.1 ?_
  intro IT h4 oI F4 N4 hIT ltI
  have ltn : ∀ q ∈ news, q.1 ≠ IT := fun q hq => Nat.ne_of_lt (Nat.lt_trans (hlt q hq) (ltI _ hV3.1))
  refine ForAt.introH (AddI w κ Φ a k vs ps S di D V IT cs p f news g L s) ?_ vs.length
    ⟨0, _, _, _, _, _, by omega, Nat.zero_le _, rfl, F4, N4, ⟨oI, .head _, hIT⟩, .tail _ hV3.1, hV3.2, adr_fresh H3 (fun q hq => Nat.ne_of_lt (ltI q hq)), H3.sub fun q hq => .tail _ hq, by rw [he3, hvl]; rfl, by simp at hsz2 ⊢; omega, fun q hq hn => ⟨.tail _ (K3 q (.tail _ hq) hn).1, (K3 q (.tail _ hq) hn).2⟩, rfl, rfl⟩
  clear H3 K3 he3 hce3 hV3 F3 N3 F4 N4 hIT ltI
  intro n' s' Qb hQb hp9z
  refine hideG fun G9 hG9 => ?_
  obtain ⟨i, h', tk', m', led, cs', rfl, hi, rfl, F5, N5, hit, hV5, hVA, hIA, H5, he5, hl5, K5, v1, v2⟩ := hp9z
  refine hG9.out ?_
  clear hG9 G9
  refine next_T rfl F5 N5 hit hV5 ?_ ?_
  · intro v h6 led6 hv6 F6 N6 hit6 k6
    refine hideG fun G9 hG9 => ?_
    obtain ⟨b, kb, rfl, hb⟩ := hv.get hv6
    obtain ⟨hii, _⟩ := List.getElem?_eq_some_iff.mp hv6
    have H6 := H5.keep (led' := led6) fun q hq hA => k6 q hq fun z => hIA (z ▸ hA)
    have hV6 : (V, tupO vs) ∈ led6 := k6 _ hV5 (tit_ne N5 hit hV5 (by show Value.type "tuple" ≠ Value.type "tuple_iterator"; decide))
    have K6 : Kept S di D cs cs' news led6 := fun q hq hn => ⟨k6 q (K5 q hq hn).1 (ltn q hq), (K5 q hq hn).2⟩
    have hS6 := H6.inst
    obtain ⟨kp6, kf6, hat6⟩ := H6.attr
    refine hG9.out ?_
    clear hG9 G9
    clear F5 N5 hit hV5 H5 k6 K5
    k_extra "gg"
    refine Fn.use (getinfo_fn w κ Φ b kb S di D cs' .none p f _ H6 (by omega)) rfl (by k_asm) (by k_asm) (by k_asm) (by k_asm) (by k_asm) rfl rfl (Nat.le_of_ble_eq_true rfl) (Nat.le_of_ble_eq_true rfl) ?_
    rintro v8 h8 tk8 led8 F8 N8 hp9z
    refine hideG fun G9 hG9 => ?_
    obtain ⟨cs8, c8, hc8, hca8, rfl, H8, he8, hk8, ds8, hds8, hdl8, hdf8⟩ := hp9z
    have hV8 : (V, tupO vs) ∈ led8 := hk8 _ hV6 hVD
    have K8' : Kept S di D cs' cs8 led6 led8 := kept_get hk8 hds8 hdf8
    have K8 := K6.trans K8'
    have hVA8 := (K8' _ hV6 hVA).2
    have hit8 : Ob led8 IT (IsTIt V (i + 1)) := let ⟨o, m, q⟩ := hit6; ⟨o, (K8' _ m hIA).1, q⟩
    have hIA8 : ¬ Adr S di D cs8 IT := let ⟨o, m, q⟩ := hit6; (K8' _ m hIA).2
    have hl8 : cs8.length ≤ cs.length + 1 + (i + 1) := by rw [hds8, List.length_append]; omega
    obtain ⟨l8, r8, hlr8⟩ := List.append_of_mem hc8
    refine hG9.out ?_
    clear hG9 G9
    subst hlr8
    have hE8 := H8.ents c8 hc8
    have hi8 : (c8.ia, (⟨.ref 40, some c8.dx, .plain, #[some (txt κ (Φ.f c8.e.a) c8.kn), some (.int c8.e.np c8.kp), some (.ref c8.sa)]⟩ : Obj)) ∈ led8 := hE8.info
    have hdx8 := hE8.dict
    have hs8 := hE8.succ
    have hu8 : c8.us.length ≤ 1000000 := by
      have h1 : SuLe ((l8 ++ c8 :: r8).map (·.e)) (1000 + (ps.take i).length) := by
        rw [he8, he5]; exact (SuLe.fold _ hsu.ensure.bump).ensure
      have h2 := h1 c8.e (List.mem_map.mpr ⟨c8, hc8, rfl⟩)
      have h3 := hE8.are.length
      rw [List.length_take] at h2
      omega
    have N8b : Box (News g L h8 led8) := ⟨N8⟩
    clear hat6 hS6 H6 K6 hV6 hit6 K8' hk8
    k_extra "gg"
    rename_i h9 F9 N9
    refine hideG fun G9 hG9 => ?_
    obtain ⟨c9, H9, hce9, K9'⟩ := H8.suAt (led' := setL led8 c8.sa (listOf (c8.us ++ [txt κ (Φ.f a) k]).toArray (c8.c + 1))) N8b.out (fun q hq hne => mem_setL_ne hne hq) (mem_setL_self hs8) (hE8.are.app (.cons .nil))
    refine hG9.out ?_
    clear hG9 G9
    have K9 := K8.trans K9'
    refine hQb.next _ ⟨vs.length - (i + 1), by omega, i + 1, _, _, _, _, l8 ++ c9 :: r8, rfl, hii, rfl, F9, N9, ?_, (K9' _ hV8 hVA8).1, (K9' _ hV8 hVA8).2, ?_, H9, ?_, by simp at hl8 ⊢; omega, K9, v1, v2⟩
    ·
      obtain ⟨o, m, q⟩ := hit8; exact ⟨o, (K9' _ m hIA8).1, q⟩
    ·
      obtain ⟨o, m, q⟩ := hit8; exact (K9' _ m hIA8).2
    · rw [take_snoc hb, List.foldl_append, ← he5]
      have := atNode_split (g := link a) H8.keys hce9
      rw [this, he8, hca8]; rfl
  · intro h6 led6 hv6 F6 N6 k6
    have hei : i = vs.length := by omega
    subst hei
    k_extra "gg"
    have H6 := H5.keep (led' := led6) fun q hq hA => k6 q hq fun z => hIA (z ▸ hA)
    refine hQf.out _ _ ?_
    refine ⟨_, _, _, _, rfl, F6, N6, rfl, cs', H6, ?_, by omega, fun q hq hn => ⟨k6 q (K5 q hq hn).1 (ltn q hq), (K5 q hq hn).2⟩⟩
    rw [he5, hvl, List.take_length]; rfl

theorem fresh_P36_init : True := by
  w_top off
  trivial
noncomputable def IsAttrsN (b : Nat) (am : Str → Option Value) (o : Obj) : Prop := ∃ es n, o = dictOf es n ∧ Attrs es am ∧ es.length ≤ b
theorem attrs0 : IsAttrsN 0 (fun _ => none) emptyDict := ⟨[], 0, rfl, Attrs.nil, Nat.le_refl _⟩
section
variable {prog : Program} {w : World} {A : Around} {E : Value → Shared → Prop} {s : Shared} {K : Frag} {x C dx L : Addr} {h₀ : Heap} {m : Str → Option Value} {led : Led} {name : Str} {v : Value} {am : Str → Option Value} {b : Nat}
theorem setAN {Q : Unit → Shared → Prop} (F : Fr h₀ L s.heap m) (N : News h₀ L s.heap led) (hx : (x, instObj C dx) ∈ led) (hd : Ob led dx (IsAttrsN b am)) (hb : b ≤ 90) (X₀ : K.In h₀)
    (hs : findIn K (.ref C) "__setattr__" = some (some (.builtin "object.__setattr__"))) (hp : plainOver K C = true) (ht : takerIn K C name = some none) (hh : hasDictIn K C = true)
    (h : ∀ h' led', Fr h₀ L h' m → News h₀ L h' led' → Ob led' dx (IsAttrsN (b + 1) fun y => if y = name then some v else am y) → (∀ p ∈ led, p.1 ≠ dx → p ∈ led') → Q () { s with heap := h', toks := s.toks + 2 }) : wpAny (model prog w) A (setAttr (.ref x) name v) Q E s := by
  refine hideG fun G9 hG9 => ?_
  obtain ⟨o, hm, es, n, rfl, hat, hz⟩ := hd
  refine hG9.out ?_
  clear hG9 G9
  have hl := putL_len name (PyData.keyHash w.params name) (.str name (s.toks + 1)) v es
  refine set_dict F X₀ (news_dd N) (InstAt.of_news N hx hm) rfl hs hp ht hh (by rw [hat.get]; rfl) rfl (upd_of (nodup_dd _) ((mem_dd N _).mpr hm)) (by omega) fun h' F' N' => ?_
  exact h h' _ F' (news_setL_dd N N') ⟨_, mem_setL_self hm, _, _, rfl, hat.put name _ _ v, by omega⟩ fun p hp hne => mem_setL_ne hne hp
end
theorem lw30_all : True := by
  k_with "L setAttr ref" => (k_here; k_dflt (refine' setAN ?k1 ?k2 ?k3 ?k4 ?kb ?k5 ?k6 ?k7 ?k8 ?k9 ?_; (case k1 => k_asm); (case k2 => k_asm); (case k3 => assumption); (case k4 => assumption); (case kb => omega); (case k5 => k_asm); (case k6 => k_is); (case k7 => k_is); (case k8 => k_is); (case k9 => k_is)); intro _ _ _ _ _ _; refine Box.out ?_)
  trivial
theorem sam_of (D : Addr) (vR : Value) (p f : Int) (kp kf : Tok) : (fun y => if y = Str.ofString "_nfinished" then some (Value.int f kf) else if y = Str.ofString "_npassedout" then some (Value.int p kp) else if y = Str.ofString "_ready_nodes" then some vR else if y = Str.ofString "_node2info" then some (Value.ref D) else none) = sam D vR p f kp kf := by
  funext y
  unfold sam
  by_cases h1 : y = Str.ofString "_node2info"
  · subst h1; rfl
  by_cases h2 : y = Str.ofString "_ready_nodes"
  · subst h2; rfl
  by_cases h3 : y = Str.ofString "_npassedout"
  · subst h3; rfl
  by_cases h4 : y = Str.ofString "_nfinished"
  · subst h4; rfl
  simp only [h1, h2, h3, h4, if_false]
theorem sorter_init (w : World) (κ : Bool) (Φ : NodeFn) (x dx : Addr) (news : Led) (l1 : ∀ p ∈ news, p.1 < dx) (l2 : dx < x) :
    Fn w 580 3800 73 ⟨[.ref x], []⟩ ((x, instObj 137 dx) :: (dx, emptyDict) :: news) (fun r led => r = .none ∧ ∃ D, SrtIn w κ Φ led x dx D [] .none 0 0 ∧ (∀ p ∈ news, p ∈ led) ∧ x < D) := by
  unfold Fn; k_fill; show Fn _ _ _ _ _ _ _
  refine Fn.intro (binds := [(Str.ofString "self", .ref x), (Str.ofString "graph", .none)]) (by k_is) (by k_is) rfl (fun s X' => kp_binds X' (fun _ => rfl)) (locs rfl) (by decide) rfl rfl rfl ?_
  intro loose mean mg mb gd env₀ outer base g L h₁ s tk B F X N T hlt
  have m1 : (x, instObj 137 dx) ∈ (x, instObj 137 dx) :: (dx, emptyDict) :: news := .head _
  repeat' ((fail_if_success (with_reducible show wpAny _ _ (setAttr _ _ _) _ _ _)); first | walk1 | (dsimp only; walk1))
  rename_i D h1 o1 F1 N1 lo1 hs1 _ _ _ lD
  have nx : ∀ q ∈ news, q.1 ≠ dx := fun q hq => Nat.ne_of_lt (l1 q hq)
  have hxd : x ≠ dx := Nat.ne_of_gt l2
  have hDd : D ≠ dx := Nat.ne_of_gt lD.2.1
  have hxD : x < D := lD.1
  have m2 : (x, instObj 137 dx) ∈ (D, o1) :: (x, instObj 137 dx) :: (dx, emptyDict) :: news := .tail _ (.head _)
  have a2 : Ob ((D, o1) :: (x, instObj 137 dx) :: (dx, emptyDict) :: news) dx (IsAttrsN 0 fun _ => none) := ⟨_, .tail _ (.tail _ (.head _)), attrs0⟩
  clear lD
  k_extra "gg"
  rename_i h2 led2 F2 N2 a2' k2
  have m3 := k2 _ m2 hxd
  have d3 := k2 _ (.head _) hDd
  have n3 : ∀ q ∈ news, q ∈ led2 := fun q hq => k2 q (.tail _ (.tail _ (.tail _ hq))) (nx q hq)
  clear a2 m2 k2 F1 N1 m1
  refine ⟨?_⟩
  k_extra "gg"
  rename_i h3 led3 F3 N3 a3' k3
  have m4 := k3 _ m3 hxd
  have d4 := k3 _ d3 hDd
  have n4 : ∀ q ∈ news, q ∈ led3 := fun q hq => k3 q (n3 q hq) (nx q hq)
  clear a2' m3 d3 n3 k3 F2 N2
  refine ⟨?_⟩
  k_extra "gg"
  rename_i h4 led4 F4 N4 a4' k4
  have m5 := k4 _ m4 hxd
  have d5 := k4 _ d4 hDd
  have n5 : ∀ q ∈ news, q ∈ led4 := fun q hq => k4 q (n4 q hq) (nx q hq)
  clear a3' m4 d4 n4 k4 F3 N3
  refine ⟨?_⟩
  k_extra "gg"
  rename_i h5 led5 F5 N5 a5' k5
  have m6 := k5 _ m5 hxd
  have d6 := k5 _ d5 hDd
  have n6 : ∀ q ∈ news, q ∈ led5 := fun q hq => k5 q (n5 q hq) (nx q hq)
  clear a4' m5 d5 n5 k5 F4 N4
  refine ⟨?_⟩
  k_extra "gg"
  rw [sam_of] at a5'
  refine hideG fun G9 hG9 => ?_
  obtain ⟨o, mo, es, n, eo, hat, hz⟩ := a5'
  refine hG9.out ?_
  clear hG9 G9
  exact ⟨_, _, _, _, rfl, F5, N5, rfl, D, ⟨m6, ⟨_, _, o, mo, es, n, eo, hat, by omega⟩, lo1, ⟨o1, d6, IsD.empty hs1⟩, (fun c hc => nomatch hc), List.nodup_nil, hDd.symm, (fun c hc => nomatch hc)⟩, n6, hxD⟩

theorem fresh_P37_active : True := by
  w_top off
  trivial
section
variable {prog : Program} {w : World} {A : Around} {E : Value → Shared → Prop} {s : Shared} {h₀ : Heap} {L l : Addr} {m : Str → Option Value} {led : Led}
theorem meets_bool_list (l : Addr) (its : List Value) : Meets (PySem.Builtin.«bool.__new__» ⟨[.type "bool", .ref l], []⟩) (fun _ R s => s.heap.IsList l its.toArray ∧ its.length ≤ 1000000 ∧ ∀ tk, R (.ok (.ret (.bool (!its.isEmpty)))) { s with toks := tk }) :=
  Meets.of_wp fun prog w A R s hs => by
    refine hideG fun G9 hG9 => ?_
    obtain ⟨hp, g, d, tk, os⟩ := s
    obtain ⟨h1, h2, h3⟩ := hs
    refine hG9.out ?_
    clear hG9 G9
    have f1 := F.conv_sub_bool
    repeat (any_goals (first | assumption | with_reducible refine wpAny_truthy_list h1 (by rw [List.size_toArray]; omega) ?_ | wp_step))
    all_goals first | exact ⟨_, rfl, by have := h3 (tk + 1 + 1); simpa using this⟩ | skip
theorem boolL {its : List Value} {n : Nat} {Q : Value → Shared → Prop} (N : News h₀ L s.heap led) (hm : (l, listOf its.toArray n) ∈ led) (hsz : its.length ≤ 1000000) (h : ∀ tk, Q (.bool (!its.isEmpty)) { s with toks := tk }) : wpAny (model prog w) A (call (.type "bool") [.ref l]) Q E s :=
  call_bool_1 (meets_bool_list l its) ⟨⟨_, (N _ hm).1, rfl, n, rfl⟩, hsz, fun tk => ⟨rfl, h tk⟩⟩
end
/-- the nodes that are ready -/
structure RdIn (κ : Bool) (Φ : NodeFn) (led : Led) (S di D : Addr) (cs : List CE) (R : Addr) (rd : List Nat) : Prop where
  at_ : ∃ us n, (R, listOf us.toArray n) ∈ led ∧ NodesAre κ Φ us rd
  apart : ¬ Adr S di D cs R
theorem active_fn (w : World) (κ : Bool) (Φ : NodeFn) (S di D R : Addr) (cs : List CE) (p f : Int) (rd : List Nat) (news : Led) (H : SrtIn w κ Φ news S di D cs (.ref R) p f) (HR : RdIn κ Φ news S di D cs R rd) (hl : rd.length ≤ 1000) :
    Fn w 560 3600 106 ⟨[.ref S], []⟩ news (fun r led => led = news ∧ r = .bool (decide (f < p) || !rd.isEmpty)) := by
  unfold Fn; k_fill; show Fn _ _ _ _ _ _ _
  refine Fn.intro (binds := [(Str.ofString "self", .ref S)]) (by k_is) (by k_is) rfl (fun s _ => BindsTo.of_eq rfl) (locs rfl) (by decide) rfl rfl rfl ?_
  intro loose mean mg mb gd env₀ outer base g L h₁ s tk B F X N T hlt
  refine hideG fun G9 hG9 => ?_
  obtain ⟨us, n, hR, hus⟩ := HR.at_
  have hS := H.inst
  obtain ⟨kp, kf, hat⟩ := H.attr
  refine hG9.out ?_
  clear hG9 G9
  have hul := hus.length
  k_extra "gg"
  · rename_i hfp
    refine ⟨_, _, _, _, rfl, F, N, rfl, ?_⟩
    rw [decide_eq_true hfp]; rfl
  · rename_i hfp
    refine boolL N hR (by omega) fun tk9 => ?_
    refine ⟨_, _, _, _, rfl, F, N, rfl, ?_⟩
    rw [decide_eq_false hfp]
    cases hus <;> rfl

theorem fresh_P38_ready : True := by
  w_top off
  trivial
section
variable {prog : Program} {w : World} {A : Around} {E : Value → Shared → Prop} {s : Shared} {h₀ : Heap} {L R : Addr} {m : Str → Option Value} {led : Led}
theorem clearL {us : List Value} {n : Nat} {Q : Value → Shared → Prop} (F : Fr h₀ L s.heap m) (N : News h₀ L s.heap led) (hm : (R, listOf us.toArray n) ∈ led) (hz : us.length ≤ 1000000)
    (h : ∀ h' led' n', Fr h₀ L h' m → News h₀ L h' led' → (R, listOf ([] : List Value).toArray n') ∈ led' → (∀ p ∈ led, p.1 ≠ R → p ∈ led') → Q .none { s with heap := h' }) : wpAny (model prog w) A (call (.builtin "list.clear") [.ref R]) Q E s := by
  have hz' : us.toArray.toList.length ≤ sizeLine := by rw [sizeLine_eq, List.toList_toArray]; omega
  by_cases he : us = []
  · subst he
    refine hideG fun G9 hG9 => ?_
    obtain ⟨pre, post, e1, e2, a, c⟩ := (upd_of (o' := listOf #[] n) (nodup_dd _) ((mem_dd N _).mpr hm)).split
    refine hG9.out ?_
    clear hG9 G9
    have Nd := news_dd N
    rw [e1] at Nd
    have z := Nd (R, listOf ([] : List Value).toArray n) (List.mem_append.mpr (.inr (.head _)))
    refine call_meets PySem.F.slot_list_clear ⟨_, z.1, rfl⟩ PySem.F.entry_list_clear (PySem.F.args_list_clear_1 _) (PySem.AutoSeq1.list_clear_list_0 R _ n (by simp [sizeLine_eq])) ⟨z.1, ?_⟩
    have N' := kl_turn0 (its' := #[]) (fun _ => #[]) Nd a c rfl rfl
    rw [← e2] at N'
    exact h _ _ n (F.change (Heap.SameBut.update ..) z.2.1 z.2.2) (news_setL_dd N N') (mem_setL_self hm) fun p hp hne => mem_setL_ne hne hp
  · refine kl_clear F (news_dd N) (upd_of (nodup_dd _) ((mem_dd N _).mpr hm)) ?_ hz' fun h' F' N' => ?_
    · simp; exact he
    · exact h h' _ (n + 1) F' (news_setL_dd N N') (mem_setL_self hm) fun p hp hne => mem_setL_ne hne hp
theorem methClear {us : List Value} {n : Nat} {pl : Sem Bool} {Q : Value × List Value → Shared → Prop} (N : News h₀ L s.heap led) (hm : (R, listOf us.toArray n) ∈ led) (h : Q (.builtin "list.clear", [.ref R]) s) : wpAny (model prog w) A (getMethod (.ref R) (Str.ofString "clear") pl) Q E s :=
  kl_method N hm PySem.F.slot_list_clear PySem.F.type_list_clear h
theorem tupleL {us : List Value} {n : Nat} {Q : Value → Shared → Prop} (F : Fr h₀ L s.heap m) (N : News h₀ L s.heap led) (hm : (R, listOf us.toArray n) ∈ led) (hz : us.length ≤ 16384)
    (h : ∀ D h', Fr h₀ L h' m → News h₀ L h' ((D, tupO us) :: led) → (∀ p ∈ led, p.1 < D) → Q (.ref D) { s with heap := h' }) : wpAny (model prog w) A (call (.type "tuple") [.ref R]) Q E s :=
  kde_tupleOf F N ⟨_, (N _ hm).1, rfl, n, rfl⟩ (by rw [List.size_toArray]; exact hz) rfl h
end
theorem sam_p (D : Addr) (vR : Value) (p f p' : Int) (kp kf k : Tok) : (fun y => if y = Str.ofString "_npassedout" then some (Value.int p' k) else sam D vR p f kp kf y) = sam D vR p' f k kf := by
  funext y
  unfold sam
  by_cases h : y = Str.ofString "_npassedout"
  · subst h; rfl
  · rw [if_neg h, if_neg h, if_neg h]
theorem sam_f (D : Addr) (vR : Value) (p f f' : Int) (kp kf k : Tok) : (fun y => if y = Str.ofString "_nfinished" then some (Value.int f' k) else sam D vR p f kp kf y) = sam D vR p f' kp k := by
  funext y
  unfold sam
  by_cases h : y = Str.ofString "_nfinished"
  · subst h; rfl
  · rw [if_neg h, if_neg h, if_neg h]
theorem sam_R (D : Addr) (vR vR' : Value) (p f : Int) (kp kf : Tok) : (fun y => if y = Str.ofString "_ready_nodes" then some vR' else sam D vR p f kp kf y) = sam D vR' p f kp kf := by
  funext y
  unfold sam
  by_cases h : y = Str.ofString "_ready_nodes"
  · subst h; rfl
  · rw [if_neg h, if_neg h, if_neg h]
/-- a node's number of predecessors set -/
noncomputable def putNp (n : Int) (e : Ent) : Ent := { e with np := n }
noncomputable def outE (es : List Ent) (rd : List Nat) : List Ent := rd.foldl (fun es b => atNode es b (putNp (-1))) es
theorem valueAt_node {cs : List CE} {c : CE} (hn : (cs.map (·.e.a)).Nodup) (hc : c ∈ cs) : valueAt (cs.map fun c => (c.e.a, Value.ref c.ia)) c.e.a = some (.ref c.ia) := by
  induction cs with
  | nil => cases hc
  | cons d cs ih =>
    rw [List.map_cons] at hn ⊢
    obtain ⟨h1, h2⟩ := List.nodup_cons.mp hn
    rcases List.mem_cons.mp hc with rfl | hc
    · simp [valueAt]
    ·
      have hne : d.e.a ≠ c.e.a := fun e => h1 (e ▸ List.mem_map.mpr ⟨c, hc, rfl⟩)
      have := ih h2 hc
      simp [valueAt, hne] at this ⊢
      exact this
theorem lw31_all : True := by
  k_with "L subscriptTail" => ((with_reducible show wpAny _ _ (subscriptTail _ _ (Value.ref _) (txt _ _ _)) _ _ _); k_here; k_dflt (refine' itemD ?k1 ?k2 ?k3 ?_ ?k4 ?k5; (case k1 => k_asm); (case k2 => k_extra "ob"); (case k3 => assumption); (case k4 => with_unfolding_all rfl); (case k5 => with_unfolding_all exact fun _ => rfl)); intro _)
  trivial
theorem atNode_keys (es : List Ent) (a : Nat) (g : Ent → Ent) (hg : ∀ e, (g e).a = e.a) : (atNode es a g).map (·.a) = es.map (·.a) := by
  unfold atNode; rw [List.map_map]
  refine List.map_congr_left fun e _ => ?_
  show (if e.a = a then g e else e).a = e.a
  split
  · exact hg e
  · rfl
theorem outE_keys : ∀ (rd : List Nat) (es : List Ent), (outE es rd).map (·.a) = es.map (·.a)
  | [], _ => rfl
  | b :: rd, es => (outE_keys rd _).trans (atNode_keys es b (putNp (-1)) fun _ => rfl)
theorem key_of {es : List Ent} {cs : List CE} {b : Nat} (h : cs.map (·.e) = es) (hb : b ∈ es.map (·.a)) : ∃ c ∈ cs, c.e.a = b := by
  subst h
  rw [List.map_map] at hb
  refine hideG fun G9 hG9 => ?_
  obtain ⟨c, hc, e⟩ := List.mem_map.mp hb
  refine hG9.out ?_
  clear hG9 G9
  exact ⟨c, hc, e⟩
inductive ReadyI (w : World) (κ : Bool) (Φ : NodeFn) (us : List Value) (n : Nat) (S : Addr) (di : Addr) (D : Addr) (T : Addr) (R : Addr) (IT : Addr) (cs : List CE) (p : Int) (f : Int) (rd : List Nat) (news : Led) (g : Heap) (L : Addr) (s : Shared) (n' : Nat) (s' : Shared) : Prop
  | mk (i : Nat) (h' : Heap) (tk' : Nat) (m' : Str → Option Value) (led : Led) (cs' : List CE)
      (e1 : n' = us.length - i) (e2 : i ≤ us.length) (e3 : s' = { s with heap := h', toks := tk' }) (e4 : Fr g L h' m') (e5 : News g L h' led) (e6 : Ob led IT (IsTIt T i)) (e7 : (T, tupO us) ∈ led) (e8 : ¬ Adr S di D cs' T) (e9 : ¬ Adr S di D cs' IT) (e10 : ¬ Adr S di D cs' R) (e11 : (R, listOf us.toArray n) ∈ led) (e12 : SrtIn w κ Φ led S di D cs' (.ref R) p f) (e13 : cs'.map (·.e) = outE (cs.map (·.e)) (rd.take i)) (e14 : Kept S di D cs cs' news led) (e15 : m' (Str.ofString "self") = some (.ref S)) (e16 : m' (Str.ofString "n2i") = some (.ref D)) (e17 : m' (Str.ofString "result") = some (.ref T))
inductive ReadyP (w : World) (κ : Bool) (Φ : NodeFn) (S : Addr) (di : Addr) (D : Addr) (R : Addr) (cs : List CE) (p : Int) (f : Int) (rd : List Nat) (news : Led) (r : Value) (led : Led) : Prop
  | mk  (T : Addr) (us : List Value) (cs' : List CE)
      (e1 : r = .ref T) (e2 : (T, tupO us) ∈ led) (e3 : NodesAre κ Φ us rd) (e4 : ¬ Adr S di D cs' T) (e5 : T ≠ R) (e6 : (∀ q ∈ news, q.1 ≠ T)) (e7 : SrtIn w κ Φ led S di D cs' (.ref R) (p + rd.length) f) (e8 : RdIn κ Φ led S di D cs' R []) (e9 : cs'.map (·.e) = outE (cs.map (·.e)) rd) (e10 : (∀ q ∈ news, ¬ Adr S di D cs q.1 → q.1 ≠ R → q ∈ led ∧ ¬ Adr S di D cs' q.1))
theorem ready_fn (w : World) (κ : Bool) (Φ : NodeFn) (S di D R : Addr) (cs : List CE) (p f : Int) (rd : List Nat) (news : Led) (H : SrtIn w κ Φ news S di D cs (.ref R) p f) (HR : RdIn κ Φ news S di D cs R rd) (hl : rd.length ≤ 1000) (hin : ∀ b ∈ rd, b ∈ cs.map (·.e.a)) :
    Fn w 560 3600 99 ⟨[.ref S], []⟩ news (ReadyP w κ Φ S di D R cs p f rd news) := by
  unfold Fn; k_fill; show Fn _ _ _ _ _ _ _
  refine Fn.intro (binds := [(Str.ofString "self", .ref S)]) (by k_is) (by k_is) rfl (fun s _ => BindsTo.of_eq rfl) (locs rfl) (by decide) rfl rfl rfl ?_
  intro loose mean mg mb gd env₀ outer base g L h₁ s tk B F X N T hlt
  refine wp_hide fun Qf hQf => ?_
  refine hideG fun G9 hG9 => ?_
  obtain ⟨us, n, hR, hus⟩ := HR.at_
  have hRA := HR.apart
  have hS := H.inst
  obtain ⟨kp, kf, hat⟩ := H.attr
  refine hG9.out ?_
  clear hG9 G9
  have hul := hus.length
  k_extra "gg"
  refine tupleL F N hR (by omega) ?_
  intro T h2 F2 N2 ltT
  have hT2 : (T, tupO us) ∈ (T, tupO us) :: news := .head _
  have hTn : ∀ q ∈ news, q.1 ≠ T := fun q hq => Nat.ne_of_lt (ltT q hq)
  have hTA := adr_fresh H hTn
  have hTR : T ≠ R := fun e => hTn _ hR e.symm
  have H2 := H.sub (led' := (T, tupO us) :: news) fun q hq => .tail _ hq
  have hS2 := H2.inst
  refine hideG fun G9 hG9 => ?_
  obtain ⟨kp2, kf2, hat2⟩ := H2.attr
  refine hG9.out ?_
  clear hG9 G9
  clear hS hat N F
  k_extra "gg"
  refine for_at ?_ (fun _ => rfl)
  k_extra "gg"
  rename Fr _ _ _ _ => F2
  rename News _ _ _ _ => N2
  refine iter_T F2 N2 hT2 ?_
  intro IT h4 oI F4 N4 hIT ltI
  have ltn : ∀ q ∈ news, q.1 ≠ IT := fun q hq => Nat.ne_of_lt (ltI _ (.tail _ hq))
  have hIR : IT ≠ R := fun e => ltn _ hR e.symm
  refine ForAt.introH (ReadyI w κ Φ us n S di D T R IT cs p f rd news g L s) ?_ us.length
    ⟨0, _, _, _, _, cs, by omega, Nat.zero_le _, rfl, F4, N4, ⟨oI, .head _, hIT⟩, .tail _ hT2, hTA, adr_fresh H ltn, hRA, .tail _ (.tail _ hR), H2.sub fun q hq => .tail _ hq, rfl, fun q hq hn => ⟨.tail _ (.tail _ hq), hn⟩, rfl, rfl, rfl⟩
  clear H2 F4 N4 F2 N2 hIT hat2 hS2
  intro n' s' Qb hQb hp9z
  refine hideG fun G9 hG9 => ?_
  obtain ⟨i, h', tk', m', led, cs', rfl, hi, rfl, F5, N5, hit, hT5, hTA5, hIA, hRA5, hR5, H5, he5, K5, v1, v2, v3⟩ := hp9z
  refine hG9.out ?_
  clear hG9 G9
  refine next_T rfl F5 N5 hit hT5 ?_ ?_
  · intro v h6 led6 hv6 F6 N6 hit6 k6
    refine hideG fun G9 hG9 => ?_
    obtain ⟨b, kb, rfl, hb⟩ := hus.get hv6
    obtain ⟨hii, _⟩ := List.getElem?_eq_some_iff.mp hv6
    have H6 := H5.keep (led' := led6) fun q hq hA => k6 q hq fun z => hIA (z ▸ hA)
    have hT6 : (T, tupO us) ∈ led6 := k6 _ hT5 (tit_ne N5 hit hT5 (by show Value.type "tuple" ≠ Value.type "tuple_iterator"; decide))
    have hR6 : (R, listOf us.toArray n) ∈ led6 := k6 _ hR5 hIR.symm
    have K6 : Kept S di D cs cs' news led6 := fun q hq hn => ⟨k6 q (K5 q hq hn).1 (ltn q hq), (K5 q hq hn).2⟩
    obtain ⟨c, hc, hca⟩ := key_of (b := b) he5 (by rw [outE_keys, List.map_map]; exact hin b (List.mem_of_getElem? hb))
    have hva := hca ▸ valueAt_node H6.keys hc
    obtain ⟨l, r, rfl⟩ := List.append_of_mem hc
    refine hG9.out ?_
    clear hG9 G9
    have hE6 := H6.ents c hc
    have hi6 : (c.ia, (⟨.ref 40, some c.dx, .plain, #[some (txt κ (Φ.f c.e.a) c.kn), some (.int c.e.np c.kp), some (.ref c.sa)]⟩ : Obj)) ∈ led6 := hE6.info
    have hdx6 := hE6.dict
    have hD6 := H6.dict
    have N6b : Box (News g L h6 led6) := ⟨N6⟩
    clear F5 N5 hit hT5 H5 k6 K5
    k_extra "gg"
    rename_i h9 led9 F9 N9 c9 k9
    refine hideG fun G9 hG9 => ?_
    obtain ⟨c', H9, hce9, K9⟩ := H6.npAt N6b.out k9 c9
    refine hG9.out ?_
    clear hG9 G9
    have he9 := atNode_split (g := putNp (-1)) H6.keys hce9
    refine ⟨?_⟩
    k_extra "gg"
    refine hQb.next _ ⟨us.length - (i + 1), by omega, i + 1, _, _, _, _, l ++ c' :: r, rfl, hii, rfl, F9, N9, ?_, (K9 _ hT6 hTA5).1, (K9 _ hT6 hTA5).2, ?_, (K9 _ hR6 hRA5).2, (K9 _ hR6 hRA5).1, H9, ?_, K6.trans K9, v1, v2, v3⟩
    ·
      obtain ⟨o, m, q⟩ := hit6; exact ⟨o, (K9 _ m hIA).1, q⟩
    ·
      obtain ⟨o, m, q⟩ := hit6; exact (K9 _ m hIA).2
    · rw [he9, he5, hca, take_snoc hb]; unfold outE; rw [List.foldl_append]; rfl
  · intro h6 led6 hv6 F6 N6 k6
    have hei : i = us.length := by omega
    subst hei
    have H6 := H5.keep (led' := led6) fun q hq hA => k6 q hq fun z => hIA (z ▸ hA)
    have hT6 : (T, tupO us) ∈ led6 := k6 _ hT5 (tit_ne N5 hit hT5 (by show Value.type "tuple" ≠ Value.type "tuple_iterator"; decide))
    have hR6 : (R, listOf us.toArray n) ∈ led6 := k6 _ hR5 hIR.symm
    have K6 : Kept S di D cs cs' news led6 := fun q hq hn => ⟨k6 q (K5 q hq hn).1 (ltn q hq), (K5 q hq hn).2⟩
    have hS6 := H6.inst
    refine hideG fun G9 hG9 => ?_
    obtain ⟨kp6, kf6, hat6⟩ := H6.attr
    refine hG9.out ?_
    clear hG9 G9
    clear F5 N5 hit hT5 H5 k6 K5
    k_extra "gg"
    refine clearL F6 N6 hR6 (by omega) ?_
    intro h7 led7 n7 F7 N7 hR7 k7
    have H7 := H6.keep (led' := led7) fun q hq hA => k7 q hq fun z => hRA5 (z ▸ hA)
    have hT7 := k7 _ hT6 hTR
    have hS7 := H7.inst
    have k7b : ∀ q ∈ news, ¬ Adr S di D cs q.1 → q.1 ≠ R → q ∈ led7 ∧ ¬ Adr S di D cs' q.1 := fun q hq hn hne => ⟨k7 q (K6 q hq hn).1 hne, (K6 q hq hn).2⟩
    refine hideG fun G9 hG9 => ?_
    obtain ⟨kp7, kf7, hat7⟩ := H7.attr
    refine hG9.out ?_
    clear hG9 G9
    have N7b : Box (News g L h7 led7) := ⟨N7⟩
    clear F6 N6 H6 hT6 hR6 K6 hS6 hat6 k7
    k_extra "gg"
    rename_i h8 led8 F8 N8 hat8 k8
    refine ⟨?_⟩
    have hdi : ∀ {a : Addr} {o : Obj}, (a, o) ∈ led7 → ¬ Adr S di D cs' a → (a, o) ∈ led8 := fun hm hn => k8 _ hm fun z => hn (.inr (.inl z))
    have H8 := H7.setAttr (led' := led8) (vR' := .ref R) (p' := p + rd.length) (f' := f) N7b.out k8 ⟨_, kf7, (by
      obtain ⟨o, m, q⟩ := hat8
      rw [sam_p] at q
      rw [← hul]
      exact ⟨o, m, q⟩)⟩
    k_extra "gg"
    refine hQf.out _ _ ?_
    refine ⟨_, _, _, _, rfl, F8, N8, T, us, cs', rfl, hdi hT7 hTA5, hus, hTA5, hTR, hTn, H8, ⟨⟨[], n7, hdi hR7 hRA5, .nil⟩, hRA5⟩, ?_, fun q hq hn hne => ⟨hdi (k7b q hq hn hne).1 (k7b q hq hn hne).2, (k7b q hq hn hne).2⟩⟩
    rw [he5, hul, List.take_length]

theorem fresh_P39_done : True := by
  w_top off
  trivial
/-- what done makes of the records and of the list of what is ready -/
noncomputable def npOf (es : List Ent) (b : Nat) : Int := match es.find? fun e => e.a == b with | some e => e.np | none => 0
noncomputable def suOf (es : List Ent) (b : Nat) : List Nat := match es.find? fun e => e.a == b with | some e => e.su | none => []
noncomputable def succStep (st : List Ent × List Nat) (b : Nat) : List Ent × List Nat := (atNode st.1 b (bump (-1)), if npOf (atNode st.1 b (bump (-1))) b = 0 then st.2 ++ [b] else st.2)
noncomputable def doneStep (st : List Ent × List Nat) (a : Nat) : List Ent × List Nat := (suOf st.1 a).foldl succStep (atNode st.1 a (putNp (-2)), st.2)
noncomputable def doneOk : List Ent × List Nat → List Nat → Prop
  | _, [] => True
  | st, a :: ns => npOf st.1 a = -1 ∧ doneOk (doneStep st a) ns
noncomputable def shape (es : List Ent) : List (Nat × List Nat) := es.map fun e => (e.a, e.su)
noncomputable def SuIn (es : List Ent) : Prop := ∀ e ∈ es, ∀ b ∈ e.su, b ∈ es.map (·.a)
theorem find_key {cs : List CE} {c : CE} (hn : (cs.map (·.e.a)).Nodup) (hc : c ∈ cs) : (cs.map (·.e)).find? (fun e => e.a == c.e.a) = some c.e := by
  induction cs with
  | nil => cases hc
  | cons d cs ih =>
    rw [List.map_cons] at hn ⊢
    obtain ⟨h1, h2⟩ := List.nodup_cons.mp hn
    rcases List.mem_cons.mp hc with rfl | hc
    · exact List.find?_cons_of_pos (by simp)
    ·
      have hne : d.e.a ≠ c.e.a := fun e => h1 (e ▸ List.mem_map.mpr ⟨c, hc, rfl⟩)
      rw [List.find?_cons_of_neg (by simpa using hne)]
      exact ih h2 hc
theorem npOf_key {cs : List CE} {c : CE} {es : List Ent} (he : cs.map (·.e) = es) (hn : (cs.map (·.e.a)).Nodup) (hc : c ∈ cs) : npOf es c.e.a = c.e.np := by
  subst he; unfold npOf; rw [find_key hn hc]
theorem suOf_key {cs : List CE} {c : CE} {es : List Ent} (he : cs.map (·.e) = es) (hn : (cs.map (·.e.a)).Nodup) (hc : c ∈ cs) : suOf es c.e.a = c.e.su := by
  subst he; unfold suOf; rw [find_key hn hc]
theorem atNode_shape (es : List Ent) (a : Nat) (g : Ent → Ent) (h1 : ∀ e, (g e).a = e.a) (h2 : ∀ e, (g e).su = e.su) : shape (atNode es a g) = shape es := by
  unfold atNode shape; rw [List.map_map]
  refine List.map_congr_left fun e _ => ?_
  show ((if e.a = a then g e else e).a, (if e.a = a then g e else e).su) = (e.a, e.su)
  split
  · rw [h1, h2]
  · rfl
theorem shape_keys {es es' : List Ent} (h : shape es = shape es') : es.map (·.a) = es'.map (·.a) := by
  have := congrArg (List.map Prod.fst) h
  unfold shape at this
  rw [List.map_map, List.map_map] at this
  exact this
theorem shape_mem {es es' : List Ent} (h : shape es = shape es') {e : Ent} (he : e ∈ es) : ∃ e' ∈ es', e'.a = e.a ∧ e'.su = e.su := by
  have : (e.a, e.su) ∈ shape es' := h ▸ List.mem_map.mpr ⟨e, he, rfl⟩
  refine hideG fun G9 hG9 => ?_
  obtain ⟨e', h1, h2⟩ := List.mem_map.mp this
  refine hG9.out ?_
  clear hG9 G9
  injection h2 with h2 h3
  exact ⟨e', h1, h2, h3⟩
theorem shape_SuIn {es es' : List Ent} (h : shape es = shape es') (hs : SuIn es') : SuIn es := fun e he b hb => by
  refine hideG fun G9 hG9 => ?_
  obtain ⟨e', h1, _, h3⟩ := shape_mem h he
  refine hG9.out ?_
  clear hG9 G9
  rw [shape_keys h]; exact hs e' h1 b (h3 ▸ hb)
theorem shape_SuLe {es es' : List Ent} {M : Nat} (h : shape es = shape es') (hs : SuLe es' M) : SuLe es M := fun e he => by
  refine hideG fun G9 hG9 => ?_
  obtain ⟨e', h1, _, h3⟩ := shape_mem h he
  refine hG9.out ?_
  clear hG9 G9
  rw [← h3]; exact hs e' h1
theorem succ_shape : ∀ (l : List Nat) (st : List Ent × List Nat), shape (l.foldl succStep st).1 = shape st.1
  | [], _ => rfl
  | b :: l, st => (succ_shape l _).trans (atNode_shape _ _ _ (fun _ => rfl) fun _ => rfl)
theorem doneStep_shape (st : List Ent × List Nat) (a : Nat) : shape (doneStep st a).1 = shape st.1 := (succ_shape _ _).trans (atNode_shape _ _ _ (fun _ => rfl) fun _ => rfl)
theorem done_shape : ∀ (l : List Nat) (st : List Ent × List Nat), shape (l.foldl doneStep st).1 = shape st.1
  | [], _ => rfl
  | b :: l, st => (done_shape l _).trans (doneStep_shape st b)
theorem doneOk_at : ∀ {ns : List Nat} {st : List Ent × List Nat} {i a : Nat}, doneOk st ns → ns[i]? = some a → npOf ((ns.take i).foldl doneStep st).1 a = -1
  | [], _, _, _, _, h => by simp at h
  | b :: ns, st, 0, a, h, e => by simp at e; subst e; exact h.1
  | b :: ns, st, i + 1, a, h, e => doneOk_at (ns := ns) h.2 (by simpa using e)
theorem succ_len : ∀ (l : List Nat) (st : List Ent × List Nat), (l.foldl succStep st).2.length ≤ st.2.length + l.length
  | [], _ => Nat.le_refl _
  | b :: l, st => by
    refine Nat.le_trans (succ_len l _) ?_
    have : (succStep st b).2.length ≤ st.2.length + 1 := by
      unfold succStep; split <;> simp
    rw [List.length_cons]; omega
theorem outE_shape : ∀ (rd : List Nat) (es : List Ent), shape (outE es rd) = shape es
  | [], _ => rfl
  | b :: rd, es => (outE_shape rd _).trans (atNode_shape es b (putNp (-1)) (fun _ => rfl) fun _ => rfl)
theorem SrtIn.npAt2 {w : World} {κ : Bool} {Φ : NodeFn} {led led' : Led} {S di D : Addr} {vR : Value} {p f : Int} {h₀ h : Heap} {L : Addr} {l r : List CE} {c : CE} {np : Int} {kp : Tok} (H : SrtIn w κ Φ led S di D (l ++ c :: r) vR p f) (N : News h₀ L h led) (hk : ∀ q ∈ led, q.1 ≠ c.ia → q ∈ led')
    (hi : (c.ia, (⟨.ref 40, some c.dx, .plain, #[some (txt κ (Φ.f c.e.a) c.kn), some (.int np kp), some (.ref c.sa)]⟩ : Obj)) ∈ led') :
    ∃ c' : CE, SrtIn w κ Φ led' S di D (l ++ c' :: r) vR p f ∧ c'.e = { c.e with np := np } ∧ Kept S di D (l ++ c :: r) (l ++ c' :: r) led led' ∧ c'.ia = c.ia ∧ c'.dx = c.dx ∧ c'.sa = c.sa :=
  ⟨{ c with e := { c.e with np := np }, kp := kp }, H.setInfo N hk hi rfl rfl rfl rfl rfl rfl rfl, rfl,
    kept_upd hk (.inr (.inr (.inr ⟨c, List.mem_append_right _ (.head _), .inl rfl⟩))) (adr_split rfl rfl rfl), rfl, rfl, rfl⟩
/-- what belongs neither to the sorter nor is the list of what is ready stays -/
noncomputable def KeptR (S di D R : Addr) (cs cs' : List CE) (led led' : Led) : Prop := ∀ q ∈ led, ¬ Adr S di D cs q.1 → q.1 ≠ R → q ∈ led' ∧ ¬ Adr S di D cs' q.1
theorem KeptR.trans {S di D R : Addr} {cs cs' cs'' : List CE} {led led' led'' : Led} (a : KeptR S di D R cs cs' led led') (b : KeptR S di D R cs' cs'' led' led'') : KeptR S di D R cs cs'' led led'' := fun q hq hn hr => b q (a q hq hn hr).1 (a q hq hn hr).2 hr
theorem Kept.R {S di D R : Addr} {cs cs' : List CE} {led led' : Led} (a : Kept S di D cs cs' led led') : KeptR S di D R cs cs' led led' := fun q hq hn _ => a q hq hn
theorem sa_ne {S di D a : Addr} {cs : List CE} {c : CE} (hc : c ∈ cs) (ha : ¬ Adr S di D cs a) : c.sa ≠ a := fun e => ha (.inr (.inr (.inr ⟨c, hc, .inr (.inr e.symm)⟩)))
inductive DoneI (w : World) (κ : Bool) (Φ : NodeFn) (vs : List Value) (ns : List Nat) (rd : List Nat) (S : Addr) (di : Addr) (D : Addr) (V : Addr) (R : Addr) (IT : Addr) (cs : List CE) (p : Int) (f : Int) (news : Led) (g : Heap) (L : Addr) (s : Shared) (n' : Nat) (s' : Shared) : Prop
  | mk (i : Nat) (h' : Heap) (tk' : Nat) (m' : Str → Option Value) (led : Led) (cs' : List CE)
      (e1 : n' = vs.length - i) (e2 : i ≤ vs.length) (e3 : s' = { s with heap := h', toks := tk' }) (e4 : Fr g L h' m') (e5 : News g L h' led) (e6 : Ob led IT (IsTIt V i)) (e7 : (V, tupO vs) ∈ led) (e8 : ¬ Adr S di D cs' V) (e9 : ¬ Adr S di D cs' IT) (e10 : SrtIn w κ Φ led S di D cs' (.ref R) p (f + i)) (e11 : RdIn κ Φ led S di D cs' R ((ns.take i).foldl doneStep (cs.map (·.e), rd)).2) (e12 : cs'.map (·.e) = ((ns.take i).foldl doneStep (cs.map (·.e), rd)).1) (e13 : ((ns.take i).foldl doneStep (cs.map (·.e), rd)).2.length ≤ 1000 + i * 1000) (e14 : KeptR S di D R cs cs' news led) (e15 : m' (Str.ofString "self") = some (.ref S)) (e16 : m' (Str.ofString "n2i") = some (.ref D))
inductive DoneJ (w : World) (κ : Bool) (Φ : NodeFn) (vs : List Value) (ns : List Nat) (rd : List Nat) (i : Nat) (c : CE) (S : Addr) (di : Addr) (D : Addr) (V : Addr) (R : Addr) (IT : Addr) (IL : Addr) (cs : List CE) (p : Int) (f : Int) (news : Led) (g : Heap) (L : Addr) (s : Shared) (n' : Nat) (s' : Shared) : Prop
  | mk (j : Nat) (h' : Heap) (tk' : Nat) (m' : Str → Option Value) (led : Led) (cs'' : List CE)
      (e1 : n' = c.us.length - j) (e2 : j ≤ c.us.length) (e3 : s' = { s with heap := h', toks := tk' }) (e4 : Fr g L h' m') (e5 : News g L h' led) (e6 : Ob led IL (IsLIt c.sa j)) (e7 : Ob led IT (IsTIt V (i + 1))) (e8 : (c.sa, listOf c.us.toArray c.c) ∈ led) (e9 : (V, tupO vs) ∈ led) (e10 : ¬ Adr S di D cs'' V) (e11 : ¬ Adr S di D cs'' IT) (e12 : ¬ Adr S di D cs'' IL) (e13 : SrtIn w κ Φ led S di D cs'' (.ref R) p (f + i)) (e14 : RdIn κ Φ led S di D cs'' R ((c.e.su.take j).foldl succStep (atNode ((ns.take i).foldl doneStep (cs.map (·.e), rd)).1 c.e.a (putNp (-2)), ((ns.take i).foldl doneStep (cs.map (·.e), rd)).2)).2) (e15 : cs''.map (·.e) = ((c.e.su.take j).foldl succStep (atNode ((ns.take i).foldl doneStep (cs.map (·.e), rd)).1 c.e.a (putNp (-2)), ((ns.take i).foldl doneStep (cs.map (·.e), rd)).2)).1) (e16 : KeptR S di D R cs cs'' news led) (e17 : m' (Str.ofString "self") = some (.ref S)) (e18 : m' (Str.ofString "n2i") = some (.ref D))
theorem done_fn (w : World) (κ : Bool) (Φ : NodeFn) (S di D R : Addr) (cs : List CE) (p f : Int) (rd ns : List Nat) (vs : List Value) (news : Led) (H : SrtIn w κ Φ news S di D cs (.ref R) p f) (HR : RdIn κ Φ news S di D cs R rd) (hl : rd.length ≤ 1000) (hv : NodesAre κ Φ vs ns) (hn16 : ns.length ≤ 16)
    (hin : ∀ b ∈ ns, b ∈ cs.map (·.e.a)) (hsu : SuLe (cs.map (·.e)) 1000) (hsi : SuIn (cs.map (·.e))) (hok : doneOk (cs.map (·.e), rd) ns) :
    Fn w 560 3600 120 ⟨.ref S :: vs, []⟩ news (fun r led => r = .none ∧ ∃ cs', SrtIn w κ Φ led S di D cs' (.ref R) p (f + ns.length) ∧ RdIn κ Φ led S di D cs' R (ns.foldl doneStep (cs.map (·.e), rd)).2 ∧ cs'.map (·.e) = (ns.foldl doneStep (cs.map (·.e), rd)).1 ∧
      KeptR S di D R cs cs' news led) := by
  unfold Fn; k_fill; show Fn _ _ _ _ _ _ _
  have hvl := hv.length
  have hv16 : vs.length ≤ 16 := by omega
  refine Fn.introV (g₁ := fun V => some [(Str.ofString "self", .ref S), (Str.ofString "nodes", .ref V)]) (binds := fun V => [(Str.ofString "self", .ref S), (Str.ofString "nodes", .ref V)]) (vs := vs) (by k_is) (by k_is) rfl rfl (by
      rcases vs with _ | ⟨a0, _ | ⟨a1, _ | ⟨a2, _ | ⟨a3, _ | ⟨a4, _ | ⟨a5, _ | ⟨a6, _ | ⟨a7, _ | ⟨a8, _ | ⟨a9, _ | ⟨a10, _ | ⟨a11, _ | ⟨a12, _ | ⟨a13, _ | ⟨a14, _ | ⟨a15, _ | ⟨a16, vs⟩⟩⟩⟩⟩⟩⟩⟩⟩⟩⟩⟩⟩⟩⟩⟩⟩
      all_goals first | rfl | (simp at hv16)) (fun _ => rfl) (fun _ => locs rfl) (by decide) rfl rfl rfl ?_
  intro loose mean mg mb gd env₀ outer base g V L h₁ s tk B F X N T hlt
  refine wp_hide fun Qf hQf => ?_
  have H1 : SrtIn w κ Φ ((V, tupO vs) :: news) S di D cs (.ref R) p f := H.sub fun q hq => .tail _ hq
  have hS1 := H1.inst
  refine hideG fun G9 hG9 => ?_
  obtain ⟨kp, kf, hat1⟩ := H1.attr
  refine hG9.out ?_
  clear hG9 G9
  have hlow := H.low
  k_extra "gg"
  refine for_at ?_ (fun _ => rfl)
  k_extra "gg"
  rename Fr _ _ _ _ => F3
  rename News _ _ _ _ => N3
  have hV0 : ¬ Adr S di D cs V := adr_fresh H fun q hq => Nat.ne_of_lt (hlt q hq)
  refine hideG fun G9 hG9 => ?_
  obtain ⟨us0, n0, hR0, hus0⟩ := HR.at_
  refine hG9.out ?_
  clear hG9 G9
  have hVR : V ≠ R := Nat.ne_of_gt (hlt _ hR0)
  refine iter_T F3 N3 (.head _) ?_
  intro IT h4 oI F4 N4 hIT ltI
  have ltn : ∀ q ∈ news, q.1 ≠ IT := fun q hq => Nat.ne_of_lt (ltI _ (.tail _ hq))
  have hIR : IT ≠ R := fun e => ltn _ hR0 e.symm
  have hIV : V ≠ IT := Nat.ne_of_lt (ltI _ (.head _))
  refine ForAt.introH (DoneI w κ Φ vs ns rd S di D V R IT cs p f news g L s) ?_ vs.length
    ⟨0, _, _, _, _, cs, by omega, Nat.zero_le _, rfl, F4, N4, ⟨oI, .head _, hIT⟩, .tail _ (.head _), hV0, adr_fresh H ltn, by rw [show f + ((0 : Nat) : Int) = f by omega]; exact H1.sub fun q hq => .tail _ hq, ⟨⟨us0, n0, .tail _ (.tail _ hR0), hus0⟩, HR.apart⟩, rfl, by simpa using hl, fun q hq hn _ => ⟨.tail _ (.tail _ hq), hn⟩, rfl, rfl⟩
  clear H1 F3 N3 F4 N4 hIT hat1 hS1
  intro n' s' Qb hQb hp9z
  refine hideG fun G9 hG9 => ?_
  obtain ⟨i, h', tk', m', led, cs', rfl, hi, rfl, F5, N5, hit, hV5, hVA, hIA, H5, R5, he5, hz5, K5, v1, v2⟩ := hp9z
  refine hG9.out ?_
  clear hG9 G9
  refine next_T rfl F5 N5 hit hV5 ?_ ?_
  · intro v h6 led6 hv6 F6 N6 hit6 k6
    refine hideG fun G9 hG9 => ?_
    obtain ⟨a, ka, rfl, ha⟩ := hv.get hv6
    obtain ⟨hii, _⟩ := List.getElem?_eq_some_iff.mp hv6
    have H6 := H5.keep (led' := led6) fun q hq hA => k6 q hq fun z => hIA (z ▸ hA)
    have hV6 : (V, tupO vs) ∈ led6 := k6 _ hV5 hIV
    have hm5 := done_shape (ns.take i) (cs.map (·.e), rd)
    obtain ⟨c, hc, hca⟩ := key_of (b := a) he5 (by rw [shape_keys hm5, List.map_map]; exact hin a (List.mem_of_getElem? ha))
    have hva := hca ▸ valueAt_node H6.keys hc
    have hnp : c.e.np = -1 := (npOf_key he5 H6.keys hc).symm.trans (hca ▸ doneOk_at hok ha)
    have hsuc := suOf_key he5 H6.keys hc
    have K6 : KeptR S di D R cs cs' news led6 := fun q hq hn hr => ⟨k6 q (K5 q hq hn hr).1 (ltn q hq), (K5 q hq hn hr).2⟩
    obtain ⟨us5, n5, hR5, hus5⟩ := R5.at_
    have hRA5 := R5.apart
    have hR6 : (R, listOf us5.toArray n5) ∈ led6 := k6 _ hR5 hIR.symm
    obtain ⟨l, r, rfl⟩ := List.append_of_mem hc
    refine hG9.out ?_
    clear hG9 G9
    have hE6 := H6.ents c hc
    have hi6 : (c.ia, (⟨.ref 40, some c.dx, .plain, #[some (txt κ (Φ.f c.e.a) c.kn), some (.int (-1) c.kp), some (.ref c.sa)]⟩ : Obj)) ∈ led6 := hnp ▸ hE6.info
    have hdx6 := hE6.dict
    have hD6 := H6.dict
    have N6b : Box (News g L h6 led6) := ⟨N6⟩
    clear F5 N5 hit hV5 H5 k6 K5 R5 hR5
    k_extra "gg"
    rename_i h9 led9 F9 N9 c9 k9
    refine hideG fun G9 hG9 => ?_
    obtain ⟨c', H9, hce9, K9, ia9, dx9, sa9⟩ := H6.npAt2 N6b.out k9 c9
    refine hG9.out ?_
    clear hG9 G9
    have he9 := (atNode_split (g := putNp (-2)) H6.keys hce9).trans (by rw [he5])
    have hsaT : (c.sa, _) ∈ led9 := k9 _ hE6.succ (news_ne N6b.out hE6.succ hE6.info fun e => cls_ref_ne (congrArg Obj.cls e).symm)
    have hdx9 := k9 _ hdx6 (news_ne N6b.out hdx6 hE6.info fun e => cls_ref_ne (congrArg Obj.cls e).symm)
    have hV9 := K9 _ hV6 hVA
    have hR9 := K9 _ hR6 hRA5
    have hit9 : Ob led9 IT (IsTIt V (i + 1)) := let ⟨o, m, q⟩ := hit6; ⟨o, (K9 _ m hIA).1, q⟩
    have hIA9 : ¬ Adr S di D (l ++ c' :: r) IT := let ⟨o, m, q⟩ := hit6; (K9 _ m hIA).2
    have K9' := K6.trans K9.R
    have hus := hE6.are
    have hsaR : c.sa ≠ R := sa_ne hc hRA5
    have hsaV : c.sa ≠ V := sa_ne hc hVA
    have hsaI : c.sa ≠ IT := sa_ne hc hIA
    have N9b : Box (News g L h9 led9) := ⟨N9⟩
    clear hD6 hdx6 hi6 hE6 N6b hit6 k9 K6 H6 K9 hR6 hV6 hva
    refine ⟨?_⟩
    k_extra "gg"
    refine for_at ?_ (fun _ => rfl)
    k_extra "gg"
    rename Fr _ _ _ _ => F10
    rename News _ _ _ _ => N10
    have hlsu : c.e.su.length ≤ 1000 := shape_SuLe (hm5) hsu c.e (he5 ▸ List.mem_map.mpr ⟨c, hc, rfl⟩)
    have hsin : ∀ b ∈ c.e.su, b ∈ ((ns.take i).foldl doneStep (cs.map (·.e), rd)).1.map (·.a) := shape_SuIn hm5 hsi c.e (he5 ▸ List.mem_map.mpr ⟨c, hc, rfl⟩)
    have hull := hus.length
    refine iter_L F10 N10 hsaT ?_
    intro IL h11 oL F11 N11 hIL ltL
    have ltnL : ∀ q ∈ led9, q.1 ≠ IL := fun q hq => Nat.ne_of_lt (ltL q hq)
    have hRL : R ≠ IL := ltnL _ hR9.1
    have hVL : V ≠ IL := ltnL _ hV9.1
    have hVLl : V < IL := ltL _ hV9.1
    have hsL : c.sa ≠ IL := ltnL _ hsaT
    have hTL : IT ≠ IL := let ⟨o, m, q⟩ := hit9; ltnL _ m
    refine ForAt.introH (DoneJ w κ Φ vs ns rd i c S di D V R IT IL cs p f news g L s) ?_ c.us.length
      ⟨0, _, _, _, _, l ++ c' :: r, by omega, Nat.zero_le _, rfl, F11, N11, ⟨oL, .head _, hIL⟩, hit9.more, .tail _ hsaT, .tail _ hV9.1, hV9.2, hIA9, adr_fresh H9 ltnL, H9.sub fun q hq => .tail _ hq, ⟨⟨us5, n5, .tail _ hR9.1, hus5⟩, hR9.2⟩, he9, fun q hq hn hr => ⟨.tail _ (K9' q hq hn hr).1, (K9' q hq hn hr).2⟩, v1, v2⟩
    clear F10 N10 F11 N11 hIL hIA9 hV9 hR9 H9 K9' hit9 hsaT hus5 he9
    intro n'' s'' Qc hQc hp9z
    refine hideG fun G9 hG9 => ?_
    obtain ⟨j, h', tk', m', led, cs'', rfl, hj, rfl, F5, N5, hil, hit, hsT5, hV5, hVA5, hIA5, hLA5, H5, R5, he5', K5, v1, v2⟩ := hp9z
    refine hG9.out ?_
    clear hG9 G9
    refine next_L rfl F5 N5 hil hsT5 ?_ ?_
    · intro v h6 led6 hv6 F6 N6 hil6 k6
      refine hideG fun G9 hG9 => ?_
      obtain ⟨b, kb, rfl, hb⟩ := hus.get hv6
      obtain ⟨hjj, _⟩ := List.getElem?_eq_some_iff.mp hv6
      have H6 := H5.keep (led' := led6) fun q hq hA => k6 q hq fun z => hLA5 (z ▸ hA)
      have hV6 := k6 _ hV5 hVL
      have hsT6 := k6 _ hsT5 hsL
      have hit6 : Ob led6 IT (IsTIt V (i + 1)) := let ⟨o, m, q⟩ := hit; ⟨o, k6 _ m hTL, q⟩
      have hm6 := (succ_shape (c.e.su.take j) (atNode ((ns.take i).foldl doneStep (cs.map (·.e), rd)).1 c.e.a (putNp (-2)), ((ns.take i).foldl doneStep (cs.map (·.e), rd)).2)).trans (atNode_shape _ _ _ (fun _ => rfl) fun _ => rfl)
      obtain ⟨d, hd, hda⟩ := key_of (b := b) he5' (by rw [shape_keys hm6]; exact hsin b (List.mem_of_getElem? hb))
      have hva6 := hda ▸ valueAt_node H6.keys hd
      have K6 : KeptR S di D R cs cs'' news led6 := fun q hq hn hr => ⟨k6 q (K5 q hq hn hr).1 (Nat.ne_of_lt (Nat.lt_trans (hlt q hq) hVLl)), (K5 q hq hn hr).2⟩
      obtain ⟨us6, n6, hR5, hus6⟩ := R5.at_
      have hRA6 := R5.apart
      have hR6 : (R, listOf us6.toArray n6) ∈ led6 := k6 _ hR5 hRL
      obtain ⟨l2, r2, rfl⟩ := List.append_of_mem hd
      refine hG9.out ?_
      clear hG9 G9
      have hE6 := H6.ents d hd
      have hi6 : (d.ia, (⟨.ref 40, some d.dx, .plain, #[some (txt κ (Φ.f d.e.a) d.kn), some (.int d.e.np d.kp), some (.ref d.sa)]⟩ : Obj)) ∈ led6 := hE6.info
      have hdx6 := hE6.dict
      have hD6 := H6.dict
      have N6b : Box (News g L h6 led6) := ⟨N6⟩
      clear F5 N5 hil hit hsT5 hV5 H5 k6 K5 R5 hR5
      k_extra "gg"
      rename_i h9 led9 F9 N9 c9 k9
      refine hideG fun G9 hG9 => ?_
      obtain ⟨d', H9, hce9, K9, ia9, dx9, sa9⟩ := H6.npAt2 N6b.out k9 c9
      have he9 := (atNode_split (g := bump (-1)) H6.keys hce9).trans (by rw [he5'])
      have hsT9 := k9 _ hsT6 (news_ne N6b.out hsT6 hE6.info fun e => cls_ref_ne (congrArg Obj.cls e).symm)
      have hdx9 := k9 _ hdx6 (news_ne N6b.out hdx6 hE6.info fun e => cls_ref_ne (congrArg Obj.cls e).symm)
      have hV9 := K9 _ hV6 hVA5
      have hR9 := K9 _ hR6 hRA6
      have hit9 : Ob led9 IT (IsTIt V (i + 1)) := let ⟨o, m, q⟩ := hit6; ⟨o, (K9 _ m hIA5).1, q⟩
      have hIA9 : ¬ Adr S di D (l2 ++ d' :: r2) IT := let ⟨o, m, q⟩ := hit6; (K9 _ m hIA5).2
      have hil9 : Ob led9 IL (IsLIt c.sa (j + 1)) := let ⟨o, m, q⟩ := hil6; ⟨o, (K9 _ m hLA5).1, q⟩
      have hLA9 : ¬ Adr S di D (l2 ++ d' :: r2) IL := let ⟨o, m, q⟩ := hil6; (K9 _ m hLA5).2
      have K9' := K6.trans K9.R
      have hnp9 : npOf (atNode ((c.e.su.take j).foldl succStep (atNode ((ns.take i).foldl doneStep (cs.map (·.e), rd)).1 c.e.a (putNp (-2)), ((ns.take i).foldl doneStep (cs.map (·.e), rd)).2)).1 d.e.a (bump (-1))) b = d.e.np - 1 := by
        have := npOf_key he9 H9.keys (List.mem_append_right _ (.head _) : d' ∈ l2 ++ d' :: r2)
        rw [hce9] at this
        rw [← hda]; exact this
      have hR9m := hR9.1
      have hlow9 := H9.low
      have hS9 := H9.inst
      obtain ⟨kp9, kf9, hat9⟩ := H9.attr
      refine hG9.out ?_
      clear hG9 G9
      have hlen9 : us6.length ≤ 100000 := by
        have h1 := hus6.length
        have h2 := succ_len (c.e.su.take j) (atNode ((ns.take i).foldl doneStep (cs.map (·.e), rd)).1 c.e.a (putNp (-2)), ((ns.take i).foldl doneStep (cs.map (·.e), rd)).2)
        have h3 : (c.e.su.take j).length ≤ 1000 := by rw [List.length_take]; omega
        simp only at h2
        omega
      have N9b : Box (News g L h9 led9) := ⟨N9⟩
      clear hD6 hdx6 hi6 hE6 N6b hit6 hil6 k9 K6 H6 K9 hR6 hV6 hsT6 hva6
      refine ⟨?_⟩
      k_extra "gg"
      · rename_i h10 F10 N10
        rename d.e.np - 1 = 0 => hz9
        have hk10 : ∀ q ∈ led9, q.1 ≠ R → q ∈ setL led9 R (listOf (us6 ++ [txt κ (Φ.f b) kb]).toArray (n6 + 1)) := fun q hq hne => mem_setL_ne hne hq
        have H10 := H9.keep (led' := setL led9 R (listOf (us6 ++ [txt κ (Φ.f b) kb]).toArray (n6 + 1))) fun q hq hA => hk10 q hq fun z => hR9.2 (z ▸ hA)
        refine hQc.next _ ⟨c.us.length - (j + 1), by omega, j + 1, _, _, _, _, l2 ++ d' :: r2, rfl, hjj, rfl, F10, N10, ?_, ?_, hk10 _ hsT9 hsaR, hk10 _ hV9.1 hVR, hV9.2, hIA9, hLA9, H10, ?_, ?_, fun q hq hn hr => ⟨hk10 _ (K9' q hq hn hr).1 hr, (K9' q hq hn hr).2⟩, v1, v2⟩
        ·
          obtain ⟨o, m, q⟩ := hil9; exact ⟨o, hk10 _ m hRL.symm, q⟩
        ·
          obtain ⟨o, m, q⟩ := hit9; exact ⟨o, hk10 _ m hIR, q⟩
        · rw [take_snoc hb, List.foldl_append]
          refine ⟨⟨us6 ++ [txt κ (Φ.f b) kb], n6 + 1, mem_setL_self hR9m, ?_⟩, hR9.2⟩
          show NodesAre κ Φ _ (if npOf (atNode _ b (bump (-1))) b = 0 then _ ++ [b] else _)
          rw [hda] at hnp9
          rw [hnp9, if_pos hz9]
          exact hus6.app (.cons .nil)
        · rw [take_snoc hb, List.foldl_append, he9, hda]; rfl
      · rename ¬ (d.e.np - 1 = 0) => hz9
        refine hQc.next _ ⟨c.us.length - (j + 1), by omega, j + 1, _, _, _, _, l2 ++ d' :: r2, rfl, hjj, rfl, F9, N9, hil9, hit9, hsT9, hV9.1, hV9.2, hIA9, hLA9, H9, ?_, ?_, K9', v1, v2⟩
        · rw [take_snoc hb, List.foldl_append]
          refine ⟨⟨us6, n6, hR9m, ?_⟩, hR9.2⟩
          show NodesAre κ Φ _ (if npOf (atNode _ b (bump (-1))) b = 0 then _ ++ [b] else _)
          rw [hda] at hnp9
          rw [hnp9, if_neg hz9]
          exact hus6
        · rw [take_snoc hb, List.foldl_append, he9, hda]; rfl
    · intro h6 led6 hv6 F6 N6 k6
      have hej : j = c.us.length := by omega
      subst hej
      have H6 := H5.keep (led' := led6) fun q hq hA => k6 q hq fun z => hLA5 (z ▸ hA)
      have hV6 := k6 _ hV5 hVL
      have hit6 : Ob led6 IT (IsTIt V (i + 1)) := let ⟨o, m, q⟩ := hit; ⟨o, k6 _ m hTL, q⟩
      have K6 : KeptR S di D R cs cs'' news led6 := fun q hq hn hr => ⟨k6 q (K5 q hq hn hr).1 (Nat.ne_of_lt (Nat.lt_trans (hlt q hq) hVLl)), (K5 q hq hn hr).2⟩
      refine hideG fun G9 hG9 => ?_
      obtain ⟨us6, n6, hR5, hus6⟩ := R5.at_
      have hRA6 := R5.apart
      have hR6 : (R, listOf us6.toArray n6) ∈ led6 := k6 _ hR5 hRL
      rw [hull, List.take_length] at he5' hus6
      have hst : (ns.take (i + 1)).foldl doneStep (cs.map (·.e), rd) = c.e.su.foldl succStep (atNode ((ns.take i).foldl doneStep (cs.map (·.e), rd)).1 c.e.a (putNp (-2)), ((ns.take i).foldl doneStep (cs.map (·.e), rd)).2) := by
        rw [take_snoc ha, List.foldl_append, ← hsuc, hca]; rfl
      have hS6 := H6.inst
      obtain ⟨kp6, kf6, hat6⟩ := H6.attr
      refine hG9.out ?_
      clear hG9 G9
      have N6b : Box (News g L h6 led6) := ⟨N6⟩
      clear F5 N5 hil hit hsT5 hV5 H5 k6 K5 R5 hR5
      k_extra "gg"
      rename_i h8 led8 F8 N8 hat8 k8
      refine ⟨?_⟩
      have hdi : ∀ {a : Addr} {o : Obj}, (a, o) ∈ led6 → ¬ Adr S di D cs'' a → (a, o) ∈ led8 := fun hm hn => k8 _ hm fun z => hn (.inr (.inl z))
      have H8 := H6.setAttr (led' := led8) (vR' := .ref R) (p' := p) (f' := f + ((i + 1 : Nat) : Int)) N6b.out k8 ⟨kp6, _, (by
        obtain ⟨o, m, q⟩ := hat8
        rw [sam_f] at q
        rw [show f + ((i + 1 : Nat) : Int) = f + (i : Int) + 1 by omega]
        exact ⟨o, m, q⟩)⟩
      k_extra "gg"
      refine hQb.next _ ⟨vs.length - (i + 1), by omega, i + 1, _, _, _, _, cs'', rfl, hii, rfl, F8, N8, ?_, hdi hV6 hVA5, hVA5, hIA5, H8, ⟨⟨us6, n6, hdi hR6 hRA6, ?_⟩, hRA6⟩, ?_, ?_, fun q hq hn hr => ⟨hdi (K6 q hq hn hr).1 (K6 q hq hn hr).2, (K6 q hq hn hr).2⟩, v1, v2⟩
      ·
        obtain ⟨o, m, q⟩ := hit6; exact ⟨o, hdi m hIA5, q⟩
      · rw [hst]; exact hus6
      · rw [hst]; exact he5'
      · rw [hst]
        refine Nat.le_trans (succ_len _ _) ?_
        show ((ns.take i).foldl doneStep (cs.map (·.e), rd)).2.length + c.e.su.length ≤ _
        omega
  · intro h6 led6 hv6 F6 N6 k6
    have hei : i = vs.length := by omega
    subst hei
    k_extra "gg"
    have H6 := H5.keep (led' := led6) fun q hq hA => k6 q hq fun z => hIA (z ▸ hA)
    refine hideG fun G9 hG9 => ?_
    obtain ⟨us5, n5, hR5, hus5⟩ := R5.at_
    refine hG9.out ?_
    clear hG9 G9
    rw [hvl, List.take_length] at he5 hus5
    rw [hvl] at H6
    refine hQf.out _ _ ?_
    exact ⟨_, _, _, _, rfl, F6, N6, rfl, cs', H6, ⟨⟨us5, n5, k6 _ hR5 hIR.symm, hus5⟩, R5.apart⟩, he5, fun q hq hn hr => ⟨k6 q (K5 q hq hn hr).1 (ltn q hq), (K5 q hq hn hr).2⟩⟩

theorem fresh_P40_doneno : True := by
  w_top off
  trivial
theorem lw32_all : True := by
  k_with "L exec Raise some none" => (k_here; (with_reducible show wpAny _ _ (exec (Stmt.Raise (some (Expr.Call (Expr.Name ("ValueError" : Str) _) (_ :: _) [] _)) none _) _) _ _ _); (with_reducible rename Fr _ _ _ _ => kF); k_dflt (refine' Raise_madeB PySem.F.excCall_ValueError PySem.F.excRaise_ValueError ?hh ?_; (case hh => rfl)); k_dflt (refine' name_B kF ?k1 ?k2 ?k3 ?k4 ?k5 ?_; (case k1 => k_asm); (case k2 => first | k_asm | exact topRead_of (by k_asm)); (case k3 => k_is); (case k4 => boot_by_name); (case k5 => decide)); refine ⟨rfl, ?_⟩)
  trivial
section
variable {w : World} {D U : Nat} {f : Addr} {args : Args} {news : Led} {err : Value → List Value → Led → Prop}
/-- a function of a star parameter that only raises -/
theorem FnS.introV {name qual : Str} {params : Arguments} {body : List Stmt} {scope : Scope} {dV kV doc pm cdv ct oc : Value} {an od : Option Addr} {osl : Array (Option Value)} {vs : List Value} {g₁ : Addr → Option (List (Str × Value))} {binds : Addr → List (Str × Value)}
    (ho : (Mine.hd.heap_1 w.params).lookup f = some ⟨oc, od, .func (fnOf name qual params body scope dV kV doc pm an cdv ct), osl⟩) (hcd : codeIn (Mine.hd.heap_1 w.params) cdv qual = true) (hroom : Nat.blt D 1000 = true)
    (hv : args.pos.drop (params.posonlyargs.length + params.args.length) = vs)
    (hp : peek1 (Mine.hd.heap_1 w.params) ⟨PySem.Challenge.rw_op0160_01.row.prog, w.params⟩ (bindArgs (fnOf name qual params body scope dV kV doc pm an cdv ct) args) = some (({ cls := .type "tuple", data := .seq vs.toArray } : Obj), g₁))
    (hg : ∀ D, g₁ D = some (binds D)) (hloc : ∀ D, ∀ y ∈ binds D, scope.names.lookup y.1 = some .local)
    (hcell : ∀ x ∈ scope.names, x.2 ≠ .cell) (hco : scope.isCoroutine = false) (hgen : scope.isGenerator = false) (hk : scope.kind = .function)
    (h : ∀ (loose : List Str) (mean : ExcName → Option Value) (mg mb : Str → Option Value) (gd : Option (List Code)) (env₀ : Env) (outer : List Env) (base g : Heap) (V L : Addr) (h₁ : Heap) (s : Shared) (tk : Nat),
      Below { handled := none, depth := D, frames := some (env₀ :: outer), guards := gd, units := U } base (env₀ :: outer) g → Fr g L h₁ (fun y => (binds V).reverse.lookup y) → (Mine.hd.heap_1 w.params).In g → News g L h₁ ((V, ({ cls := .type "tuple", data := .seq vs.toArray } : Obj)) :: news) → Top topProg loose mean mg mb g → (∀ p ∈ news, p.1 < V) →
      wpAny (model PySem.Challenge.rw_op0160_01.row.prog w) (AR none (D + 1) (U + 3) (envOf qual scope L f cdv) gd env₀ outer) (execs body (envOf qual scope L f cdv)) (fun _ _ => False) (ErrS base g (envOf qual scope L f cdv) (env₀ :: outer) L s err) { s with heap := h₁, toks := tk }) :
    FnS w D U none f args news (fun _ _ => False) err := by
  intro loose mean mg mb gd env outer A₀ base h₀ L m s hf hke B F N XB TB KD
  have X := XB.keeps B.stays
  have T := TB.keeps B.stays
  refine kp_rest (A := { handled := none, depth := D, frames := some (env :: outer), guards := gd, units := U }) B F X N T rfl hf hke ho hcd (Nat.le_of_ble_eq_true hroom) hv hp hg hloc ?_ hco hgen hk hcell
  intro V g L' h₁ hlt FG F' N' BG X' T'
  refine wpAny_mono (h loose mean mg mb gd env outer base g V L' h₁ s _ BG F' X' N' T' hlt) (fun _ _ x => x.elim) ?_
  rintro ev s' hE
  cases hE with
  | made T1 F2 N2 hx he =>
    refine hideG fun G9 hG9 => ?_
    obtain ⟨h₀', T2, F3, B3⟩ := turn_back B FG hf T1
    refine hG9.out ?_
    clear hG9 G9
    exact leave_raiseS (below_turn BG T1) hx F2 N2 (fun h' t R _ hs => ⟨h₀', h', _, _, _, t, _, _, rfl, T2, F3, R, hs, he⟩) hk
  | on T1 F2 R hs he =>
    refine hideG fun G9 hG9 => ?_
    obtain ⟨h₀', T2, F3, B3⟩ := turn_back B FG hf T1
    refine hG9.out ?_
    clear hG9 G9
    exact leave_onS (below_turn BG T1) F2 R hs (fun h' R _ hs => ⟨h₀', h', _, _, _, _, _, _, rfl, T2, F3, R, hs, he⟩)
  | held T1 F2 R hs he =>
    refine hideG fun G9 hG9 => ?_
    obtain ⟨h₀', T2, F3, B3⟩ := turn_back B FG hf T1
    refine hG9.out ?_
    clear hG9 G9
    exact leave_heldS R F2 hs (fun h' R _ hs => ⟨h₀', h', _, _, _, _, _, _, rfl, T2, F3, R, hs, he⟩)
end
noncomputable def nodeL : List Nat := [110, 111, 100, 101, 32]
noncomputable def stillL : List Nat := (Str.ofString " was not passed out (still not ready)").cps.toList
noncomputable def doneL : List Nat := (Str.ofString " was already marked done").cps.toList
noncomputable def refuT (κ : Bool) (t : List Nat) (np : Int) : List Nat := nodeL ++ reprT κ t ++ (if 0 ≤ np then stillL else doneL)
theorem refuT_app (u : List Nat) : (Str.empty ++ Str.ofString "node " ++ ⟨u.toArray⟩ ++ Str.ofString " was not passed out (still not ready)" : Str) = ⟨(nodeL ++ u ++ stillL).toArray⟩ ∧ (Str.empty ++ Str.ofString "node " ++ ⟨u.toArray⟩ ++ Str.ofString " was already marked done" : Str) = ⟨(nodeL ++ u ++ doneL).toArray⟩ := by
  have e0 : Str.empty = ⟨([] : List Nat).toArray⟩ := rfl
  have e1 : Str.ofString "node " = ⟨nodeL.toArray⟩ := by decide +kernel
  have e2 : Str.ofString " was not passed out (still not ready)" = ⟨stillL.toArray⟩ := by decide +kernel
  have e3 : Str.ofString " was already marked done" = ⟨doneL.toArray⟩ := by decide +kernel
  rw [e0, e1, e2, e3]
  simp only [str_app, List.nil_append, and_self]
inductive DnoI (κ : Bool) (Φ : NodeFn) (a : Nat) (k : Tok) (S : Addr) (D : Addr) (V : Addr) (IT : Addr) (news : Led) (g : Heap) (L : Addr) (s : Shared) (n' : Nat) (s' : Shared) : Prop
  | mk (h' : Heap) (tk' : Nat) (m' : Str → Option Value) (led : Led)
      (e1 : s' = { s with heap := h', toks := tk' }) (e2 : Fr g L h' m') (e3 : News g L h' led) (e4 : Ob led IT (IsTIt V 0)) (e5 : (∀ q ∈ (V, tupO [txt κ (Φ.f a) k]) :: news, q ∈ led)) (e6 : m' (Str.ofString "self") = some (.ref S)) (e7 : m' (Str.ofString "n2i") = some (.ref D))
theorem done_no (w : World) (κ : Bool) (Φ : NodeFn) (a : Nat) (k : Tok) (S di D R : Addr) (cs : List CE) (c : CE) (p f : Int) (news : Led) (H : SrtIn w κ Φ news S di D cs (.ref R) p f) (hc : c ∈ cs) (hca : c.e.a = a) (hnp : 0 ≤ c.e.np ∨ c.e.np = -2) (hpl : Plain (Φ.f a)) (hrl : (Φ.f a).length ≤ 900) :
    FnS w 560 3600 none 120 ⟨[.ref S, txt κ (Φ.f a) k], []⟩ news (fun _ _ => False) (fun cls vs led => cls = .type "ValueError" ∧ (∃ k', vs = [txt false (refuT κ (Φ.f a) c.e.np) k']) ∧ (∀ q ∈ news, q ∈ led)) := by
  unfold FnS; k_fill; show FnS _ _ _ _ _ _ _ _ _
  refine FnS.introV (g₁ := fun V => some [(Str.ofString "self", .ref S), (Str.ofString "nodes", .ref V)]) (binds := fun V => [(Str.ofString "self", .ref S), (Str.ofString "nodes", .ref V)]) (vs := [txt κ (Φ.f a) k]) (by k_is) (by k_is) rfl rfl rfl (fun _ => rfl) (fun _ => locs rfl) (by decide) rfl rfl rfl ?_
  intro loose mean mg mb gd env₀ outer base g V L h₁ s tk B F X N T hlt
  have H1 : SrtIn w κ Φ ((V, tupO [txt κ (Φ.f a) k]) :: news) S di D cs (.ref R) p f := H.sub fun q hq => .tail _ hq
  have hS1 := H1.inst
  refine hideG fun G9 hG9 => ?_
  obtain ⟨kp, kf, hat1⟩ := H1.attr
  refine hG9.out ?_
  clear hG9 G9
  have hlow := H.low
  k_extra "gg"
  refine for_at ?_ (fun _ => rfl)
  k_extra "gg"
  rename Fr _ _ _ _ => F3
  rename News _ _ _ _ => N3
  refine iter_T F3 N3 (.head _) ?_
  intro IT h4 oI F4 N4 hIT ltI
  have ltn : ∀ q ∈ (V, tupO [txt κ (Φ.f a) k]) :: news, q.1 ≠ IT := fun q hq => Nat.ne_of_lt (ltI _ hq)
  have hr := reprT_len κ (Φ.f a)
  refine ForAt.intro (DnoI κ Φ a k S D V IT news g L s) ?_ 0
    ⟨_, _, _, _, rfl, F4, N4, ⟨oI, .head _, hIT⟩, fun q hq => .tail _ hq, rfl, rfl⟩
  clear F3 N3 F4 N4 hIT hat1 hS1
  rintro n' s' hp9z
  refine hideG fun G9 hG9 => ?_
  obtain ⟨h', tk', m', led, rfl, F5, N5, hit, hk5, v1, v2⟩ := hp9z
  refine hG9.out ?_
  clear hG9 G9
  refine next_T rfl F5 N5 hit (hk5 _ (.head _)) ?_ ?_
  · intro v h6 led6 hv6 F6 N6 hit6 k6
    cases hv6
    have hn6 : ∀ q ∈ (V, tupO [txt κ (Φ.f a) k]) :: news, q ∈ led6 := fun q hq => k6 q (hk5 q hq) (ltn q hq)
    have H6 := H1.sub hn6
    have hva := hca ▸ valueAt_node H6.keys hc
    have hE6 := H6.ents c hc
    have hi6 : (c.ia, (⟨.ref 40, some c.dx, .plain, #[some (txt κ (Φ.f c.e.a) c.kn), some (.int c.e.np c.kp), some (.ref c.sa)]⟩ : Obj)) ∈ led6 := hE6.info
    have hdx6 := hE6.dict
    have hD6 := H6.dict
    have N6b : Box (News g L h6 led6) := ⟨N6⟩
    have F6b : Box (Fr g L h6 m') := ⟨F6⟩
    clear F5 N5 hit k6 H1
    k_extra "gg"
    · rename Fr _ _ _ _ => F8
      rename News _ _ _ _ => N8
      rename Heap.MadeExc _ _ _ _ _ => hx9
      rename 0 ≤ c.e.np => n2
      refine hideG fun G9 hG9 => ?_
      obtain ⟨t9, he9, htn9, ht9⟩ := hx9.of.there
      refine hG9.out ?_
      clear hG9 G9
      refine own_raise_in (t := t9) B F8 N8 hx9.keeps hx9.new he9 rfl rfl rfl rfl htn9 ⟨_, _, ht9, rfl, rfl⟩ rfl ?_ ?_
      rotate_left
      · rfl
      intro h5 R5 hs5 F5
      refine ErrS.held KtsTurn.refl F5 R5 hs5 ⟨rfl, ?_, fun q hq => hn6 q (.tail _ hq)⟩
      rw [(refuT_app _).1]; unfold refuT; rw [if_pos n2]; exact ⟨_, rfl⟩
    · rename Fr _ _ _ _ => F8
      rename News _ _ _ _ => N8
      rename Heap.MadeExc _ _ _ _ _ => hx9
      rename ¬ 0 ≤ c.e.np => n2
      refine hideG fun G9 hG9 => ?_
      obtain ⟨t9, he9, htn9, ht9⟩ := hx9.of.there
      refine hG9.out ?_
      clear hG9 G9
      refine own_raise_in (t := t9) B F8 N8 hx9.keeps hx9.new he9 rfl rfl rfl rfl htn9 ⟨_, _, ht9, rfl, rfl⟩ rfl ?_ ?_
      rotate_left
      · rfl
      intro h5 R5 hs5 F5
      refine ErrS.held KtsTurn.refl F5 R5 hs5 ⟨rfl, ?_, fun q hq => hn6 q (.tail _ hq)⟩
      rw [(refuT_app _).2]; unfold refuT; rw [if_neg n2]; exact ⟨_, rfl⟩
  · intro h6 led6 hv6
    exact absurd hv6 (by simp)

theorem fresh_P41_next : True := by
  w_top off
  trivial
theorem slot_li_ga : Slot "list_iterator" "__getattribute__" "object.__getattribute__" :=
  .of (owner := "object") (n := "__getattribute__") (by rw [typeLookup_type, builtinLookup_eq_fast]; kernel_rfl) (by decide +kernel) (by decide +kernel) (by decide +kernel)
    (by first | exact .inl (by decide +kernel) | exact .inr (by decide +kernel)) (by rw [isSubtype_type]; kernel_rfl)
theorem entry_li_ga : entryFor table "object.__getattribute__" = some Builtin.«object.__getattribute__» := by first | exact entryFor_of_fast (by kernel_rfl) | exact entryFor_of_tree (by kernel_rfl)
theorem args_li_ga (a b : Value) : argsOk "object.__getattribute__" ⟨[a, b], []⟩ := by unfold argsOk; kernel_rfl
theorem lk_li_next : typeLookup (.type "list_iterator") "__next__" = pure (some (.builtin "list_iterator.__next__")) := by rw [typeLookup_type, builtinLookup_eq_fast]; kernel_rfl
theorem type_li_next : typeOf (.builtin "list_iterator.__next__") = pure (.type "wrapper_descriptor") := by show builtinType _ = _; rw [builtinType_eq_fast]; kernel_rfl
theorem slot_wd_get : Slot "wrapper_descriptor" "__get__" "wrapper_descriptor.__get__" :=
  .of (owner := "wrapper_descriptor") (n := "__get__") (by rw [typeLookup_type, builtinLookup_eq_fast]; kernel_rfl) (by decide +kernel) (by decide +kernel) (by decide +kernel)
    (by first | exact .inl (by decide +kernel) | exact .inr (by decide +kernel)) (by rw [isSubtype_type]; kernel_rfl)
theorem lk_wd_set : typeLookup (.type "wrapper_descriptor") "__set__" = pure none := by rw [typeLookup_type, builtinLookup_eq_fast]; kernel_rfl
theorem lk_wd_delete : typeLookup (.type "wrapper_descriptor") "__delete__" = pure none := by rw [typeLookup_type, builtinLookup_eq_fast]; kernel_rfl
theorem entry_wd_get : entryFor table "wrapper_descriptor.__get__" = some Builtin.«wrapper_descriptor.__get__» := entryFor_of_tree (by kernel_rfl)
theorem args_wd_get (a b c : Value) : argsOk "wrapper_descriptor.__get__" ⟨[a, b, c], []⟩ := by unfold argsOk; kernel_rfl
theorem owner_li : ".".intercalate ("list_iterator.__next__".cutAt '.').dropLast = "list_iterator" := by decide +kernel
theorem sub_li_owner : isSubtype (.type "list_iterator") (.type (".".intercalate ("list_iterator.__next__".cutAt '.').dropLast)) = pure true := by
  rw [owner_li, isSubtype_type]; kernel_rfl

section
variable {prog : Program} {w : World} {A : Around} {E : Value → Shared → Prop} {h : Heap} {g : Array GenState} {d : Drawn} {t : Nat} {os : OsState} {a : Addr} {o : Obj}
theorem li_get {R : Result → Shared → Prop} (hx : h.get? a = some o) (hc : o.cls = .type "list_iterator") (hq : R (.ok (.ret (.ref h.objs.size))) ⟨h.push { cls := .type "method-wrapper", data := .fields #[.builtin "list_iterator.__next__", .ref a] }, g, d, t, os⟩) :
    codeAny (model prog w) A (.call (.builtin "wrapper_descriptor.__get__") ⟨[.builtin "list_iterator.__next__", .ref a, .type "list_iterator"], []⟩) R ⟨h, g, d, t, os⟩ := by
  have hT : (⟨h, g, d, t, os⟩ : Shared).TypeIs (.ref a) "list_iterator" := ⟨_, hx, hc⟩
  have hT5 : (⟨h, g, d, t, os⟩ : Shared).TypeIs (.builtin "list_iterator.__next__") "wrapper_descriptor" := type_li_next
  have f8 := sub_li_owner
  refine codeAny_call_builtin slot_wd_get.plain entry_wd_get (slot_wd_get.check _ _ _ _ _ _ _ _ hT5 (args_wd_get _ _ _) ?_)
  repeat (any_goals (first | assumption | wp_step))
theorem li_entry {tk : Tok} {l : Addr} {Q : Fin → Shared → Prop} (hx : h.get? a = some { cls := .type "list_iterator", data := .fields #[.ref l, .int 0 0] }) (hq : Q (.done (.ret (.ref h.objs.size))) ⟨h.push { cls := .type "method-wrapper", data := .fields #[.builtin "list_iterator.__next__", .ref a] }, g, d, t, os⟩) :
    wpAny (model prog w) A (Builtin.«object.__getattribute__» ⟨[.ref a, .str "__next__" tk], []⟩) Q E ⟨h, g, d, t, os⟩ := by
  have hT : (⟨h, g, d, t, os⟩ : Shared).TypeIs (.ref a) "list_iterator" := ⟨_, hx, rfl⟩
  have hT5 : (⟨h, g, d, t, os⟩ : Shared).TypeIs (.builtin "list_iterator.__next__") "wrapper_descriptor" := type_li_next
  have f4 := lk_li_next
  have f5 := type_li_next
  have f6 := slot_wd_get.lookup
  have f7 := lk_wd_set
  have f8 := lk_wd_delete
  repeat (any_goals (first | assumption | wp_step))
  refine li_get hx rfl ?_
  repeat (any_goals (first | assumption | wp_step))
theorem li_attr {l : Addr} {Q : Value → Shared → Prop} (hx : h.get? a = some { cls := .type "list_iterator", data := .fields #[.ref l, .int 0 0] }) (hq : Q (.ref h.objs.size) ⟨h.push { cls := .type "method-wrapper", data := .fields #[.builtin "list_iterator.__next__", .ref a] }, g, d, t + 1, os⟩) :
    wpAny (model prog w) A (getAttr (.ref a) "__next__" true) Q E ⟨h, g, d, t, os⟩ := by
  have hT : ∀ tk', (⟨h, g, d, tk', os⟩ : Shared).TypeIs (.ref a) "list_iterator" := fun _ => ⟨_, hx, rfl⟩
  have f3 := slot_li_ga.lookup
  have f4 := slot_li_ga.bind (.ref a)
  unfold getAttr getAttrBy
  repeat (any_goals (first | assumption | exact hT _ | ((with_reducible show wpAny _ _ (call (Value.builtin "object.__getattribute__") _ _) _ _ _); refine wpAny_call_entry slot_li_ga (hT _) entry_li_ga ?_ (args_li_ga _ _); refine li_entry hx ?_) | (with_reducible refine ⟨_, rfl, ?_⟩) | wp_step))
end

theorem fresh_P41a_call : True := by
  w_top off
  trivial
/-- the iterator's own next, bound -/
noncomputable def mwObj (it : Addr) : Obj := { cls := .type "method-wrapper", data := .fields #[.builtin "list_iterator.__next__", .ref it] }
noncomputable abbrev litObj (l : Addr) : Obj := { cls := .type "list_iterator", data := .fields #[.ref l, .int 0 0] }
theorem check_next (it : Addr) : checkBoundCall "list_iterator.__next__" ⟨[.ref it], []⟩ = pure () := by first | kernel_rfl | rfl
theorem quiet_next (as : Args) : (Code.builtin "list_iterator.__next__" as).quiet = true := Code.quiet_builtin _ (by decide +kernel)
section
variable {prog : Program} {w : World} {A : Around} {E : Value → Shared → Prop} {s : Shared} {h₀ : Heap} {L l x it : Addr} {m : Str → Option Value} {led : Led}
theorem nextAttr {Q : Value → Shared → Prop} (F : Fr h₀ L s.heap m) (N : News h₀ L s.heap led) (hm : (it, litObj l) ∈ led)
    (h : ∀ x h', Fr h₀ L h' m → News h₀ L h' ((x, mwObj it) :: led) → (∀ p ∈ led, p.1 < x) → Q (.ref x) { s with heap := h', toks := s.toks + 1 }) : wpAny (model prog w) A (getAttr (.ref it) "__next__" true) Q E s := by
  obtain ⟨hp, g, d, tk, os⟩ := s
  exact li_attr (N _ hm).1 (h _ _ (F.push _) (News.push F N (mwObj it) rfl) fun p hp => Heap.lt_size (N p hp).1)
theorem callMw_with {pos : Pos} {Q : Value → Shared → Prop} (N : News h₀ L s.heap led) (hm : (x, mwObj it) ∈ led) (h : wpAny (model prog w) A (call (.ref x) []) Q E s) : wpAny (model prog w) A (callWith pos (.ref x) [] [] []) Q E s := by
  unfold callWith
  refine wpAny_bind (wpAny_holding (PySem.evalArgs_none ?_))
  refine wpAny_bind (wpAny_standAt ?_)
  refine wpAny_bind (m := keeperOf (.ref x)) ?_
  unfold keeperOf
  refine wpAny_bind (wpAny_load (N _ hm).1 ?_)
  simp only [mwObj, show (Value.type "method-wrapper" != Value.type "method") = true by decide, show (Value.type "method-wrapper" == Value.type "builtin_function_or_method" || Value.type "method-wrapper" == Value.type "method-wrapper") = true by decide, if_true]
  refine wpAny_pure ?_
  exact wpAny_bind (wpAny_mono h (fun r s₂ hr => wpAny_bind (wpAny_holding (wpAny_point (wpAny_pure hr)))) fun _ _ x => x)
theorem callMw {Q : Value → Shared → Prop} (N : News h₀ L s.heap led) (hm : (x, mwObj it) ∈ led)
    (h : wpAny (model prog w) (A.under (.builtin "list_iterator.__next__" ⟨[.ref it], []⟩)) (Builtin.«list_iterator.__next__» ⟨[.ref it], []⟩) (fun fin s' => match fin with | .done f => (match f with | .ret v => Q v s' | _ => False) | .again _ => False) E s) : wpAny (model prog w) A (call (.ref x) []) Q E s := by
  refine wpAny_call (codeAny_of_tree ?_)
  show wpAny _ A.in1 (callAny (.ref x) ⟨[], []⟩) _ _ s
  simp only [callAny]
  refine wpAny_bind (wpAny_load (N _ hm).1 ?_)
  simp only [mwObj, show (Value.type "method-wrapper" == Value.type "method" || Value.type "method-wrapper" == Value.type "builtin_function_or_method" || Value.type "method-wrapper" == Value.type "method-wrapper") = true by decide, if_true]
  refine KFB.if_so (by decide) ?_
  refine wpAny_bind (wpAny_of_eq (a := ()) (check_next it) ?_)
  refine wpAny_bind (wpAny_pure (wpAny_pure ?_))
  refine ⟨quiet_next _, codeAny_builtin PySem.entry_listiter_next (wpAny_mono h (fun fin s' hf => ?_) fun _ _ e => ?_)⟩
  · rcases fin with (_ | _ | _ | _) | _ <;> first | exact hf | exact hf.elim
  · exact e
end

theorem fresh_P42_rules : True := by
  w_top off
  trivial
section
variable {prog : Program} {w : World} {A : Around} {E : Value → Shared → Prop} {s : Shared} {h₀ : Heap} {L l x it D : Addr} {m : Str → Option Value} {led : Led}
theorem mwNext {its : List Value} {n i : Nat} {Q : Value → Shared → Prop} (hh : A.handled = none) (F : Fr h₀ L s.heap m) (N : News h₀ L s.heap led) (hx : (x, mwObj it) ∈ led) (hI : Ob led it (IsLIt l i)) (hm : (l, listOf its.toArray n) ∈ led)
    (hs : ∀ v h' led', its[i]? = some v → Fr h₀ L h' m → News h₀ L h' led' → Ob led' it (IsLIt l (i + 1)) → (∀ p ∈ led, p.1 ≠ it → p ∈ led') → Q v { s with heap := h' })
    (he : ∀ e h1 h' led', its.length ≤ i → Fr h₀ L h1 m → News h₀ L h1 led' → (∀ p ∈ led, p.1 ≠ it → p ∈ led') → Heap.NewExc h1 h' e "StopIteration" → E (.ref e) { s with heap := h' }) : wpAny (model prog w) A (call (.ref x) []) Q E s := by
  obtain ⟨oI, hI, hc, hd⟩ := hI
  have ho := (N _ hI).1
  have hol := (N _ hm).1
  refine callMw N hx ?_
  show wpAny _ _ (field (.ref it) 0 >>= _) _ _ s
  refine wpAny_bind (wpAny_field ho hd (x := .ref l) rfl ?_)
  show wpAny _ _ (if (Value.ref l == Value.none) = true then _ else _) _ _ s
  rw [if_neg (show ¬ ((Value.ref l == Value.none) = true) from Bool.false_ne_true)]
  show wpAny _ _ (field (.ref it) 1 >>= _) _ _ s
  refine wpAny_bind (wpAny_field ho hd (x := .int i 0) rfl ?_)
  show wpAny _ _ (seqItems? (.ref l) >>= _) _ _ s
  refine wpAny_bind (wpAny_seqItems hol rfl ?_)
  cases hx' : its[i]? with
  | some v =>
    have hx2 : its.toArray[i]? = some v := by simpa using hx'
    simp only [Int.toNat_natCast, hx2]
    refine wpAny_bind (wpAny_setField ho hd (by simp) (wpAny_pure ?_))
    have hb := Heap.SameBut.update s.heap it (Obj.mapFields fun x => x.setIfInBounds 1 (rawInt ((i : Int) + 1)))
    have hg := Heap.get?_update_self (Obj.mapFields fun x => x.setIfInBounds 1 (rawInt ((i : Int) + 1))) ho (Obj.isFreed_of_fields (Obj.data_mapFields hd _))
    exact hs v _ _ hx' (fr_same F N hI hb) (news_same N hI hb hg) ⟨_, mem_setL_self hI, (Obj.cls_mapFields ..).trans hc, by rw [Obj.data_mapFields hd]; simp [rawInt]⟩ fun p hp hne => mem_setL_ne hne hp
  | none =>
    have hx2 : its.toArray[i]? = none := by simpa using hx'
    simp only [Int.toNat_natCast, hx2]
    refine wpAny_bind (wpAny_rule (wpAny_bind (wpAny_setField ho hd (by simp) ?_)))
    have hb : Heap.SameBut it s.heap (s.heap.update it (Obj.mapFields fun x => x.setIfInBounds 0 Value.none)) := Heap.SameBut.update ..
    have N1 := news_less N (d := it) (h' := s.heap.update it (Obj.mapFields fun x => x.setIfInBounds 0 Value.none)) fun b o hne e => hb.extBut b o hne e
    have F1 := fr_less F N hI (h' := s.heap.update it (Obj.mapFields fun x => x.setIfInBounds 0 Value.none)) fun b o hne e => hb.extBut b o hne e
    unfold Builtin.SmallTypes.stopIteration
    refine wpAny_bind ?_
    simp only [newExc, newTuple]
    refine wpAny_bind (wpAny_newObj_type ?_ (by size_fits))
    refine wpAny_bind (m := firstArgMember _ _) (wpAny_of_eq (a := Value.none) (by first | rfl | (simp only [firstArgMember]; rfl)) ?_)
    refine wpAny_newObj_type ?_ (by size_fits)
    simp only [raiseNew]
    refine wpAny_bind (wpAny_handled ?_)
    rw [show (A.under (Code.builtin "list_iterator.__next__" ⟨[.ref it], []⟩)).handled = none from hh]
    refine wpAny_bind (wpAny_pure (wpAny_throw ?_))
    refine he _ _ _ _ (by simpa using hx') F1 N1 (fun p hp hne => mem_less hp hne) ⟨fun b o hb => Heap.get?_push_of_some _ (Heap.get?_push_of_some _ hb), Heap.get?_none_of_le (by simp), ?_⟩
    exact ⟨_, _, Heap.get?_push_size _ rfl, rfl, rfl⟩
theorem popL {us : List Value} {y : Value} {n : Nat} {Q : Value → Shared → Prop} (F : Fr h₀ L s.heap m) (N : News h₀ L s.heap led) (hm : (D, listOf (us ++ [y]).toArray n) ∈ led) (hz : us.length ≤ 100000)
    (h : ∀ h' led', Fr h₀ L h' m → News h₀ L h' led' → (D, listOf us.toArray (n + 1)) ∈ led' → (∀ p ∈ led, p.1 ≠ D → p ∈ led') → Q y { s with heap := h' }) : wpAny (model prog w) A (call (.builtin "list.pop") [.ref D]) Q E s := by
  have hl : ∀ (l : List Value), kl_last (l ++ [y]) = some (l, y) := by
    intro l
    induction l with
    | nil => rfl
    | cons a l ih => show kl_last (a :: (l ++ [y])) = _; unfold kl_last; rw [ih]
  refine kl_pop F (news_dd N) (p := us) (y := y) (by rw [List.toList_toArray]; exact hl us) (upd_of (nodup_dd _) ((mem_dd N _).mpr hm)) ?_ fun h' F' N' => ?_
  · rw [sizeLine_eq, List.toList_toArray, List.length_append]; simp; omega
  · exact h h' _ F' (news_setL_dd N N') (mem_setL_self hm) fun p hp hne => mem_setL_ne hne hp
theorem methPop {us : List Value} {n : Nat} {pl : Sem Bool} {Q : Value × List Value → Shared → Prop} (N : News h₀ L s.heap led) (hm : (D, listOf us.toArray n) ∈ led) (h : Q (.builtin "list.pop", [.ref D]) s) : wpAny (model prog w) A (getMethod (.ref D) (Str.ofString "pop") pl) Q E s :=
  kl_method N hm PySem.F.slot_list_pop PySem.F.type_list_pop h
theorem lastL {value slice : Expr} {us : List Value} {y : Value} {n : Nat} {u : Tok} {Q : Value → Shared → Prop} (N : News h₀ L s.heap led) (hm : (D, listOf (us ++ [y]).toArray n) ∈ led) (h : Q y s)
    (hs : subscripted slice false (.ref D) (.int (-1) u) = operate [.ref D, .int (-1) u] (getItem (.ref D) (.int (-1) u)) := by with_unfolding_all rfl) :
    wpAny (model prog w) A (subscriptTail value slice (.ref D) (.int (-1) u)) Q E s := by
  refine kde_neg (j := us.length) ⟨_, (N _ hm).1, rfl, n, rfl⟩ (by decide) (by decide) ?_ (by simp) h hs
  unfold seqIndex?
  simp
  omega
end

theorem fresh_P42a_cyc : True := by
  w_top off
  trivial
/-- the search for a ring, mirrored: the stack's top first, each entry with its iterator's place -/
noncomputable def back (es : List Ent) : List (Nat × Nat) → Option (Nat × List (Nat × Nat))
  | [] => none
  | (x, i) :: r => match (suOf es x)[i]? with
    | some b => some (b, (x, i + 1) :: r)
    | none => back es r
noncomputable def ringOf (st : List (Nat × Nat)) (a : Nat) : List Nat := (st.map (·.1)).reverse.drop ((st.map (·.1)).reverse.idxOf a) ++ [a]
/-- what one turn of the search begins with: the ring found, or the stack and what is seen -/
noncomputable def turnOf (a : Nat) (st : List (Nat × Nat)) (seen : List Nat) : List Nat ⊕ (List (Nat × Nat) × List Nat) :=
  if a ∈ seen then (if a ∈ st.map (·.1) then .inl (ringOf st a) else .inr (st, seen)) else .inr ((a, 0) :: st, seen ++ [a])
noncomputable def dfs (es : List Ent) : Nat → Nat → List (Nat × Nat) → List Nat → Option (List Nat ⊕ List Nat)
  | 0, _, _, _ => none
  | n + 1, a, st, seen => match turnOf a st seen with
    | .inl ring => some (.inl ring)
    | .inr (st, seen) => match back es st with
      | none => some (.inr seen)
      | some (b, st) => dfs es n b st seen
noncomputable def findRing (es : List Ent) (fuel : Nat) : List Nat → List Nat → Option (Option (List Nat))
  | [], _ => some none
  | a :: as, seen => if a ∈ seen then findRing es fuel as seen else match dfs es fuel a [] seen with
    | none => none
    | some (.inl ring) => some (some ring)
    | some (.inr seen) => findRing es fuel as seen
/-- an entry of the stack: node, place, the addresses of iterator, bound next, list of successors, and the dict's value -/
structure SE where
  x : Nat
  i : Nat
  it : Addr
  mw : Addr
  sa : Addr
  ix : Nat
  k : Tok
noncomputable def stOf (ses : List SE) : List (Nat × Nat) := (ses.map fun e => (e.x, e.i)).reverse
structure CyIn (w : World) (κ : Bool) (Φ : NodeFn) (cs : List CE) (news led : Led) (K I S N : Addr) (ses : List SE) (seen : List Nat) : Prop where
  stk : ∃ us n, (K, listOf us.toArray n) ∈ led ∧ NodesAre κ Φ us (ses.map (·.x))
  itk : ∃ n, (I, listOf (ses.map fun e => Value.ref e.mw).toArray n) ∈ led
  mws : ∀ e ∈ ses, (e.mw, mwObj e.it) ∈ led
  its : ∀ e ∈ ses, Ob led e.it (IsLIt e.sa e.i)
  sas : ∀ e ∈ ses, ∃ c ∈ cs, c.e.a = e.x ∧ c.sa = e.sa
  dist : (ses.map (·.it)).Nodup
  xs : (ses.map (·.x)).Nodup
  ixs : ∀ (j : Nat) (e : SE), ses[j]? = some e → e.ix = j
  sub : ∀ e ∈ ses, e.x ∈ seen
  sn : Ob led S (IsS w κ Φ (fun k => decide (k ∈ seen)) seen.length)
  nd : Ob led N (IsD w κ Φ (ses.map fun e => (e.x, Value.int e.ix e.k)))
  KI : K ≠ I
  new : ∀ q ∈ news, q ∈ led ∧ q.1 < K ∧ q.1 < I ∧ q.1 < S ∧ q.1 < N ∧ ∀ e ∈ ses, q.1 < e.it
  low : (N == sysModules) = false
theorem nodup_len : ∀ {l k : List Nat}, l.Nodup → (∀ x ∈ l, x ∈ k) → l.length ≤ k.length
  | [], _, _, _ => Nat.zero_le _
  | a :: l, k, hn, hs => by
    obtain ⟨h1, h2⟩ := List.nodup_cons.mp hn
    have h3 := nodup_len (k := k.erase a) h2 fun x hx => (List.mem_erase_of_ne fun (e : x = a) => h1 (e ▸ hx)).mpr (hs x (.tail _ hx))
    have h4 := List.length_erase_of_mem (hs a (.head _))
    have h5 : 0 < k.length := List.length_pos_of_mem (hs a (.head _))
    rw [List.length_cons]; omega
theorem se_none {ses : List SE} {b : Nat} (h : b ∉ ses.map (·.x)) : valueAt (ses.map fun (e : SE) => (e.x, Value.int e.ix e.k)) b = none := by
  induction ses with
  | nil => rfl
  | cons e ses ih =>
    rw [List.map_cons] at h ⊢
    have h1 : e.x ≠ b := fun z => h (z ▸ .head _)
    have := ih fun z => h (.tail _ z)
    simp [valueAt, h1] at this ⊢
    exact this
theorem se_some {ses : List SE} {e : SE} (hn : (ses.map (·.x)).Nodup) (he : e ∈ ses) : valueAt (ses.map fun (e : SE) => (e.x, Value.int e.ix e.k)) e.x = some (.int e.ix e.k) := by
  induction ses with
  | nil => cases he
  | cons d ses ih =>
    rw [List.map_cons] at hn ⊢
    obtain ⟨h1, h2⟩ := List.nodup_cons.mp hn
    rcases List.mem_cons.mp he with rfl | he
    · simp [valueAt]
    · have hne : d.x ≠ e.x := fun z => h1 (z ▸ List.mem_map.mpr ⟨e, he, rfl⟩)
      have := ih h2 he
      simp [valueAt, hne] at this ⊢
      exact this
theorem idx_nodup : ∀ {l : List Nat} {j a : Nat}, l.Nodup → l[j]? = some a → l.idxOf a = j
  | b :: l, 0, a, _, h => by simp at h; subst h; simp
  | b :: l, j + 1, a, hn, h => by
    obtain ⟨h1, h2⟩ := List.nodup_cons.mp hn
    have h : l[j]? = some a := by simpa using h
    have hne : b ≠ a := fun e => h1 (e ▸ List.mem_of_getElem? h)
    rw [List.idxOf_cons, idx_nodup h2 h, beq_eq_false_iff_ne.mpr hne]; rfl
theorem stOf_xs (ses : List SE) : (stOf ses).map (·.1) = (ses.map (·.x)).reverse := by
  unfold stOf; rw [List.map_reverse, List.map_map]; rfl
theorem stOf_push (ses : List SE) (e : SE) : stOf (ses ++ [e]) = (e.x, e.i) :: stOf ses := by
  unfold stOf; rw [List.map_append, List.reverse_append]; rfl
theorem mw_cls {it : Addr} : (mwObj it).cls = .type "method-wrapper" := rfl
theorem set_cls {w : World} {κ : Bool} {Φ : NodeFn} {S : Nat → Bool} {n : Nat} {o : Obj} (h : IsS w κ Φ S n o) : o.cls = .type "set" := h.1.1
section
variable {w : World} {κ : Bool} {Φ : NodeFn} {cs : List CE} {news led led' : Led} {K I S N : Addr} {ses : List SE} {seen : List Nat} {h₀ h : Heap} {L : Addr}
/-- a thing of another class is none of the four -/
theorem CyIn.ne (C : CyIn w κ Φ cs news led K I S N ses seen) (W : News h₀ L h led) {b : Addr} {o : Obj} (hb : (b, o) ∈ led) (h1 : o.cls ≠ .type "list") (h2 : o.cls ≠ .type "set") (h3 : o.cls ≠ .type "dict") : b ≠ S ∧ b ≠ I ∧ b ≠ N ∧ b ≠ K := by
  refine hideG fun G9 hG9 => ?_
  obtain ⟨us, n, hK, _⟩ := C.stk
  refine hG9.out ?_
  clear hG9 G9
  obtain ⟨m, hI⟩ := C.itk
  exact ⟨ob_ne W C.sn hb fun q => h2 (set_cls q), news_ne W hb hI fun e => h1 (by rw [e]), ob_ne W C.nd hb fun q => h3 (isD_cls q), news_ne W hb hK fun e => h1 (by rw [e])⟩
theorem CyIn.neN (C : CyIn w κ Φ cs news led K I S N ses seen) {q : Addr × Obj} (hq : q ∈ news) : q.1 ≠ S ∧ q.1 ≠ I ∧ q.1 ≠ N ∧ q.1 ≠ K := by
  refine hideG fun G9 hG9 => ?_
  obtain ⟨_, h1, h2, h3, h4, _⟩ := C.new q hq
  refine hG9.out ?_
  clear hG9 G9
  exact ⟨Nat.ne_of_lt h3, Nat.ne_of_lt h2, Nat.ne_of_lt h4, Nat.ne_of_lt h1⟩
theorem CyIn.push (C : CyIn w κ Φ cs news led K I S N ses seen) (W : News h₀ L h led) {a : Nat} {us : List Value} {n n' : Nat} {k ka : Tok} {it mw sa : Addr}
    (hk : ∀ q ∈ led, q.1 ≠ S → q.1 ≠ I → q.1 ≠ N → q.1 ≠ K → q ∈ led') (hS : Ob led' S (IsS w κ Φ (fun k => decide (k ∈ seen ++ [a])) (seen ++ [a]).length))
    (hI : (I, listOf ((ses.map fun (e : SE) => Value.ref e.mw) ++ [Value.ref mw]).toArray n) ∈ led') (hN : Ob led' N (IsD w κ Φ ((ses.map fun (e : SE) => (e.x, Value.int e.ix e.k)) ++ [(a, .int ses.length k)])))
    (hK : (K, listOf (us ++ [txt κ (Φ.f a) ka]).toArray n') ∈ led') (hus : NodesAre κ Φ us (ses.map (·.x))) (hmw : (mw, mwObj it) ∈ led') (hit : Ob led' it (IsLIt sa 0)) (hlt : ∀ q ∈ led, q.1 < it) (hsa : ∃ c ∈ cs, c.e.a = a ∧ c.sa = sa) (hns : a ∉ seen) :
    CyIn w κ Φ cs news led' K I S N (ses ++ [⟨a, 0, it, mw, sa, ses.length, k⟩]) (seen ++ [a]) where
  stk := ⟨_, _, hK, by rw [List.map_append]; exact hus.app (.cons .nil)⟩
  itk := ⟨n, by rw [List.map_append]; exact hI⟩
  mws e he := by
    rcases List.mem_append.mp he with q | q
    · obtain ⟨h1, h2, h3, h4⟩ := C.ne W (C.mws e q) (by rw [mw_cls]; decide) (by rw [mw_cls]; decide) (by rw [mw_cls]; decide)
      exact hk _ (C.mws e q) h1 h2 h3 h4
    · rw [List.mem_singleton.mp q]; exact hmw
  its e he := by
    rcases List.mem_append.mp he with q | q
    · obtain ⟨o, m, r⟩ := C.its e q
      obtain ⟨h1, h2, h3, h4⟩ := C.ne W m (by rw [r.1]; decide) (by rw [r.1]; decide) (by rw [r.1]; decide)
      exact ⟨o, hk _ m h1 h2 h3 h4, r⟩
    · rw [List.mem_singleton.mp q]; exact hit
  sas e he := by
    rcases List.mem_append.mp he with q | q
    · exact C.sas e q
    · rw [List.mem_singleton.mp q]; exact hsa
  dist := by
    rw [List.map_append]
    refine List.nodup_append.mpr ⟨C.dist, by simp, fun y hy z hz e => ?_⟩
    obtain ⟨d, hd, rfl⟩ := List.mem_map.mp hy
    obtain ⟨o, m, r⟩ := C.its d hd
    have := hlt _ m
    simp at hz
    rw [e, hz] at this
    exact absurd this (Nat.lt_irrefl _)
  xs := by
    rw [List.map_append]
    refine List.nodup_append.mpr ⟨C.xs, by simp, fun y hy z hz e => ?_⟩
    obtain ⟨d, hd, rfl⟩ := List.mem_map.mp hy
    simp at hz
    exact hns (hz ▸ e ▸ C.sub d hd)
  ixs j e hj := by
    rw [List.getElem?_append] at hj
    split at hj
    · exact C.ixs j e hj
    · rename_i hjj
      have : j - ses.length = 0 := by
        rcases Nat.eq_zero_or_pos (j - ses.length) with q | q
        · exact q
        · rw [List.getElem?_eq_none (by simp; omega)] at hj; cases hj
      rw [this] at hj
      simp at hj
      rw [← hj]
      show ses.length = j
      omega
  sub e he := by
    rcases List.mem_append.mp he with q | q
    · exact List.mem_append_left _ (C.sub e q)
    · rw [List.mem_singleton.mp q]; simp
  sn := hS
  nd := by rw [List.map_append]; exact hN
  KI := C.KI
  new q hq := by
    refine hideG fun G9 hG9 => ?_
    obtain ⟨h1, h2, h3, h4⟩ := C.neN hq
    refine hG9.out ?_
    clear hG9 G9
    refine hideG fun G9 hG9 => ?_
    obtain ⟨g0, g1, g2, g3, g4, g5⟩ := C.new q hq
    refine hG9.out ?_
    clear hG9 G9
    refine ⟨hk _ g0 h1 h2 h3 h4, g1, g2, g3, g4, fun e he => ?_⟩
    rcases List.mem_append.mp he with r | r
    · exact g5 e r
    · rw [List.mem_singleton.mp r]; exact hlt q g0
  low := C.low
/-- a change elsewhere -/
theorem CyIn.keep (C : CyIn w κ Φ cs news led K I S N ses seen) (W : News h₀ L h led) {b : Addr} {P : Obj → Prop} (hb : Ob led b P) (hP : ∀ o, P o → o.cls ≠ .type "list" ∧ o.cls ≠ .type "set" ∧ o.cls ≠ .type "dict" ∧ o.cls ≠ .type "list_iterator" ∧ o.cls ≠ .type "method-wrapper") (hn : ∀ q ∈ news, q.1 ≠ b) (hk : ∀ q ∈ led, q.1 ≠ b → q ∈ led') : CyIn w κ Φ cs news led' K I S N ses seen where
  stk := let ⟨us, n, m, r⟩ := C.stk; ⟨us, n, hk _ m (ob_ne W hb m fun q => (hP _ q).1 rfl), r⟩
  itk := let ⟨n, m⟩ := C.itk; ⟨n, hk _ m (ob_ne W hb m fun q => (hP _ q).1 rfl)⟩
  mws e he := hk _ (C.mws e he) (ob_ne W hb (C.mws e he) fun q => (hP _ q).2.2.2.2 rfl)
  its e he := let ⟨o, m, r⟩ := C.its e he; ⟨o, hk _ m (ob_ne W hb m fun q => (hP _ q).2.2.2.1 r.1), r⟩
  sas := C.sas
  dist := C.dist
  xs := C.xs
  ixs := C.ixs
  sub := C.sub
  sn := let ⟨o, m, r⟩ := C.sn; ⟨o, hk _ m (ob_ne W hb m fun q => (hP _ q).2.1 (set_cls r)), r⟩
  nd := let ⟨o, m, r⟩ := C.nd; ⟨o, hk _ m (ob_ne W hb m fun q => (hP _ q).2.2.1 (isD_cls r)), r⟩
  KI := C.KI
  new q hq := let ⟨a, b⟩ := C.new q hq; ⟨hk _ a (hn q hq), b⟩
  low := C.low
theorem CyIn.more {p : Addr × Obj} (C : CyIn w κ Φ cs news led K I S N ses seen) : CyIn w κ Φ cs news (p :: led) K I S N ses seen where
  stk := let ⟨us, n, m, r⟩ := C.stk; ⟨us, n, .tail _ m, r⟩
  itk := let ⟨n, m⟩ := C.itk; ⟨n, .tail _ m⟩
  mws e he := .tail _ (C.mws e he)
  its e he := (C.its e he).more
  sas := C.sas
  dist := C.dist
  xs := C.xs
  ixs := C.ixs
  sub := C.sub
  sn := C.sn.more
  nd := C.nd.more
  KI := C.KI
  new q hq := let ⟨a, b⟩ := C.new q hq; ⟨.tail _ a, b⟩
  low := C.low
/-- the last entry's iterator goes on -/
theorem CyIn.step {e : SE} (C : CyIn w κ Φ cs news led K I S N (ses ++ [e]) seen) (W : News h₀ L h led) (hk : ∀ q ∈ led, q.1 ≠ e.it → q ∈ led') (hit : Ob led' e.it (IsLIt e.sa (e.i + 1))) : CyIn w κ Φ cs news led' K I S N (ses ++ [{ e with i := e.i + 1 }]) seen := by
  have hI := C.its e (by simp)
  have ne : ∀ {b : Addr} {o : Obj}, (b, o) ∈ led → o.cls ≠ .type "list_iterator" → b ≠ e.it := fun hb hc => ob_ne W hI hb fun q => hc q.1
  refine hideG fun G9 hG9 => ?_
  obtain ⟨us, n, hK, hus⟩ := C.stk
  refine hG9.out ?_
  clear hG9 G9
  obtain ⟨m, hII⟩ := C.itk
  have hd := C.dist
  have hxs := C.xs
  rw [List.map_append, List.nodup_append] at hd
  exact {
    stk := ⟨us, n, hk _ hK (ne hK (by show Value.type "list" ≠ _; decide)), by rw [List.map_append] at hus ⊢; exact hus⟩
    itk := ⟨m, by have := hk _ hII (ne hII (by show Value.type "list" ≠ _; decide)); rw [List.map_append] at this ⊢; exact this⟩
    mws := fun d hd' => by
      rcases List.mem_append.mp hd' with q | q
      · have := C.mws d (List.mem_append_left _ q)
        exact hk _ this (ne this (by rw [mw_cls]; decide))
      · rw [List.mem_singleton.mp q]
        have := C.mws e (by simp)
        exact hk _ this (ne this (by rw [mw_cls]; decide))
    its := fun d hd' => by
      rcases List.mem_append.mp hd' with q | q
      · obtain ⟨o, m, r⟩ := C.its d (List.mem_append_left _ q)
        exact ⟨o, hk _ m fun z => hd.2.2 d.it (List.mem_map.mpr ⟨d, q, rfl⟩) e.it (by simp) z, r⟩
      · rw [List.mem_singleton.mp q]; exact hit
    sas := fun d hd' => by
      rcases List.mem_append.mp hd' with q | q
      · exact C.sas d (List.mem_append_left _ q)
      · rw [List.mem_singleton.mp q]; exact C.sas e (by simp)
    dist := by have := C.dist; rw [List.map_append] at this ⊢; exact this
    xs := by rw [List.map_append] at hxs ⊢; exact hxs
    ixs := fun j d hj => by
      rw [List.getElem?_append] at hj
      split at hj
      · rename_i hlt
        exact C.ixs j d (by rw [List.getElem?_append_left hlt]; exact hj)
      · rename_i hjj
        have h0 : j - ses.length = 0 := by
          rcases Nat.eq_zero_or_pos (j - ses.length) with q | q
          · exact q
          · rw [List.getElem?_eq_none (by simp; omega)] at hj; cases hj
        rw [h0] at hj
        simp at hj
        rw [← hj]
        exact C.ixs j e (by rw [List.getElem?_append_right (by omega), h0]; rfl)
    sub := fun d hd' => by
      rcases List.mem_append.mp hd' with q | q
      · exact C.sub d (List.mem_append_left _ q)
      · rw [List.mem_singleton.mp q]; exact C.sub e (by simp)
    sn := let ⟨o, m, r⟩ := C.sn; ⟨o, hk _ m (ne m (by rw [set_cls r]; decide)), r⟩
    nd := let ⟨o, m, r⟩ := C.nd; ⟨o, hk _ m (ne m (by rw [isD_cls r]; decide)), by rw [List.map_append] at r ⊢; exact r⟩
    KI := C.KI
    new := fun q hq => by
      refine hideG fun G9 hG9 => ?_
      obtain ⟨g0, g1, g2, g3, g4, g5⟩ := C.new q hq
      refine hG9.out ?_
      clear hG9 G9
      refine ⟨hk _ g0 (Nat.ne_of_lt (g5 e (by simp))), g1, g2, g3, g4, fun d hd' => ?_⟩
      rcases List.mem_append.mp hd' with r | r
      · exact g5 d (List.mem_append_left _ r)
      · rw [List.mem_singleton.mp r]; exact g5 e (by simp)
    low := C.low }
/-- the last entry goes -/
theorem CyIn.drop {e : SE} (C : CyIn w κ Φ cs news led K I S N (ses ++ [e]) seen) (W : News h₀ L h led) {us : List Value} {n n' : Nat} (hk : ∀ q ∈ led, q.1 ≠ e.it → q.1 ≠ I → q.1 ≠ N → q.1 ≠ K → q ∈ led')
    (hI : (I, listOf (ses.map fun e => Value.ref e.mw).toArray n) ∈ led') (hN : Ob led' N (IsD w κ Φ (ses.map fun e => (e.x, Value.int e.ix e.k)))) (hK : (K, listOf us.toArray n') ∈ led') (hus : NodesAre κ Φ us (ses.map (·.x))) : CyIn w κ Φ cs news led' K I S N ses seen := by
  have hIt := C.its e (by simp)
  have ne : ∀ {b : Addr} {o : Obj}, (b, o) ∈ led → o.cls ≠ .type "list_iterator" → b ≠ e.it := fun hb hc => ob_ne W hIt hb fun q => hc q.1
  have hd := C.dist
  have hxs := C.xs
  rw [List.map_append, List.nodup_append] at hd hxs
  exact {
    stk := ⟨us, n', hK, hus⟩
    itk := ⟨n, hI⟩
    mws := fun d hd' => by
      have hm := C.mws d (List.mem_append_left _ hd')
      obtain ⟨h1, h2, h3, h4⟩ := C.ne W hm (by rw [mw_cls]; decide) (by rw [mw_cls]; decide) (by rw [mw_cls]; decide)
      exact hk _ hm (ne hm (by rw [mw_cls]; decide)) h2 h3 h4
    its := fun d hd' => by
      obtain ⟨o, m, r⟩ := C.its d (List.mem_append_left _ hd')
      obtain ⟨h1, h2, h3, h4⟩ := C.ne W m (by rw [r.1]; decide) (by rw [r.1]; decide) (by rw [r.1]; decide)
      exact ⟨o, hk _ m (fun z => hd.2.2 d.it (List.mem_map.mpr ⟨d, hd', rfl⟩) e.it (by simp) z) h2 h3 h4, r⟩
    sas := fun d hd' => C.sas d (List.mem_append_left _ hd')
    dist := hd.1
    xs := hxs.1
    ixs := fun j d hj => by
      have hlt := (List.getElem?_eq_some_iff.mp hj).1
      exact C.ixs j d (by rw [List.getElem?_append_left hlt]; exact hj)
    sub := fun d hd' => C.sub d (List.mem_append_left _ hd')
    sn := by
      obtain ⟨o, m, r⟩ := C.sn
      refine hideG fun G9 hG9 => ?_
      obtain ⟨us1, n1, hK1, _⟩ := C.stk
      refine hG9.out ?_
      clear hG9 G9
      obtain ⟨m1, hI1⟩ := C.itk
      exact ⟨o, hk _ m (ne m (by rw [set_cls r]; decide)) (news_ne W m hI1 fun e => by have := set_cls r; rw [e] at this; exact absurd this (by show Value.type "list" ≠ _; decide)) (ob_ne W C.nd m fun q => by have := set_cls r; rw [isD_cls q] at this; exact absurd this (by decide)) (news_ne W m hK1 fun e => by have := set_cls r; rw [e] at this; exact absurd this (by show Value.type "list" ≠ _; decide)), r⟩
    nd := hN
    KI := C.KI
    new := fun q hq => by
      refine hideG fun G9 hG9 => ?_
      obtain ⟨h1, h2, h3, h4⟩ := C.neN hq
      refine hG9.out ?_
      clear hG9 G9
      refine hideG fun G9 hG9 => ?_
      obtain ⟨g0, g1, g2, g3, g4, g5⟩ := C.new q hq
      refine hG9.out ?_
      clear hG9 G9
      exact ⟨hk _ g0 (Nat.ne_of_lt (g5 e (by simp))) h2 h3 h4, g1, g2, g3, g4, fun d hd' => g5 d (List.mem_append_left _ hd')⟩
    low := C.low }
end

theorem fresh_P42b_cyc : True := by
  w_top off
  trivial
section
variable {w : World} {κ : Bool} {Φ : NodeFn} {cs : List CE} {news led led' : Led} {K I S N : Addr} {ses : List SE} {seen : List Nat} {h₀ h : Heap} {L : Addr}
/-- the four are four -/
theorem CyIn.four (C : CyIn w κ Φ cs news led K I S N ses seen) (W : News h₀ L h led) : K ≠ S ∧ I ≠ S ∧ N ≠ S ∧ K ≠ I ∧ K ≠ N ∧ I ≠ N := by
  obtain ⟨us, n, hK, _⟩ := C.stk
  obtain ⟨m, hI⟩ := C.itk
  refine ⟨ob_ne W C.sn hK fun q => ?_, ob_ne W C.sn hI fun q => ?_, ?_, C.KI, ob_ne W C.nd hK fun q => ?_, ob_ne W C.nd hI fun q => ?_⟩
  · exact absurd (set_cls q) (by show Value.type "list" ≠ _; decide)
  · exact absurd (set_cls q) (by show Value.type "list" ≠ _; decide)
  · obtain ⟨o, m, q⟩ := C.nd
    exact ob_ne W C.sn m fun z => by have := set_cls z; rw [isD_cls q] at this; exact absurd this (by decide)
  · exact absurd (isD_cls q) (by show Value.type "list" ≠ _; decide)
  · exact absurd (isD_cls q) (by show Value.type "list" ≠ _; decide)
end
theorem NodesAre.snoc {κ : Bool} {Φ : NodeFn} {vs : List Value} {ns : List Nat} {a : Nat} (h : NodesAre κ Φ vs (ns ++ [a])) : ∃ us k, vs = us ++ [txt κ (Φ.f a) k] ∧ NodesAre κ Φ us ns := by
  induction ns generalizing vs with
  | nil => cases h with
    | cons h => cases h; exact ⟨[], _, rfl, .nil⟩
  | cons b ns ih => cases h with
    | cons h => obtain ⟨us, k, rfl, h'⟩ := ih h; exact ⟨_ :: us, k, rfl, .cons h'⟩
theorem without_last {ses : List SE} {e : SE} (h : ((ses ++ [e]).map (·.x)).Nodup) : without ((ses ++ [e]).map fun e => (e.x, Value.int e.ix e.k)) e.x = ses.map fun e => (e.x, Value.int e.ix e.k) := by
  rw [List.map_append, List.nodup_append] at h
  unfold without
  rw [List.map_append, List.filter_append]
  have h1 : ∀ d ∈ ses, d.x ≠ e.x := fun d hd q => h.2.2 d.x (List.mem_map.mpr ⟨d, hd, rfl⟩) e.x (by simp) q
  have h2 : (ses.map fun e => (e.x, Value.int e.ix e.k)).filter (fun kv => decide (kv.1 ≠ e.x)) = ses.map fun e => (e.x, Value.int e.ix e.k) := by
    rw [List.filter_eq_self]
    intro kv hkv
    obtain ⟨d, hd, rfl⟩ := List.mem_map.mp hkv
    simpa using h1 d hd
  rw [h2]; simp
theorem stored_new {kvs : List (Nat × Value)} {a : Nat} {v : Value} (h : valueAt kvs a = none) : stored kvs a v = kvs ++ [(a, v)] := by
  unfold stored
  rw [if_neg]
  intro q
  unfold valueAt at h
  rw [Option.map_eq_none_iff, List.find?_eq_none] at h
  obtain ⟨kv, hkv, e⟩ := List.any_eq_true.mp q
  exact h kv hkv e
section
variable {prog : Program} {w : World} {A : Around} {E : Value → Shared → Prop} {s : Shared} {h₀ : Heap} {L l : Addr} {m : Str → Option Value} {led : Led}
theorem iterCall {its : List Value} {n : Nat} {Q : Value → Shared → Prop} (F : Fr h₀ L s.heap m) (N : News h₀ L s.heap led) (hm : (l, listOf its.toArray n) ∈ led)
    (h : ∀ I h', Fr h₀ L h' m → News h₀ L h' ((I, litObj l) :: led) → (∀ p ∈ led, p.1 < I) → Q (.ref I) { s with heap := h' }) : wpAny (model prog w) A (call (.builtin "iter") [.ref l]) Q E s := by
  refine call_function_entry (by decide +kernel) (by decide +kernel) kdk_entry_iter (kdk_args_iter _) ?_
  unfold Builtin.«iter»
  refine wpAny_bind (m := someArgs "iter" 1 2 _) (wpAny_of_eq (a := [Value.ref l]) (by first | rfl | kernel_rfl!) ?_)
  show wpAny _ _ (pyIter (.ref l) >>= _) _ _ _
  refine wpAny_bind (wpAny_pyIter_list (items := its.toArray) ⟨_, (N _ hm).1, rfl, n, rfl⟩ ?_)
  exact wpAny_pure ⟨_, rfl, h _ _ (F.push _) (News.push F N (litObj l) rfl) fun q hq => Heap.lt_size (N q hq).1⟩
theorem appL {its : List Value} {n : Nat} {x : Value} {D : Addr} {Q : Value → Shared → Prop} (F : Fr h₀ L s.heap m) (N : News h₀ L s.heap led) (hm : (D, listOf its.toArray n) ∈ led) (hsz : its.length ≤ 1000000)
    (h : ∀ h' led', Fr h₀ L h' m → News h₀ L h' led' → (D, listOf (its ++ [x]).toArray (n + 1)) ∈ led' → (∀ p ∈ led, p.1 ≠ D → p ∈ led') → Q .none { s with heap := h' }) : wpAny (model prog w) A (call (.builtin "list.append") [.ref D, x]) Q E s :=
  app_L F N hm hsz fun h' F' N' => h h' _ F' N' (mem_setL_self hm) fun p hp hne => mem_setL_ne hne hp
theorem methAppend {us : List Value} {n : Nat} {D : Addr} {pl : Sem Bool} {Q : Value × List Value → Shared → Prop} (N : News h₀ L s.heap led) (hm : (D, listOf us.toArray n) ∈ led) (h : Q (.builtin "list.append", [.ref D]) s) : wpAny (model prog w) A (getMethod (.ref D) (Str.ofString "append") pl) Q E s :=
  kl_method N hm PySem.F.slot_list_append PySem.F.type_list_append h
theorem methExtend {us : List Value} {n : Nat} {D : Addr} {pl : Sem Bool} {Q : Value × List Value → Shared → Prop} (N : News h₀ L s.heap led) (hm : (D, listOf us.toArray n) ∈ led) (h : Q (.builtin "list.extend", [.ref D]) s) : wpAny (model prog w) A (getMethod (.ref D) (Str.ofString "extend") pl) Q E s :=
  kl_method N hm PySem.F.slot_list_extend PySem.F.type_list_extend h
theorem methIndex {us : List Value} {n : Nat} {D : Addr} {pl : Sem Bool} {Q : Value × List Value → Shared → Prop} (N : News h₀ L s.heap led) (hm : (D, listOf us.toArray n) ∈ led) (h : Q (.builtin "list.index", [.ref D]) s) : wpAny (model prog w) A (getMethod (.ref D) (Str.ofString "index") pl) Q E s :=
  kl_method N hm PySem.F.slot_list_index PySem.F.type_list_index h
end
theorem words_hand_all : True := by
  k_with "hand" => first
    | ((with_reducible show wpAny _ _ (call (Value.builtin "iter") [Value.ref _]) _ _ _); refine' iterCall ?k1 ?k2 ?k3 ?_; (case k1 => k_asm); (case k2 => k_asm); (case k3 => k_mem); intro it9 h9 F9 N9 lt9; refine Box.out ?_)
    | ((with_reducible show wpAny _ _ (call (Value.builtin "list.append") _) _ _ _); refine Box.out ?_)
    | ((with_reducible show wpAny _ _ (call (Value.builtin "list.pop") _) _ _ _); refine Box.out ?_)
    | ((with_reducible show wpAny _ _ (call (Value.builtin "list.extend") _) _ _ _); refine Box.out ?_)
    | ((with_reducible show wpAny _ _ (call (Value.builtin "list.index") _) _ _ _); refine Box.out ?_)
    | ((with_reducible show wpAny _ _ (getAttr (Value.ref _) "__next__" _) _ _ _); refine Box.out ?_)
    | ((with_reducible show wpAny _ _ (delItem (Value.ref _) _) _ _ _); refine Box.out ?_)
    | ((with_reducible show wpAny _ _ (setItem (Value.ref _) (txt _ _ _) _) _ _ _); refine' setD ?k1 ?k2 ?k3 ?k4 ?_; (case k1 => k_asm); (case k2 => k_asm); (case k3 => k_extra "ob"); (case k4 => first | omega | ((simp only [List.length_map]); omega)); intro h9 led9 tk9 F9 N9 c9 k9; refine Box.out ?_)
    | ((with_reducible show wpAny _ _ (compareOp _ (txt _ _ _) (Value.ref _)) _ _ _); first
        | (refine' inS ?k1 ?k2 ?k3 ?_; (case k1 => k_asm); (case k2 => k_extra "ob"); (case k3 => omega); intro tk9; refine Box.out ?_)
        | (refine' inD ?k1 ?k2 ?k3 ?_; (case k1 => k_asm); (case k2 => k_extra "ob"); (case k3 => assumption); intro tk9; refine Box.out ?_)
        | refine Box.out ?_)
    | ((with_reducible show wpAny _ _ (subscriptTail _ (Expr.Slice _ _ _ _) (Value.ref _) (Value.ref _)) _ _ _); refine' sliceL ?k1 ?k2 ?k3 ?k4 ?k5 ?k6 ?_ ?k7 ?k8; (case k1 => k_asm); (case k2 => k_asm); (case k3 => k_mem); (case k4 => first | exact IsPart.int _ _ | exact IsPart.none); (case k5 => first | exact IsPart.int _ _ | exact IsPart.none); (case k6 => omega); (case k7 => (intro v9 i9; with_unfolding_all rfl)); (case k8 => (intro v9 i9; with_unfolding_all rfl)); intro d9 h9 F9 N9 lt9; (try k_sweep))
    | ((with_reducible show wpAny _ _ (binaryOp Operator.Add (Value.ref _) (Value.ref _)) _ _ _); first
        | (refine' addL ?k1 ?k2 ?k3 ?k4 ?k5 ?_; (case k1 => k_asm); (case k2 => k_asm); (case k3 => k_mem); (case k4 => k_mem); (case k5 => first | omega | ((simp only [List.length_append, List.length_cons, List.length_nil]); omega)); intro d9 h9 F9 N9 lt9; (try k_sweep))
        | refine Box.out ?_)
    | ((with_reducible show wpAny _ _ (subscriptTail _ (Expr.UnaryOp _ _ _) (Value.ref _) (Value.int _ _)) _ _ _); refine Box.out ?_)
    | ((with_reducible show wpAny _ _ (getMethod (Value.ref _) (Str.ofString "append") _) _ _ _); refine' methAppend ?k1 ?k2 ?_; (case k1 => k_asm); (case k2 => k_mem))
    | ((with_reducible show wpAny _ _ (getMethod (Value.ref _) (Str.ofString "pop") _) _ _ _); refine' methPop ?k1 ?k2 ?_; (case k1 => k_asm); (case k2 => k_mem))
    | ((with_reducible show wpAny _ _ (getMethod (Value.ref _) (Str.ofString "extend") _) _ _ _); refine' methExtend ?k1 ?k2 ?_; (case k1 => k_asm); (case k2 => k_mem))
    | ((with_reducible show wpAny _ _ (getMethod (Value.ref _) (Str.ofString "index") _) _ _ _); refine' methIndex ?k1 ?k2 ?_; (case k1 => k_asm); (case k2 => k_mem))
    | ((with_reducible show wpAny _ _ (call (Value.builtin "len") [Value.ref _]) _ _ _); refine' len_L ?k2 ?k3 ?k4 ?_; (case k2 => k_asm); (case k3 => k_mem); (case k4 => first | omega | exact Nat.le_of_ble_eq_true rfl); intro kk tk9)
    | ((with_reducible show wpAny _ _ (call (Value.builtin "len") [Value.ref _]) _ _ _); refine' lenT ?k2 ?k3 ?k4 ?_; (case k2 => k_asm); (case k3 => k_mem); (case k4 => first | omega | exact Nat.le_of_ble_eq_true rfl); intro kk tk9)
  k_with "gh" => repeat' ((fail_if_success (with_reducible show wpAny _ _ (exec (Stmt.While _ _ _ _) _) _ _ _)); (fail_if_success (with_reducible show wpAny _ _ (exec (Stmt.For _ _ _ _ _) _) _ _ _)); (fail_if_success (with_reducible show wpAny _ _ (eval (Expr.ListComp _ _ _ _) _) _ _ _)); (fail_if_success (with_reducible show wpAny _ _ (pyIter _) _ _ _)); (fail_if_success (with_reducible show LCt.CompSrcT _ _ _ _ _ _ _ _ _ _ _ _ _ _ _)); (fail_if_success (with_reducible show LCg.CompSrc _ _ _ _ _ _ _ _ _ _ _ _ _ _)); first | (k_unfold; (try dsimp only)) | ((with_reducible show wpAny _ _ (call (Value.ref _) _ _) _ _ _); k_extra "callfn") | k_extra "hand" | ((fail_if_success (with_reducible show wpAny _ _ (call (Value.ref _) _ _) _ _ _)); first | walk1 | (dsimp only; walk1)) | fail "no step")
  trivial

theorem fresh_P43_cycle : True := by
  w_top off
  trivial
section
variable {prog : Program} {w : World} {A : Around} {E : Value → Shared → Prop} {s : Shared} {env : Env}
theorem while_true {c : Const} {kk : Nat} {cp pos : Pos} {body : List Stmt} {Q : Flow → Shared → Prop} (I : Nat → Shared → Prop) (hc : c = .bool true)
    (turn : ∀ n s, I n s → wpAny (model prog w) A (execs body env) (fun f s₃ => match f with
            | .next | .cont => Box (∃ m, m < n ∧ I m s₃)
            | .brk => Q .next s₃
            | .ret v => Q (.ret v) s₃) (fun _ _ => False) s)
    (n : Nat) (h : I n s) : wpAny (model prog w) A (exec (.While (.Constant c kk cp) body [] pos) env) Q (fun _ _ => False) s := by
  subst hc
  refine while_any I (fun n s hI => ?_) n h
  have t := turn n s hI
  repeat' walk1
  exact t
theorem while_trueH {c : Const} {kk : Nat} {cp pos : Pos} {body : List Stmt} {Q : Flow → Shared → Prop} (I : Nat → Shared → Prop) (hc : c = .bool true)
    (turn : ∀ n s (Qb : Flow → Shared → Prop), LoopB Qb Q (fun s' => ∃ m, m < n ∧ I m s') → I n s → wpAny (model prog w) A (execs body env) Qb (fun _ _ => False) s)
    (n : Nat) (h : I n s) : wpAny (model prog w) A (exec (.While (.Constant c kk cp) body [] pos) env) Q (fun _ _ => False) s :=
  while_true I hc (fun n s hI => turn n s _ ⟨fun _ h => ⟨h⟩, fun _ h => ⟨h⟩, fun _ h => h, fun _ _ h => h⟩ hI) n h
theorem seq_mid {st : Stmt} {rest : List Stmt} {Q : Flow → Shared → Prop} (Mid : Shared → Prop) (h : wpAny (model prog w) A (exec st env) (fun f s' => match f with | .next => Mid s' | f => Q f s') E s)
    (h2 : ∀ s', Mid s' → wpAny (model prog w) A (execs rest env) Q E s') : wpAny (model prog w) A (execs (st :: rest) env) Q E s := by
  refine wpAny_execs_cons (wpAny_mono h (fun f s' hf => ?_) fun _ _ e => e)
  cases f
  · exact h2 s' hf
  all_goals exact hf
end
inductive CycI (w : World) (κ : Bool) (Φ : NodeFn) (cs : List CE) (fuel : Nat) (ep : Nat) (D : Addr) (IT : Addr) (K : Addr) (I : Addr) (Sn : Addr) (Nd : Addr) (env₀ : Env) (outer : List Env) (res : Option (List Nat)) (news : Led) (g : Heap) (L : Addr) (s : Shared) (n' : Nat) (s' : Shared) : Prop
  | mk (i : Nat) (g' : Heap) (h' : Heap) (tk' : Nat) (m' : Str → Option Value) (led : Led) (seen : List Nat)
      (e1 : n' = cs.length - i) (e2 : i ≤ cs.length) (e3 : s' = { s with heap := h', toks := tk' }) (e4 : KtsTurn (frs (env₀ :: outer)) g g') (e5 : Fr g' L h' m') (e6 : News g' L h' led) (e7 : Ob led IT (IsKIt D i cs.length ep)) (e8 : CyIn w κ Φ cs news led K I Sn Nd [] seen) (e9 : findRing (cs.map (·.e)) fuel ((cs.map (·.e.a)).drop i) seen = some res) (e10 : seen.length ≤ 1000) (e11 : (seen.Nodup ∧ ∀ x ∈ seen, x ∈ cs.map (·.e.a))) (e12 : m' (Str.ofString "n2i") = some (.ref D)) (e13 : m' (Str.ofString "stack") = some (.ref K)) (e14 : m' (Str.ofString "itstack") = some (.ref I)) (e15 : m' (Str.ofString "seen") = some (.ref Sn)) (e16 : m' (Str.ofString "node2stacki") = some (.ref Nd))
inductive CycJ (w : World) (κ : Bool) (Φ : NodeFn) (cs : List CE) (fuel : Nat) (ep : Nat) (D : Addr) (IT : Addr) (K : Addr) (I : Addr) (Sn : Addr) (Nd : Addr) (env₀ : Env) (outer : List Env) (rr : List Nat ⊕ List Nat) (i : Nat) (news : Led) (g : Heap) (L : Addr) (s : Shared) (n : Nat) (s' : Shared) : Prop
  | mk (b : Nat) (kb : Tok) (g' : Heap) (h' : Heap) (tk' : Nat) (m' : Str → Option Value) (led : Led) (ses : List SE) (seen : List Nat)
      (e1 : dfs (cs.map (·.e)) n b (stOf ses) seen = some rr) (e2 : s' = { s with heap := h', toks := tk' }) (e3 : KtsTurn (frs (env₀ :: outer)) g g') (e4 : Fr g' L h' m') (e5 : News g' L h' led) (e6 : Ob led IT (IsKIt D (i + 1) cs.length ep)) (e7 : CyIn w κ Φ cs news led K I Sn Nd ses seen) (e8 : b ∈ cs.map (·.e.a)) (e9 : seen.Nodup) (e10 : (∀ x ∈ seen, x ∈ cs.map (·.e.a))) (e11 : m' (Str.ofString "node") = some (txt κ (Φ.f b) kb)) (e12 : m' (Str.ofString "n2i") = some (.ref D)) (e13 : m' (Str.ofString "stack") = some (.ref K)) (e14 : m' (Str.ofString "itstack") = some (.ref I)) (e15 : m' (Str.ofString "seen") = some (.ref Sn)) (e16 : m' (Str.ofString "node2stacki") = some (.ref Nd))
inductive CycM (w : World) (κ : Bool) (Φ : NodeFn) (cs : List CE) (fuel : Nat) (ep : Nat) (D : Addr) (IT : Addr) (K : Addr) (I : Addr) (Sn : Addr) (Nd : Addr) (env₀ : Env) (outer : List Env) (rr : List Nat ⊕ List Nat) (i : Nat) (n : Nat) (news : Led) (g : Heap) (L : Addr) (s : Shared) (s' : Shared) : Prop
  | mk (g' : Heap) (h' : Heap) (tk' : Nat) (m' : Str → Option Value) (led : Led) (ses : List SE) (seen : List Nat)
      (e1 : (match back (cs.map (·.e)) (stOf ses) with | none => some (Sum.inr seen) | some (b, st) => dfs (cs.map (·.e)) n b st seen) = some rr) (e2 : s' = { s with heap := h', toks := tk' }) (e3 : KtsTurn (frs (env₀ :: outer)) g g') (e4 : Fr g' L h' m') (e5 : News g' L h' led) (e6 : Ob led IT (IsKIt D (i + 1) cs.length ep)) (e7 : CyIn w κ Φ cs news led K I Sn Nd ses seen) (e8 : seen.Nodup) (e9 : (∀ x ∈ seen, x ∈ cs.map (·.e.a))) (e10 : m' (Str.ofString "n2i") = some (.ref D)) (e11 : m' (Str.ofString "stack") = some (.ref K)) (e12 : m' (Str.ofString "itstack") = some (.ref I)) (e13 : m' (Str.ofString "seen") = some (.ref Sn)) (e14 : m' (Str.ofString "node2stacki") = some (.ref Nd))
inductive CycK (w : World) (κ : Bool) (Φ : NodeFn) (cs : List CE) (fuel : Nat) (ep : Nat) (D : Addr) (IT : Addr) (K : Addr) (I : Addr) (Sn : Addr) (Nd : Addr) (env₀ : Env) (outer : List Env) (rr : List Nat ⊕ List Nat) (i : Nat) (n : Nat) (seen : List Nat) (news : Led) (g : Heap) (L : Addr) (s : Shared) (nn : Nat) (s' : Shared) : Prop
  | mk (g' : Heap) (h' : Heap) (tk' : Nat) (m' : Str → Option Value) (led : Led) (ses : List SE)
      (e1 : nn = ses.length) (e2 : (match back (cs.map (·.e)) (stOf ses) with | none => some (Sum.inr seen) | some (b, st) => dfs (cs.map (·.e)) n b st seen) = some rr) (e3 : s' = { s with heap := h', toks := tk' }) (e4 : KtsTurn (frs (env₀ :: outer)) g g') (e5 : Fr g' L h' m') (e6 : News g' L h' led) (e7 : Ob led IT (IsKIt D (i + 1) cs.length ep)) (e8 : CyIn w κ Φ cs news led K I Sn Nd ses seen) (e9 : m' (Str.ofString "n2i") = some (.ref D)) (e10 : m' (Str.ofString "stack") = some (.ref K)) (e11 : m' (Str.ofString "itstack") = some (.ref I)) (e12 : m' (Str.ofString "seen") = some (.ref Sn)) (e13 : m' (Str.ofString "node2stacki") = some (.ref Nd))
theorem cycle_fn (w : World) (κ : Bool) (Φ : NodeFn) (S di D : Addr) (cs : List CE) (vR : Value) (p f : Int) (news : Led) (fuel : Nat) (res : Option (List Nat)) (H : SrtIn w κ Φ news S di D cs vR p f) (hl : cs.length ≤ 100) (hsu : SuLe (cs.map (·.e)) 1000) (hsi : SuIn (cs.map (·.e)))
    (hres : findRing (cs.map (·.e)) fuel (cs.map (·.e.a)) [] = some res) :
    FnS w 560 3600 none 127 ⟨[.ref S], []⟩ news (fun r led => (∀ q ∈ news, q ∈ led) ∧ match res with | none => r = .none | some ring => ∃ l us n, r = .ref l ∧ (l, listOf us.toArray n) ∈ led ∧ NodesAre κ Φ us ring ∧ ∀ q ∈ news, q.1 ≠ l) (fun _ _ _ => False) := by
  unfold FnS; k_fill; show FnS _ _ _ _ _ _ _ _ _
  refine FnS.intro (binds := [(Str.ofString "self", .ref S)]) (by k_is) (by k_is) rfl (fun s _ => BindsTo.of_eq rfl) (locs rfl) (by decide) rfl rfl rfl ?_
  intro loose mean mg mb gd env₀ outer base g L h₁ s tk B F X N T hlt HB KD
  have hS := H.inst
  refine hideG fun G9 hG9 => ?_
  obtain ⟨kp, kf, hat⟩ := H.attr
  refine hG9.out ?_
  clear hG9 G9
  have hlow := H.low
  k_extra "gh"
  rename_i K _ ltK _ _ I _ ltI _ Sn _ lf _ _ ltS _ Nd _ oN loN hsN _ _ _ ltN h2 F2 N2
  refine wpAny_mono (E := fun _ _ => False) ?_ (fun _ _ h => h) (fun _ _ h => h.elim)
  refine wp_hide fun Qf hQf => ?_
  have C2 : CyIn w κ Φ cs news ((Nd, oN) :: (Sn, { cls := .type "set", data := .set #[] 0 (SetTable.fresh 0 0 lf) }) :: (I, listOf #[] 0) :: (K, listOf #[] 0) :: news) K I Sn Nd [] [] := {
    stk := ⟨[], 0, .tail _ (.tail _ (.tail _ (.head _))), .nil⟩
    itk := ⟨0, .tail _ (.tail _ (.head _))⟩
    mws := fun e he => nomatch he
    its := fun e he => nomatch he
    sas := fun e he => nomatch he
    dist := List.nodup_nil
    xs := List.nodup_nil
    ixs := fun j e h => by simp at h
    sub := fun e he => nomatch he
    sn := ⟨_, .tail _ (.head _), by have := setObjOf_fresh (knd := NK w κ Φ) lf; exact this⟩
    nd := ⟨oN, .head _, IsD.empty hsN⟩
    KI := Nat.ne_of_lt ltI.1
    new := fun q hq => ⟨.tail _ (.tail _ (.tail _ (.tail _ hq))), ltK q hq, ktn_ltOf ltI.2 q hq, ktn_ltOf ltS.2.2 q hq, ktn_ltOf ltN.2.2.2 q hq, fun e he => nomatch he⟩
    low := loN }
  refine hideG fun G9 hG9 => ?_
  obtain ⟨ep, oD, hD0, hDE⟩ := IsDE.of H.dict
  refine hG9.out ?_
  clear hG9 G9
  refine for_at ?_ (fun _ => rfl)
  k_extra "gh"
  rename Fr _ _ _ _ => F2
  rename News _ _ _ _ => N2
  refine iter_D F2 N2 ⟨oD, (C2.new _ hD0).1, hDE⟩ hlow ?_
  rw [List.length_map]
  intro IT h4 oI F4 N4 hIT ltI4
  have ltn : ∀ q ∈ news, q.1 ≠ IT := fun q hq => Nat.ne_of_lt (ltI4 _ (C2.new q hq).1)
  have C4 : CyIn w κ Φ cs news ((IT, oI) :: (Nd, oN) :: (Sn, { cls := .type "set", data := .set #[] 0 (SetTable.fresh 0 0 lf) }) :: (I, listOf #[] 0) :: (K, listOf #[] 0) :: news) K I Sn Nd [] [] := C2.more
  refine ForAt.introH (CycI w κ Φ cs fuel ep D IT K I Sn Nd env₀ outer res news g L s) ?_ cs.length
    ⟨0, g, _, _, _, _, [], by omega, Nat.zero_le _, rfl, KtsTurn.refl, F4, N4, ⟨oI, .head _, hIT⟩, C4, hres, Nat.zero_le _, ⟨List.nodup_nil, fun x hx => nomatch hx⟩, rfl, rfl, rfl, rfl, rfl⟩
  clear C2 C4 F2 N2 F4 N4 hIT hres
  intro n' s' Qb hQb hp9z
  refine hideG fun G9 hG9 => ?_
  obtain ⟨i, g', h', tk', m', led, seen, rfl, hi, rfl, T5, F5, N5, hit, C5, hf5, hs5, hsn5, v1, v2, v3, v4, v5⟩ := hp9z
  refine hG9.out ?_
  clear hG9 G9
  have B5 := below_turn B T5
  have X5 := HB.out.1.keeps B5.stays
  have P5 := HB.out.2.keeps B5.stays
  have D5 := KD.turn T5
  have hD5 : Ob led D (IsDE w κ Φ (cs.map fun c => (c.e.a, Value.ref c.ia)) ep) := ⟨oD, (C5.new _ hD0).1, hDE⟩
  have hkl : (cs.map fun c => (c.e.a, Value.ref c.ia)).length = cs.length := List.length_map ..
  refine next_D rfl F5 N5 (by rw [hkl]; exact hit) hD5 ?_ ?_
  · intro a v ka h6 led6 hv6 F6 N6 hit6 k6
    rw [hkl] at hit6
    have C6 := C5.keep N5 hit (fun o q => by rw [q.1]; decide) ltn k6
    have hS6 := C6.sn
    have hD6 := C6.nd
    have hl6 := C6.low
    refine hideG fun G9 hG9 => ?_
    obtain ⟨c, hci, hca⟩ : ∃ c, cs[i]? = some c ∧ c.e.a = a := by
      rw [List.getElem?_map] at hv6
      cases hc : cs[i]? with
      | none => rw [hc] at hv6; cases hv6
      | some c => rw [hc] at hv6; exact ⟨c, rfl, congrArg Prod.fst (Option.some.inj hv6)⟩
    refine hG9.out ?_
    clear hG9 G9
    have hlt6 := (List.getElem?_eq_some_iff.mp hci).1
    have hdr : (cs.map (·.e.a)).drop i = a :: (cs.map (·.e.a)).drop (i + 1) := by
      rw [List.drop_eq_getElem_cons (by simpa using hlt6)]
      congr 1
      have := (List.getElem?_eq_some_iff.mp hci).2
      simp [this, hca]
    rw [hdr] at hf5
    clear F5 N5 hit C5 hD5 k6
    k_extra "gh"
    rename Fr _ _ _ _ => F6
    rename News _ _ _ _ => N6
    refine ⟨?_⟩
    by_cases hin : a ∈ seen
    · rw [decide_eq_true hin]
      k_extra "gh"
      exact hQb.cont _ ⟨cs.length - (i + 1), by omega, i + 1, g', _, _, _, _, seen, rfl, hlt6, rfl, T5, F6, N6, hit6, C6, by rw [findRing, if_pos hin] at hf5; exact hf5, hs5, hsn5, v1, v2, v3, v4, v5⟩
    · rw [decide_eq_false hin]
      k_extra "gh"
      rw [findRing, if_neg hin] at hf5
      obtain ⟨rr, hrr⟩ : ∃ rr, dfs (cs.map (·.e)) fuel a [] seen = some rr := by
        cases hd : dfs (cs.map (·.e)) fuel a [] seen with
        | none => rw [hd] at hf5; cases hf5
        | some rr => exact ⟨rr, rfl⟩
      rw [hrr] at hf5
      refine while_trueH (CycJ w κ Φ cs fuel ep D IT K I Sn Nd env₀ outer rr i news g L s) rfl ?_ fuel
        ⟨a, ka, g', _, _, _, _, [], seen, hrr, rfl, T5, F6, N6, hit6, C6, List.mem_map.mpr ⟨c, List.mem_of_getElem? hci, hca⟩, hsn5.1, hsn5.2, rfl, v1, v2, v3, v4, v5⟩
      clear F6 N6 hit6 C6 hD6 hS6 hl6 v1 v2 v3 v4 v5 T5 B5 X5 P5 D5 hrr hin hs5 hsn5
      intro n s' Qw hQw hp9z
      refine hideG fun G9 hG9 => ?_
      obtain ⟨b, kb, g', h', tk', m', led, ses, seen, hdfs, rfl, T5, F5, N5, hit, C5, hbk, hsn, hsk, v0, v1, v2, v3, v4, v5⟩ := hp9z
      refine hG9.out ?_
      clear hG9 G9
      rcases n with _ | n
      · cases hdfs
      have B5 := below_turn B T5
      have X5 := HB.out.1.keeps B5.stays
      have P5 := HB.out.2.keeps B5.stays
      have D5 := KD.turn T5
      have hsl : seen.length ≤ 100 := by
        have := nodup_len hsn hsk
        rw [List.length_map] at this; omega
      have hel : ses.length ≤ 100 := by
        have := nodup_len C5.xs fun x hx => by obtain ⟨e, he, q⟩ := List.mem_map.mp hx; exact q ▸ C5.sub e he
        rw [List.length_map] at this; omega
      obtain ⟨Mid, hMid⟩ : ∃ M : Shared → Prop, ∀ s', M s' ↔ (CycM w κ Φ cs fuel ep D IT K I Sn Nd env₀ outer rr i n news g L s s') := ⟨_, fun _ => Iff.rfl⟩
      refine seq_mid Mid ?_ ?_
      ·
        have hS5 := C5.sn
        have hN5 := C5.nd
        have hl5 := C5.low
        k_extra "gh"
        rename Fr _ _ _ _ => F6
        rename News _ _ _ _ => N6
        refine ⟨?_⟩
        by_cases hin : b ∈ seen
        · rw [decide_eq_true hin]
          k_extra "gh"
          refine ⟨?_⟩
          by_cases hst : b ∈ ses.map (·.x)
          ·
            refine hideG fun G9 hG9 => ?_
            obtain ⟨e, he, hex⟩ := List.mem_map.mp hst
            refine hG9.out ?_
            clear hG9 G9
            have hv := hex ▸ se_some C5.xs he
            rw [hv, Option.isSome_some]
            refine hideG fun G9 hG9 => ?_
            obtain ⟨us, nk, hK, hus⟩ := C5.stk
            refine hG9.out ?_
            clear hG9 G9
            have hul := hus.length
            rw [List.length_map] at hul
            k_extra "gh"
            rename Fr _ _ _ _ => F7
            rename News _ _ _ _ => N7
            refine ⟨?_⟩
            rw [cutL_from] at N7
            refine addL F7 N7 (.tail _ (.head _)) (ws := [txt κ (Φ.f b) kb]) (.head _) (by rw [List.length_drop, List.length_singleton]; omega) ?_
            intro dR hR F8 N8 ltR
            obtain ⟨j, hj⟩ := List.getElem?_of_mem he
            have hjx := C5.ixs j e hj
            have hidx : (ses.map (·.x)).idxOf b = e.ix := idx_nodup C5.xs (by rw [List.getElem?_map, hjx, hj, ← hex]; rfl)
            have hin2 : b ∈ (stOf ses).map (·.1) := by rw [stOf_xs]; simpa using hst
            unfold dfs turnOf at hdfs
            rw [if_pos hin, if_pos hin2] at hdfs
            have hrr2 : rr = .inl (ringOf (stOf ses) b) := (Option.some.inj hdfs).symm
            subst hrr2
            have hres2 : res = some (ringOf (stOf ses) b) := (Option.some.inj hf5).symm
            subst hres2
            k_extra "gh"
            refine hQw.ret _ _ ?_
            refine hQb.ret _ _ ?_
            refine hQf.out _ _ ?_
            refine ⟨g', _, _, _, _, rfl, T5, F8, N8, fun q hq => .tail _ (.tail _ (.tail _ (C5.new q hq).1)), dR, _, 0, rfl, .head _, ?_, fun q hq => Nat.ne_of_lt (ltR q (.tail _ (.tail _ (C5.new q hq).1)))⟩
            unfold ringOf
            rw [stOf_xs, List.reverse_reverse, hidx]
            exact (hus.drop _).app (.cons .nil)
          · rw [se_none hst, Option.isSome_none]
            k_extra "gh"
            show Mid _
            rw [hMid]
            refine ⟨g', _, _, _, _, ses, seen, ?_, rfl, T5, F6, N6, hit, C5, hsn, hsk, v1, v2, v3, v4, v5⟩
            have hno : b ∉ (stOf ses).map (·.1) := by rw [stOf_xs]; simpa using hst
            unfold dfs turnOf at hdfs
            rw [if_pos hin, if_neg hno] at hdfs
            revert hdfs
            dsimp only
            cases back (cs.map (·.e)) (stOf ses) with
            | none => exact id
            | some q => exact id
        · rw [decide_eq_false hin]
          k_extra "gh"
          refine methS N6 hS5 (by omega) ?_
          k_extra "gh"
          refine addS F6 N6 hS5 (by omega) ?_
          intro h7 led7 tk7 F7 N7 hS7 k7
          refine hideG fun G9 hG9 => ?_
          obtain ⟨c, hc, hca⟩ := List.mem_map.mp hbk
          obtain ⟨us, nk, hK, hus⟩ := C5.stk
          obtain ⟨nI, hIl⟩ := C5.itk
          obtain ⟨nK, nI', nN, nKI, nKN, nIN⟩ := C5.four N6
          refine hG9.out ?_
          clear hG9 G9
          have hn7 : ∀ q ∈ news, q ∈ led7 := fun q hq => k7 q (C5.new q hq).1 (C5.neN hq).1
          have hK7 := k7 _ hK nK
          have hI7 := k7 _ hIl nI'
          have hN7 : Ob led7 Nd (IsD w κ Φ (ses.map fun e => (e.x, Value.int e.ix e.k))) := let ⟨o, m, q⟩ := hN5; ⟨o, k7 _ m nN, q⟩
          have hD7 : Ob led7 D (IsD w κ Φ (cs.map fun c => (c.e.a, Value.ref c.ia))) := H.dict.sub hn7
          have hE := H.ents c hc
          have hi7 : (c.ia, (⟨.ref 40, some c.dx, .plain, #[some (txt κ (Φ.f c.e.a) c.kn), some (.int c.e.np c.kp), some (.ref c.sa)]⟩ : Obj)) ∈ led7 := hn7 _ hE.info
          have hdx7 := hn7 _ hE.dict
          have hs7 := hn7 _ hE.succ
          have hva := hca ▸ valueAt_node H.keys hc
          k_extra "gh"
          refine ⟨?_⟩
          refine nextAttr F9 N9 (.head _) ?_
          intro x h8 F8 N8 lt8
          k_extra "gh"
          refine ⟨?_⟩
          refine appL F8 N8 (.tail _ (.tail _ hI7)) (by simp; omega) ?_
          intro h10 led10 F10 N10 hI10 k10
          have hit10 := k10 _ (.tail _ (.head _)) (Nat.ne_of_gt (lt9 _ hI7))
          have hx10 := k10 _ (.head _) (Nat.ne_of_gt (lt8 _ (.tail _ hI7)))
          have hK10 := k10 _ (.tail _ (.tail _ hK7)) nKI
          have hN10 : Ob led10 Nd (IsD w κ Φ (ses.map fun e => (e.x, Value.int e.ix e.k))) := let ⟨o, m, q⟩ := hN7; ⟨o, k10 _ (.tail _ (.tail _ m)) nIN.symm, q⟩
          have kk10 : ∀ q ∈ led, q.1 ≠ Sn → q.1 ≠ I → q ∈ led10 := fun q hq h1 h2 => k10 q (.tail _ (.tail _ (k7 q hq h1))) h2
          have hul := hus.length
          rw [List.length_map] at hul
          clear hD7 hi7 hdx7 hI7 hK7 hN7 hs7
          k_extra "gh"
          refine ⟨?_⟩
          have hK11 := k9 _ hK10 nKN
          k_extra "gh"
          refine ⟨?_⟩
          refine appL F9 N9 hK11 (by omega) ?_
          intro h12 led12 F12 N12 hK12 k12
          k_extra "gh"
          show Mid _
          rw [hMid]
          have hne : ∀ {a : Addr} {o : Obj}, (a, o) ∈ led10 → o.cls ≠ .type "list" → o.cls ≠ .type "dict" → (a, o) ∈ led12 := fun hm h1 h2 => by
            have n1 := ob_ne N10 hN10 hm fun q => h2 (isD_cls q)
            exact k12 _ (k9 _ hm n1) (news_ne N10 hm hK10 fun e => h1 (by rw [e]))
          have hlt : ∀ q ∈ led, q.1 < it9 := by
            intro q hq
            by_cases e : q.1 = Sn
            ·
              obtain ⟨o, m, _⟩ := hS7
              rw [e]; exact lt9 _ m
            · exact lt9 _ (k7 q hq e)
          refine ⟨g', _, _, _, _, ses ++ [⟨b, 0, it9, x, c.sa, ses.length, kk⟩], seen ++ [b], ?_, rfl, T5, F12, N12, ?_, C5.push (n := nI + 1) (n' := nk + 1) N6 (fun q hq h1 h2 h3 h4 => k12 q (k9 q (kk10 q hq h1 h2) h3) h4) ?_ ?_ ?_ hK12 hus ?_ ?_ hlt ⟨c, hc, hca, rfl⟩ hin, ?_, ?_, v1, v2, v3, v4, v5⟩
          · rw [stOf_push]
            unfold dfs turnOf at hdfs
            rw [if_neg hin] at hdfs
            revert hdfs
            dsimp only
            cases back (cs.map (·.e)) ((b, 0) :: stOf ses) with
            | none => exact id
            | some q => exact id
          ·
            refine hideG fun G9 hG9 => ?_
            obtain ⟨o, m, q⟩ := hit
            refine hG9.out ?_
            clear hG9 G9
            have h1 : IT ≠ Sn := ob_ne N6 hS5 m fun z => by have := set_cls z; rw [q.1] at this; exact absurd this (by decide)
            have h2 : IT ≠ I := news_ne N6 m hIl fun e => by have := q.1; rw [e] at this; exact absurd this (by show Value.type "list" ≠ _; decide)
            exact ⟨o, hne (kk10 _ m h1 h2) (by rw [q.1]; decide) (by rw [q.1]; decide), q⟩
          ·
            refine hideG fun G9 hG9 => ?_
            obtain ⟨o, m, q⟩ := hS7
            refine hG9.out ?_
            clear hG9 G9
            have h2 : Sn ≠ I := nI'.symm
            refine ⟨o, hne (k10 _ (.tail _ (.tail _ m)) h2) (by rw [set_cls q]; decide) (by rw [set_cls q]; decide), ?_⟩
            rw [decide_eq_false hin] at q
            rw [List.length_append]
            have e : (fun k => decide (k ∈ seen ++ [b])) = fun k' => decide (k' ∈ seen) || decide (k' = b) := by
              funext k'; simp
            rw [e]; exact q
          · exact k12 _ (k9 _ hI10 nIN) nKI.symm
          ·
            refine hideG fun G9 hG9 => ?_
            obtain ⟨o, m, q⟩ := c9
            refine hG9.out ?_
            clear hG9 G9
            refine ⟨o, k12 _ m nKN.symm, ?_⟩
            rw [hul, stored_new (se_none fun z => hin (let ⟨e, he, q⟩ := List.mem_map.mp z; q ▸ C5.sub e he))] at q
            exact q
          · exact hne hx10 (by rw [mw_cls]; decide) (by rw [mw_cls]; decide)
          · exact ⟨_, hne hit10 (by show Value.type "list_iterator" ≠ _; decide) (by show Value.type "list_iterator" ≠ _; decide), rfl, rfl⟩
          · exact List.nodup_append.mpr ⟨hsn, by simp, fun y hy z hz e => by simp at hz; exact hin (hz ▸ e ▸ hy)⟩
          · intro y hy
            rcases List.mem_append.mp hy with q | q
            · exact hsk y q
            · rw [List.mem_singleton.mp q]; exact hbk
      · intro s' hs'
        rw [hMid] at hs'
        clear hMid F5 N5 hit C5 hsn hsk v0 v1 v2 v3 v4 v5 T5 B5 X5 P5 D5 hdfs hbk hsl hel
        refine hideG fun G9 hG9 => ?_
        obtain ⟨g', h', tk', m', led, ses, seen, hb, rfl, T5, F5, N5, hit, C5, hsn, hsk, v1, v2, v3, v4, v5⟩ := hs'
        refine hG9.out ?_
        clear hG9 G9
        k_extra "gh"
        refine while_anyH (CycK w κ Φ cs fuel ep D IT K I Sn Nd env₀ outer rr i n seen news g L s) ?_ ses.length
          ⟨g', _, _, _, _, ses, rfl, hb, rfl, T5, F5, N5, hit, C5, v1, v2, v3, v4, v5⟩
        clear F5 N5 hit C5 v1 v2 v3 v4 v5 T5 hb
        intro nn s' Qi hQi hp9z
        refine hideG fun G9 hG9 => ?_
        obtain ⟨g', h', tk', m', led, ses, rfl, hb, rfl, T5, F5, N5, hit, C5, v1, v2, v3, v4, v5⟩ := hp9z
        have B5 := below_turn B T5
        have X5 := HB.out.1.keeps B5.stays
        have P5 := HB.out.2.keeps B5.stays
        have D5 := KD.turn T5
        have hsl : seen.length ≤ 100 := by
          have := nodup_len hsn hsk
          rw [List.length_map] at this; omega
        have hel : ses.length ≤ 100 := by
          have := nodup_len C5.xs fun x hx => by obtain ⟨e, he, q⟩ := List.mem_map.mp hx; exact q ▸ C5.sub e he
          rw [List.length_map] at this; omega
        obtain ⟨us, nK, hK, hus⟩ := C5.stk
        refine hG9.out ?_
        clear hG9 G9
        have hul := hus.length
        rw [List.length_map] at hul
        k_extra "gh"
        refine wpAny_truthy_list (items := us.toArray) ⟨_, (N5 _ hK).1, rfl, nK, rfl⟩ (by rw [List.size_toArray]; omega) ?_
        rcases List.eq_nil_or_concat ses with rfl | ⟨ses, e, rfl⟩
        ·
          have : us = [] := List.eq_nil_of_length_eq_zero hul
          subst this
          k_extra "gh"
          refine hQw.brk _ ?_
          dsimp only
          k_extra "gh"
          have hrr : rr = .inr seen := (Option.some.inj hb).symm
          subst hrr
          exact hQb.next _ ⟨cs.length - (i + 1), by omega, i + 1, g', _, _, _, _, seen, rfl, hlt6, rfl, T5, F5, N5, hit, C5, hf5, by omega, ⟨hsn, hsk⟩, v1, v2, v3, v4, v5⟩
        · rw [List.concat_eq_append] at *
          rw [List.map_append] at hus
          refine hideG fun G9 hG9 => ?_
          obtain ⟨us, ke, rfl, hus2⟩ := hus.snoc
          refine hG9.out ?_
          clear hG9 G9
          rw [show (!(us ++ [txt κ (Φ.f e.x) ke]).toArray.isEmpty) = true by simp]
          rw [if_pos rfl]
          refine hideG fun G9 hG9 => ?_
          obtain ⟨nI, hI⟩ := C5.itk
          rw [List.map_append] at hI
          have hIt := C5.its e (by simp)
          have hMw := C5.mws e (by simp)
          obtain ⟨c, hc, hca, hcs⟩ := C5.sas e (by simp)
          have hE := H.ents c hc
          have hsu := hcs ▸ (C5.new _ hE.succ).1
          have hsuc := suOf_key (es := cs.map (·.e)) rfl H.keys hc
          rw [hca] at hsuc
          rw [stOf_push, back, hsuc] at hb
          have hKc : ∀ {a : Addr} {o : Obj}, (a, o) ∈ led → o.cls ≠ .type "list_iterator" → a ≠ e.it := fun hm h1 => ob_ne N5 hIt hm fun q => h1 q.1
          have itne : IT ≠ e.it := by obtain ⟨o, m, q⟩ := hit; exact hKc m (by rw [q.1]; decide)
          obtain ⟨nKs, nIs, nNs, nKI, nKN, nIN⟩ := C5.four N5
          refine hG9.out ?_
          clear hG9 G9
          k_extra "gh"
          refine ⟨?_⟩
          refine lastL N5 hI ?_
          refine callMw_with N5 hMw ?_
          refine mwNext rfl F5 N5 hMw hIt hsu ?_ ?_
          · intro v h6 led6 hv6 F6 N6 hit6 k6
            refine hideG fun G9 hG9 => ?_
            obtain ⟨b, kb, rfl, hbg⟩ := hE.are.get hv6
            refine hG9.out ?_
            clear hG9 G9
            rw [hbg] at hb
            have C6 := C5.step N5 k6 hit6
            have hit7 : Ob led6 IT (IsKIt D (i + 1) cs.length ep) := let ⟨o, m, q⟩ := hit; ⟨o, k6 _ m itne, q⟩
            clear F5 N5 C5 hit hIt hMw hI hK hsu
            k_extra "gh"
            refine hQi.brk _ ?_
            dsimp only
            k_extra "gh"
            rename Fr _ _ _ _ => F7
            rename News _ _ _ _ => N7
            refine hQw.next _ ⟨n, by omega, b, kb, g', _, _, _, _, ses ++ [{ e with i := e.i + 1 }], seen, ?_, rfl, T5, F7, N7, hit7, C6, ?_, hsn, hsk, rfl, v1, v2, v3, v4, v5⟩
            · rw [stOf_push]; exact hb
            ·
              have := hsi c.e (List.mem_map.mpr ⟨c, hc, rfl⟩) b (List.mem_of_getElem? hbg)
              rw [List.map_map] at this; exact this
          · intro er h6 h7 led6 hv6 F6 N6 k6 hx
            have hbg : c.e.su[e.i]? = none := by
              have := hE.are.length
              exact List.getElem?_eq_none (by omega)
            rw [hbg] at hb
            refine hit_new B5 F6 N6 hx rfl HB D5 T5 rfl (by kts_test) ?_
            clear F5 T5 B5 D5 X5 P5
            intro h8 g8 oe te tb T8 F8 N8 hoe B8 X8 P8 D8
            refine wpAny_mono (E := fun _ _ => False) ?_ (fun _ _ h => h) (fun _ _ h => h.elim)
            have hK8 : (K, _) ∈ (er, oe) :: led6 := .tail _ (k6 _ hK (hKc hK (by show Value.type "list" ≠ _; decide)))
            have hI8 : (I, _) ∈ (er, oe) :: led6 := .tail _ (k6 _ hI (hKc hI (by show Value.type "list" ≠ _; decide)))
            have hN8 : Ob ((er, oe) :: led6) Nd (IsD w κ Φ ((ses ++ [e]).map fun e => (e.x, Value.int e.ix e.k))) := let ⟨o, m, q⟩ := C5.nd; ⟨o, .tail _ (k6 _ m (hKc m (by rw [isD_cls q]; decide))), q⟩
            k_extra "gh"
            refine ⟨?_⟩
            refine popL F8 N8 hK8 (by simp at hul hel; omega) ?_
            intro h9 led9 F9 N9 hK9 k9
            have hI9 := k9 _ hI8 nKI.symm
            have hN9 : Ob led9 Nd (IsD w κ Φ ((ses ++ [e]).map fun e => (e.x, Value.int e.ix e.k))) := let ⟨o, m, q⟩ := hN8; ⟨o, k9 _ m nKN.symm, q⟩
            k_extra "gh"
            refine ⟨?_⟩
            refine delD F9 N9 hN9 (by simp at hel ⊢; omega) (by
              have := se_some C5.xs (show e ∈ ses ++ [e] by simp)
              rw [this]; rfl) ?_
            intro h10 led10 tk10 F10 N10 hN10 k10
            have hK10 := k10 _ hK9 nKN
            have hI10 := k10 _ hI9 nIN
            rw [without_last C5.xs] at hN10
            k_extra "gh"
            refine ⟨?_⟩
            refine popL F10 N10 hI10 (by simp at hel ⊢; omega) ?_
            intro h11 led11 F11 N11 hI11 k11
            have hK11 := k11 _ hK10 nKI
            have hN11 : Ob led11 Nd (IsD w κ Φ (ses.map fun e => (e.x, Value.int e.ix e.k))) := let ⟨o, m, q⟩ := hN10; ⟨o, k11 _ m nIN.symm, q⟩
            have kk : ∀ q ∈ led, q.1 ≠ e.it → q.1 ≠ I → q.1 ≠ Nd → q.1 ≠ K → q ∈ led11 := fun q hq h1 h2 h3 h4 => k11 q (k10 q (k9 q (.tail _ (k6 q hq h1)) h4) h3) h2
            have C11 := C5.drop N5 kk hI11 hN11 hK11 hus2
            have hit11 : Ob led11 IT (IsKIt D (i + 1) cs.length ep) := by
              obtain ⟨o, m, q⟩ := hit
              obtain ⟨n1, n2, n3, n4⟩ := C5.ne N5 m (by rw [q.1]; decide) (by rw [q.1]; decide) (by rw [q.1]; decide)
              exact ⟨o, kk _ m itne n2 n3 n4, q⟩
            clear F8 N8 hK8 hI8 hN8 k9 hI9 hN9 hK9 F9 N9 F10 N10 hN10 hK10 hI10 k10 k11 hx F6 N6 k6
            k_extra "gh"
            exact hQi.next _ ⟨ses.length, by simp, g8, _, _, _, _, ses, rfl, hb, rfl, T8, F11, N11, hit11, C11, v1, v2, v3, v4, v5⟩
  · intro h6 led6 hv6 F6 N6 k6
    rw [hkl] at hv6
    k_extra "gh"
    rw [List.drop_eq_nil_of_le (by rw [List.length_map]; exact hv6), findRing] at hf5
    cases hf5
    refine hQf.out _ _ ?_
    k_extra "gh"
    exact ⟨g', _, _, _, _, rfl, T5, F6, N6, fun q hq => k6 _ (C5.new q hq).1 (ltn q hq), rfl⟩

theorem fresh_P44a_vals : True := by
  w_top off
  trivial
section
variable {prog : Program} {w : World} {κ : Bool} {Φ : NodeFn} {A : Around} {E : Value → Shared → Prop} {s : Shared} {h₀ : Heap} {L d : Addr} {m : Str → Option Value} {led : Led} {kvs : List (Nat × Value)}
noncomputable def viewO (d : Addr) : Obj := { cls := .type "dict_values", data := .fields #[.ref d] }
theorem methValues {pl : Sem Bool} {Q : Value × List Value → Shared → Prop} (N : News h₀ L s.heap led) (hd : Ob led d (IsD w κ Φ kvs)) (h : Q (.builtin "dict.values", [.ref d]) s) : wpAny (model PySem.Challenge.rw_op0160_01.row.prog w) A (getMethod (.ref d) (Str.ofString "values") pl) Q E s := by
  refine hideG fun G9 hG9 => ?_
  obtain ⟨o, hm, hd⟩ := hd
  refine hG9.out ?_
  clear hG9 G9
  exact kdl_method PySem.F.slot_dict_values PySem.F.type_dict_values N hm hd h
theorem callValues {Q : Value → Shared → Prop} (F : Fr h₀ L s.heap m) (N : News h₀ L s.heap led) (hd : Ob led d (IsD w κ Φ kvs)) (lo : (d == sysModules) = false)
    (h : ∀ v h', Fr h₀ L h' m → News h₀ L h' ((v, viewO d) :: led) → (∀ p ∈ led, p.1 < v) → Q (.ref v) { s with heap := h' }) : wpAny (model PySem.Challenge.rw_op0160_01.row.prog w) A (call (.builtin "dict.values") [.ref d]) Q E s := by
  refine hideG fun G9 hG9 => ?_
  obtain ⟨o, hm, hd⟩ := hd
  refine hG9.out ?_
  clear hG9 G9
  have hD : s.heap.DictOf (NK w κ Φ) d kvs := Heap.dictOf_iff.mpr ⟨o, (N _ hm).1, hd⟩
  exact call_meetsIn PySem.F.slot_dict_values hD.typeIs PySem.F.entry_dict_values (PySem.F.args_dict_values_1 _) (meets_dict_values (NK w κ Φ) d lo) ⟨⟨kvs, hD⟩, h _ _ (F.push _) (News.push F N (viewO d) rfl) fun q hq => Heap.lt_size (N q hq).1⟩
open PyProof.Rows.LCg PyProof.Rows.LCt in
/-- a comprehension over a dict's values -/
theorem comp_V {env : Env} {ct elt iter : Expr} {x : Str} {px : Pos} {scope : Scope} {cl : List (Str × Addr)} {pos : Pos} {Q : Value → Shared → Prop} (F₀ : Fr h₀ L s.heap m)
    (hclos : closureFor scope env = pure cl) (hcell : ∀ y ∈ scope.names, y.2 ≠ .cell) (hkind : scope.kind = .function)
    (hnames : ∀ y ∈ scope.names, y.2 = .local → scope.names.lookup y.1 = some .local) (hx : scope.names.lookup x = some .local)
    (h : wpAny (model PySem.Challenge.rw_op0160_01.row.prog w) A (eval iter env) (fun xv s₁ => ∃ v ep led, xv = .ref v ∧ A.handled = none ∧ Fr h₀ L s₁.heap m ∧ News h₀ L s₁.heap led ∧ (v, viewO d) ∈ led ∧ Ob led d (IsDE w κ Φ kvs ep) ∧ kvs.length ≤ sizeLine ∧
      ∀ s₂ : Shared, (∃ h, s₂ = { s₁ with heap := h }) → CompRestT PySem.Challenge.rw_op0160_01.row.prog w A h₀ L m env ct elt x scope cl s₂ (fun nw => Ob nw d (IsDE w κ Φ kvs ep)) (fun i v => ∃ k, kvs[i]? = some (k, v)) (FinE h₀ L m s₂ Q) kvs.length 0 [] led) E s)
    (hs : ∀ x, foldedSetIterable iter env x = pure x := by intro _; rfl) :
    wpAny (model PySem.Challenge.rw_op0160_01.row.prog w) A (eval (.ListComp elt [⟨.Name x px, iter, [ct], 0⟩] scope pos) env) Q E s := by
  rw [eval_ListComp]
  refine wpAny_comprehension_free (use := none) rfl hs hclos hkind hnames (wpAny_mono h (fun xv s₁ h₁ => ?_) fun _ _ e => e)
  refine hideG fun G9 hG9 => ?_
  obtain ⟨v, ep, led, rfl, hh, F, N, hv, hd, hsz, R⟩ := h₁
  obtain ⟨o, hm, hDE⟩ := id hd
  refine hG9.out ?_
  clear hG9 G9
  have hA : s₁.heap.DictAt (NK w κ Φ) d kvs ep := hDE.dictAt (N _ hm).1
  have hlt : d < s₁.heap.objs.size := Heap.lt_size (N _ hm).1
  refine wpAny_pyIter_values (kvs := kvs) ⟨_, (N _ hv).1, rfl, rfl⟩ hA ?_
  have up : ∀ b o, s₁.heap.get? b = some o → (s₁.heap.push { cls := .type "dict_valueiterator", data := .fields #[.ref d, .int 0 0, .int kvs.length 0, .int ep 0] }).get? b = some o := fun b o e => Heap.get?_push_of_some _ e
  refine block_T (S := fun nw => Ob nw d (IsDE w κ Φ kvs ep)) (Walks.dictValues (prog := PySem.Challenge.rw_op0160_01.row.prog) (w := w) (knd := NK w κ Φ) hh s₁.heap.objs.size d (Nat.ne_of_lt hlt) kvs ep) hsz (fun i h st => by obtain ⟨o, e, _⟩ := st.1; exact ⟨o, e⟩) ?_ hcell hkind hx
    ⟨⟨_, Heap.get?_push_size _ rfl, rfl, rfl⟩, hA.at' fun o e => up _ _ e⟩ (fun b hb => ?_)
    (F.keeps up) (N.grown up) (Nat.ne_of_lt F.ns.lt) (next_is_new F) (fun p hp => Nat.ne_of_lt (Heap.lt_size (N p hp).1)) hd (R _ ⟨_, rfl⟩) ?_
  · intro i h h' o' nw st h1 h2 _ Nw ⟨o2, m2, q2⟩
    exact ⟨st.1.at fun o3 e => by rw [h1] at e; rw [← Option.some.inj e]; exact h2, q2.dictAt (Nw _ m2).1⟩
  · show b < (s₁.heap.push _).objs.size
    rw [Heap.size_push]
    rcases List.mem_cons.mp hb with rfl | hb
    · exact Nat.lt_succ_self _
    · rw [List.mem_singleton.mp hb]; exact Nat.lt_succ_of_lt hlt
  · intro D C h tk m' ys news' F' N' o1 hn hC₀ hD₀ hCL hDL hCD offC fin
    refine ⟨m', hn, fun h'' hs'' => fin D h'' tk (F'.change hs'' hCL hC₀) (fun p hp => ?_) o1⟩
    refine ⟨hs''.extBut _ _ ?_ (N' p hp).1, (N' p hp).2⟩
    rcases List.mem_cons.mp hp with rfl | hp
    · exact Ne.symm hCD
    · exact offC p hp
end
theorem off1_mem {D : Addr} : ∀ {l : List (Addr × Obj)}, LCg.Off1 D l → ∀ p ∈ l, p.1 ≠ D
  | [], _, _, hp => nomatch hp
  | _ :: _, h, p, hp => by
    rcases List.mem_cons.mp hp with rfl | hp
    · exact h.1
    · exact off1_mem h.2 p hp
theorem handed_txt (κ : Bool) (t : List Nat) (k : Tok) : handedIn (txt κ t k) = true := by cases κ <;> rfl
theorem lw33_all : True := by
  k_with "L getAttr ref" => (k_here; k_dflt (refine' getSl ?k1 ?k2 ?k3 ?k4 ?k5 ?k6 ?k7 ?k8 ?k9 ?k10 ?k11 ?k12 ?k13 ?_; (case k1 => k_asm); (case k2 => k_asm); (case k3 => assumption); (case k4 => assumption); (case k5 => k_asm); (case k6 => k_is); (case k7 => k_is); (case k8 => k_is); (case k9 => k_is); (case k10 => k_is); (case k11 => k_is); (case k12 => exact rfl); (case k13 => first | exact rfl | exact handed_txt _ _ _); k_whole))
  trivial
theorem lw34_all : True := by
  k_with "L getMethod ref" => ((with_reducible show wpAny _ _ (getMethod (Value.ref _) (Str.ofString "values") _) _ _ _); refine' methValues ?k1 ?k2 ?_; (case k1 => k_asm); (case k2 => k_extra "ob"))
  trivial
theorem lw35_all : True := by
  k_with "L call builtin:dict.values" => (refine Box.out ?_)
  trivial

theorem fresh_P44b_prep : True := by
  w_top off
  trivial
noncomputable def rdy (es : List Ent) : List Nat := (es.filter fun e => decide (e.np = 0)).map (·.a)
noncomputable def cycL : List Nat := (Str.ofString "nodes are in a cycle").cps.toList
inductive PrepE (w : World) (κ : Bool) (Φ : NodeFn) (S : Addr) (di : Addr) (D : Addr) (cs : List CE) (p : Int) (f : Int) (res : Option (List Nat)) (news : Led) (cls : Value) (vs : List Value) (led : Led) : Prop
  | mk (p0 : cls = .ref 55) (ring : List Nat) (l : Addr) (us : List Value) (n : Nat) (k : Tok) (R : Addr)
      (e1 : res = some ring) (e2 : vs = [txt false cycL k, .ref l]) (e3 : (l, listOf us.toArray n) ∈ led) (e4 : NodesAre κ Φ us ring) (e5 : SrtIn w κ Φ led S di D cs (.ref R) p f) (e6 : RdIn κ Φ led S di D cs R (rdy (cs.map (·.e)))) (e7 : (∀ q ∈ news, q.1 ≠ R)) (e8 : l ≠ R) (e9 : ¬ Adr S di D cs l) (e10 : (∀ q ∈ news, q.1 ≠ l)) (e11 : ∀ q ∈ news, q.1 ≠ di → q ∈ led)
theorem prep_fn (w : World) (κ : Bool) (Φ : NodeFn) (S di D : Addr) (cs : List CE) (p f : Int) (news : Led) (fuel : Nat) (res : Option (List Nat)) (H : SrtIn w κ Φ news S di D cs .none p f) (hl : cs.length ≤ 100) (hsu : SuLe (cs.map (·.e)) 1000) (hsi : SuIn (cs.map (·.e)))
    (hres : findRing (cs.map (·.e)) fuel (cs.map (·.e.a)) [] = some res) (hne : res ≠ some []) (hrg : ∀ ring, res = some ring → ring.length ≤ 1000) :
    FnS w 550 3500 none 92 ⟨[.ref S], []⟩ news (fun r led => res = none ∧ r = .none ∧ ∃ R, SrtIn w κ Φ led S di D cs (.ref R) p f ∧ RdIn κ Φ led S di D cs R (rdy (cs.map (·.e))) ∧ (∀ q ∈ news, q.1 ≠ R) ∧ ∀ q ∈ news, q.1 ≠ di → q ∈ led)
      (PrepE w κ Φ S di D cs p f res news) := by
  unfold FnS; k_fill; show FnS _ _ _ _ _ _ _ _ _
  refine FnS.intro (binds := [(Str.ofString "self", .ref S)]) (by k_is) (by k_is) rfl (fun s _ => BindsTo.of_eq rfl) (locs rfl) (by decide) rfl rfl rfl ?_
  intro loose mean mg mb gd env₀ outer base g L h₁ s tk B F X N T hlt HB KD
  refine wp_hide fun Qf hQf => ?_
  refine wp_hideE fun Ef hEf => ?_
  have hS := H.inst
  refine hideG fun G9 hG9 => ?_
  obtain ⟨kp, kf, hat⟩ := H.attr
  refine hG9.out ?_
  clear hG9 G9
  have hlow := H.low
  have hD := H.dict
  k_extra "gh"
  rename Fr _ _ _ _ => F1
  rename News _ _ _ _ => N1
  refine comp_V (κ := κ) (Φ := Φ) (d := D) (kvs := cs.map fun c => (c.e.a, Value.ref c.ia)) F1 (by with_unfolding_all rfl) (by decide) (by rfl) (by decide) (by rfl) ?_
  k_extra "gh"
  refine ⟨?_⟩
  rename Fr _ _ _ _ => F1
  rename News _ _ _ _ => N1
  refine callValues F1 N1 hD hlow ?_
  intro v h2 F2 N2 lt2
  obtain ⟨ep, hDE⟩ := IsDE.of hD
  refine ⟨v, ep, _, rfl, rfl, F2, N2, .head _, hDE.more, by rw [List.length_map, sizeLine_eq]; omega, ?_⟩
  rintro _ ⟨g', rfl⟩
  refine compRestT_of (fun j ys led' => (∀ q ∈ (v, viewO D) :: news, q ∈ led') ∧ NodesAre κ Φ ys (rdy ((cs.map (·.e)).take j))) (n := (cs.map fun c => (c.e.a, Value.ref c.ia)).length) ?_ ?_ _ 0 [] _ (by simp) ⟨fun q hq => hq, .nil⟩
  · rintro j ys news9 v9 I oI C oC Dc m₂ h8 tk8 E' hj ⟨hs9, hr9⟩ ⟨k9, hP⟩ hC hx F8 N8 off ne
    rw [List.getElem?_map] at hP
    cases hcj : cs[j]? with
    | none => rw [hcj] at hP; cases hP
    | some c =>
      rw [hcj] at hP
      cases hP
      have hc := List.mem_of_getElem? hcj
      have hE := H.ents c hc
      have hi9 : (c.ia, (⟨.ref 40, some c.dx, .plain, #[some (txt κ (Φ.f c.e.a) c.kn), some (.int c.e.np c.kp), some (.ref c.sa)]⟩ : Obj)) ∈ (I, oI) :: (C, oC) :: (Dc, LCg.lst ys) :: news9 := .tail _ (.tail _ (.tail _ (hs9 _ (.tail _ hE.info))))
      have hdx9 : (c.dx, emptyDict) ∈ (I, oI) :: (C, oC) :: (Dc, LCg.lst ys) :: news9 := .tail _ (.tail _ (.tail _ (hs9 _ (.tail _ hE.dict))))
      have htk : (cs.map (·.e)).take (j + 1) = (cs.map (·.e)).take j ++ [c.e] := take_snoc (by rw [List.getElem?_map, hcj]; rfl)
      clear F1 F2 N1 N2
      k_extra "gh"
      · rename c.e.np = 0 => hz
        rename Fr _ _ _ _ => F9
        rename News _ _ _ _ => N9
        refine LCg.CompEnd.intro F9 N9 news9 (fun p hp => hp) off ?_ ⟨hs9, ?_⟩
        · exact hDE.sub fun q hq => hs9 q (.tail _ hq)
        · rw [htk]; unfold rdy
          rw [List.filter_append, List.map_append, List.filter_cons, if_pos (by simpa using hz)]
          exact hr9.app (.cons .nil)
      · rename c.e.np ≠ 0 => hz
        rename Fr _ _ _ _ => F9
        rename News _ _ _ _ => N9
        refine LCg.CompEnd.intro F9 N9 news9 (fun p hp => hp) off ?_ ⟨hs9, ?_⟩
        · exact hDE.sub fun q hq => hs9 q (.tail _ hq)
        · rw [htk]; unfold rdy
          rw [List.filter_append, List.map_append, List.filter_cons, if_neg (by simpa using hz)]
          rw [List.filter_nil, List.map_nil, List.append_nil]; exact hr9
  · rintro ys news9 ⟨hs9, hr9⟩ D9 h9 tk9 F9 N9 o9
    rw [List.length_map, List.take_of_length_le (by simp)] at hr9
    clear F1 F2 N1 N2 hS hat
    have hn9 : ∀ q ∈ news, q ∈ news9 := fun q hq => hs9 q (.tail _ hq)
    have H9 := H.sub (led' := (D9, LCg.lst ys) :: news9) fun q hq => .tail _ (hn9 q hq)
    have hDn : ∀ q ∈ news, q.1 ≠ D9 := fun q hq => off1_mem o9 q (hn9 q hq)
    have hS9 := H9.inst
    refine hideG fun G9 hG9 => ?_
    obtain ⟨kp9, kf9, hat9⟩ := H9.attr
    refine hG9.out ?_
    clear hG9 G9
    have N9b : Box (News g L h9 ((D9, LCg.lst ys) :: news9)) := ⟨N9⟩
    k_extra "gh"
    rename_i h10 led10 F10 N10 hat10 k10
    refine ⟨?_⟩
    dsimp only
    rw [sam_R] at hat10
    have H10 := H9.setAttr (led' := led10) (vR' := .ref D9) (p' := p) (f' := f) N9b.out k10 ⟨kp9, kf9, hat10⟩
    have hdi : D9 ≠ di := by
      refine hideG fun G9 hG9 => ?_
      obtain ⟨_, _, o, m, _⟩ := H.attr
      refine hG9.out ?_
      clear hG9 G9
      exact (hDn _ m).symm
    have hA9 : ¬ Adr S di D cs D9 := adr_fresh H hDn
    have R10 : RdIn κ Φ led10 S di D cs D9 (rdy (cs.map (·.e))) := ⟨⟨ys, _, k10 (D9, LCg.lst ys) (.head _) hdi, hr9⟩, hA9⟩
    have hn10 : ∀ q ∈ news, q.1 ≠ di → q ∈ led10 := fun q hq hne => k10 _ (.tail _ (hn9 q hq)) hne
    have hS10 := H10.inst
    refine hideG fun G9 hG9 => ?_
    obtain ⟨kp10, kf10, hat10'⟩ := H10.attr
    refine hG9.out ?_
    clear hG9 G9
    clear F9 N9 hat9 hS9 k10 hat10
    k_extra "gh"
    refine FnS.use (cycle_fn w κ Φ S di D cs (.ref D9) p f led10 fuel res H10 hl hsu hsi hres) rfl rfl rfl B F10 N10 HB.out.1 HB.out.2 KD KtsTurn.refl rfl (Nat.le_of_ble_eq_true rfl) (Nat.le_of_ble_eq_true rfl) ?_ ?_
    · rintro v11 g11 h11 tk11 led11 T11 B11 F11 N11 X11 P11 D11 ⟨hk11, hp11⟩
      have H11 := H10.sub hk11
      have R11 : RdIn κ Φ led11 S di D cs D9 (rdy (cs.map (·.e))) := ⟨let ⟨us, n, m, r⟩ := R10.at_; ⟨us, n, hk11 _ m, r⟩, hA9⟩
      have hn11 : ∀ q ∈ news, q.1 ≠ di → q ∈ led11 := fun q hq hne => hk11 _ (hn10 q hq hne)
      clear F10 N10 hat10' hS10
      cases res with
      | none =>
        subst hp11
        k_extra "gh"
        refine hQf.out _ _ ?_
        rename Fr _ _ _ _ => F12
        rename News _ _ _ _ => N12
        exact ⟨g11, _, _, _, _, rfl, T11, F12, N12, rfl, rfl, D9, H11, R11, hDn, hn11⟩
      | some ring =>
        refine hideG fun G9 hG9 => ?_
        obtain ⟨l, us, n, rfl, hl11, hus, hln⟩ := hp11
        refine hG9.out ?_
        clear hG9 G9
        have hul := hus.length
        have hrl : ring ≠ [] := fun e => hne (by rw [e])
        k_extra "gh"
        rename Fr _ _ _ _ => F12
        rename News _ _ _ _ => N12
        have hrg' := hrg ring rfl
        refine wpAny_truthy_list (items := us.toArray) ⟨_, (N12 _ hl11).1, rfl, n, rfl⟩ (by rw [List.size_toArray]; omega) ?_
        have hun : (!us.toArray.isEmpty) = true := by
          have : us ≠ [] := fun e => hrl (List.eq_nil_of_length_eq_zero (by rw [← hul, e]; rfl))
          cases us with
          | nil => exact absurd rfl this
          | cons _ _ => rfl
        rw [hun, if_pos rfl]
        k_extra "gh"
        rename Heap.MadeExcOf _ _ _ _ _ => hx12
        refine hEf.out _ _ ?_
        have hnl : ∀ q ∈ news, q.1 ≠ l := fun q hq => by
          by_cases e : q.1 = di
          ·
            refine hideG fun G9 hG9 => ?_
            obtain ⟨_, _, o, m, _⟩ := H10.attr
            refine hG9.out ?_
            clear hG9 G9
            rw [e]; exact hln _ m
          · exact hln _ (hn10 q hq e)
        exact ErrS.made T11 F12 N12 hx12 ⟨rfl, ring, l, us, n, _, D9, rfl, rfl, hl11, hus, H11, R11, hDn, (fun e => hln _ R10.at_.choose_spec.choose_spec.1 e.symm), adr_fresh H10 hln, hnl, hn11⟩
    · rintro _ _ _ _ _ _ _ _ _ _ _ _ _ _ _ hh
      exact hh.elim

theorem fresh_P44c_catch : True := by
  w_top off
  trivial
section
variable {w : World} {D U : Nat} {f : Addr} {args : Args} {news : Led} {post : Value → Led → Prop}
/-- a function with cells that may turn the frames' slots and raises nothing -/
theorem FnS.introC {name qual : Str} {params : Arguments} {body : List Stmt} {scope : Scope} {dV kV doc pm cdv ct oc : Value} {an od : Option Addr} {osl : Array (Option Value)} {binds : List (Str × Value)} (clL : Addr → List (Str × Addr)) (mm cm : Str → Option Value)
    (ho : (Mine.hd.heap_1 w.params).lookup f = some ⟨oc, od, .func (fnOf name qual params body scope dV kV doc pm an cdv ct), osl⟩) (hcd : codeIn (Mine.hd.heap_1 w.params) cdv qual = true) (hroom : Nat.blt D 1000 = true)
    (hbind : ∀ s : Shared, (Mine.hd.heap_1 w.params).In s.heap → BindsTo s (fnOf name qual params body scope dV kV doc pm an cdv ct) args binds)
    (hkind : ∀ n, ∀ x ∈ binds, scope.names.lookup x.1 = some .local ∨ (scope.names.lookup x.1 = some .cell ∧ ((cellsFrom n scope.names []).lookup x.1).isSome = true))
    (hcl : ∀ L, cellsFrom (L + 1) scope.names [] = clL L) (hmm : ∀ L, bindL (envOfC qual scope L f cdv).kindOf binds (fun _ => none) = mm) (hcm : ∀ L, bindC (envOfC qual scope L f cdv).kindOf binds (fun _ => none) = cm)
    (hnd : ((cellsFrom 0 scope.names []).map (·.1)).Nodup) (hco : scope.isCoroutine = false) (hgen : scope.isGenerator = false) (hk : scope.kind = .function)
    (h : ∀ (loose : List Str) (mean : ExcName → Option Value) (mg mb : Str → Option Value) (gd : Option (List Code)) (env₀ : Env) (outer : List Env) (base g : Heap) (L : Addr) (h₁ : Heap) (s : Shared) (tk : Nat) (cells : Led),
      Below { handled := none, depth := D, frames := some (env₀ :: outer), guards := gd, units := U } base (env₀ :: outer) g → Fr g L h₁ mm → (Mine.hd.heap_1 w.params).In g → News g L h₁ (cells ++ news) →
      CellsAre cm (clL L) cells → Top topProg loose mean mg mb g → (∀ p ∈ news, p.1 < L) → Box ((Mine.hd.heap_1 w.params).In base ∧ Top topProg loose mean mg mb base) → KtsDicts (frs (env₀ :: outer)) g →
      wpAny (model PySem.Challenge.rw_op0160_01.row.prog w) (AR none (D + 1) (U + 3) (envX qual scope L f cdv (clL L)) gd env₀ outer) (execs body (envX qual scope L f cdv (clL L))) (EndsS (frs (env₀ :: outer)) g L s post) (fun _ _ => False) { s with heap := h₁, toks := tk }) :
    FnS w D U none f args news post (fun _ _ _ => False) := by
  intro loose mean mg mb gd env outer A₀ base h₀ L m s hf hke B F N XB TB KD
  have X := XB.keeps B.stays
  have T := TB.keeps B.stays
  refine hideG fun G9 hG9 => ?_
  obtain ⟨FG, BG, st, _⟩ := groundX (R := fun _ _ => True) (A := { handled := none, depth := D, frames := some (env :: outer), guards := gd, units := U }) B F N rfl hf hke
  refine hG9.out ?_
  clear hG9 G9
  have KD' : KtsDicts (frs (env :: outer)) (hideAll s.heap (news.map (·.1))) := fun b hb => by
    rcases mem_frs hf hb with rfl | z
    ·
      refine hideG fun G9 hG9 => ?_
      obtain ⟨oL, es, ep, hL, hLd, _⟩ := FG.ns
      refine hG9.out ?_
      clear hG9 G9
      exact ⟨oL, es, ep, hL, hLd⟩
    ·
      refine hideG fun G9 hG9 => ?_
      obtain ⟨o, es', n', ho', hd'⟩ := KD b z
      refine hG9.out ?_
      clear hG9 G9
      exact ⟨o, es', n', st b o ho', hd'⟩
  refine codeAny_call_function (fd := fnOf name qual params body scope dV kV doc pm an cdv ct) (Nat.le_of_ble_eq_true hroom) ((X.keeps F.keep) _ _ ho) rfl hco hgen rfl (codeRec_of (X.keeps F.keep) hcd) (hbind s (X.keeps F.keep) _ _ _ _ ?_)
  refine wpAny_newFunctionEnv_cells hk (hkind _) fun env' he s' x => ?_
  subst he
  refine ⟨(T.nolimit.keeps F.keep).keeps x.toInCall.keep, codeAny_func ?_⟩
  refine hideG fun G9 hG9 => ?_
  obtain ⟨h₁, tk, rfl, _⟩ := x.done
  have hk₁ := x.toInCall.keep
  obtain ⟨cells, NC, Y⟩ := Cl.news (h₀ := s.heap) (Nat.le_refl _) fun n c hm => ⟨x.cell n c (lookup_of_mem_nodup (cellsFrom_names scope.names 0 (s.heap.objs.size + 1) [] [] rfl ▸ hnd) hm), x.above n c hm⟩
  refine hG9.out ?_
  clear hG9 G9
  have F1 : Fr (hideAll s.heap (news.map (·.1))) s.heap.objs.size h₁ mm := by
    have := x.toInCall.ns
    rw [← hmm s.heap.objs.size]
    exact ⟨this, fun b o e => hk₁ b o (of_hideAll _ e), Nat.le_of_eq (hideAll_size _ _)⟩
  have he : envOfC qual scope s.heap.objs.size f cdv = envX qual scope s.heap.objs.size f cdv (clL s.heap.objs.size) := by rw [← hcl]; rfl
  have Y' : CellsAre cm (clL s.heap.objs.size) cells := by
    rw [← hcm s.heap.objs.size, ← hcl]; exact Y
  have N1 : News (hideAll s.heap (news.map (·.1))) s.heap.objs.size h₁ (cells ++ news) := fun p hp => by
    rcases List.mem_append.mp hp with hp | hp
    · refine ⟨(NC p hp).1, (NC p hp).2.1, ?_⟩
      cases q : (hideAll s.heap (news.map (·.1))).get? p.1 with
      | none => rfl
      | some o => have := of_hideAll _ q; rw [(NC p hp).2.2] at this; cases this
    · exact ⟨hk₁ _ _ (N p hp).1, Nat.ne_of_lt (Heap.lt_size (N p hp).1), hideAll_none _ (List.mem_map_of_mem hp)⟩
  have W := h loose mean mg mb gd env outer base _ s.heap.objs.size h₁ s tk cells BG F1 (X.keeps st) N1 Y' (T.keeps st) (fun p hp => Heap.lt_size (N p hp).1) ⟨XB, TB⟩ KD'
  rw [← he] at W
  refine wpAny_mono W ?_ fun _ _ x => x.elim
  rintro fl s' hp9z
  refine hideG fun G9 hG9 => ?_
  obtain ⟨g', h', tk', m', news', rfl, T1, F2, N2, hp⟩ := hp9z
  obtain ⟨h₀', T2, F3, B3⟩ := turn_back B FG hf T1
  refine hG9.out ?_
  clear hG9 G9
  refine ⟨h₀', h', tk', news', rfl, T2, fr_up F3 F2, news_up F3 N2, ?_⟩
  cases fl <;> exact hp
end
section
variable {prog : Program} {w : World} {A₀ A : Around} {E : Value → Shared → Prop} {s' : Shared} {base g g₀ G : Heap} {outer : List Env} {L a e t : Addr} {m : Str → Option Value} {name : Str} {scope : Scope} {cd cls c : Value}
  {vs : List Value} {n x : Str} {b₀ : Stmt} {suite : List Stmt} {pos np : Pos} {rest : List ExceptHandler} {Q : Flow → Shared → Prop} {news : Led} {KF : Frag} {cl : List (Str × Addr)}
  {p : Program} {loose : List Str} {mean : ExcName → Option Value} {mg mb : Str → Option Value}
/-- the clause of a frame with cells takes what a call has raised -/
theorem catch_X (R : RaisedS base G (envX name scope L a cd cl :: outer) e cls t vs news s'.heap) (F : Fr g L G m) (K : Below A₀ base outer g) (hsm : G.UpToSlots s'.heap) (HB : Box (KF.In base ∧ Top p loose mean mg mb base))
    (D : KtsDicts (frs outer) g) (T0 : KtsTurn (frs outer) g₀ g) (hA : A.frames = some (envX name scope L a cd cl :: outer)) (hc : KtsName KF x c) (hm : exmOne KF cls c = some true)
    (k : ∀ h' g' tk oe ot, KtsTurn (frs outer) g₀ g' → Fr g' L h' (fun y => if y = n then some (.ref e) else m y) → News g' L h' ((e, oe) :: (t, ot) :: news) → Got ((e, oe) :: (t, ot) :: news) e t cls vs →
      Below A₀ base outer g' → KF.In g' → Top p loose mean mg mb g' → KtsDicts (frs outer) g' →
      wpAny (model prog w) (A.mark (some (.ref e))) (execs (b₀ :: suite) (envX name scope L a cd cl))
        (fun f s₄ => wpAny (model prog w) A (do bindName (envX name scope L a cd cl) n .none; unbindBehindTheSuite (envX name scope L a cd cl) n pos) (fun _ s₅ => Q f s₅) E s₄) (fun _ _ => False) { s' with heap := h', toks := tk })
    (hk : scope.kind = .function) (hx : (envX name scope L a cd cl).kindOf x = some .globalImplicit) (hd : (x == ("__debug__" : Str)) = false) (hn : (envX name scope L a cd cl).kindOf n = some .local) :
    wpAny (model prog w) A (noteFrame (.ref e) (envX name scope L a cd cl)) (fun _ s₂ => wpAny (model prog w) A (setFlight (.ref e) none) (fun _ s₃ =>
      wpAny (model prog w) A (handleBy (.ref e) (envX name scope L a cd cl) (.ExceptHandler (some (.Name x np)) (some n) (b₀ :: suite) pos :: rest)) Q E s₃) E s₂) E s' := by
  refine hideG fun G9 hG9 => ?_
  obtain ⟨XB, TB⟩ := HB.out
  obtain ⟨⟨B, hB, hBG, hl, hfl, hnew⟩, htup⟩ := R
  refine hG9.out ?_
  clear hG9 G9
  refine wpAny_looks_onW hA rfl hfl fun h₄ hh₄ u₄ => ?_
  refine wpAny_landsW hh₄ fun h₅ hh₅ u₅ => ?_
  have us := u₄.trans u₅
  refine hideG fun G9 hG9 => ?_
  obtain ⟨g₅, T₅, F₅, K₅⟩ := kts_ground (name := name) (scope := scope) (a := a) (cd := cd) K F hBG hh₅.1 (hsm.trans us)
  refine hG9.out ?_
  clear hG9 G9
  have ty : Looks (model prog w) h₅ (typeOf (.ref e)) cls := by
    obtain ⟨ob, hob, hcl⟩ := hh₅.there
    subst hcl
    exact (Looks.ld hob).andThen .now
  refine wpAny_handleBy_cons (codeAny_handlers_test ?_) (by intro q; cases q)
  have X₅ := XB.keeps K₅.stays
  have P₅ := topRead_of (TB.keeps K₅.stays)
  have test : ∀ {A' : Around} {Q' : Value → Shared → Prop} {E' : Value → Shared → Prop}, Q' c { s' with heap := h₅ } → wpAny (model prog w) A' (eval (.Name x np) (envX name scope L a cd cl)) Q' E' { s' with heap := h₅ } := fun h => by
    rcases hc with q | ⟨q, hv, hne⟩
    · exact nameX_K (s := { s' with heap := h₅ }) F₅ X₅ P₅ q h hk hx hd
    · exact nameX_B (s := { s' with heap := h₅ }) F₅ X₅ P₅ q hv hne h hk hx hd
  refine test ?_
  refine (exm_one (X₅.keeps F₅.keep) ty hm).here ?_
  refine codeAny_handlers_suite_as ?_
  refine lands_againW hh₅ fun h₆ hh₆ u₆ => ?_
  refine hideG fun G9 hG9 => ?_
  obtain ⟨g₆, T₆, F₆, K₆⟩ := kts_ground (name := name) (scope := scope) (a := a) (cd := cd) K F hBG hh₆.1 ((hsm.trans us).trans u₆)
  obtain ⟨oe, ws, hoe, hoec, hoed, hoe0⟩ := hh₆.first
  obtain ⟨ot, nt, hot, hotc, hotd⟩ := (htup.of_slots us).of_slots u₆
  have fnL : ∀ b o, b ∈ frs outer → g.get? b = some o → (∀ vs, o.data ≠ .fields vs) → ∃ sl, h₆.get? b = some { o with slots := sl } := fun b o _ ho hnf => ((hsm.trans us).trans u₆) _ _ (F.keep _ _ ho) hnf
  have ne₆ : g₆.get? e = none := T₆.none_ _ (kts_fresh (name := name) (scope := scope) (a := a) (cd := cd) F hBG hh₆.2.1 fun o ho hin => by
    refine hideG fun G9 hG9 => ?_
    obtain ⟨_, o', ho', hnf⟩ := K.frames.mem hin
    refine hG9.out ?_
    clear hG9 G9
    cases ho.symm.trans ho'
    obtain ⟨sl, hs⟩ := fnL _ _ hin ho hnf
    cases hoe.symm.trans hs
    exact hnf _ hoed)
  have nt₆ : g₆.get? t = none := T₆.none_ _ (kts_fresh (name := name) (scope := scope) (a := a) (cd := cd) F hBG hnew fun o ho hin => by
    refine hideG fun G9 hG9 => ?_
    obtain ⟨o', es, n', ho', hdd⟩ := D _ hin
    refine hG9.out ?_
    clear hG9 G9
    cases ho.symm.trans ho'
    obtain ⟨sl, hs⟩ := fnL _ _ hin ho (fun vs q => by rw [hdd] at q; cases q)
    cases hot.symm.trans hs
    have := hdd.symm.trans hotd
    cases this)
  have nsL := F₆.ns
  obtain ⟨oL, esL, epL, hLL, hLd, _⟩ := nsL
  refine hG9.out ?_
  clear hG9 G9
  have hBL : B.get? L = none := by
    refine hideG fun G9 hG9 => ?_
    obtain ⟨_, ⟨L', _, hf, hn', _⟩, _⟩ := hh₆.2.2.1
    refine hG9.out ?_
    clear hG9 G9
    obtain rfl : L = L' := Option.some.inj hf
    exact hn'
  have N₆ : News g₆ L h₆ ((e, oe) :: (t, ot) :: news) := fun q hq => by
    rcases List.mem_cons.mp hq with rfl | hq
    · exact ⟨hoe, (fun (z : e = L) => by subst z; cases hLL.symm.trans hoe; rw [hoed] at hLd; cases hLd), ne₆⟩
    rcases List.mem_cons.mp hq with rfl | hq
    · exact ⟨hot, (fun (z : t = L) => by subst z; cases hLL.symm.trans hot; rw [hotd] at hLd; cases hLd), nt₆⟩
    · exact ⟨hh₆.1 _ _ (hl q hq).1, (fun z => by have := (hl q hq).1; rw [z, hBL] at this; cases this), T₆.none_ _ (kts_none F.keep (hl q hq).2.1)⟩
  refine storeX_L F₆ N₆ (fun h₇ F₇ N₇ => ?_) hk hn
  exact wpAny_mono (k h₇ g₆ _ oe ot (T0.trans T₆) F₇ N₇ ⟨oe, ot, ws, nt, .head _, .tail _ (.head _), hoec, hoed, hoe0, hotc, hotd⟩ K₆ (XB.keeps K₆.stays) (TB.keeps K₆.stays) (D.turn T₆)) (fun _ _ x => x) fun _ _ x => x.elim
end

theorem fresh_P44d_excq : True := by
  w_top off
  trivial
/-- what reading an own exception's args asks of its class -/
noncomputable def excQ (K : Frag) (C : Addr) (bmB : List Value) : Bool := match K.lookup C with
  | some ⟨_, _, .cls cd, _⟩ => cd.mro == .ref C :: bmB && nsIn K cd.ns "__getattribute__" == some none && nsIn K cd.ns "__getattr__" == some none && nsIn K cd.ns "args" == some none
  | _ => false
theorem ownQ_of {K : Frag} {h₀ : Heap} {mg mb : Str → Option Value} {p : Program} {loose : List Str} {x : Str} {C : Addr} {bmB : List Value} {newId : String} (X : K.In h₀) (T : TopRead p loose mg mb h₀) (e : nsIn K mainGlobals x = some (some (.ref C))) (q1 : excIn K C bmB newId = true) (q : excQ K C bmB = true) : OwnClsQ x C bmB newId mg h₀ := by
  have O := own_of_in X T e q1
  refine hideG fun G9 hG9 => ?_
  obtain ⟨bm, N, nm, qn, bs, hdd, sn, sub, ab, col, dd, k0, k1, k2, k3, k5, mN, hC, hN, hni, Tl⟩ := O.obj
  refine hG9.out ?_
  clear hG9 G9
  refine ⟨O.bound, bm, N, nm, qn, bs, hdd, sn, sub, ab, col, dd, k0, k1, k2, k3, k5, mN, hC, hN, ?_, ?_⟩
  all_goals
    unfold excQ at q
    split at q
    · rename_i c0 d0 cd sl ho
      have := (X _ _ ho).symm.trans hC
      unfold excClassObj at this
      injection this with this
      injection this with _ _ hdat _
      injection hdat with hcd
      subst hcd
      simp only [Bool.and_eq_true, beq_iff_eq] at q
      refine hideG fun G9 hG9 => ?_
      obtain ⟨⟨⟨q1', q2⟩, q3⟩, q4⟩ := q
      refine hG9.out ?_
      clear hG9 G9
      first
        | (intro n hn
           simp only [quietNames, List.mem_cons, List.not_mem_nil, or_false] at hn
           rcases hn with rfl | rfl | rfl | rfl
           · exact hni
           · exact ns_none_of X hN q2
           · exact ns_none_of X hN q3
           · exact ns_none_of X hN q4)
        | (injection q1' with _ q1'
           rw [q1']; exact .base)
    · cases q

theorem fresh_P45_run : True := by
  w_top off
  trivial
noncomputable def rnd (es : List Ent) (rd : List Nat) : List Ent × List Nat := rd.foldl doneStep (outE es rd, [])
noncomputable def RunOk : Nat → List Ent → List Nat → Prop
  | 0, _, rd => rd = []
  | n + 1, es, rd => rd = [] ∨ (rd.length ≤ 16 ∧ (∀ b ∈ rd, b ∈ es.map (·.a)) ∧ doneOk (outE es rd, []) rd ∧ RunOk n (rnd es rd).1 (rnd es rd).2)
/-- what is given, round by round -/
noncomputable def runG : Nat → Nat → List Ent → List Nat → List (Nat × Nat)
  | 0, _, _, _ => []
  | n + 1, k, es, rd => if rd = [] then [] else rd.map (fun b => (k, b)) ++ runG n (k + 1) (rnd es rd).1 (rnd es rd).2
/-- the records at the end -/
noncomputable def runE : Nat → List Ent → List Nat → List Ent
  | 0, es, _ => es
  | n + 1, es, rd => if rd = [] then es else runE n (rnd es rd).1 (rnd es rd).2
/-- pairs of a number and a node -/
inductive PairsIn (κ : Bool) (Φ : NodeFn) (led : Led) : List Value → List (Nat × Nat) → Prop
  | nil : PairsIn κ Φ led [] []
  | cons {a : Addr} {n b : Nat} {k1 k2 : Tok} {vs : List Value} {ps : List (Nat × Nat)} : (a, tupO [.int (n : Nat) k1, txt κ (Φ.f b) k2]) ∈ led → PairsIn κ Φ led vs ps → PairsIn κ Φ led (.ref a :: vs) ((n, b) :: ps)
section
variable {κ : Bool} {Φ : NodeFn} {led led' : Led} {vs us : List Value} {ps qs : List (Nat × Nat)}
theorem PairsIn.keep (h : PairsIn κ Φ led vs ps) (hs : ∀ a us, (a, tupO us) ∈ led → (a, tupO us) ∈ led') : PairsIn κ Φ led' vs ps := by
  induction h with
  | nil => exact .nil
  | cons h1 _ ih => exact .cons (hs _ _ h1) ih
theorem PairsIn.sub (h : PairsIn κ Φ led vs ps) (hs : ∀ p ∈ led, p ∈ led') : PairsIn κ Φ led' vs ps := h.keep fun a us hm => hs _ hm
theorem PairsIn.length (h : PairsIn κ Φ led vs ps) : vs.length = ps.length := by
  induction h with
  | nil => rfl
  | cons _ _ ih => simp [ih]
theorem PairsIn.app (h : PairsIn κ Φ led vs ps) (h' : PairsIn κ Φ led us qs) : PairsIn κ Φ led (vs ++ us) (ps ++ qs) := by
  induction h with
  | nil => exact h'
  | cons h1 _ ih => exact .cons h1 ih
theorem PairsIn.get (h : PairsIn κ Φ led vs ps) : ∀ {i : Nat} {v : Value}, vs[i]? = some v → ∃ a n b k1 k2, v = .ref a ∧ (a, tupO [.int (n : Nat) k1, txt κ (Φ.f b) k2]) ∈ led ∧ ps[i]? = some (n, b) := by
  induction h with
  | nil => intro i v e; simp at e
  | @cons a n b k1 k2 vs ps h1 _ ih =>
    intro i v e
    cases i with
    | zero => simp at e; exact ⟨a, n, b, k1, k2, e.symm, h1, rfl⟩
    | succ i => simpa using ih (by simpa using e)
end
section
variable {prog : Program} {w : World} {A : Around} {E : Value → Shared → Prop} {s : Shared} {h₀ : Heap} {L l b : Addr} {m : Str → Option Value} {led : Led}
theorem extendL {vs ws : List Value} {n k : Nat} {Q : Value → Shared → Prop} (F : Fr h₀ L s.heap m) (N : News h₀ L s.heap led) (hl : (l, listOf vs.toArray n) ∈ led) (hb : (b, listOf ws.toArray k) ∈ led) (hne : ws ≠ []) (hsz : vs.length + ws.length ≤ 100000)
    (h : ∀ h' led' n', Fr h₀ L h' m → News h₀ L h' led' → (l, listOf (vs ++ ws).toArray n') ∈ led' → (∀ p ∈ led, p.1 ≠ l → p ∈ led') → Q .none { s with heap := h' }) : wpAny (model prog w) A (call (.builtin "list.extend") [.ref l, .ref b]) Q E s := by
  refine kl_extend F (news_dd N) (its := vs.toArray) (its2 := ws.toArray) (l := vs ++ ws) ((mem_dd N _).mpr hb) (by simp) ?_ (upd_of (nodup_dd _) ((mem_dd N _).mpr hl)) (extend_door ?_) ?_ ?_ fun h' F' N' => ?_
  · simp; exact hne
  · simp only [List.size_toArray]; rw [sizeLine_eq]; omega
  · simp only [List.toList_toArray]; rw [sizeLine_eq]; omega
  · simp only [List.size_toArray]; rw [sizeLine_eq]; omega
  · exact h h' _ _ F' (news_setL_dd N N') (mem_setL_self hl) fun p hp hne => mem_setL_ne hne hp
end
section
variable {prog : Program} {w : World} {A : Around} {E : Value → Shared → Prop} {s : Shared} {h₀ : Heap} {L t : Addr} {led : Led}
theorem itemTo {value slice : Expr} {vs : List Value} {o : Obj} {n : Nat} {k : Int} {i : Nat} {u : Tok} {v : Value} {Q : Value → Shared → Prop} (N : News h₀ L s.heap led) (hl : (t, o) ∈ led) (hc : o.cls = .type "tuple") (hd : o.data = .seq vs.toArray n) (hk : k = i) (hi : i < 1000000) (hx : vs[i]? = some v) (h : Q v s)
    (hs : subscripted slice false (.ref t) (.int k u) = operate [.ref t, .int k u] (getItem (.ref t) (.int k u)) := by with_unfolding_all rfl) : wpAny (model prog w) A (subscriptTail value slice (.ref t) (.int k u)) Q E s := by
  subst hk
  have il : PyProof.Rows.IsTup s.heap t vs.toArray := ⟨_, (N _ hl).1, hc, n, hd⟩
  have hlt := (List.getElem?_eq_some_iff.mp hx).1
  exact tail_any il.typeIs PyProof.Rows.slot_tuple_getitem.lookup (PyProof.Rows.getItem_tuple il (by omega) (by omega) (j := i) (by unfold seqIndex?; simp; omega) (by simpa using hx) h) hs
end
section
variable {prog : Program} {w : World} {A : Around} {E : Value → Shared → Prop} {s : Shared} {h₀ : Heap} {L a : Addr} {m : Str → Option Value} {led : Led} {cn : Str} {cs : Scope} {ccd : Value} {cl₀ : List (Str × Addr)}
/-- the name of a clause's exception goes -/
theorem goneX {n : Str} {pos : Pos} {Q : Unit → Shared → Prop} (F : Fr h₀ L s.heap m) (N : News h₀ L s.heap led) (hk : cs.kind = .function) (hn : (envX cn cs L a ccd cl₀).kindOf n = some .local)
    (h : ∀ h' v, Fr h₀ L h' (fun x => if x = n then v else m x) → News h₀ L h' led → Q () { s with heap := h', toks := s.toks + 1 }) :
    wpAny (model prog w) A (do bindName (envX cn cs L a ccd cl₀) n .none; unbindBehindTheSuite (envX cn cs L a ccd cl₀) n pos) Q E s :=
  wpAny_nameGoes_keeps hn F.ns (by show (cs.kind == .class || (cs.kind == .module && L != mainGlobals)) = false; rw [hk]; rfl) fun h' v hn hs => h h' v (F.set hn hs) (N.set hs)
open PyProof.Rows.LCg in
/-- a comprehension over a tuple -/
theorem comp_Tu {env : Env} {elt iter : Expr} {x : Str} {px : Pos} {scope : Scope} {cl : List (Str × Addr)} {pos : Pos} {Q : Value → Shared → Prop} {its : List Value} {t : Addr} (_F₀ : Fr h₀ L s.heap m)
    (hclos : closureFor scope env = pure cl) (hcell : ∀ y ∈ scope.names, y.2 ≠ .cell) (hkind : scope.kind = .function)
    (hnames : ∀ y ∈ scope.names, y.2 = .local → scope.names.lookup y.1 = some .local) (hx : scope.names.lookup x = some .local)
    (h : wpAny (model prog w) A (eval iter env) (fun xv s₁ => Box (∃ led, xv = .ref t ∧ A.handled = none ∧ Fr h₀ L s₁.heap m ∧ News h₀ L s₁.heap led ∧ (t, tupO its) ∈ led ∧ its.length ≤ sizeLine ∧
      ∀ s₂ : Shared, (∃ h, s₂ = { s₁ with heap := h }) → CompRest prog w A h₀ L m env elt x scope cl s₂ (fun nw => (t, tupO its) ∈ nw) (fun i v => its.toArray[i]? = some v) (FinE h₀ L m s₂ Q) its.length 0 [] led)) E s)
    (hs : ∀ x, foldedSetIterable iter env x = pure x := by intro _; rfl) :
    wpAny (model prog w) A (eval (.ListComp elt [⟨.Name x px, iter, [], 0⟩] scope pos) env) Q E s := by
  rw [eval_ListComp]
  refine wpAny_comprehension_free (use := none) rfl hs hclos hkind hnames (wpAny_mono h (fun xv s₁ h₁ => ?_) fun _ _ e => e)
  refine hideG fun G9 hG9 => ?_
  obtain ⟨led, rfl, hh, F, N, hm, hsz, R⟩ := h₁.out
  refine hG9.out ?_
  clear hG9 G9
  have hT : s₁.heap.IsTuple t its.toArray := ⟨_, (N _ hm).1, rfl, _, rfl⟩
  have hlt : t < s₁.heap.objs.size := Heap.lt_size (N _ hm).1
  refine wpAny_pyIter_tuple hT ?_
  have up : ∀ b o, s₁.heap.get? b = some o → (s₁.heap.push { cls := .type "tuple_iterator", data := .fields #[.ref t, .int 0 0] }).get? b = some o := fun b o e => Heap.get?_push_of_some _ e
  have W := Walks.tuple (prog := prog) (w := w) (A := A) hh s₁.heap.objs.size t (Nat.ne_of_lt hlt) its.toArray
  rw [List.size_toArray] at W
  refine block_U (S := fun nw => (t, tupO its) ∈ nw) W hsz (fun i h st => by obtain ⟨o, e, _⟩ := st.1; exact ⟨o, e⟩) ?_ hcell hkind hx
    ⟨⟨_, Heap.get?_push_size _ rfl, rfl, rfl⟩, ⟨_, up _ _ (N _ hm).1, rfl, _, rfl⟩⟩ (fun b hb => ?_)
    (F.keeps up) (N.grown up) (Nat.ne_of_lt F.ns.lt) (next_is_new F) (fun p hp => Nat.ne_of_lt (Heap.lt_size (N p hp).1)) hm (R _ ⟨_, rfl⟩) ?_
  · intro i h h' o' nw st h1 h2 _ Nw m2
    refine hideG fun G9 hG9 => ?_
    obtain ⟨o3, e3, r3⟩ := st.1
    refine hG9.out ?_
    clear hG9 G9
    exact ⟨⟨o', h2, by cases (show h.get? s₁.heap.objs.size = some o3 from e3).symm.trans h1; exact r3⟩, ⟨_, (Nw _ m2).1, rfl, _, rfl⟩⟩
  · show b < (s₁.heap.push _).objs.size
    rw [Heap.size_push]
    rcases List.mem_cons.mp hb with rfl | hb
    · exact Nat.lt_succ_self _
    · rw [List.mem_singleton.mp hb]; exact Nat.lt_succ_of_lt hlt
  · intro D C h tk m' ys news' F' N' o1 hn hC₀ hD₀ hCL hDL hCD offC fin
    refine ⟨m', hn, fun h'' hs'' => fin D h'' tk (F'.change hs'' hCL hC₀) (fun p hp => ?_) o1⟩
    refine ⟨hs''.extBut _ _ ?_ (N' p hp).1, (N' p hp).2⟩
    rcases List.mem_cons.mp hp with rfl | hp
    · exact Ne.symm hCD
    · exact offC p hp
end
/-- a tuple is none of the sorter's things -/
theorem tup_off {w : World} {κ : Bool} {Φ : NodeFn} {led : Led} {S di D : Addr} {cs : List CE} {vR : Value} {p f : Int} {h₀ h : Heap} {L a : Addr} {us : List Value} (H : SrtIn w κ Φ led S di D cs vR p f) (N : News h₀ L h led) (ha : (a, tupO us) ∈ led) : ¬ Adr S di D cs a := by
  have tt : (tupO us).cls = .type "tuple" := rfl
  rintro (rfl | rfl | rfl | ⟨c, hc, rfl | rfl | rfl⟩)
  ·
    have := news_uniq N ha H.inst
    cases congrArg Obj.cls this
  ·
    refine hideG fun G9 hG9 => ?_
    obtain ⟨_, _, o, m, q⟩ := H.attr
    refine hG9.out ?_
    clear hG9 G9
    have := attrs_cls q
    rw [← news_uniq N ha m] at this
    exact absurd this (by show Value.type "tuple" ≠ _; decide)
  ·
    refine hideG fun G9 hG9 => ?_
    obtain ⟨o, m, q⟩ := H.dict
    refine hG9.out ?_
    clear hG9 G9
    have := isD_cls q
    rw [← news_uniq N ha m] at this
    exact absurd this (by show Value.type "tuple" ≠ _; decide)
  ·
    have := news_uniq N ha (H.ents c hc).info
    cases congrArg Obj.cls this
  ·
    have := news_uniq N ha (H.ents c hc).dict
    exact absurd (congrArg Obj.cls this) (by show Value.type "tuple" ≠ Value.type "dict"; decide)
  ·
    have := news_uniq N ha (H.ents c hc).succ
    exact absurd (congrArg Obj.cls this) (by show Value.type "tuple" ≠ Value.type "list"; decide)
theorem lw36_all : True := by
  k_with "L getAttr ref" => ((with_reducible show wpAny _ _ (getAttr (Value.ref _) "args" _) _ _ _); refine Box.out ?_)
  trivial
theorem lw37_all : True := by
  k_with "L subscriptTail Attribute Name Constant ref int" => (refine Box.out ?_)
  trivial
theorem lw38_all : True := by
  k_with "L exec Try cons cons nil nil" => ((with_reducible show wpAny _ _ (exec (Stmt.Try _ (_ :: _) _ [] _) _) _ _ _); refine wpAny_Try_except ?_)
  trivial
theorem lw39_all : True := by
  k_with "L exec Try" => ((with_reducible show wpAny _ _ (exec (Stmt.Try _ (_ :: _) _ [] _) _) _ _ _); refine wpAny_Try_except ?_)
  trivial
theorem words_try_all : True := by
  k_with "gt" => repeat' ((fail_if_success (with_reducible show wpAny _ _ (exec (Stmt.While _ _ _ _) _) _ _ _)); (fail_if_success (with_reducible show wpAny _ _ (exec (Stmt.For _ _ _ _ _) _) _ _ _)); (fail_if_success (with_reducible show wpAny _ _ (execs (Stmt.Try _ _ _ _ _ :: _) _) _ _ _)); (fail_if_success (with_reducible show wpAny _ _ (eval (Expr.ListComp _ _ _ _) _) _ _ _)); (fail_if_success (with_reducible show wpAny _ _ (pyIter _) _ _ _)); (fail_if_success (with_reducible show LCt.CompSrcT _ _ _ _ _ _ _ _ _ _ _ _ _ _ _)); (fail_if_success (with_reducible show LCg.CompSrc _ _ _ _ _ _ _ _ _ _ _ _ _ _)); first | (k_unfold; (try dsimp only)) | ((with_reducible show wpAny _ _ (call (Value.ref _) _ _) _ _ _); k_extra "callfn") | k_extra "hand" | ((fail_if_success (with_reducible show wpAny _ _ (call (Value.ref _) _ _) _ _ _)); first | walk1 | (dsimp only; walk1)) | fail "no step")
  trivial

theorem fresh_P45a_star : True := by
  w_top off
  trivial
section
variable {M : Model} {A : Around} {E : Value → Shared → Prop} {s : Shared} {env : Env}
/-- a method called with a star: the bound method is made first -/
theorem MethodStar {o : Expr} {name : Str} {apos pos : Pos} {args : List Expr} {Q : Value → Shared → Prop}
    (h : wpAny M A (eval o env) (fun ov s₁ => wpAny M A (getAttr ov name true) (fun f s₂ => wpAny M A (callWith pos f [] (backTo pos (starEach args env)) []) Q E s₂) E s₁) E s)
    (he : eval (.Call (.Attribute o name apos) args [] pos) env = (do
      let ov ← eval o env
      standAt apos.atName
      let (f, first) ← holding [ov] (do pure (← getAttr ov name true, []))
      let p ← pure pos
      callWith p f first (backTo pos (starEach args env)) [])) :
    wpAny M A (eval (.Call (.Attribute o name apos) args [] pos) env) Q E s := by
  rw [he]
  refine wpAny_bind (wpAny_mono h (fun ov s₁ h₁ => wpAny_bind (wpAny_standAt (wpAny_bind (wpAny_holding (wpAny_bind (wpAny_mono h₁ (fun f s₂ h₂ => wpAny_pure ?_) fun _ _ x => x)))))) fun _ _ x => x)
  exact wpAny_bind (wpAny_pure h₂)
variable {K : Frag} {q f x : Addr} {pos p : Pos} {e : Expr} {rest : List Expr} {Q : Value → Shared → Prop}
theorem callStar1 (hf : fnIn K f = true) (h : wpAny M A (eval e env) (fun v s₁ => StarOf M A E v (fun vs s₂ => MethP K q f (.ref x) s₂.heap ∧ wpAny M A (call (.ref q) ([] ++ vs)) Q E s₂) s₁) E s)
    (he : starEach [.Starred e p] env = [(true, eval e env)] := by rfl) : wpAny M A (callWith pos (.ref q) [] (backTo pos (starEach [.Starred e p] env)) []) Q E s := by
  rw [he]
  exact ks_call rfl (keeps_M hf) (ks_lone h)
theorem callStar2 (hf : fnIn K f = true) (h : wpAny M A (spliced (backTo pos (starEach (e :: rest) env))) (fun vs s₁ => MethP K q f (.ref x) s₁.heap ∧ wpAny M A (call (.ref q) ([] ++ vs)) Q E s₁) E s)
    (he : starEach (e :: rest) env = (false, eval e env) :: starEach rest env := by rfl) (hst : (backTo pos (starEach rest env)).any (·.1) = true := by rfl) :
    wpAny M A (callWith pos (.ref q) [] (backTo pos (starEach (e :: rest) env)) []) Q E s := by
  rw [he] at h ⊢
  exact ks_call (by show (false || (backTo pos (starEach rest env)).any (·.1)) = true; rw [hst]; rfl) (keeps_M hf) (evalArgs_plain h)
end
section
variable {prog : Program} {w : World} {A : Around} {E : Value → Shared → Prop} {s : Shared} {K : Frag} {x C dx f L : Addr} {h₀ : Heap} {m : Str → Option Value} {led : Led} {name : Str} {am : Str → Option Value}
theorem boundA {expr : Bool} {Q : Value → Shared → Prop} (F : Fr h₀ L s.heap m) (N : News h₀ L s.heap led) (hx : (x, instObj C dx) ∈ led) (hd : Ob led dx (IsAttrs am)) (X₀ : K.In h₀) (hg : plainGet K C name = true) (hh : hasDictIn K C = true)
    (ha : findIn K (.ref C) name = some (some (.ref f))) (hf : isFn K (.ref f) = true) (hgf : specialIn K (.ref f) "__get__" = some (some (.builtin "function.__get__"))) (ht : takesIn K (.ref f) = some false) (hc : copiedNames.contains name = false) (hl : am name = none)
    (h : ∀ q h', Fr h₀ L h' m → News h₀ L h' ((q, methodObj (.ref f) (.ref x)) :: led) → (∀ p ∈ led, p.1 < q) → Q (.ref q) { s with heap := h', toks := s.toks + 1 }) : wpAny (model prog w) A (getAttr (.ref x) name expr) Q E s := by
  obtain ⟨o, hm, es, n, rfl, hat, _⟩ := hd
  exact kbm_bound F X₀ N (InstAt.of_news N hx hm) hg hh ha hf hgf ht hc (by rw [hat.get, hl]) h
theorem starTu {t : Addr} {its : List Value} {Q : List Value → Shared → Prop} (F : Fr h₀ L s.heap m) (N : News h₀ L s.heap led) (ht : (t, tupO its) ∈ led) (hz : its.length ≤ 1000000) (h : ∀ h', Fr h₀ L h' m → News h₀ L h' led → Q its { s with heap := h' }) : StarOf (model prog w) A E (.ref t) Q s :=
  star_seq F N ht rfl rfl (.inr rfl) (by simp) (by rw [List.size_toArray, sizeLine_eq]; omega) h
theorem starLi {t : Addr} {its : List Value} {n : Nat} {Q : List Value → Shared → Prop} (F : Fr h₀ L s.heap m) (N : News h₀ L s.heap led) (ht : (t, listOf its.toArray n) ∈ led) (hz : its.length ≤ 1000000) (h : ∀ h', Fr h₀ L h' m → News h₀ L h' led → Q its { s with heap := h' }) : StarOf (model prog w) A E (.ref t) Q s :=
  star_seq F N ht rfl rfl (.inl rfl) (by simp) (by rw [List.size_toArray, sizeLine_eq]; omega) h
end
section
variable {prog : Program} {w : World} {A : Around} {E : Value → Shared → Prop} {s : Shared} {h₀ : Heap} {L : Addr} {led : Led}
theorem loadC {cn : Str} {cs : Scope} {a c : Addr} {ccd : Value} {cl : List (Str × Addr)} {x : Str} {v : Value} {Q : Value → Shared → Prop} (N : News h₀ L s.heap led) (hm : Ob led c (IsCell (some v))) (hc : cl.lookup x = some c) (h : Q v s)
    (hk : cs.kind = .function) (hx : (envX cn cs L a ccd cl).kindOf x = some .cell) : wpAny (model prog w) A (loadName (envX cn cs L a ccd cl) x) Q E s :=
  let ⟨o, m, hd⟩ := hm
  wpAny_loadName_cell hk hx hc ⟨o, (N _ m).1, hd⟩ h
end
theorem lw40_all : True := by
  k_with "L loadName" => ((with_reducible show wpAny _ _ (loadName (envX _ _ _ _ _ _) _) _ _ _); k_dflt (refine' loadC ?k1 ?k2 ?k3 ?_ ?k4 ?k5; (case k3 => exact rfl); (case k4 => exact rfl); (case k5 => exact rfl); (case k1 => k_asm); (case k2 => k_extra "ob")))
  trivial
theorem lw41_all : True := by
  k_with "L eval Call Attribute" => ((with_reducible show wpAny _ _ (eval (Expr.Call (Expr.Attribute _ _ _) (Expr.Starred _ _ :: _) [] _) _) _ _ _); refine' MethodStar ?_ ?k1; (case k1 => with_unfolding_all rfl))
  trivial
theorem lw42_all : True := by
  k_with "L eval Call Attribute" => ((with_reducible show wpAny _ _ (eval (Expr.Call (Expr.Attribute _ _ _) (_ :: Expr.Starred _ _ :: _) [] _) _) _ _ _); refine' MethodStar ?_ ?k1; (case k1 => with_unfolding_all rfl))
  trivial
theorem lw43_all : True := by
  k_with "L getAttr ref" => ((with_reducible show wpAny _ _ (getAttr (Value.ref _) (Str.ofString "done") true) _ _ _); refine Box.out ?_)
  trivial
theorem lw44_all : True := by
  k_with "L getAttr ref" => ((with_reducible show wpAny _ _ (getAttr (Value.ref _) (Str.ofString "add") true) _ _ _); refine Box.out ?_)
  trivial

theorem fresh_P45b_run : True := by
  w_top off
  trivial
theorem runG_nil (n k : Nat) (es : List Ent) : runG n k es [] = [] := by cases n <;> simp [runG]
theorem runE_nil (n : Nat) (es : List Ent) : runE n es [] = es := by cases n <;> simp [runE]
theorem RunOk.len {n : Nat} {es : List Ent} {rd : List Nat} (h : RunOk n es rd) : rd.length ≤ 16 := by
  cases n with
  | zero => rw [show rd = [] from h]; exact Nat.zero_le _
  | succ n => rcases h with h | h
              · rw [h]; exact Nat.zero_le _
              · exact h.1
inductive RunM (w : World) (κ : Bool) (Φ : NodeFn) (res : Option (List Nat)) (S : Addr) (di : Addr) (D : Addr) (cs : List CE) (env₀ : Env) (outer : List Env) (news : Led) (g : Heap) (L : Addr) (s : Shared) (s' : Shared) : Prop
  | mk (g' : Heap) (h' : Heap) (tk' : Nat) (m' : Str → Option Value) (led : Led) (R : Addr) (lr : Addr) (usr : List Value) (nr : Nat)
      (e1 : s' = { s with heap := h', toks := tk' }) (e2 : KtsTurn (frs (env₀ :: outer)) g g') (e3 : Fr g' L h' m') (e4 : News g' L h' led) (e5 : SrtIn w κ Φ led S di D cs (.ref R) 0 0) (e6 : RdIn κ Φ led S di D cs R (rdy (cs.map (·.e)))) (e7 : (lr, listOf usr.toArray nr) ∈ led) (e8 : NodesAre κ Φ usr (res.getD [])) (e9 : ¬ Adr S di D cs lr) (e10 : lr ≠ R) (e11 : Ob led (L + 1) (IsCell none)) (e12 : L + 1 ≠ R) (e13 : lr ≠ L + 1) (e14 : (∀ q ∈ news, ¬ Adr S di D cs q.1 → q ∈ led)) (e15 : (∀ q ∈ news, q.1 ≠ R)) (e16 : m' (Str.ofString "sorter") = some (.ref S)) (e17 : m' (Str.ofString "ring") = some (.ref lr))
inductive RunI (w : World) (κ : Bool) (Φ : NodeFn) (g5 : Heap) (S : Addr) (di : Addr) (D : Addr) (R : Addr) (lr : Addr) (lg : Addr) (usr : List Value) (nr : Nat) (cs : List CE) (news : Led) (L : Addr) (s : Shared) (n' : Nat) (s' : Shared) : Prop
  | mk (k : Nat) (h' : Heap) (tk' : Nat) (m' : Str → Option Value) (led : Led) (cs' : List CE) (rd : List Nat) (vsg : List Value) (ng : Nat) (gs : List (Nat × Nat)) (pp : Int) (kk : Tok)
      (e1 : n' = 20 - k) (e2 : k ≤ 20) (e3 : s' = { s with heap := h', toks := tk' }) (e4 : Fr g5 L h' m') (e5 : News g5 L h' led) (e6 : SrtIn w κ Φ led S di D cs' (.ref R) pp pp) (e7 : RdIn κ Φ led S di D cs' R rd) (e8 : RunOk (20 - k) (cs'.map (·.e)) rd) (e9 : gs ++ runG (20 - k) k (cs'.map (·.e)) rd = runG 20 0 (cs.map (·.e)) (rdy (cs.map (·.e)))) (e10 : runE (20 - k) (cs'.map (·.e)) rd = runE 20 (cs.map (·.e)) (rdy (cs.map (·.e)))) (e11 : shape (cs'.map (·.e)) = shape (cs.map (·.e))) (e12 : rd.length ≤ 1000) (e13 : (lg, listOf vsg.toArray ng) ∈ led) (e14 : PairsIn κ Φ led vsg gs) (e15 : vsg.length ≤ 16 * k) (e16 : (lr, listOf usr.toArray nr) ∈ led) (e17 : (¬ Adr S di D cs' lr ∧ ¬ Adr S di D cs' lg ∧ ¬ Adr S di D cs' (L + 1))) (e18 : Ob led (L + 1) (IsCell (some (.int (k : Nat) kk)))) (e19 : (∀ q ∈ news, ¬ Adr S di D cs q.1 → q ∈ led ∧ ¬ Adr S di D cs' q.1)) (e20 : m' (Str.ofString "sorter") = some (.ref S)) (e21 : m' (Str.ofString "ring") = some (.ref lr)) (e22 : m' (Str.ofString "given") = some (.ref lg))
inductive RunP (w : World) (κ : Bool) (Φ : NodeFn) (S : Addr) (di : Addr) (D : Addr) (cs : List CE) (res : Option (List Nat)) (news : Led) (r : Value) (led : Led) : Prop
  | mk  (T : Addr) (lr : Addr) (lg : Addr) (usr : List Value) (nr : Nat) (vsg : List Value) (ng : Nat) (cs' : List CE) (R : Addr) (pp : Int)
      (e1 : r = .ref T) (e2 : (T, tupO [.ref lr, .ref lg]) ∈ led) (e3 : (lr, listOf usr.toArray nr) ∈ led) (e4 : NodesAre κ Φ usr (res.getD [])) (e5 : (lg, listOf vsg.toArray ng) ∈ led) (e6 : PairsIn κ Φ led vsg (runG 20 0 (cs.map (·.e)) (rdy (cs.map (·.e))))) (e7 : SrtIn w κ Φ led S di D cs' (.ref R) pp pp) (e8 : RdIn κ Φ led S di D cs' R []) (e9 : cs'.map (·.e) = runE 20 (cs.map (·.e)) (rdy (cs.map (·.e)))) (e10 : (∀ q ∈ news, ¬ Adr S di D cs q.1 → q ∈ led ∧ ¬ Adr S di D cs' q.1 ∧ q.1 ≠ R))
theorem run_fn (w : World) (κ : Bool) (Φ : NodeFn) (S di D : Addr) (cs : List CE) (news : Led) (fuel : Nat) (res : Option (List Nat)) (H : SrtIn w κ Φ news S di D cs .none 0 0) (hl : cs.length ≤ 100) (hsu : SuLe (cs.map (·.e)) 1000) (hsi : SuIn (cs.map (·.e)))
    (hres : findRing (cs.map (·.e)) fuel (cs.map (·.e.a)) [] = some res) (hne : res ≠ some []) (hrg : ∀ ring, res = some ring → ring.length ≤ 1000) (hok : RunOk 20 (cs.map (·.e)) (rdy (cs.map (·.e)))) :
    FnS w 530 3300 none 213 ⟨[.ref S], []⟩ news (RunP w κ Φ S di D cs res news) (fun _ _ _ => False) := by
  unfold FnS; k_fill; show FnS _ _ _ _ _ _ _ _ _
  refine FnS.introC (binds := [(Str.ofString "sorter", .ref S)]) (fun L => [(Str.ofString "number", L + 1)]) (fun y => if y = Str.ofString "sorter" then some (.ref S) else none) (fun _ => none) (by k_is) (by k_is) rfl (fun s _ => BindsTo.of_eq rfl) (by intro n x hx; rcases List.mem_singleton.mp hx with rfl; exact .inl rfl) (fun _ => rfl) (fun _ => rfl) (fun _ => rfl) (by decide) rfl rfl rfl ?_
  intro loose mean mg mb gd env₀ outer base g L h₁ s tk cells B F X N Y T hlt HB KD
  refine hideG fun G9 hG9 => ?_
  obtain ⟨oc1, rfl, hc1⟩ := CellsAre.one Y
  refine hG9.out ?_
  clear hG9 G9
  clear Y
  refine wp_hide fun Qf hQf => ?_
  k_extra "gt"
  rename_i lr h2 l1 _ F2 N2
  have hadr : ∀ a, (∀ q ∈ news, q.1 ≠ a) → ¬ Adr S di D cs a := fun a ha => adr_fresh H ha
  have hc1n : ∀ q ∈ news, q.1 ≠ L + 1 := fun q hq => Nat.ne_of_lt (Nat.lt_succ_of_lt (hlt q hq))
  have hlrn : ∀ q ∈ news, q.1 ≠ lr := fun q hq => Nat.ne_of_lt (l1 q (by simp [hq]))
  have hlc : L + 1 ≠ lr := Nat.ne_of_lt (l1 (L + 1, oc1) (by simp))
  have H2 : SrtIn w κ Φ ((lr, listOf #[] 0) :: ([(L + 1, oc1)] ++ news)) S di D cs .none 0 0 := H.sub fun q hq => by simp [hq]
  obtain ⟨Mid, hMid⟩ : ∃ M : Shared → Prop, ∀ s', M s' ↔ (RunM w κ Φ res S di D cs env₀ outer news g L s s') := ⟨_, fun _ => Iff.rfl⟩
  refine seq_mid Mid ?_ ?_
  ·
    have hS2 := H2.inst
    refine hideG fun G9 hG9 => ?_
    obtain ⟨kp2, kf2, hat2⟩ := H2.attr
    refine hG9.out ?_
    clear hG9 G9
    k_extra "gh"
    refine FnS.use (prep_fn w κ Φ S di D cs 0 0 _ fuel res H2 hl hsu hsi hres hne hrg) rfl rfl rfl B F2 N2 HB.out.1 HB.out.2 KD KtsTurn.refl rfl (Nat.le_of_ble_eq_true rfl) (Nat.le_of_ble_eq_true rfl) ?_ ?_
    · rintro v11 g11 h11 tk11 led11 T11 B11 F11 N11 X11 P11 D11 hp9z
      refine hideG fun G9 hG9 => ?_
      obtain ⟨rfl, rfl, R, H11, R11, hR11, hk11⟩ := hp9z
      refine hG9.out ?_
      clear hG9 G9
      have hdi : ∀ {a : Addr}, (∀ q ∈ news, q.1 ≠ a) → a ≠ di := fun ha e => by
        refine hideG fun G9 hG9 => ?_
        obtain ⟨_, _, o, m, _⟩ := H.attr
        refine hG9.out ?_
        clear hG9 G9
        exact ha _ m e.symm
      k_extra "gh"
      show Mid _
      rw [hMid]
      refine ⟨g11, _, _, _, led11, R, lr, [], 0, rfl, T11, F11, N11, H11, R11, hk11 _ (.head _) (hdi hlrn), .nil, hadr _ hlrn, hR11 _ (.head _), ⟨oc1, hk11 _ (by simp) (hdi hc1n), hc1⟩, hR11 (L + 1, oc1) (by simp), hlc.symm, fun q hq hn => hk11 _ (by simp [hq]) fun e => hn (.inr (.inl e)), fun q hq => hR11 q (by simp [hq]), rfl, rfl⟩
    · rintro e g6 h6 tk6 G6 cls t6 vs6 led6 T6 B6 F6 KD6 R6 U6 hp9z
      refine hideG fun G9 hG9 => ?_
      obtain ⟨rfl, ring, l, us, n, k, R, rfl, rfl, hlm, hus, H6, HR6, hR6, hlR, hlA, hl6, hk6⟩ := hp9z
      refine hG9.out ?_
      clear hG9 G9
      refine catch_X (KF := Mine.hd.heap_1 w.params) (c := .ref 55) R6 F6 B6 U6 HB KD6 T6 rfl (by kts_nm) (by kts_exm) ?_ rfl rfl (by decide) rfl
      intro h8 g8 tk8 oe ot T8 F8 N8 G8 B8 X8 P8 D8
      refine hideG fun G9 hG9 => ?_
      obtain ⟨oe', ot', ws', nt', _, htm, _, _, _, htc, htd⟩ := G8
      refine hG9.out ?_
      clear hG9 G9
      have hl8 : (l, listOf us.toArray n) ∈ (e, oe) :: (t6, ot) :: led6 := .tail _ (.tail _ hlm)
      k_extra "gh"
      refine ⟨?_⟩
      refine args_got_own PySem.F.attrBase_ValueError F8 (ownQ_of X8 (topRead_of P8) (x := Str.ofString "CycleError") (newId := "ValueError.__new__") (by k_is) (by k_exc) (by kernel_rfl)) N8 ⟨oe', ot', ws', nt', by assumption, htm, by assumption, by assumption, by assumption, htc, htd⟩ ?_
      k_extra "gh"
      refine ⟨?_⟩
      rename Fr _ _ _ _ => F9
      rename News _ _ _ _ => N9
      refine itemTo (i := 1) N9 htm htc htd rfl (by decide) rfl ?_
      k_extra "gh"
      rename Fr _ _ _ _ => F10
      rename News _ _ _ _ => N10
      refine goneX F10 N10 rfl rfl ?_
      intro h11 v11 F11 N11
      dsimp only
      rw [hMid]
      have hdi : ∀ {a : Addr}, (∀ q ∈ news, q.1 ≠ a) → a ≠ di := fun ha e => by
        refine hideG fun G9 hG9 => ?_
        obtain ⟨_, _, o, m, _⟩ := H.attr
        refine hG9.out ?_
        clear hG9 G9
        exact ha _ m e.symm
      exact ⟨g8, _, _, _, _, R, l, us, n, rfl, T8, F11, N11, H6.sub fun q hq => .tail _ (.tail _ hq), ⟨let ⟨us, n, m, r⟩ := HR6.at_; ⟨us, n, .tail _ (.tail _ m), r⟩, HR6.apart⟩, hl8, hus, hlA, hlR, ⟨oc1, .tail _ (.tail _ (hk6 _ (by simp) (hdi hc1n))), hc1⟩, hR6 (L + 1, oc1) (by simp), (hl6 (L + 1, oc1) (by simp)).symm, fun q hq hn => .tail _ (.tail _ (hk6 _ (by simp [hq]) fun e => hn (.inr (.inl e)))), fun q hq => hR6 q (by simp [hq]), rfl, rfl⟩
  · intro s' hs'
    rw [hMid] at hs'
    clear hMid F2 N2 H2 l1
    refine hideG fun G9 hG9 => ?_
    obtain ⟨g5, h5, tk5, m5, led5, R, lr, usr, nr, rfl, T5, F5, N5, H5, R5, hlr5, husr, hlA, hlR, hcc, hcR, hlc5, hk5, hnR, v1, v2⟩ := hs'
    refine hG9.out ?_
    clear hG9 G9
    have B5 := below_turn B T5
    have X5 := HB.out.1.keeps B5.stays
    have P5 := HB.out.2.keeps B5.stays
    have D5 := KD.turn T5
    have hcA := hadr _ hc1n
    k_extra "gh"
    rename_i lg _ lgl _ F6 N6
    have hcc6 := hcc.more (p := (lg, listOf #[] 0))
    k_extra "gh"
    rename_i h7 led7 F7 N7 c7 k7
    refine ⟨?_⟩
    have hlgn : ∀ q ∈ led5, q.1 ≠ lg := fun q hq => Nat.ne_of_lt (lgl q hq)
    have hlgc : lg ≠ L + 1 := by obtain ⟨o, m, _⟩ := hcc; exact (hlgn _ m).symm
    have hlgR : lg ≠ R := by obtain ⟨_, _, m, _⟩ := R5.at_; exact (hlgn _ m).symm
    have k57 : ∀ q ∈ led5, q.1 ≠ L + 1 → q ∈ led7 := fun q hq hne => k7 _ (.tail _ hq) hne
    have hlg7 : (lg, listOf ([] : List Value).toArray 0) ∈ led7 := k7 _ (.head _) hlgc
    have H7 := H5.keep (led' := led7) fun q hq hA => k57 q hq fun e => hcA (e ▸ hA)
    have R7 : RdIn κ Φ led7 S di D cs R (rdy (cs.map (·.e))) := ⟨let ⟨us, n, m, r⟩ := R5.at_; ⟨us, n, k57 _ m hcR.symm, r⟩, R5.apart⟩
    have hlgA : ¬ Adr S di D cs lg := adr_fresh H5 hlgn
    have hrdl : (rdy (cs.map (·.e))).length ≤ 1000 := by
      unfold rdy
      rw [List.length_map]
      have := List.length_filter_le (fun e : Ent => decide (e.np = 0)) (cs.map (·.e))
      rw [List.length_map] at this; omega
    k_extra "gh"
    refine while_anyH (RunI w κ Φ g5 S di D R lr lg usr nr cs news L s) ?_ 20
      ⟨0, _, _, _, led7, cs, _, [], 0, [], 0, _, rfl, Nat.zero_le _, rfl, F7, N7, H7, R7, hok, rfl, rfl, rfl, hrdl, hlg7, .nil, Nat.zero_le _, k57 _ hlr5 hlc5, ⟨hlA, hlgA, hcA⟩, c7, fun q hq hn => ⟨k57 _ (hk5 q hq hn) (hc1n q hq), hn⟩, v1, v2, rfl⟩
    have nlr : lr ≠ lg := hlgn _ hlr5
    have hnlg : ∀ q ∈ news, ¬ Adr S di D cs q.1 → q.1 ≠ lg := fun q hq hn => hlgn q (hk5 q hq hn)
    clear F7 N7 c7 k7 H7 R7 k57 hlg7 F6 N6 hcc6 hcc H5 R5 hlr5 hk5 hlgn v1 v2 lgl hok hrdl hcA hlA hlgA
    intro n' s' Qb hQb hp9z
    refine hideG fun G9 hG9 => ?_
    obtain ⟨k, h', tk', m', led, cs', rd, vsg, ng, gs, pp, kk, rfl, hk, rfl, F7, N7, H7, R7, hok, hG, hE, hsh, hrl, hlg, hgs, hvl, hlr, ⟨hA1, hA2, hA3⟩, hcc, hkeep, v1, v2, v3⟩ := hp9z
    have hS7 := H7.inst
    obtain ⟨kp7, kf7, hat7⟩ := H7.attr
    refine hG9.out ?_
    clear hG9 G9
    k_extra "gh"
    refine Fn.use (active_fn w κ Φ S di D R cs' pp pp rd led H7 R7 hrl) rfl B5 F7 X5 N7 P5 rfl rfl (Nat.le_of_ble_eq_true rfl) (Nat.le_of_ble_eq_true rfl) ?_
    rintro v h8 tk8 led8 F8 N8 ⟨rfl, rfl⟩
    rcases rd with _ | ⟨b0, rd⟩
    · rw [show (decide (pp < pp) || !([] : List Nat).isEmpty) = false by simp]
      clear N7
      k_extra "gh"
      refine Fn.use (active_fn w κ Φ S di D R cs' pp pp [] led8 H7 R7 hrl) rfl B5 F8 X5 N8 P5 rfl rfl (Nat.le_of_ble_eq_true rfl) (Nat.le_of_ble_eq_true rfl) ?_
      rintro v h9 tk9 led9 F9 N9 ⟨rfl, rfl⟩
      rw [show (decide (pp < pp) || !([] : List Nat).isEmpty) = false by simp]
      k_extra "gh"
      refine hQf.out _ _ ?_
      rename Fr _ _ _ _ => F10
      rename News _ _ _ _ => N10
      rw [runG_nil, List.append_nil] at hG
      rw [runE_nil] at hE
      subst hG
      refine ⟨g5, _, _, _, _, rfl, T5, F10, N10, _, lr, lg, usr, nr, vsg, ng, cs', R, pp, rfl, .head _, .tail _ hlr, husr, .tail _ hlg, hgs.sub fun q hq => .tail _ hq, H7.sub fun q hq => .tail _ hq, ⟨let ⟨us, n, m, r⟩ := R7.at_; ⟨us, n, .tail _ m, r⟩, R7.apart⟩, hE, fun q hq hn => ⟨.tail _ (hkeep q hq hn).1, (hkeep q hq hn).2, hnR q hq⟩⟩
    · rw [show (decide (pp < pp) || !(b0 :: rd).isEmpty) = true by simp]
      clear N7
      k_extra "gh"
      · rename (k : Int) < 20 => hk20
        obtain ⟨n, hn⟩ : ∃ n, 20 - k = n + 1 := ⟨19 - k, by omega⟩
        rw [hn] at hok hG hE
        rcases hok with q | ⟨h16, hin, hdo, hok⟩
        · cases q
        refine Fn.use (ready_fn w κ Φ S di D R cs' pp pp (b0 :: rd) led8 H7 R7 hrl (by rw [List.map_map] at hin; exact hin)) rfl B5 F8 X5 N8 P5 rfl rfl (Nat.le_of_ble_eq_true rfl) (Nat.le_of_ble_eq_true rfl) ?_
        rintro v h9 tk9 led9 F9 N9 hp9z
        refine hideG fun G9 hG9 => ?_
        obtain ⟨T, us, cs9, rfl, hT9, hus, hTA, hTR, hTn, H9, R9, he9, hk9⟩ := hp9z
        have hlg9 := (hk9 _ hlg hA2 hlgR)
        have hlr9 := (hk9 _ hlr hA1 hlR)
        have hcc9 : Ob led9 (L + 1) (IsCell (some (.int (k : Nat) kk))) := let ⟨o, m, q⟩ := hcc; ⟨o, (hk9 _ m hA3 hcR).1, q⟩
        have hA3' : ¬ Adr S di D cs9 (L + 1) := let ⟨o, m, q⟩ := hcc; (hk9 _ m hA3 hcR).2
        obtain ⟨usR, nR', hRm, _⟩ := R7.at_
        refine hG9.out ?_
        clear hG9 G9
        have hgs9 : PairsIn κ Φ led9 vsg gs := hgs.keep fun a us hm => (hk9 _ hm (tup_off H7 N8 hm) (news_ne N8 hm hRm fun e => absurd (congrArg Obj.cls e) (by show Value.type "tuple" ≠ Value.type "list"; decide))).1
        have hkeep9 : ∀ q ∈ news, ¬ Adr S di D cs q.1 → q ∈ led9 ∧ ¬ Adr S di D cs9 q.1 := fun q hq hn => hk9 q (hkeep q hq hn).1 (hkeep q hq hn).2 (hnR q hq)
        have hlgm := hlg9.1
        have husl := hus.length
        clear hlg hlr hcc hgs hkeep hS7 hat7 F8 N8 H7 R7 hk9 hRm
        k_extra "gh"
        rename Fr _ _ _ _ => F10
        rename News _ _ _ _ => N10
        refine comp_Tu (its := us) (t := T) F10 (by with_unfolding_all rfl) (by decide) (by rfl) (by decide) (by rfl) ?_
        k_extra "gh"
        refine ⟨led9, rfl, rfl, F10, N10, hT9, by rw [sizeLine_eq]; omega, ?_⟩
        rintro _ ⟨g', rfl⟩
        refine compRest_of (fun j ys led' => (∀ q ∈ led9, q ∈ led') ∧ PairsIn κ Φ led' ys (((b0 :: rd).take j).map (fun b => (k, b)))) (n := us.length) ?_ ?_ _ 0 [] _ (by simp) ⟨fun q hq => hq, .nil⟩
        · rintro j ys news10 v I oI C oC Dc m₂ h10 tk10 E' hj ⟨hs10, hr10⟩ hP hC hx F11 N11 off ne
          refine wp_hide fun Qe hQe => ?_
          refine hideG fun G9 hG9 => ?_
          obtain ⟨b, kb, rfl, hb⟩ := hus.get (by simpa using hP)
          obtain ⟨oc, mc, dc⟩ := hcc9
          refine hG9.out ?_
          clear hG9 G9
          have mc' := hs10 _ mc
          clear F10 N10
          k_extra "gh"
          rename Fr _ _ _ _ => F12
          rename News _ _ _ _ => N12
          rename_i dT _ l12
          refine hQe.out _ _ ?_
          refine LCg.CompEnd.intro F12 N12 ((dT, tupO [.int (k : Nat) kk, txt κ (Φ.f b) kb]) :: news10) comp_sub1 ⟨⟨Nat.ne_of_gt l12.1, Nat.ne_of_gt l12.2.1, Nat.ne_of_gt l12.2.2.1⟩, off⟩ (.tail _ (hs10 _ hT9)) ⟨fun p hp => .tail _ (hs10 p hp), ?_⟩
          rw [take_snoc hb, List.map_append]
          exact (hr10.sub fun p hp => .tail _ hp).app (.cons (.head _) .nil)
        · rintro ys news10 ⟨hs10, hr10⟩ D10 h11 tk11 F11 N11 o11
          clear F10 N10
          k_extra "gh"
          refine ⟨?_⟩
          rw [husl, List.take_length] at hr10
          have hyl := hr10.length
          rw [List.length_map] at hyl
          have hlg10 : (lg, listOf vsg.toArray ng) ∈ (D10, LCg.lst ys) :: news10 := .tail _ (hs10 _ hlgm)
          refine extendL F11 N11 hlg10 (b := D10) (ws := ys) (k := _) (.head _) (fun e => by rw [e] at hyl; cases hyl) (by omega) ?_
          intro h12 led12 n12 F12 N12 hlg12 k12
          have k912 : ∀ q ∈ led9, q.1 ≠ lg → q ∈ led12 := fun q hq hne => k12 _ (.tail _ (hs10 q hq)) hne
          have H12 := H9.keep (led' := led12) fun q hq hA => k912 q hq fun e => hlg9.2 (e ▸ hA)
          have R12 : RdIn κ Φ led12 S di D cs9 R [] := ⟨let ⟨us, n, m, r⟩ := R9.at_; ⟨us, n, k912 _ m hlgR.symm, r⟩, R9.apart⟩
          have ltt : ∀ {a : Addr} {us : List Value}, (a, tupO us) ∈ (D10, LCg.lst ys) :: news10 → a ≠ lg := fun hm => news_ne N11 hm hlg10 fun e => absurd (congrArg Obj.cls e) (by show Value.type "tuple" ≠ Value.type "list"; decide)
          have hT12 : (T, tupO us) ∈ led12 := k912 _ hT9 (ltt (.tail _ (hs10 _ hT9)))
          have hlr12 := k912 _ hlr9.1 nlr
          have hcc12 : Ob led12 (L + 1) (IsCell (some (.int (k : Nat) kk))) := let ⟨o, m, q⟩ := hcc9; ⟨o, k912 _ m hlgc.symm, q⟩
          have hgs12 : PairsIn κ Φ led12 (vsg ++ ys) (gs ++ (b0 :: rd).map fun b => (k, b)) := (hgs9.keep fun a us hm => k912 _ hm (ltt (.tail _ (hs10 _ hm)))).app (hr10.keep fun a us hm => k12 _ (.tail _ hm) (ltt (.tail _ hm)))
          have hkeep12 : ∀ q ∈ news, ¬ Adr S di D cs q.1 → q ∈ led12 ∧ ¬ Adr S di D cs9 q.1 := fun q hq hn => ⟨k912 _ (hkeep9 q hq hn).1 (hnlg q hq hn), (hkeep9 q hq hn).2⟩
          have hS12 := H12.inst
          refine hideG fun G9 hG9 => ?_
          obtain ⟨kp12, kf12, hat12⟩ := H12.attr
          refine hG9.out ?_
          clear hG9 G9
          clear F11 N11 hlg10 k12 k912 H9 R9 hcc9 hgs9 hkeep9 hr10 hs10 o11
          k_extra "gh"
          refine ⟨?_⟩
          rename Fr _ _ _ _ => F13
          rename News _ _ _ _ => N13
          refine boundA (f := 120) F13 N13 hS12 hat12 X5 (by k_is) (by k_is) (by k_is) (by k_is) (by k_is) (by k_is) (by decide) rfl ?_
          intro q h14 F14 N14 ltq
          refine callStar1 (K := Mine.hd.heap_1 w.params) (f := 120) (x := S) (by k_is) ?_
          k_extra "gh"
          refine starTu F14 N14 (.tail _ hT12) (by omega) ?_
          intro h15 F15 N15
          refine ⟨methP N15 (.head _) (X5.keeps F15.keep), ?_⟩
          refine call_meth N15 (.head _) ?_
          have hsh9 : shape (cs9.map (·.e)) = shape (cs.map (·.e)) := by rw [he9, outE_shape, hsh]
          have hin9 : ∀ b ∈ b0 :: rd, b ∈ cs9.map (·.e.a) := fun b hb => by
            have h1 := hin b hb
            have h2 : (cs9.map (·.e)).map (·.a) = (cs'.map (·.e)).map (·.a) := by rw [he9, outE_keys]
            rw [← h2, List.map_map] at h1; exact h1
          refine Fn.code (done_fn w κ Φ S di D R cs9 _ _ [] (b0 :: rd) us ((q, methodObj (.ref 120) (.ref S)) :: led12) (H12.sub fun q hq => .tail _ hq) ⟨let ⟨us, n, m, r⟩ := R12.at_; ⟨us, n, .tail _ m, r⟩, R12.apart⟩ (by simp) hus h16 hin9 (shape_SuLe hsh9 hsu) (shape_SuIn hsh9 hsi) (by rw [he9]; exact hdo)) B5 F15 X5 N15 P5 rfl rfl (Nat.le_of_ble_eq_true rfl) rfl (Nat.le_of_ble_eq_true rfl) ?_
          rintro v h16' tk16 led16 F16 N16 hp9z
          refine hideG fun G9 hG9 => ?_
          obtain ⟨rfl, cs16, H16, R16, he16, hk16⟩ := hp9z
          rw [he9] at he16 R16
          change RdIn κ Φ led16 S di D cs16 R (rnd (cs'.map (·.e)) (b0 :: rd)).2 at R16
          change cs16.map (·.e) = (rnd (cs'.map (·.e)) (b0 :: rd)).1 at he16
          obtain ⟨usR2, nR2, hRm2, _⟩ := R12.at_
          refine hG9.out ?_
          clear hG9 G9
          have hlg16 := hk16 _ (.tail _ hlg12) hlg9.2 hlgR
          have hlr16 := hk16 _ (.tail _ hlr12) hlr9.2 hlR
          have hcc16 : Ob led16 (L + 1) (IsCell (some (.int (k : Nat) kk))) := let ⟨o, m, q⟩ := hcc12; ⟨o, (hk16 _ (.tail _ m) hA3' hcR).1, q⟩
          have hA16 : ¬ Adr S di D cs16 (L + 1) := let ⟨o, m, q⟩ := hcc12; (hk16 _ (.tail _ m) hA3' hcR).2
          have hgs16 : PairsIn κ Φ led16 (vsg ++ ys) (gs ++ (b0 :: rd).map fun b => (k, b)) := hgs12.keep fun a us hm => (hk16 _ (.tail _ hm) (tup_off H12 N13 hm) (news_ne N13 hm hRm2 fun e => absurd (congrArg Obj.cls e) (by show Value.type "tuple" ≠ Value.type "list"; decide))).1
          have hkeep16 : ∀ q ∈ news, ¬ Adr S di D cs q.1 → q ∈ led16 ∧ ¬ Adr S di D cs16 q.1 := fun q hq hn => hk16 q (.tail _ (hkeep12 q hq hn).1) (hkeep12 q hq hn).2 (hnR q hq)
          clear F13 N13 F14 N14 F15 N15 hS12 hat12 hcc12 hgs12 hkeep12 hT12 hlr12 hlg12 H12 R12 hk16 hRm2 ltt
          dsimp only
          k_extra "gh"
          rename_i h17 led17 F17 N17 c17 k17
          refine ⟨?_⟩
          have e1 : ((k : Int) + 1) = ((k + 1 : Nat) : Int) := by omega
          rw [e1] at c17
          have k17' : ∀ {a : Addr} {o : Obj}, (a, o) ∈ led16 → a ≠ L + 1 → (a, o) ∈ led17 := fun hm hne => k17 _ hm hne
          have hceq : ∀ {a : Addr} {us : List Value}, (a, tupO us) ∈ led16 → a ≠ L + 1 := fun hm => by
            obtain ⟨o, m, q⟩ := hcc16
            rename News g5 L h16' led16 => N16'
            exact news_ne N16' hm m fun e => by rw [← e] at q; cases q
          have H17 := H16.keep (led' := led17) fun q hq hA => k17 q hq fun e => hA16 (e ▸ hA)
          have R17 : RdIn κ Φ led17 S di D cs16 R (rnd (cs'.map (·.e)) (b0 :: rd)).2 := ⟨let ⟨us, n, m, r⟩ := R16.at_; ⟨us, n, k17' m hcR.symm, r⟩, R16.apart⟩
          dsimp only
          have hn' : 20 - (k + 1) = n := by omega
          rw [runG, if_neg (by simp), ← List.append_assoc] at hG
          rw [runE, if_neg (by simp)] at hE
          k_extra "gh"
          refine hQb.next _ ⟨20 - (k + 1), by omega, k + 1, _, _, _, led17, cs16, _, vsg ++ ys, n12, gs ++ (b0 :: rd).map (fun b => (k, b)), _, _, rfl, by omega, rfl, F17, N17, H17, R17, ?_, ?_, ?_, ?_, Nat.le_trans hok.len (by omega), k17' hlg16.1 hlgc, hgs16.keep fun a us hm => k17' hm (hceq hm), ?_, k17' hlr16.1 hlc5, ⟨hlr16.2, hlg16.2, hA16⟩, c17, fun q hq hn => ⟨k17 _ (hkeep16 q hq hn).1 (hc1n q hq), (hkeep16 q hq hn).2⟩, v1, v2, v3⟩
          · rw [hn', he16]; exact hok
          · rw [hn', he16]; exact hG
          · rw [hn', he16]; exact hE
          · rw [he16]; unfold rnd; rw [done_shape, outE_shape, hsh]
          · rw [List.length_append]; omega
      · rename ¬ ((k : Int) < 20) => hk20
        exfalso
        have : k = 20 := by omega
        subst this
        exact absurd hok (by simp [RunOk])

theorem fresh_P50_sort : True := by
  w_top off
  trivial
-- sorting by asking, against a strict order of the places
section
variable {cmp : Nat → Nat → (Bool → Shared → Prop) → Shared → Prop} {Inv : Shared → Prop} {lt : Nat → Nat → Bool} {n : Nat}
noncomputable def AskOk (cmp : Nat → Nat → (Bool → Shared → Prop) → Shared → Prop) (Inv : Shared → Prop) (lt : Nat → Nat → Bool) (n : Nat) : Prop :=
  ∀ i j (C : Bool → Shared → Prop) s, i < n → j < n → Inv s → (∀ s', Inv s' → C (lt i j) s') → cmp i j C s
structure Strict (lt : Nat → Nat → Bool) (n : Nat) : Prop where
  asym : ∀ i j, i < n → j < n → lt i j = true → lt j i = false
  trans : ∀ i j k, i < n → j < n → k < n → lt i j = true → lt j k = true → lt i k = true
  total : ∀ i j, i < n → j < n → i ≠ j → lt i j = false → lt j i = true
noncomputable def OkP (n : Nat) (p : Array Nat) : Prop := p.toList.Perm (List.range n)
theorem OkP.size {p : Array Nat} (h : OkP n p) : p.size = n := by have := h.length_eq; simpa using this
theorem OkP.get_lt {p : Array Nat} (h : OkP n p) {i : Nat} (hi : i < n) : p.getD i 0 < n := by
  have hs := h.size
  have : p.getD i 0 ∈ p.toList := by
    rw [Array.getD_eq_getD_getElem?, Array.getElem?_eq_getElem (by omega)]; simp
  exact List.mem_range.mp (h.mem_iff.mp this)
theorem OkP.ne {p : Array Nat} (h : OkP n p) {i j : Nat} (hi : i < n) (hj : j < n) (hij : i ≠ j) : p.getD i 0 ≠ p.getD j 0 := by
  have hs := h.size
  have hn : p.toList.Nodup := h.nodup_iff.mpr List.nodup_range
  intro e
  rw [Array.getD_eq_getD_getElem?, Array.getElem?_eq_getElem (by omega), Array.getD_eq_getD_getElem?, Array.getElem?_eq_getElem (by omega)] at e
  simp only [Option.getD_some] at e
  have h1 := List.pairwise_iff_getElem.mp hn
  rcases Nat.lt_or_gt_of_ne hij with q | q
  · exact h1 i j (by simp; omega) (by simp; omega) q (by simpa using e)
  · exact h1 j i (by simp; omega) (by simp; omega) q (by simpa using e.symm)
noncomputable def Srt (lt : Nat → Nat → Bool) (p : Array Nat) (k : Nat) : Prop := ∀ i j, i < j → j < k → lt (p.getD i 0) (p.getD j 0) = true
noncomputable def Dsc (lt : Nat → Nat → Bool) (p : Array Nat) (k : Nat) : Prop := ∀ i j, i < j → j < k → lt (p.getD j 0) (p.getD i 0) = true
theorem Srt.more {p : Array Nat} {k : Nat} (S : Strict lt n) (h : OkP n p) (hs : Srt lt p k) (h1 : 1 ≤ k) (hk : k < n) (hl : lt (p.getD (k - 1) 0) (p.getD k 0) = true) : Srt lt p (k + 1) := by
  intro i j hij hj
  rcases Nat.lt_or_ge j k with q | q
  · exact hs i j hij q
  · have e : j = k := by omega
    subst e
    rcases Nat.lt_or_ge i (j - 1) with q' | q'
    · exact S.trans _ _ _ (h.get_lt (by omega)) (h.get_lt (by omega)) (h.get_lt hk) (hs i (j - 1) q' (by omega)) hl
    · have e : i = j - 1 := by omega
      subst e; exact hl
theorem Dsc.more {p : Array Nat} {k : Nat} (S : Strict lt n) (h : OkP n p) (hs : Dsc lt p k) (h1 : 1 ≤ k) (hk : k < n) (hl : lt (p.getD k 0) (p.getD (k - 1) 0) = true) : Dsc lt p (k + 1) := by
  intro i j hij hj
  rcases Nat.lt_or_ge j k with q | q
  · exact hs i j hij q
  · have e : j = k := by omega
    subst e
    rcases Nat.lt_or_ge i (j - 1) with q' | q'
    · exact S.trans _ _ _ (h.get_lt hk) (h.get_lt (by omega)) (h.get_lt (by omega)) hl (hs i (j - 1) q' (by omega))
    · have e : i = j - 1 := by omega
      subst e; exact hl
theorem ask_asc (hc : AskOk cmp Inv lt n) (S : Strict lt n) {p : Array Nat} (h : OkP n p) : ∀ (f a : Nat) (Q : Nat → Shared → Prop) (s : Shared), Inv s → 1 ≤ a → a + f ≤ n → Srt lt p a →
    (∀ m s', Inv s' → a ≤ m → m ≤ a + f → Srt lt p m → (m < a + f → lt (p.getD m 0) (p.getD (m - 1) 0) = true) → Q m s') → (kas_asc p f a).kasWp cmp Q s
  | 0, a, Q, s, hi, h1, hz, hs, hq => hq a s hi (Nat.le_refl _) (Nat.le_refl _) hs (fun q => absurd q (Nat.lt_irrefl _))
  | f + 1, a, Q, s, hi, h1, hz, hs, hq => by
    unfold kas_asc
    refine hc _ _ _ s (h.get_lt (by omega)) (h.get_lt (by omega)) hi fun s' hi' => ?_
    cases hl : lt (p.getD a 0) (p.getD (a - 1) 0) with
    | true => exact hq a s' hi' (Nat.le_refl _) (by omega) hs fun _ => hl
    | false =>
      have hl2 := S.total _ _ (h.get_lt (by omega)) (h.get_lt (by omega)) (h.ne (by omega) (by omega) (by omega)) hl
      exact ask_asc hc S h f (a + 1) Q s' hi' (by omega) (by omega) (hs.more S h h1 (by omega) hl2) fun m s2 hi2 ha hm hsm hlm => hq m s2 hi2 (by omega) (by omega) hsm fun q => hlm (by omega)
theorem ask_desc (hc : AskOk cmp Inv lt n) (S : Strict lt n) {p : Array Nat} (h : OkP n p) : ∀ (f a : Nat) (Q : Array Nat × Nat × Nat → Shared → Prop) (s : Shared), Inv s → 1 ≤ a → a + f ≤ n → Dsc lt p a →
    (∀ m s', Inv s' → a ≤ m → m ≤ a + f → Dsc lt p m → Q (p, m, 0) s') → (kas_desc f p a 0).kasWp cmp Q s
  | 0, a, Q, s, hi, h1, hz, hs, hq => hq a s hi (Nat.le_refl _) (Nat.le_refl _) hs
  | f + 1, a, Q, s, hi, h1, hz, hs, hq => by
    unfold kas_desc
    refine hc _ _ _ s (h.get_lt (by omega)) (h.get_lt (by omega)) hi fun s' hi' => ?_
    cases hl : lt (p.getD a 0) (p.getD (a - 1) 0) with
    | true =>
      exact ask_desc hc S h f (a + 1) Q s' hi' (by omega) (by omega) (hs.more S h h1 (by omega) hl) fun m s2 hi2 ha hm hsm => hq m s2 hi2 (by omega) (by omega) hsm
    | false =>
      have hl2 := S.total _ _ (h.get_lt (by omega)) (h.get_lt (by omega)) (h.ne (by omega) (by omega) (by omega)) hl
      refine hc _ _ _ s' (h.get_lt (by omega)) (h.get_lt (by omega)) hi' fun s2 hi2 => ?_
      rw [hl2]
      exact hq a s2 hi2 (Nat.le_refl _) (by omega) hs
theorem getD_of {p q : Array Nat} {i j : Nat} (h : p[i]? = q[j]?) : p.getD i 0 = q.getD j 0 := by
  rw [Array.getD_eq_getD_getElem?, Array.getD_eq_getD_getElem?, h]
theorem Dsc.rev {p : Array Nat} {m : Nat} (h : OkP n p) (hm : m ≤ n) (hd : Dsc lt p m) : Srt lt (kas_rev p 0 m) m := by
  have hs := h.size
  intro i j hij hj
  have e : ∀ k, k < m → (kas_rev p 0 m).getD k 0 = p.getD (m - 1 - k) 0 := fun k hk => by
    refine getD_of ?_
    unfold kas_rev
    rw [getElem?_mirror_all (by omega), if_pos ⟨Nat.zero_le _, hk⟩]
    congr 1; omega
  rw [e i (Nat.lt_trans hij hj), e j hj]
  have h1 : j ≤ m - 1 := Nat.le_sub_one_of_lt hj
  exact hd _ _ (Nat.sub_lt_sub_left (Nat.lt_of_lt_of_le hij h1) hij) (Nat.lt_of_le_of_lt (Nat.sub_le _ _) (Nat.sub_one_lt (Nat.ne_of_gt (Nat.lt_of_le_of_lt (Nat.zero_le _) hj))))
theorem OkP.rev {p : Array Nat} (h : OkP n p) (m : Nat) : OkP n (kas_rev p 0 m) := by
  unfold OkP at *
  exact ((mirror_perm p 0 m ((m - 0) / 2)).toList).trans h
theorem ask_count (hc : AskOk cmp Inv lt n) (S : Strict lt n) {p : Array Nat} (h : OkP n p) (h1 : 2 ≤ n) {Q : Nat × Array Nat → Shared → Prop} {s : Shared} (hi : Inv s)
    (hq : ∀ m p' s', Inv s' → 1 ≤ m → m ≤ n → OkP n p' → Srt lt p' m → Q (m, p') s') : (kas_count n p).kasWp cmp Q s := by
  unfold kas_count
  rw [KasT.kasWp_bind]
  refine ask_asc hc S h (n - 1) 1 _ s hi (Nat.le_refl _) (by omega) (fun i j a b => by omega) fun m s' hi' h1m hm hsm hlm => ?_
  by_cases e : (m == n) = true
  · rw [if_pos e]
    exact hq m p s' hi' h1m (by omega) h hsm
  · rw [if_neg e]
    have hmn : m < n := by
      have : m ≠ n := fun q => e (by simp [q])
      omega
    by_cases hm1 : m > 1
    · rw [if_pos hm1]
      refine hc _ _ _ s' (h.get_lt (by omega)) (h.get_lt (by omega)) hi' fun s2 hi2 => ?_
      rw [hsm 0 (m - 1) (by omega) (by omega)]
      exact hq m p s2 hi2 h1m (by omega) h hsm
    · rw [if_neg hm1]
      have em : m = 1 := by omega
      subst em
      unfold kas_descPart
      rw [KasT.kasWp_bind]
      refine ask_desc hc S h (n - (1 + 1)) (1 + 1) _ s' hi' (by omega) (by omega) (fun i j hij hj => ?_) fun m s2 hi2 hm2 hmn2 hd => ?_
      · have ei : i = 0 := by omega
        have ej : j = 1 := by omega
        subst ei ej
        exact hlm (by omega)
      · dsimp only
        rw [if_neg (by omega)]
        unfold kas_tail3
        rw [KasT.kasWp_bind]
        have hmn3 : m ≤ n := Nat.le_trans hmn2 (Nat.le_of_eq (Nat.add_sub_cancel' h1))
        have hm3 : 1 ≤ m := Nat.le_trans (Nat.le_of_ble_eq_true rfl) hm2
        refine ask_asc hc S (h.rev m) (n - m) m _ s2 hi2 hm3 (Nat.le_of_eq (Nat.add_sub_cancel' hmn3)) (hd.rev h hmn3) fun k s3 hi3 hk1 hk2 hsk _ => ?_
        exact hq k _ s3 hi3 (Nat.le_trans hm3 hk1) (Nat.le_trans hk2 (Nat.le_of_eq (Nat.add_sub_cancel' hmn3))) (h.rev m) hsk
theorem ask_place (hc : AskOk cmp Inv lt n) (S : Strict lt n) {p : Array Nat} (h : OkP n p) {k : Nat} (hk : k < n) (hs : Srt lt p k) : ∀ (f l r : Nat) (Q : Nat → Shared → Prop) (s : Shared), Inv s → l ≤ r → r ≤ k → r ≤ l + f →
    (∀ i, i < l → lt (p.getD i 0) (p.getD k 0) = true) → (∀ i, r ≤ i → i < k → lt (p.getD k 0) (p.getD i 0) = true) →
    (∀ m s', Inv s' → m ≤ k → (∀ i, i < m → lt (p.getD i 0) (p.getD k 0) = true) → (∀ i, m ≤ i → i < k → lt (p.getD k 0) (p.getD i 0) = true) → Q m s') → (kas_place p k f l r).kasWp cmp Q s
  | 0, l, r, Q, s, hi, hlr, hrk, hf, ha, hb, hq => by
    have : l = r := by omega
    subst this
    exact hq l s hi hrk ha hb
  | f + 1, l, r, Q, s, hi, hlr, hrk, hf, ha, hb, hq => by
    unfold kas_place
    by_cases hge : l ≥ r
    · rw [if_pos hge]
      have : l = r := by omega
      subst this
      exact hq l s hi hrk ha hb
    · rw [if_neg hge]
      have hm1 : l ≤ (l + r) / 2 := by omega
      have hm2 : (l + r) / 2 < r := by omega
      generalize (l + r) / 2 = mid at *
      refine hc _ _ _ s (h.get_lt hk) (h.get_lt (by omega)) hi fun s' hi' => ?_
      cases hl : lt (p.getD k 0) (p.getD mid 0) with
      | true =>
        refine ask_place hc S h hk hs f l mid Q s' hi' hm1 (by omega) (by omega) ha (fun i h1 h2 => ?_) hq
        rcases Nat.lt_or_ge mid i with q | q
        · exact S.trans _ _ _ (h.get_lt hk) (h.get_lt (by omega)) (h.get_lt (by omega)) hl (hs mid i q h2)
        · have : i = mid := by omega
          subst this; exact hl
      | false =>
        have hl2 := S.total _ _ (h.get_lt hk) (h.get_lt (by omega)) (h.ne hk (by omega) (by omega)) hl
        refine ask_place hc S h hk hs f (mid + 1) r Q s' hi' (by omega) hrk (by omega) (fun i h1 => ?_) hb hq
        rcases Nat.lt_or_ge i mid with q | q
        · exact S.trans _ _ _ (h.get_lt (by omega)) (h.get_lt (by omega)) (h.get_lt hk) (hs i mid q (by omega)) hl2
        · have : i = mid := by omega
          subst this; exact hl2
theorem OkP.bub {p : Array Nat} (h : OkP n p) (k d : Nat) : OkP n (bubble p k d) := by
  unfold OkP at *
  exact ((bubble_perm p k d).toList).trans h
theorem n_pred_lt {j k l : Nat} (h1 : l < j) (h2 : j ≤ k) : j - 1 < k := Nat.lt_of_lt_of_le (Nat.sub_one_lt (Nat.ne_of_gt (Nat.lt_of_le_of_lt (Nat.zero_le _) h1))) h2
theorem Srt.bub {p : Array Nat} {k l : Nat} (h : OkP n p) (hk : k < n) (hl : l ≤ k) (hs : Srt lt p k) (ha : ∀ i, i < l → lt (p.getD i 0) (p.getD k 0) = true) (hb : ∀ i, l ≤ i → i < k → lt (p.getD k 0) (p.getD i 0) = true) : Srt lt (bubble p k (k - l)) (k + 1) := by
  have hz := h.size
  have e : ∀ j, (bubble p k (k - l)).getD j 0 = if j = l then p.getD k 0 else if l < j ∧ j ≤ k then p.getD (j - 1) 0 else p.getD j 0 := fun j => by
    have := getElem?_bubble (xs := p) (src := k) (by rw [hz]; exact hk) (k - l) (Nat.sub_le _ _) j
    rw [Nat.sub_sub_self hl] at this
    rw [Array.getD_eq_getD_getElem?, this]
    split
    · rw [Array.getD_eq_getD_getElem?]
    · split <;> rw [Array.getD_eq_getD_getElem?]
  intro i j hij hj
  rw [e i, e j]
  by_cases h1 : i = l
  · rw [if_pos h1, if_neg (fun q => absurd hij (by rw [h1, q]; exact Nat.lt_irrefl _)), if_pos ⟨h1 ▸ hij, Nat.le_of_lt_succ hj⟩]
    exact hb (j - 1) (Nat.le_sub_one_of_lt (h1 ▸ hij)) (n_pred_lt (h1 ▸ hij) (Nat.le_of_lt_succ hj))
  · rw [if_neg h1]
    by_cases h2 : j = l
    · rw [if_pos h2, if_neg (fun q => Nat.lt_asymm q.1 (h2 ▸ hij))]
      exact ha i (h2 ▸ hij)
    · rw [if_neg h2]
      by_cases h3 : l < i ∧ i ≤ k
      · rw [if_pos h3, if_pos ⟨Nat.lt_trans h3.1 hij, Nat.le_of_lt_succ hj⟩]
        exact hs _ _ (Nat.sub_lt_sub_right (Nat.lt_of_le_of_lt (Nat.zero_le _) h3.1) hij) (n_pred_lt (Nat.lt_trans h3.1 hij) (Nat.le_of_lt_succ hj))
      · rw [if_neg h3]
        by_cases h4 : l < j ∧ j ≤ k
        · rw [if_pos h4]
          exact hs _ _ (Nat.lt_of_lt_of_le (Nat.lt_of_le_of_ne (Nat.le_of_not_lt fun q => h3 ⟨q, Nat.le_trans (Nat.le_of_lt hij) h4.2⟩) h1) (Nat.le_sub_one_of_lt h4.1)) (n_pred_lt h4.1 h4.2)
        · rw [if_neg h4]
          exact hs _ _ hij (Nat.lt_of_lt_of_le (Nat.lt_of_le_of_ne (Nat.le_of_not_lt fun q => h4 ⟨q, Nat.le_of_lt_succ hj⟩) h2) hl)
theorem ask_bin (hc : AskOk cmp Inv lt n) (S : Strict lt n) : ∀ (f k : Nat) (p : Array Nat) (Q : Array Nat → Shared → Prop) (s : Shared), Inv s → OkP n p → Srt lt p k → k + f = n →
    (∀ p' s', Inv s' → OkP n p' → Srt lt p' n → Q p' s') → (kas_bin f p k).kasWp cmp Q s
  | 0, k, p, Q, s, hi, h, hs, e, hq => by
    have e : k = n := e
    subst e; exact hq p s hi h hs
  | f + 1, k, p, Q, s, hi, h, hs, e, hq => by
    unfold kas_bin
    rw [KasT.kasWp_bind]
    refine ask_place hc S h (by omega) hs k 0 k _ s hi (Nat.zero_le _) (Nat.le_refl _) (by omega) (fun i q => by omega) (fun i q1 q2 => by omega) fun l s' hi' hl ha hb => ?_
    exact ask_bin hc S f (k + 1) _ Q s' hi' (h.bub k _) (hs.bub h (by omega) hl ha hb) (by omega) hq
theorem ask_sort (hc : AskOk cmp Inv lt n) (S : Strict lt n) (h2 : 2 ≤ n) {Q : Array Nat → Shared → Prop} {s : Shared} (hi : Inv s) (hq : ∀ p s', Inv s' → OkP n p → Srt lt p n → Q p s') : (kas_sort n).kasWp cmp Q s := by
  unfold kas_sort
  rw [KasT.kasWp_bind]
  refine ask_count hc S (by unfold OkP; simp) h2 hi fun m p s' hi' h1 hm h hs => ?_
  dsimp only
  by_cases hlt : m < n
  · rw [if_pos hlt, Nat.max_eq_left h1]
    exact ask_bin hc S (n - m) m p Q s' hi' h hs (by omega) hq
  · rw [if_neg hlt]
    have : m = n := by omega
    subst this
    exact hq p s' hi' h hs
end

theorem fresh_P60_law : True := by
  w_top off
  trivial
/-- the law's own body and scope -/
noncomputable def LawAt (w : World) (body : List Stmt) (scope : Scope) : Prop :=
  ∃ name params cdv dV kV doc pm ct oc an od osl, (Mine.hd.heap_1 w.params).lookup 218 = some ⟨oc, od, .func (fnOf name (Str.ofString "law") params body scope dV kV doc pm an cdv ct), osl⟩
theorem LawAt.at {w : World} {body body' : List Stmt} {scope scope' : Scope} {cdv : Addr × Value} {cdv' name params dV kV doc pm ct oc} {an od : Option Addr} {osl : Array (Option Value)} {P : List Stmt → Scope → Addr × Value → Prop} (h : LawAt w body scope)
    (hc : (Mine.hd.heap_1 w.params).lookup 218 = some ⟨oc, od, .func (fnOf name (Str.ofString "law") params body' scope' dV kV doc pm an cdv' ct), osl⟩) (hp : P body' scope' cdv) : P body scope cdv := by
  refine hideG fun G9 hG9 => ?_
  obtain ⟨_, _, _, _, _, _, _, _, _, _, _, _, e⟩ := h
  refine hG9.out ?_
  clear hG9 G9
  have e2 := e.symm.trans hc
  injection e2 with e2
  injection e2 with _ _ e2 _
  injection e2 with e2
  injection e2 with _ _ _ e3 e4 _ _ _ _ _ _ _ e5
  injection e3 with e3
  rw [e3, e4]; exact hp
noncomputable def lawCl (L : Addr) : List (Str × Addr) := [(Str.ofString "chain", L + 1 + 1 + 1 + 1 + 1 + 1 + 1 + 1), (Str.ofString "t", L + 1 + 1 + 1 + 1 + 1 + 1 + 1), (Str.ofString "paths", L + 1 + 1 + 1 + 1 + 1 + 1), (Str.ofString "rows", L + 1 + 1 + 1 + 1 + 1), (Str.ofString "row", L + 1 + 1 + 1 + 1), (Str.ofString "root", L + 1 + 1 + 1), (Str.ofString "names", L + 1 + 1), (Str.ofString "script", L + 1)]
noncomputable abbrev lawE (scope : Scope) (L : Addr) (cdv : Addr × Value) : Env := envX (Str.ofString "law") scope L cdv.1 cdv.2 (lawCl L)
/-- where the law's frame stands -/
structure LCx (w : World) (loose : List Str) (mean : ExcName → Option Value) (mg mb : Str → Option Value) (base g : Heap) : Prop where
  B : Below callerA base [] g
  X : (Mine.hd.heap_1 w.params).In g
  P : Top topProg loose mean mg mb g
  HB : Box ((Mine.hd.heap_1 w.params).In base ∧ Top topProg loose mean mg mb base)
  KD : KtsDicts (frs []) g
theorem LCx.turn {w : World} {loose : List Str} {mean : ExcName → Option Value} {mg mb : Str → Option Value} {base g g' : Heap} (C : LCx w loose mean mg mb base g) (T : KtsTurn (frs []) g g') : LCx w loose mean mg mb base g' :=
  have B' := below_turn C.B T
  ⟨B', C.HB.out.1.keeps B'.stays, C.HB.out.2.keeps B'.stays, C.HB, C.KD.turn T⟩
/-- the law's cells -/
structure LCe (led : Led) (L : Addr) (vs vn vo vw vr vp vt vc : Option Value) : Prop where
  s : Ob led (L + 1) (IsCell vs)
  n : Ob led (L + 1 + 1) (IsCell vn)
  o : Ob led (L + 1 + 1 + 1) (IsCell vo)
  w : Ob led (L + 1 + 1 + 1 + 1) (IsCell vw)
  r : Ob led (L + 1 + 1 + 1 + 1 + 1) (IsCell vr)
  p : Ob led (L + 1 + 1 + 1 + 1 + 1 + 1) (IsCell vp)
  t : Ob led (L + 1 + 1 + 1 + 1 + 1 + 1 + 1) (IsCell vt)
  c : Ob led (L + 1 + 1 + 1 + 1 + 1 + 1 + 1 + 1) (IsCell vc)
/-- an address is one of the law's cells -/
noncomputable def isLC (L a : Nat) : Prop := L < a ∧ a ≤ L + 8
theorem isLC_all (L : Nat) : isLC L (L + 1) ∧ isLC L (L + 1 + 1) ∧ isLC L (L + 1 + 1 + 1) ∧ isLC L (L + 1 + 1 + 1 + 1) ∧ isLC L (L + 1 + 1 + 1 + 1 + 1) ∧ isLC L (L + 1 + 1 + 1 + 1 + 1 + 1) ∧ isLC L (L + 1 + 1 + 1 + 1 + 1 + 1 + 1) ∧ isLC L (L + 1 + 1 + 1 + 1 + 1 + 1 + 1 + 1) := by
  unfold isLC; omega
theorem LCe.keep {led led' : Led} {L : Addr} {vs vn vo vw vr vp vt vc : Option Value} (h : LCe led L vs vn vo vw vr vp vt vc) (hk : ∀ q ∈ led, isLC L q.1 → q ∈ led') : LCe led' L vs vn vo vw vr vp vt vc := by
  have k : ∀ {a : Addr} {P : Obj → Prop}, isLC L a → Ob led a P → Ob led' a P := fun h1 ⟨o, m, q⟩ => ⟨o, hk _ m h1, q⟩
  refine hideG fun G9 hG9 => ?_
  obtain ⟨h1, h2, h3, h4, h5, h6, h7, h8⟩ := isLC_all L
  refine hG9.out ?_
  clear hG9 G9
  exact ⟨k h1 h.s, k h2 h.n, k h3 h.o, k h4 h.w, k h5 h.r, k h6 h.p, k h7 h.t, k h8 h.c⟩
theorem LCe.has {led : Led} {L : Nat} {vs vn vo vw vr vp vt vc : Option Value} (h : LCe led L vs vn vo vw vr vp vt vc) {a : Nat} (ha : isLC L a) : ∃ o, ((a, o) : Addr × Obj) ∈ led := by
  have q : ∀ {b : Addr} {P : Obj → Prop}, Ob led b P → ∃ o, (b, o) ∈ led := fun ⟨o, m, _⟩ => ⟨o, m⟩
  obtain ⟨h1, h2⟩ := ha
  have : a = L + 1 ∨ a = L + 1 + 1 ∨ a = L + 1 + 1 + 1 ∨ a = L + 1 + 1 + 1 + 1 ∨ a = L + 1 + 1 + 1 + 1 + 1 ∨ a = L + 1 + 1 + 1 + 1 + 1 + 1 ∨ a = L + 1 + 1 + 1 + 1 + 1 + 1 + 1 ∨ a = L + 1 + 1 + 1 + 1 + 1 + 1 + 1 + 1 := by omega
  rcases this with rfl | rfl | rfl | rfl | rfl | rfl | rfl | rfl
  · exact q h.s
  · exact q h.n
  · exact q h.o
  · exact q h.w
  · exact q h.r
  · exact q h.p
  · exact q h.t
  · exact q h.c
theorem LCe.sub {led led' : Led} {L : Addr} {vs vn vo vw vr vp vt vc : Option Value} (h : LCe led L vs vn vo vw vr vp vt vc) (hk : ∀ q ∈ led, q ∈ led') : LCe led' L vs vn vo vw vr vp vt vc := h.keep fun q hq _ => hk q hq
theorem LCe.set_s {led led' : Led} {L : Nat} {vs vn vo vw vr vp vt vc x : Option Value} (h : LCe led L vs vn vo vw vr vp vt vc) (hk : ∀ q ∈ led, q.1 ≠ L + 1 → q ∈ led') (c : Ob led' (L + 1) (IsCell x)) : LCe led' L x vn vo vw vr vp vt vc where
  s := c
  n := let ⟨o, m, q⟩ := h.n; ⟨o, hk _ m (by show @Ne Nat (L + 1 + 1) (L + 1); omega), q⟩
  o := let ⟨o, m, q⟩ := h.o; ⟨o, hk _ m (by show @Ne Nat (L + 1 + 1 + 1) (L + 1); omega), q⟩
  w := let ⟨o, m, q⟩ := h.w; ⟨o, hk _ m (by show @Ne Nat (L + 1 + 1 + 1 + 1) (L + 1); omega), q⟩
  r := let ⟨o, m, q⟩ := h.r; ⟨o, hk _ m (by show @Ne Nat (L + 1 + 1 + 1 + 1 + 1) (L + 1); omega), q⟩
  p := let ⟨o, m, q⟩ := h.p; ⟨o, hk _ m (by show @Ne Nat (L + 1 + 1 + 1 + 1 + 1 + 1) (L + 1); omega), q⟩
  t := let ⟨o, m, q⟩ := h.t; ⟨o, hk _ m (by show @Ne Nat (L + 1 + 1 + 1 + 1 + 1 + 1 + 1) (L + 1); omega), q⟩
  c := let ⟨o, m, q⟩ := h.c; ⟨o, hk _ m (by show @Ne Nat (L + 1 + 1 + 1 + 1 + 1 + 1 + 1 + 1) (L + 1); omega), q⟩
theorem LCe.set_n {led led' : Led} {L : Nat} {vs vn vo vw vr vp vt vc x : Option Value} (h : LCe led L vs vn vo vw vr vp vt vc) (hk : ∀ q ∈ led, q.1 ≠ L + 1 + 1 → q ∈ led') (c : Ob led' (L + 1 + 1) (IsCell x)) : LCe led' L vs x vo vw vr vp vt vc where
  s := let ⟨o, m, q⟩ := h.s; ⟨o, hk _ m (by show @Ne Nat (L + 1) (L + 1 + 1); omega), q⟩
  n := c
  o := let ⟨o, m, q⟩ := h.o; ⟨o, hk _ m (by show @Ne Nat (L + 1 + 1 + 1) (L + 1 + 1); omega), q⟩
  w := let ⟨o, m, q⟩ := h.w; ⟨o, hk _ m (by show @Ne Nat (L + 1 + 1 + 1 + 1) (L + 1 + 1); omega), q⟩
  r := let ⟨o, m, q⟩ := h.r; ⟨o, hk _ m (by show @Ne Nat (L + 1 + 1 + 1 + 1 + 1) (L + 1 + 1); omega), q⟩
  p := let ⟨o, m, q⟩ := h.p; ⟨o, hk _ m (by show @Ne Nat (L + 1 + 1 + 1 + 1 + 1 + 1) (L + 1 + 1); omega), q⟩
  t := let ⟨o, m, q⟩ := h.t; ⟨o, hk _ m (by show @Ne Nat (L + 1 + 1 + 1 + 1 + 1 + 1 + 1) (L + 1 + 1); omega), q⟩
  c := let ⟨o, m, q⟩ := h.c; ⟨o, hk _ m (by show @Ne Nat (L + 1 + 1 + 1 + 1 + 1 + 1 + 1 + 1) (L + 1 + 1); omega), q⟩
theorem LCe.set_o {led led' : Led} {L : Nat} {vs vn vo vw vr vp vt vc x : Option Value} (h : LCe led L vs vn vo vw vr vp vt vc) (hk : ∀ q ∈ led, q.1 ≠ L + 1 + 1 + 1 → q ∈ led') (c : Ob led' (L + 1 + 1 + 1) (IsCell x)) : LCe led' L vs vn x vw vr vp vt vc where
  s := let ⟨o, m, q⟩ := h.s; ⟨o, hk _ m (by show @Ne Nat (L + 1) (L + 1 + 1 + 1); omega), q⟩
  n := let ⟨o, m, q⟩ := h.n; ⟨o, hk _ m (by show @Ne Nat (L + 1 + 1) (L + 1 + 1 + 1); omega), q⟩
  o := c
  w := let ⟨o, m, q⟩ := h.w; ⟨o, hk _ m (by show @Ne Nat (L + 1 + 1 + 1 + 1) (L + 1 + 1 + 1); omega), q⟩
  r := let ⟨o, m, q⟩ := h.r; ⟨o, hk _ m (by show @Ne Nat (L + 1 + 1 + 1 + 1 + 1) (L + 1 + 1 + 1); omega), q⟩
  p := let ⟨o, m, q⟩ := h.p; ⟨o, hk _ m (by show @Ne Nat (L + 1 + 1 + 1 + 1 + 1 + 1) (L + 1 + 1 + 1); omega), q⟩
  t := let ⟨o, m, q⟩ := h.t; ⟨o, hk _ m (by show @Ne Nat (L + 1 + 1 + 1 + 1 + 1 + 1 + 1) (L + 1 + 1 + 1); omega), q⟩
  c := let ⟨o, m, q⟩ := h.c; ⟨o, hk _ m (by show @Ne Nat (L + 1 + 1 + 1 + 1 + 1 + 1 + 1 + 1) (L + 1 + 1 + 1); omega), q⟩
theorem LCe.set_w {led led' : Led} {L : Nat} {vs vn vo vw vr vp vt vc x : Option Value} (h : LCe led L vs vn vo vw vr vp vt vc) (hk : ∀ q ∈ led, q.1 ≠ L + 1 + 1 + 1 + 1 → q ∈ led') (c : Ob led' (L + 1 + 1 + 1 + 1) (IsCell x)) : LCe led' L vs vn vo x vr vp vt vc where
  s := let ⟨o, m, q⟩ := h.s; ⟨o, hk _ m (by show @Ne Nat (L + 1) (L + 1 + 1 + 1 + 1); omega), q⟩
  n := let ⟨o, m, q⟩ := h.n; ⟨o, hk _ m (by show @Ne Nat (L + 1 + 1) (L + 1 + 1 + 1 + 1); omega), q⟩
  o := let ⟨o, m, q⟩ := h.o; ⟨o, hk _ m (by show @Ne Nat (L + 1 + 1 + 1) (L + 1 + 1 + 1 + 1); omega), q⟩
  w := c
  r := let ⟨o, m, q⟩ := h.r; ⟨o, hk _ m (by show @Ne Nat (L + 1 + 1 + 1 + 1 + 1) (L + 1 + 1 + 1 + 1); omega), q⟩
  p := let ⟨o, m, q⟩ := h.p; ⟨o, hk _ m (by show @Ne Nat (L + 1 + 1 + 1 + 1 + 1 + 1) (L + 1 + 1 + 1 + 1); omega), q⟩
  t := let ⟨o, m, q⟩ := h.t; ⟨o, hk _ m (by show @Ne Nat (L + 1 + 1 + 1 + 1 + 1 + 1 + 1) (L + 1 + 1 + 1 + 1); omega), q⟩
  c := let ⟨o, m, q⟩ := h.c; ⟨o, hk _ m (by show @Ne Nat (L + 1 + 1 + 1 + 1 + 1 + 1 + 1 + 1) (L + 1 + 1 + 1 + 1); omega), q⟩
theorem LCe.set_r {led led' : Led} {L : Nat} {vs vn vo vw vr vp vt vc x : Option Value} (h : LCe led L vs vn vo vw vr vp vt vc) (hk : ∀ q ∈ led, q.1 ≠ L + 1 + 1 + 1 + 1 + 1 → q ∈ led') (c : Ob led' (L + 1 + 1 + 1 + 1 + 1) (IsCell x)) : LCe led' L vs vn vo vw x vp vt vc where
  s := let ⟨o, m, q⟩ := h.s; ⟨o, hk _ m (by show @Ne Nat (L + 1) (L + 1 + 1 + 1 + 1 + 1); omega), q⟩
  n := let ⟨o, m, q⟩ := h.n; ⟨o, hk _ m (by show @Ne Nat (L + 1 + 1) (L + 1 + 1 + 1 + 1 + 1); omega), q⟩
  o := let ⟨o, m, q⟩ := h.o; ⟨o, hk _ m (by show @Ne Nat (L + 1 + 1 + 1) (L + 1 + 1 + 1 + 1 + 1); omega), q⟩
  w := let ⟨o, m, q⟩ := h.w; ⟨o, hk _ m (by show @Ne Nat (L + 1 + 1 + 1 + 1) (L + 1 + 1 + 1 + 1 + 1); omega), q⟩
  r := c
  p := let ⟨o, m, q⟩ := h.p; ⟨o, hk _ m (by show @Ne Nat (L + 1 + 1 + 1 + 1 + 1 + 1) (L + 1 + 1 + 1 + 1 + 1); omega), q⟩
  t := let ⟨o, m, q⟩ := h.t; ⟨o, hk _ m (by show @Ne Nat (L + 1 + 1 + 1 + 1 + 1 + 1 + 1) (L + 1 + 1 + 1 + 1 + 1); omega), q⟩
  c := let ⟨o, m, q⟩ := h.c; ⟨o, hk _ m (by show @Ne Nat (L + 1 + 1 + 1 + 1 + 1 + 1 + 1 + 1) (L + 1 + 1 + 1 + 1 + 1); omega), q⟩
theorem LCe.set_p {led led' : Led} {L : Nat} {vs vn vo vw vr vp vt vc x : Option Value} (h : LCe led L vs vn vo vw vr vp vt vc) (hk : ∀ q ∈ led, q.1 ≠ L + 1 + 1 + 1 + 1 + 1 + 1 → q ∈ led') (c : Ob led' (L + 1 + 1 + 1 + 1 + 1 + 1) (IsCell x)) : LCe led' L vs vn vo vw vr x vt vc where
  s := let ⟨o, m, q⟩ := h.s; ⟨o, hk _ m (by show @Ne Nat (L + 1) (L + 1 + 1 + 1 + 1 + 1 + 1); omega), q⟩
  n := let ⟨o, m, q⟩ := h.n; ⟨o, hk _ m (by show @Ne Nat (L + 1 + 1) (L + 1 + 1 + 1 + 1 + 1 + 1); omega), q⟩
  o := let ⟨o, m, q⟩ := h.o; ⟨o, hk _ m (by show @Ne Nat (L + 1 + 1 + 1) (L + 1 + 1 + 1 + 1 + 1 + 1); omega), q⟩
  w := let ⟨o, m, q⟩ := h.w; ⟨o, hk _ m (by show @Ne Nat (L + 1 + 1 + 1 + 1) (L + 1 + 1 + 1 + 1 + 1 + 1); omega), q⟩
  r := let ⟨o, m, q⟩ := h.r; ⟨o, hk _ m (by show @Ne Nat (L + 1 + 1 + 1 + 1 + 1) (L + 1 + 1 + 1 + 1 + 1 + 1); omega), q⟩
  p := c
  t := let ⟨o, m, q⟩ := h.t; ⟨o, hk _ m (by show @Ne Nat (L + 1 + 1 + 1 + 1 + 1 + 1 + 1) (L + 1 + 1 + 1 + 1 + 1 + 1); omega), q⟩
  c := let ⟨o, m, q⟩ := h.c; ⟨o, hk _ m (by show @Ne Nat (L + 1 + 1 + 1 + 1 + 1 + 1 + 1 + 1) (L + 1 + 1 + 1 + 1 + 1 + 1); omega), q⟩
theorem LCe.set_t {led led' : Led} {L : Nat} {vs vn vo vw vr vp vt vc x : Option Value} (h : LCe led L vs vn vo vw vr vp vt vc) (hk : ∀ q ∈ led, q.1 ≠ L + 1 + 1 + 1 + 1 + 1 + 1 + 1 → q ∈ led') (c : Ob led' (L + 1 + 1 + 1 + 1 + 1 + 1 + 1) (IsCell x)) : LCe led' L vs vn vo vw vr vp x vc where
  s := let ⟨o, m, q⟩ := h.s; ⟨o, hk _ m (by show @Ne Nat (L + 1) (L + 1 + 1 + 1 + 1 + 1 + 1 + 1); omega), q⟩
  n := let ⟨o, m, q⟩ := h.n; ⟨o, hk _ m (by show @Ne Nat (L + 1 + 1) (L + 1 + 1 + 1 + 1 + 1 + 1 + 1); omega), q⟩
  o := let ⟨o, m, q⟩ := h.o; ⟨o, hk _ m (by show @Ne Nat (L + 1 + 1 + 1) (L + 1 + 1 + 1 + 1 + 1 + 1 + 1); omega), q⟩
  w := let ⟨o, m, q⟩ := h.w; ⟨o, hk _ m (by show @Ne Nat (L + 1 + 1 + 1 + 1) (L + 1 + 1 + 1 + 1 + 1 + 1 + 1); omega), q⟩
  r := let ⟨o, m, q⟩ := h.r; ⟨o, hk _ m (by show @Ne Nat (L + 1 + 1 + 1 + 1 + 1) (L + 1 + 1 + 1 + 1 + 1 + 1 + 1); omega), q⟩
  p := let ⟨o, m, q⟩ := h.p; ⟨o, hk _ m (by show @Ne Nat (L + 1 + 1 + 1 + 1 + 1 + 1) (L + 1 + 1 + 1 + 1 + 1 + 1 + 1); omega), q⟩
  t := c
  c := let ⟨o, m, q⟩ := h.c; ⟨o, hk _ m (by show @Ne Nat (L + 1 + 1 + 1 + 1 + 1 + 1 + 1 + 1) (L + 1 + 1 + 1 + 1 + 1 + 1 + 1); omega), q⟩
theorem LCe.set_c {led led' : Led} {L : Nat} {vs vn vo vw vr vp vt vc x : Option Value} (h : LCe led L vs vn vo vw vr vp vt vc) (hk : ∀ q ∈ led, q.1 ≠ L + 1 + 1 + 1 + 1 + 1 + 1 + 1 + 1 → q ∈ led') (c : Ob led' (L + 1 + 1 + 1 + 1 + 1 + 1 + 1 + 1) (IsCell x)) : LCe led' L vs vn vo vw vr vp vt x where
  s := let ⟨o, m, q⟩ := h.s; ⟨o, hk _ m (by show @Ne Nat (L + 1) (L + 1 + 1 + 1 + 1 + 1 + 1 + 1 + 1); omega), q⟩
  n := let ⟨o, m, q⟩ := h.n; ⟨o, hk _ m (by show @Ne Nat (L + 1 + 1) (L + 1 + 1 + 1 + 1 + 1 + 1 + 1 + 1); omega), q⟩
  o := let ⟨o, m, q⟩ := h.o; ⟨o, hk _ m (by show @Ne Nat (L + 1 + 1 + 1) (L + 1 + 1 + 1 + 1 + 1 + 1 + 1 + 1); omega), q⟩
  w := let ⟨o, m, q⟩ := h.w; ⟨o, hk _ m (by show @Ne Nat (L + 1 + 1 + 1 + 1) (L + 1 + 1 + 1 + 1 + 1 + 1 + 1 + 1); omega), q⟩
  r := let ⟨o, m, q⟩ := h.r; ⟨o, hk _ m (by show @Ne Nat (L + 1 + 1 + 1 + 1 + 1) (L + 1 + 1 + 1 + 1 + 1 + 1 + 1 + 1); omega), q⟩
  p := let ⟨o, m, q⟩ := h.p; ⟨o, hk _ m (by show @Ne Nat (L + 1 + 1 + 1 + 1 + 1 + 1) (L + 1 + 1 + 1 + 1 + 1 + 1 + 1 + 1); omega), q⟩
  t := let ⟨o, m, q⟩ := h.t; ⟨o, hk _ m (by show @Ne Nat (L + 1 + 1 + 1 + 1 + 1 + 1 + 1) (L + 1 + 1 + 1 + 1 + 1 + 1 + 1 + 1); omega), q⟩
  c := c
section
variable {prog : Program} {w : World} {A : Around} {E : Value → Shared → Prop} {s : Shared} {h₀ : Heap} {L l : Addr} {m : Str → Option Value} {led : Led}
theorem sumI {vs : List Value} {ns : List Int} {Q : Value → Shared → Prop} (hh : A.handled = none) (F : Fr h₀ L s.heap m) (N : News h₀ L s.heap led) (hl : s.heap.IsList l vs.toArray) (hi : IntsAre vs ns)
    (h : ∀ h' tk z t', Fr h₀ L h' m → News h₀ L h' led → Q (.int z t') { s with heap := h', toks := tk }) : wpAny (model prog w) A (call (.builtin "sum") [.ref l]) Q E s := by
  obtain ⟨xs, hx⟩ := hi.allInts.items
  rw [hx] at hl
  exact sum_intListG hh hl fun h' tk t' hk => h h' tk _ t' (F.keeps hk) (N.grown hk)
end
/-- statements up to a place, then the rest -/
theorem execs_app (env : Env) : ∀ a b : List Stmt, execs (a ++ b) env = (do match ← execs a env with | .next => execs b env | f => pure f)
  | [], b => by simp [execs_nil]
  | s :: a, b => by
    rw [List.cons_append, execs_cons, execs_cons, bind_assoc]
    congr 1
    funext f
    cases f
    · exact execs_app env a b
    all_goals simp
theorem execs_split {prog : Program} {w : World} {A : Around} {env : Env} {Q : Flow → Shared → Prop} {E : Value → Shared → Prop} (Mid : Shared → Prop) (n : Nat) (body : List Stmt) (s : Shared)
    (h : wpAny (model prog w) A (execs (body.take n) env) (fun f s' => match f with | .next => Mid s' | f => Q f s') E s)
    (h2 : ∀ s', Mid s' → wpAny (model prog w) A (execs (body.drop n) env) Q E s') : wpAny (model prog w) A (execs body env) Q E s := by
  have e := execs_app env (body.take n) (body.drop n)
  rw [List.take_append_drop] at e
  rw [e]
  refine wpAny_bind (wpAny_mono h (fun f s' hf => ?_) fun _ _ x => x)
  cases f
  · exact h2 s' hf
  all_goals exact wpAny_pure hf
theorem words_stop_all : True := by
  k_with "stops" => first
    | ((with_reducible show wpAny _ _ (subscriptTail _ (Expr.Slice _ _ _ _) (Value.ref _) (Value.ref _)) _ _ _); refine Box.out ?_)
    | ((with_reducible show wpAny _ _ (subscriptTail _ _ (Value.ref _) (Value.int _ _)) _ _ _); refine Box.out ?_)
    | ((with_reducible show wpAny _ _ (call (Value.builtin "sum") _) _ _ _); refine Box.out ?_)
    | ((with_reducible show wpAny _ _ (storeName _ (Str.ofString "names") _) _ _ _); refine Box.out ?_)
    | ((with_reducible show wpAny _ _ (storeName _ (Str.ofString "root") _) _ _ _); refine Box.out ?_)
    | ((with_reducible show wpAny _ _ (storeName _ (Str.ofString "row") _) _ _ _); refine Box.out ?_)
    | ((with_reducible show wpAny _ _ (storeName _ (Str.ofString "rows") _) _ _ _); refine Box.out ?_)
    | ((with_reducible show wpAny _ _ (storeName _ (Str.ofString "paths") _) _ _ _); refine Box.out ?_)
    | ((with_reducible show wpAny _ _ (storeName _ (Str.ofString "t") _) _ _ _); refine Box.out ?_)
    | ((with_reducible show wpAny _ _ (storeName _ (Str.ofString "chain") _) _ _ _); refine Box.out ?_)
  k_with "gl" => repeat' ((fail_if_success (with_reducible show wpAny _ _ (exec (Stmt.While _ _ _ _) _) _ _ _)); (fail_if_success (with_reducible show wpAny _ _ (exec (Stmt.For _ _ _ _ _) _) _ _ _)); (fail_if_success (with_reducible show wpAny _ _ (eval (Expr.ListComp _ _ _ _) _) _ _ _)); (fail_if_success (with_reducible show wpAny _ _ (pyIter _) _ _ _)); (fail_if_success (with_reducible show LCt.CompSrcT _ _ _ _ _ _ _ _ _ _ _ _ _ _ _)); (fail_if_success (with_reducible show LCg.CompSrc _ _ _ _ _ _ _ _ _ _ _ _ _ _)); first | (k_unfold; (try dsimp only)) | ((with_reducible show wpAny _ _ (call (Value.ref _) _ _) _ _ _); k_extra "callfn") | k_extra "stops" | k_extra "hand" | ((fail_if_success (with_reducible show wpAny _ _ (call (Value.ref _) _ _) _ _ _)); first | walk1 | (dsimp only; walk1)) | fail "no step")
  trivial
theorem fmod2 (z : Int) : z.fmod 2 = 0 ∨ z.fmod 2 = 1 := by
  rw [Int.fmod_eq_emod_of_nonneg z (by decide)]; omega
theorem strA : Str.ofString "a" = ⟨([97] : List Nat).toArray⟩ := by decide +kernel
theorem strAb : Str.ofString "ab" = ⟨([97, 98] : List Nat).toArray⟩ := by decide +kernel
theorem six_at (vs : List Value) (ts : List Int) (h : IntsAre vs ts) {j : Nat} (hj : j < vs.length) : ∃ z tz, vs[j]? = some (.int z tz) := by
  refine hideG fun G9 hG9 => ?_
  obtain ⟨z, tz, e⟩ := h.all (vs[j]) (List.getElem_mem hj)
  refine hG9.out ?_
  clear hG9 G9
  exact ⟨z, tz, by rw [List.getElem?_eq_getElem hj, e]⟩
theorem law_p1 (w : World) (body : List Stmt) (scope : Scope) (cdv : Addr × Value) (hL : LawAt w body scope) (loose : List Str) (mean : ExcName → Option Value) (mg mb : Str → Option Value) (base g : Heap) (L : Addr) (m : Str → Option Value) (led : Led) (s : Shared) (ls : Addr) (wvs : List Value) (ns : List Int) (Q : Flow → Shared → Prop)
    (C : LCx w loose mean mg mb base g) (F : Fr g L s.heap m) (N : News g L s.heap led) (hs : g.IsList ls wvs.toArray) (hi : IntsAre wvs ns) (hlen : ns.length ≤ 63) (K : LCe led L (some (.ref ls)) none none none none none none none) 
    (hQ : ∀ h' tk m' led' κ lN k1 k2 lC nC ys zs, Fr g L h' m' → News g L h' led' → LCe led' L (some (.ref ls)) (some (.ref lN)) none none none none none none → (lN, listOf [txt κ [97] k1, txt κ [97, 98] k2].toArray 0) ∈ led' → (lC, listOf ys.toArray nC) ∈ led' → IntsAre ys zs → ys.length = 6 → m' (Str.ofString "cells") = some (.ref lC) → (∀ q ∈ led, ¬ isLC L q.1 → q ∈ led') → (∀ q ∈ led, q.1 ≠ lN) → Q .next { s with heap := h', toks := tk }) :
    wpAny (model PySem.Challenge.rw_op0160_01.row.prog w) (callerA.deeper (lawE scope L cdv)) (execs (body.take 2) (lawE scope L cdv)) Q (fun _ _ => False) s := by
  have X := C.X
  revert X
  k_fill
  intro X
  refine' hL.at (P := fun body scope cdv => wpAny (model PySem.Challenge.rw_op0160_01.row.prog w) (callerA.deeper (lawE scope L cdv)) (execs (body.take 2) (lawE scope L cdv)) Q (fun _ _ => False) s) ?hc ?_
  (case hc => k_is)
  dsimp only [List.take]
  refine hideG fun G9 hG9 => ?_
  obtain ⟨B, _, P, HB, KD⟩ := C
  have hcs := K.s
  obtain ⟨oc, mc, dc⟩ := hcs
  refine hG9.out ?_
  clear hG9 G9
  have hvl := hi.length
  k_extra "gl"
  rename IsRange _ _ _ _ _ _ _ _ => hR
  rename Fr _ _ _ _ => F1
  rename News _ _ _ _ => N1
  refine LCg.CompSrc.range (n := 6) rfl F1 N1 hR (by decide) (by decide) (by rw [sizeLine_eq]; omega) fun g' => compRest_of (fun j ys led' => (∀ q ∈ led, q ∈ led') ∧ ∃ zs, IntsAre ys zs ∧ ys.length = j) (n := 6) ?_ ?_ _ 0 [] led (by rfl) ⟨fun q hq => hq, [], .nil, rfl⟩
  · rintro j ys news10 v I oI C oC Dc m₂ h10 tk10 E' hj ⟨hs10, zs, hzs, hyl⟩ ⟨tj, rfl⟩ hC hx F2 N2 off ne
    refine wp_hide fun Qe hQe => ?_
    rw [Int.zero_add] at hx
    have mc' := hs10 _ mc
    clear F1 N1
    k_extra "gl"
    refine ⟨?_⟩
    rename Fr _ _ _ _ => F3
    rename News _ _ _ _ => N3
    refine hideG fun G9 hG9 => ?_
    obtain ⟨z, tz, hz⟩ := six_at _ [1, 2, 1, 0, 2, 5] (.cons 1 tk10 (.cons 2 (tk10 + 1) (.cons 1 (tk10 + 1 + 1) (.cons 0 (tk10 + 1 + 1 + 1) (.cons 2 (tk10 + 1 + 1 + 1 + 1) (.cons 5 (tk10 + 1 + 1 + 1 + 1 + 1) .nil)))))) (j := j) (by simpa using hj)
    refine hG9.out ?_
    clear hG9 G9
    refine itemL (i := j) N3 (.head _) rfl (by omega) hz ?_
    k_extra "gl"
    refine ⟨?_⟩
    rename Fr _ _ _ _ => F3
    rename News _ _ _ _ => N3
    refine slice_list3 F3 N3 (l := ls) (items := wvs.toArray) (by obtain ⟨o, e, r⟩ := hs; exact ⟨o, F3.keep _ _ e, r⟩) (.int _ _) (.int _ _) (.int _ _) (by decide) ?_ (by with_unfolding_all rfl) (by intro _; with_unfolding_all rfl) (by rw [List.size_toArray, sizeLine_eq]; omega)
    intro h4 F4 N4
    k_extra "gl"
    refine ⟨?_⟩
    refine sumI rfl F4 N4 (vs := (slicePick wvs.toArray (some (j : Int)) (some 24) (some 6)).toList) ⟨_, (N4 _ (.head _)).1, rfl, _, rfl⟩ (hi.pick _ _ _) ?_
    intro h5 tk5 z5 t5 F5 N5
    k_extra "gl"
    rename Fr _ _ _ _ => F6
    rename News _ _ _ _ => N6
    refine hQe.out _ _ ?_
    refine LCg.CompEnd.intro F6 N6 news10 (fun p hp => .tail _ (.tail _ hp)) off trivial ⟨hs10, zs ++ [z + z5], hzs.append (.cons _ _ .nil), by simp [hyl]⟩
  · rintro ys news10 ⟨hs10, zs, hzs, hyl⟩ D10 h11 tk11 F11 N11 o11
    have mc' := hs10 _ mc
    clear F1 N1
    k_extra "gl"
    refine ⟨?_⟩
    rename Fr _ _ _ _ => F12
    rename News _ _ _ _ => N12
    rename_i lA _ lAl lB _ lBl lO _ lOl
    refine slice_list3 F12 N12 (l := ls) (items := wvs.toArray) (by obtain ⟨o, e, r⟩ := hs; exact ⟨o, F12.keep _ _ e, r⟩) .none (.int _ _) .none (by simp) ?_ (by with_unfolding_all rfl) (by intro _; with_unfolding_all rfl) (by rw [List.size_toArray, sizeLine_eq]; omega)
    intro h13 F13 N13
    k_extra "gl"
    refine ⟨?_⟩
    refine sumI rfl F13 N13 (vs := (slicePick wvs.toArray none (some 24) none).toList) ⟨_, (N13 _ (.head _)).1, rfl, _, rfl⟩ (hi.pick _ _ _) ?_
    intro h14 tk14 z14 t14 F14 N14
    k_extra "gl"
    refine ⟨?_⟩
    have lno : ∀ {lN : Addr}, D10 < lN → AllLt lN news10 → (∀ q ∈ led, q.1 ≠ lN) := fun _ h2 q hq => Nat.ne_of_lt (ktn_ltOf h2 q (hs10 q hq))
    refine hideG fun G9 hG9 => ?_
    obtain ⟨on, mn, _⟩ := id K.n
    refine hG9.out ?_
    clear hG9 G9
    have mn' := hs10 _ mn
    have nA : lA ≠ L + 1 + 1 := Nat.ne_of_gt (ktn_ltOf lAl.2 _ mn')
    have nB : lB ≠ L + 1 + 1 := Nat.ne_of_gt (ktn_ltOf lBl.2.2 _ mn')
    have nD : D10 ≠ L + 1 + 1 := (off1_mem o11 _ mn').symm
    rcases fmod2 z14 with hz | hz
    · refine itemL (i := 0) N14 (.tail _ (.head _)) (by rw [hz]; rfl) (by decide) rfl ?_
      k_extra "gl"
      refine ⟨?_⟩
      refine storeC F14 N14 (K.n.sub fun q hq => .tail _ (.tail _ (.tail _ (.tail _ (.tail _ (hs10 q hq)))))) rfl ?_ rfl rfl
      intro h15 led15 F15 N15 c15 k15
      have hm : (lA, listOf [Value.str (Str.ofString "a") tk11, Value.str (Str.ofString "ab") (tk11 + 1)].toArray 0) ∈ led15 := k15 _ (.tail _ (.tail _ (.tail _ (.head _)))) nA
      rw [strA, strAb] at hm
      k_extra "gl"
      exact hQ h15 _ _ led15 false lA tk11 (tk11 + 1) D10 _ ys zs F15 N15 (K.set_n (fun q hq hne => k15 q (.tail _ (.tail _ (.tail _ (.tail _ (.tail _ (hs10 q hq)))))) hne) c15) hm (k15 (D10, LCg.lst ys) (.tail _ (.tail _ (.tail _ (.tail _ (.head _))))) nD) hzs hyl rfl (fun q hq hn => k15 q (.tail _ (.tail _ (.tail _ (.tail _ (.tail _ (hs10 q hq)))))) fun e => hn (e ▸ (isLC_all L).2.1)) (lno lAl.1 lAl.2)
    · refine itemL (i := 1) N14 (.tail _ (.head _)) (by rw [hz]; rfl) (by decide) rfl ?_
      k_extra "gl"
      refine ⟨?_⟩
      refine storeC F14 N14 (K.n.sub fun q hq => .tail _ (.tail _ (.tail _ (.tail _ (.tail _ (hs10 q hq)))))) rfl ?_ rfl rfl
      intro h15 led15 F15 N15 c15 k15
      have hm : (lB, listOf [Value.bytes #[97] (tk11 + 1 + 1), Value.bytes #[97, 98] (tk11 + 1 + 1 + 1)].toArray 0) ∈ led15 := k15 _ (.tail _ (.tail _ (.head _))) nB
      skip
      k_extra "gl"
      exact hQ h15 _ _ led15 true lB (tk11 + 1 + 1) (tk11 + 1 + 1 + 1) D10 _ ys zs F15 N15 (K.set_n (fun q hq hne => k15 q (.tail _ (.tail _ (.tail _ (.tail _ (.tail _ (hs10 q hq)))))) hne) c15) hm (k15 (D10, LCg.lst ys) (.tail _ (.tail _ (.tail _ (.tail _ (.head _))))) nD) hzs hyl rfl (fun q hq hn => k15 q (.tail _ (.tail _ (.tail _ (.tail _ (.tail _ (hs10 q hq)))))) fun e => hn (e ▸ (isLC_all L).2.1)) (lno lBl.2.1 lBl.2.2)

theorem fresh_P615_compc : True := by
  w_top off
  trivial
noncomputable def dicO : Obj := { cls := .type "dict", data := .dict #[] }
/-- none of the four -/
noncomputable def Off4 (I C c D : Addr) (led : Led) : Prop := ∀ p ∈ led, p.1 ≠ I ∧ p.1 ≠ C ∧ p.1 ≠ c ∧ p.1 ≠ D
inductive CcI (its : List Value) (J : Nat → List Value → Led → Prop) (m : Str → Option Value) (h₀ : Heap) (L l : Addr) (n : Nat) (I C c D : Addr) (gg : Array GenState) (dd : Drawn) (os : OsState) (k : Nat) (s' : Shared) : Prop
  | mk (i : Nat) (h' : Heap) (tk' : Nat) (ys : List Value) (led0 : Led) (oI oc : Obj) (v0 : Option Value) (e1 : k = its.length + 1 - i) (e2 : i ≤ its.length) (e3 : ys.length = i) (e4 : s' = ⟨h', gg, dd, tk', os⟩) (e5 : Fr h₀ L h' m) (e6 : News h₀ L h' ((I, oI) :: (C, dicO) :: (c, oc) :: (D, PyProof.Rows.LCg.lst ys) :: led0)) (e7 : IsLIt l i oI) (e8 : IsCell v0 oc) (e9 : Off4 I C c D led0) (e10 : (l, listOf its.toArray n) ∈ led0) (e11 : J i ys led0)
section
variable {prog : Program} {w : World} {A : Around} {E : Value → Shared → Prop} {s : Shared} {h₀ : Heap} {L : Addr} {m : Str → Option Value}
open PyProof.Rows.LCg in
/-- a comprehension over a list, its name a cell -/
theorem comp_Cell {env : Env} {elt iter : Expr} {x : Str} {px : Pos} {scope : Scope} {cl : List (Str × Addr)} {pos : Pos} {Q : Value → Shared → Prop} {its : List Value} (J : Nat → List Value → Led → Prop)
    (hclos : closureFor scope env = pure cl) (hkind : scope.kind = .function) (hnames : ∀ y ∈ scope.names, y.2 = .local → scope.names.lookup y.1 = some .local)
    (hcf : ∀ n, cellsFrom n scope.names cl = (x, n) :: cl) (hpc : ∀ h : Heap, pushCells h scope.names = h.push { cls := .type "cell", data := .cell none })
    (hx : ∀ c C, (compEnvC scope ((x, c) :: cl) C env).kindOf x = some .cell)
    (h : wpAny (model prog w) A (eval iter env) (fun xv s₁ => Box (∃ l n led, xv = .ref l ∧ A.handled = none ∧ Fr h₀ L s₁.heap m ∧ News h₀ L s₁.heap led ∧ (l, listOf its.toArray n) ∈ led ∧ its.length ≤ 1000 ∧ J 0 [] led ∧
      (∀ i ys led0 v I oI C c oc D hh tk (E' : Value → Shared → Prop), its[i]? = some v → J i ys led0 → IsCell (some v) oc → Fr h₀ L hh m → News h₀ L hh ((I, oI) :: (C, dicO) :: (c, oc) :: (D, lst ys) :: led0) → Off4 I C c D led0 → (l, listOf its.toArray n) ∈ led0 →
        wpAny (model prog w) A (eval elt (compEnvC scope ((x, c) :: cl) C env)) (fun y s' => ∃ h' tk' led1, s' = { s₁ with heap := h', toks := tk' } ∧ Fr h₀ L h' m ∧ News h₀ L h' ((I, oI) :: (C, dicO) :: (c, oc) :: (D, lst ys) :: led1) ∧ Off4 I C c D led1 ∧ (l, listOf its.toArray n) ∈ led1 ∧ J (i + 1) (ys ++ [y]) led1) E' { s₁ with heap := hh, toks := tk }) ∧
      (∀ D ys hh tk led0, J its.length ys led0 → Fr h₀ L hh m → News h₀ L hh ((D, lst ys) :: led0) → (∀ p ∈ led0, p.1 ≠ D) → Q (.ref D) { s₁ with heap := hh, toks := tk }))) E s)
    (hs : ∀ x, foldedSetIterable iter env x = pure x := by intro _; rfl) :
    wpAny (model prog w) A (eval (.ListComp elt [⟨.Name x px, iter, [], 0⟩] scope pos) env) Q E s := by
  rw [eval_ListComp]
  refine wpAny_comprehension_free (use := none) rfl hs hclos hkind hnames (wpAny_mono h (fun xv s₁ h₁ => ?_) fun _ _ e => e)
  refine hideG fun G9 hG9 => ?_
  obtain ⟨l, n, led, rfl, hh, F, N, hm, hz, hJ, turn, fin⟩ := h₁.out
  refine hG9.out ?_
  clear hG9 G9
  refine iter_L F N hm ?_
  intro I h2 oI F2 N2 hIT ltI
  refine wpAny_newObj_type ?_ (by size_fits)
  refine hideG fun G9 hG9 => ?_
  obtain ⟨hh2, gg, dd, tk, os⟩ := s₁
  refine hG9.out ?_
  clear hG9 G9
  simp only [newFunctionEnv, Option.isSome_some, if_true]
  refine wpAny_bind (wpAny_alloc ?_)
  refine wpAny_bind (wpAny_layCells _ (fun name kind cells => by cases hkc : kind == NameKind.cell <;> simp [hkc]) _ _ _ _ ?_)
  rw [hcf, hpc]
  rw [List.forIn_nil]
  refine wpAny_bind (wpAny_pure (wpAny_pure ?_))
  dsimp only
  have F3 := F2.push (lst [])
  have N3 := News.push F2 N2 (lst []) rfl
  have F4 := F3.push dicO
  have N4 := News.push F3 N3 dicO rfl
  have F5 := F4.push ({ cls := .type "cell", data := .cell none } : Obj)
  have N5 := News.push F4 N4 ({ cls := .type "cell", data := .cell none } : Obj) rfl
  have lID : @LT.lt Nat _ I h2.objs.size := Heap.lt_size (N2 _ (.head _)).1
  have lDC : @LT.lt Nat _ h2.objs.size (h2.push (lst [])).objs.size := by rw [Heap.size_push]; exact Nat.lt_succ_self _
  have lCc : @LT.lt Nat _ (h2.push (lst [])).objs.size ((h2.push (lst [])).push dicO).objs.size := by rw [show ((h2.push (lst [])).push dicO).objs.size = (h2.push (lst [])).objs.size + 1 from Heap.size_push ..]; exact Nat.lt_succ_self _
  change codeAny (model prog w) A (.compStart (.ListComp elt [⟨.Name x px, iter, [], 0⟩] scope pos) 0 (.ref I) (.ref h2.objs.size) (compEnvC scope ((x, ((h2.push (lst [])).push dicO).objs.size) :: cl) (h2.push (lst [])).objs.size env))
    (compPost (model prog w) A E none Q (.ref h2.objs.size) (h2.push (lst [])).objs.size) ⟨((h2.push (lst [])).push dicO).push { cls := .type "cell", data := .cell none }, gg, dd, tk, os⟩
  generalize hh5 : ((h2.push (lst [])).push dicO).push ({ cls := .type "cell", data := .cell none } : Obj) = h5 at F5 N5 ⊢
  generalize ((h2.push (lst [])).push dicO).objs.size = c at N5 lCc ⊢
  generalize (h2.push (lst [])).objs.size = C at N5 lCc lDC ⊢
  generalize h2.objs.size = D at N5 lDC lID ⊢
  clear F3 N3 F4 N4 hh5
  have nIC : I ≠ C := Nat.ne_of_lt (Nat.lt_trans lID lDC)
  have nIc : I ≠ c := Nat.ne_of_lt (Nat.lt_trans lID (Nat.lt_trans lDC lCc))
  have nID : I ≠ D := Nat.ne_of_lt lID
  have nCc : C ≠ c := Nat.ne_of_lt lCc
  have nCD : C ≠ D := Nat.ne_of_gt lDC
  have ncD : c ≠ D := Nat.ne_of_gt (Nat.lt_trans lDC lCc)
  have off0 : Off4 I C c D led := fun p hp => by
    have h1 : @LT.lt Nat _ p.1 I := ltI p hp
    exact ⟨Nat.ne_of_lt h1, Nat.ne_of_lt (Nat.lt_trans h1 (Nat.lt_trans lID lDC)), Nat.ne_of_lt (Nat.lt_trans h1 (Nat.lt_trans lID (Nat.lt_trans lDC lCc))), Nat.ne_of_lt (Nat.lt_trans h1 lID)⟩
  have loop : ∀ s₃ : Shared, s₃ = ⟨h5, gg, dd, tk, os⟩ →
      codeAny (model prog w) A (.compLoop (.ListComp elt [⟨.Name x px, iter, [], 0⟩] scope pos) 0 (.ref I) (.ref D) (compEnvC scope ((x, c) :: cl) C env)) (compPost (model prog w) A E none Q (.ref D) C) s₃ := by
    rintro s₃ rfl
    refine codeAny_compLoop_list (CcI its J m h₀ L l n I C c D gg dd os) ?_ (its.length + 1)
      ⟨0, h5, _, [], led, oI, { cls := .type "cell", data := .cell none }, none, rfl, Nat.zero_le _, rfl, rfl, F5, fun p hp => N5 p ?_, hIT, rfl, off0, hm, hJ⟩
    · rintro k s' hp9z
      refine hideG fun G9 hG9 => ?_
      obtain ⟨i, h', tk', ys, led0, oI', oc, v0, rfl, hi, hyl, rfl, F', N', hit, hcell, off, hm', hJ'⟩ := hp9z
      refine hG9.out ?_
      clear hG9 G9
      refine next_L hh F' N' ⟨oI', .head _, hit⟩ (.tail _ (.tail _ (.tail _ (.tail _ hm')))) ?_ ?_
      · intro v h6 led6 hv F6 N6 hit6 k6
        obtain ⟨oI6, mI6, hI6⟩ := hit6
        refine wpAny_assign_Name (wpAny_storeName_cell (c := c) (v₀ := v0) ?_ (hx c C) (by simp [compEnvC]) ⟨oc, (N6 _ (k6 _ (.tail _ (.tail _ (.head _))) nIc.symm)).1, hcell⟩ fun h7 hv7 hs7 => ?_)
        · simp [compEnvC, relabel, hkind]
        obtain ⟨oc7, hoc7, hc7⟩ := hv7
        have N6' : News h₀ L h6 ((I, oI6) :: (C, dicO) :: (c, oc) :: (D, lst ys) :: led0) := news_sub N6 fun p hp => by
          rcases List.mem_cons.mp hp with rfl | hp
          · exact mI6
          rcases List.mem_cons.mp hp with rfl | hp
          · exact k6 _ (.tail _ (.head _)) nIC.symm
          rcases List.mem_cons.mp hp with rfl | hp
          · exact k6 _ (.tail _ (.tail _ (.head _))) nIc.symm
          rcases List.mem_cons.mp hp with rfl | hp
          · exact k6 _ (.tail _ (.tail _ (.tail _ (.head _)))) nID.symm
          · exact k6 p (.tail _ (.tail _ (.tail _ (.tail _ hp)))) (off p hp).1
        have F7 := fr_same F6 N6' (.tail _ (.tail _ (.head _))) hs7
        have N7s := news_same N6' (.tail _ (.tail _ (.head _))) hs7 hoc7
        have N7 : News h₀ L h7 ((I, oI6) :: (C, dicO) :: (c, oc7) :: (D, lst ys) :: led0) := news_sub N7s fun p hp => by
          rcases List.mem_cons.mp hp with rfl | hp
          · exact mem_setL_ne nIc (.head _)
          rcases List.mem_cons.mp hp with rfl | hp
          · exact mem_setL_ne nCc (.tail _ (.head _))
          rcases List.mem_cons.mp hp with rfl | hp
          · exact mem_setL_self (.tail _ (.tail _ (.head _)))
          rcases List.mem_cons.mp hp with rfl | hp
          · exact mem_setL_ne ncD.symm (.tail _ (.tail _ (.tail _ (.head _))))
          · exact mem_setL_ne (off p hp).2.2.1 (.tail _ (.tail _ (.tail _ (.tail _ hp))))
        refine wpAny_mono (turn i ys led0 v I oI6 C c oc7 D h7 tk' _ hv hJ' hc7 F7 N7 off hm') (fun y s4 h4 => ?_) fun _ _ e => e
        refine hideG fun G9 hG9 => ?_
        obtain ⟨h8, tk8, led1, rfl, F8, N8, off1, hm1, hJ1⟩ := h4
        refine hG9.out ?_
        clear hG9 G9
        refine append_at (hsz := by show ys.toArray.size ≤ sizeLine; rw [List.size_toArray, sizeLine_eq]; omega) (N8 _ (.tail _ (.tail _ (.tail _ (.head _))))).1 fun h9 hs9 hD9 => ?_
        have hlt : i < its.length := (List.getElem?_eq_some_iff.mp hv).1
        have hD9' : h9.get? D = some (lst (ys ++ [y])) := hD9.trans (congrArg some (lst_snoc ys y))
        have N9s := news_same N8 (.tail _ (.tail _ (.tail _ (.head _)))) hs9 hD9'
        refine ⟨its.length + 1 - (i + 1), by omega, i + 1, h9, tk8, ys ++ [y], led1, oI6, oc7, some v, rfl, hlt, by simp [hyl], rfl, fr_same F8 N8 (.tail _ (.tail _ (.tail _ (.head _)))) hs9, news_sub N9s fun p hp => ?_, hI6, hc7, off1, hm1, hJ1⟩
        rcases List.mem_cons.mp hp with rfl | hp
        · exact mem_setL_ne nID (.head _)
        rcases List.mem_cons.mp hp with rfl | hp
        · exact mem_setL_ne nCD (.tail _ (.head _))
        rcases List.mem_cons.mp hp with rfl | hp
        · exact mem_setL_ne ncD (.tail _ (.tail _ (.head _)))
        rcases List.mem_cons.mp hp with rfl | hp
        · exact mem_setL_self (.tail _ (.tail _ (.tail _ (.head _))))
        · exact mem_setL_ne (off1 p hp).2.2.2 (.tail _ (.tail _ (.tail _ (.tail _ hp))))
      · intro h6 led6 hv F6 N6 k6
        have hei : i = its.length := by omega
        subst hei
        have hC6 := (N6 _ (k6 _ (.tail _ (.head _)) nIC.symm)).1
        refine ⟨fun _ => none, ⟨dicO, #[], 0, hC6, rfl, fun _ he => by simp at he, fun _ => rfl⟩, fun h7 hs7 => ?_⟩
        have mC := k6 _ (.tail _ (.head _)) nIC.symm
        have N7 : News h₀ L h7 ((D, lst ys) :: led0) := fun p hp => by
          have hp' : p ∈ led6 ∧ p.1 ≠ C := by
            rcases List.mem_cons.mp hp with rfl | hp
            · exact ⟨k6 _ (.tail _ (.tail _ (.tail _ (.head _)))) nID.symm, nCD.symm⟩
            · exact ⟨k6 p (.tail _ (.tail _ (.tail _ (.tail _ hp)))) (off p hp).1, (off p hp).2.1⟩
          exact ⟨(hs7.2 _ hp'.2).trans (N6 p hp'.1).1, (N6 p hp'.1).2⟩
        exact fin D ys h7 tk' led0 hJ' (fr_same F6 N6 mC hs7) N7 fun p hp => (off p hp).2.2.2
    · rcases List.mem_cons.mp hp with rfl | hp
      · exact .tail _ (.tail _ (.tail _ (.head _)))
      rcases List.mem_cons.mp hp with rfl | hp
      · exact .tail _ (.head _)
      rcases List.mem_cons.mp hp with rfl | hp
      · exact .head _
      rcases List.mem_cons.mp hp with rfl | hp
      · exact .tail _ (.tail _ (.head _))
      · exact .tail _ (.tail _ (.tail _ (.tail _ hp)))
  have hnl : l ≠ I := Nat.ne_of_lt (ltI _ hm)
  have W := Walks.list (prog := prog) (w := w) (A := A) hh I l hnl its.toArray
  have hIl : h5.IsListIter I l 0 := ⟨oI, (N5 _ (.tail _ (.tail _ (.tail _ (.head _))))).1, hIT.1, hIT.2⟩
  have hll : h5.IsList l its.toArray := ⟨_, (N5 _ (.tail _ (.tail _ (.tail _ (.tail _ hm))))).1, rfl, n, rfl⟩
  exact codeAny_compStart_list (loop _ rfl) (W.self 0 _ _ _ ⟨hIl, hll⟩ (loop _ rfl))
end

theorem fresh_P61_law2 : True := by
  w_top off
  trivial
noncomputable def isNm (t : List Nat) : Prop := t = [97] ∨ t = [97, 98]
theorem fmod3 (z : Int) : z.fmod 3 = 0 ∨ z.fmod 3 = 1 ∨ z.fmod 3 = 2 := by
  rw [Int.fmod_eq_emod_of_nonneg z (by decide)]; omega
theorem law_p2 (w : World) (body : List Stmt) (scope : Scope) (cdv : Addr × Value) (hL : LawAt w body scope) (loose : List Str) (mean : ExcName → Option Value) (mg mb : Str → Option Value) (base g : Heap) (L : Addr) (m : Str → Option Value) (led : Led) (s : Shared) (ls lN lC : Addr) (κ : Bool) (k1 k2 : Tok) (nC : Nat) (ys : List Value) (zs : List Int) (Q : Flow → Shared → Prop)
    (C : LCx w loose mean mg mb base g) (F : Fr g L s.heap m) (N : News g L s.heap led) (K : LCe led L (some (.ref ls)) (some (.ref lN)) none none none none none none) (hN : (lN, listOf [txt κ [97] k1, txt κ [97, 98] k2].toArray 0) ∈ led) (hC : (lC, listOf ys.toArray nC) ∈ led) (hys : IntsAre ys zs) (hyl : ys.length = 6) (hv : m (Str.ofString "cells") = some (.ref lC))
    (hQ : ∀ h' tk m' led' ko lR us nr rw, Fr g L h' m' → News g L h' led' → LCe led' L (some (.ref ls)) (some (.ref lN)) (some (txt κ [47] ko)) (some (.ref lR)) none none none none → (lR, listOf us.toArray nr) ∈ led' → TxtsAre κ us rw → rw.length ≤ 4 → (∀ t ∈ rw, isNm t) → m' (Str.ofString "cells") = some (.ref lC) → (∀ q ∈ led, ¬ isLC L q.1 → q ∈ led') → (∀ q ∈ led, q.1 ≠ lR) → Q .next { s with heap := h', toks := tk }) :
    wpAny (model PySem.Challenge.rw_op0160_01.row.prog w) (callerA.deeper (lawE scope L cdv)) (execs ((body.drop 2).take 2) (lawE scope L cdv)) Q (fun _ _ => False) s := by
  have X := C.X
  revert X
  k_fill
  intro X
  refine' hL.at (P := fun body scope cdv => wpAny (model PySem.Challenge.rw_op0160_01.row.prog w) (callerA.deeper (lawE scope L cdv)) (execs ((body.drop 2).take 2) (lawE scope L cdv)) Q (fun _ _ => False) s) ?hc ?_
  (case hc => k_is)
  dsimp only [List.take, List.drop]
  refine hideG fun G9 hG9 => ?_
  obtain ⟨B, _, P, HB, KD⟩ := C
  refine hG9.out ?_
  clear hG9 G9
  have hn := K.n
  k_extra "gl"
  refine ⟨?_⟩
  refine itemL (i := 0) N hN rfl (by decide) rfl ?_
  k_extra "gl"
  refine ⟨?_⟩
  rename Fr _ _ _ _ => F1
  rename News _ _ _ _ => N1
  refine storeC F1 N1 K.o rfl ?_ rfl rfl
  intro h2 led2 F2 N2 c2 k2
  have K2 := K.set_o k2 c2
  have hN2 := mem_keep N1 K.o k2 hN list_cell
  have hC2 := mem_keep N1 K.o k2 hC list_cell
  have lcs := isLC_all L
  have off2 := fun (q : Addr × Obj) (hq : q ∈ _) (hn : ¬ isLC L q.1) => k2 q hq fun e => hn (e ▸ lcs.2.2.1)
  clear F1 N1
  k_extra "gl"
  refine LCt.ListComp_T (F₀ := F2) (by with_unfolding_all rfl) (by decide) (by rfl) (by decide) (by rfl) ?_
  k_extra "gl"
  refine ⟨?_⟩
  rename Fr _ _ _ _ => F3
  rename News _ _ _ _ => N3
  refine sliceL F3 N3 hC2 .none (.int _ _) (by omega) ?_ (by intro v9 i9; with_unfolding_all rfl) (by intro v9 i9; with_unfolding_all rfl)
  intro D4 h4 F4 N4 lt4
  rw [show (some (4 : Int)) = some ((4 : Nat) : Int) from rfl, cutL_to] at N4
  refine LCt.CompSrcT.ledger (its := (ys.take 4).toArray) (k := 0) rfl F4 N4 (.head _) (by rw [List.size_toArray, sizeLine_eq, List.length_take]; omega) fun g' => compRestT_of (fun j us led' => (∀ q ∈ led2, q ∈ led') ∧ (D4, listOf (ys.take 4).toArray 0) ∈ led' ∧ ∃ rw, TxtsAre κ us rw ∧ rw.length ≤ j ∧ ∀ t ∈ rw, isNm t) (n := (ys.take 4).toArray.size) ?_ ?_ _ 0 [] _ (by omega) ⟨fun q hq => .tail _ hq, .head _, [], .nil, Nat.zero_le _, fun t ht => nomatch ht⟩
  · rintro j us news9 v I oI C oC Dc m₂ h8 tk8 E' hj ⟨hs9, hD9, rw, hrw, hrl, hrn⟩ hP hC9 hx F8 N8 off ne
    refine hideG fun G9 hG9 => ?_
    obtain ⟨z, tz, rfl⟩ : ∃ z tz, v = .int z tz := by
      have : v ∈ ys := List.mem_of_mem_take (List.mem_of_getElem? (by simpa using hP))
      exact hys.all v this
    obtain ⟨on, mn, dn⟩ := K2.n
    refine hG9.out ?_
    clear hG9 G9
    have mn' := hs9 _ mn
    have hN9 := hs9 _ hN2
    clear F4 N4 F3 N3
    k_extra "gl"
    · rename z.fmod 3 ≠ 0 => hz
      refine ⟨?_⟩
      rename Fr _ _ _ _ => F9
      rename News _ _ _ _ => N9
      rcases fmod3 z with h0 | h1 | h1
      · exact absurd h0 hz
      · refine itemL (i := 0) N9 (.tail _ (.tail _ (.tail _ hN9))) (by rw [h1]; rfl) (by decide) rfl ?_
        refine LCg.CompEnd.intro F9 N9 news9 (fun p hp => hp) off (.inr ⟨_, hD9, rfl, _, rfl⟩) ⟨hs9, hD9, rw ++ [[97]], hrw.app (.cons .nil), by simp; omega, fun t ht => ?_⟩
        rcases List.mem_append.mp ht with q | q
        · exact hrn t q
        · exact .inl (List.mem_singleton.mp q)
      · refine itemL (i := 1) N9 (.tail _ (.tail _ (.tail _ hN9))) (by rw [h1]; rfl) (by decide) rfl ?_
        refine LCg.CompEnd.intro F9 N9 news9 (fun p hp => hp) off (.inr ⟨_, hD9, rfl, _, rfl⟩) ⟨hs9, hD9, rw ++ [[97, 98]], hrw.app (.cons .nil), by simp; omega, fun t ht => ?_⟩
        rcases List.mem_append.mp ht with q | q
        · exact hrn t q
        · exact .inr (List.mem_singleton.mp q)
    · rename Fr _ _ _ _ => F9
      rename News _ _ _ _ => N9
      exact LCg.CompEnd.intro F9 N9 news9 (fun p hp => hp) off (.inr ⟨_, hD9, rfl, _, rfl⟩) ⟨hs9, hD9, rw, hrw, by omega, hrn⟩
  · rintro us news9 ⟨hs9, hD9, rw, hrw, hrl, hrn⟩ D9 h9 tk9 F9 N9 o9
    k_extra "gl"
    refine ⟨?_⟩
    refine hideG fun G9 hG9 => ?_
    obtain ⟨ow, mw, _⟩ := id K2.w
    refine hG9.out ?_
    clear hG9 G9
    refine storeC F9 N9 (K2.w.sub fun q hq => .tail _ (hs9 q hq)) rfl ?_ rfl rfl
    intro h10 led10 F10 N10 c10 k10
    k_extra "gl"
    have nD : D9 ≠ L + 1 + 1 + 1 + 1 := (off1_mem o9 _ (hs9 _ mw)).symm
    refine hQ h10 _ _ led10 _ D9 us _ rw F10 N10 (K2.set_w (fun q hq hne => k10 q (.tail _ (hs9 q hq)) hne) c10) (k10 (D9, LCg.lst us) (.head _) nD) hrw ?_ hrn hv (fun q hq hn => k10 q (.tail _ (hs9 q (off2 q hq hn))) fun e => hn (e ▸ lcs.2.2.2.1)) fun q hq => ?_
    · rw [List.size_toArray, List.length_take] at hrl; omega
    · by_cases hn : isLC L q.1
      ·
        obtain ⟨o, ho⟩ := K2.has hn
        exact off1_mem o9 (q.1, o) (hs9 _ ho)
      · exact off1_mem o9 _ (hs9 _ (off2 q hq hn))

theorem fresh_P625_rows : True := by
  w_top off
  trivial
/-- a path's names -/
structure RowOk (r : List (List Nat)) : Prop where
  len : r.length ≤ 4
  nm : ∀ t ∈ r, isNm t
theorem isNm.plain {t : List Nat} (h : isNm t) : Plain t := by
  rcases h with rfl | rfl <;> intro c hc <;> simp at hc <;> omega
theorem isNm.len {t : List Nat} (h : isNm t) : t.length ≤ 2 := by rcases h with rfl | rfl <;> decide
theorem isNm.bare {t : List Nat} (h : isNm t) : 47 ∉ t := by rcases h with rfl | rfl <;> decide
theorem isNm.asc {t : List Nat} (h : isNm t) : Asc t ∧ t.length ≤ 100 := ⟨h.plain.asc, by have := h.len; omega⟩
theorem RowOk.asc {r : List (List Nat)} (h : RowOk r) : AscR r := fun t ht => (h.nm t ht).plain.asc
theorem RowOk.bare {r : List (List Nat)} (h : RowOk r) : Bare r := fun t ht => (h.nm t ht).bare
theorem RowOk.sub {r r' : List (List Nat)} (h : RowOk r) (hs : r'.Sublist r) : RowOk r' := ⟨Nat.le_trans hs.length_le h.len, fun t ht => h.nm t (hs.subset ht)⟩
theorem bod_len3 : ∀ {r : List (List Nat)}, (∀ t ∈ r, isNm t) → (bod r).length ≤ 3 * r.length
  | [], _ => by simp [bod]
  | n :: r, h => by
    have h1 := bod_len3 (r := r) fun t ht => h t (.tail _ ht)
    have h2 := (h n (.head _)).len
    show ((n ++ [47]) ++ bod r).length ≤ _
    simp only [List.length_append, List.length_cons, List.length_nil]; omega
theorem RowOk.bod_len {r : List (List Nat)} (h : RowOk r) : (bod r).length ≤ 12 := by have := bod_len3 h.nm; have := h.len; omega
theorem bod_plain : ∀ {r : List (List Nat)}, (∀ t ∈ r, isNm t) → Plain (bod r)
  | [], _ => fun c hc => by simp [bod] at hc
  | n :: r, h => by
    have h1 := bod_plain (r := r) fun t ht => h t (.tail _ ht)
    have h2 := (h n (.head _)).plain
    exact (h2.app fun c hc => .inl (List.mem_singleton.mp hc)).app h1
theorem RowOk.path {r : List (List Nat)} (h : RowOk r) : Plain (47 :: bod r) := fun c hc => by
  rcases List.mem_cons.mp hc with rfl | hc
  · exact .inl rfl
  · exact bod_plain h.nm c hc
theorem RowOk.choices {rw r : List (List Nat)} (h : RowOk rw) (hr : r ∈ choices rw) : RowOk r := by
  have := pw_mem (dis_sub _ _ r hr)
  exact ⟨Nat.le_trans this.1 h.len, fun t ht => h.nm t (this.2 t ht)⟩
theorem dis_len (cs : List (List (List Nat))) : ∀ k, (dis cs k).length ≤ k
  | 0 => Nat.le_refl _
  | k + 1 => by
    have h := dis_len cs k
    unfold dis
    split
    · split
      · omega
      · simp; omega
    · omega
theorem choices_len {rw : List (List Nat)} (h : rw.length ≤ 4) : (choices rw).length ≤ 16 := Nat.le_trans (dis_len _ _) (pw_len h)

theorem fresh_P62_law3 : True := by
  w_top off
  trivial
theorem law_p3 (w : World) (body : List Stmt) (scope : Scope) (cdv : Addr × Value) (hL : LawAt w body scope) (loose : List Str) (mean : ExcName → Option Value) (mg mb : Str → Option Value) (base g : Heap) (L : Addr) (m : Str → Option Value) (led : Led) (s : Shared) (lC lR : Addr) (κ : Bool) (nC nr : Nat) (ys us : List Value) (zs : List Int) (rw : List (List Nat)) (vs vn vo : Option Value) (Q : Flow → Shared → Prop)
    (C : LCx w loose mean mg mb base g) (F : Fr g L s.heap m) (N : News g L s.heap led) (K : LCe led L vs vn vo (some (.ref lR)) none none none none) (hC : (lC, listOf ys.toArray nC) ∈ led) (hys : IntsAre ys zs) (hyl : ys.length = 6) (hv : m (Str.ofString "cells") = some (.ref lC)) (hR : (lR, listOf us.toArray nr) ∈ led) (hus : TxtsAre κ us rw) (hrl : rw.length ≤ 4)
    (hQ : ∀ h' tk m' led' l1 us1 n1 r1 l2 us2 n2 r2, Fr g L h' m' → News g L h' led' → (∀ q ∈ led, q ∈ led') → (l1, listOf us1.toArray n1) ∈ led' → TxtsAre κ us1 r1 → r1.Sublist rw → (l2, listOf us2.toArray n2) ∈ led' → TxtsAre κ us2 r2 → r2.Sublist rw → (∀ q ∈ led, q.1 ≠ l1 ∧ q.1 ≠ l2) → m' (Str.ofString "first") = some (.ref l1) → m' (Str.ofString "second") = some (.ref l2) → Q .next { s with heap := h', toks := tk }) :
    wpAny (model PySem.Challenge.rw_op0160_01.row.prog w) (callerA.deeper (lawE scope L cdv)) (execs ((body.drop 4).take 1) (lawE scope L cdv)) Q (fun _ _ => False) s := by
  have X := C.X
  revert X
  k_fill
  intro X
  refine' hL.at (P := fun body scope cdv => wpAny (model PySem.Challenge.rw_op0160_01.row.prog w) (callerA.deeper (lawE scope L cdv)) (execs ((body.drop 4).take 1) (lawE scope L cdv)) Q (fun _ _ => False) s) ?hc ?_
  (case hc => k_is)
  dsimp only [List.take, List.drop]
  refine hideG fun G9 hG9 => ?_
  obtain ⟨B, _, P, HB, KD⟩ := C
  refine hG9.out ?_
  clear hG9 G9
  have hul := hus.length
  k_extra "gl"
  refine comp_Cell (its := ys.drop 4) (h₀ := g) (L := L) (m := m) (fun i vs led0 => (∀ q ∈ led, q ∈ led0) ∧ vs.length = i ∧ ∀ v ∈ vs, ∃ l1 us1 n1 r1, v = .ref l1 ∧ (l1, listOf us1.toArray n1) ∈ led0 ∧ TxtsAre κ us1 r1 ∧ r1.Sublist rw ∧ ∀ q ∈ led, q.1 ≠ l1) (by with_unfolding_all rfl) (by rfl) (by decide) (fun _ => rfl) (fun _ => rfl) (fun _ _ => rfl) ?_
  k_extra "gl"
  refine ⟨?_⟩
  rename Fr _ _ _ _ => F3
  rename News _ _ _ _ => N3
  refine sliceL F3 N3 hC (.int _ _) .none (by omega) ?_ (by intro v9 i9; with_unfolding_all rfl) (by intro v9 i9; with_unfolding_all rfl)
  intro D4 h4 F4 N4 lt4
  rw [show (some (4 : Int)) = some ((4 : Nat) : Int) from rfl, cutL_from] at N4
  refine ⟨D4, 0, _, rfl, rfl, F4, N4, .head _, by rw [List.length_drop]; omega, ⟨fun q hq => .tail _ hq, rfl, fun v hv => nomatch hv⟩, ?_, ?_⟩
  · rintro i vs led0 v I oI Cc c oc D hh tk E' hiv ⟨hs0, hvl, hvs⟩ hcell F5 N5 off hD0
    refine hideG fun G9 hG9 => ?_
    obtain ⟨z, tz, rfl⟩ : ∃ z tz, v = .int z tz := hys.all v (List.mem_of_mem_drop (List.mem_of_getElem? hiv))
    have mc : (c, oc) ∈ (I, oI) :: (Cc, dicO) :: (c, oc) :: (D, LCg.lst vs) :: led0 := .tail _ (.tail _ (.head _))
    obtain ⟨ow, mw, dw⟩ := id K.w
    refine hG9.out ?_
    clear hG9 G9
    have mw' : (L + 1 + 1 + 1 + 1, ow) ∈ (I, oI) :: (Cc, dicO) :: (c, oc) :: (D, LCg.lst vs) :: led0 := .tail _ (.tail _ (.tail _ (.tail _ (hs0 _ mw))))
    have hR' : (lR, listOf us.toArray nr) ∈ (I, oI) :: (Cc, dicO) :: (c, oc) :: (D, LCg.lst vs) :: led0 := .tail _ (.tail _ (.tail _ (.tail _ (hs0 _ hR))))
    clear F3 N3 F4 N4
    refine LCt.ListComp_T (F₀ := F5) (by with_unfolding_all rfl) (by decide) (by rfl) (by decide) (by rfl) ?_
    k_extra "gl"
    rename IsRange _ _ _ _ _ _ _ _ => hRg
    rename Fr _ _ _ _ => F6
    rename News _ _ _ _ => N6
    refine LCt.CompSrcT.range (n := us.length) rfl F6 N6 hRg (range_small (by omega)) (range_size _) (by rw [sizeLine_eq]; omega) fun g' => compRestT_of (fun j ys1 led' => (∀ q ∈ (I, oI) :: (Cc, dicO) :: (c, oc) :: (D, LCg.lst vs) :: led0, q ∈ led') ∧ ∃ r, TxtsAre κ ys1 r ∧ r.Sublist (rw.take j)) (n := us.length) ?_ ?_ _ 0 [] _ (by omega) ⟨fun q hq => hq, [], .nil, List.nil_sublist _⟩
    · rintro j ys1 news9 v I9 oI9 C9 oC9 D9 m₂ h8 tk8 E8 hj ⟨hs9, r, hr, hrs⟩ ⟨t9, rfl⟩ hC9 hx F8 N8 off8 ne8
      rw [Int.zero_add] at hx
      have mc9 := hs9 _ mc
      have mw9 := hs9 _ mw'
      have hR9 := hs9 _ hR'
      clear F6 N6
      refine hideG fun G9 hG9 => ?_
      obtain ⟨vj, hvj⟩ : ∃ vj, us[j]? = some vj := ⟨us[j], by simp [hj]⟩
      obtain ⟨tt, kt, hgt, rfl⟩ := hus.get hvj
      refine hG9.out ?_
      clear hG9 G9
      k_extra "gl"
      · refine ⟨?_⟩
        rename Fr _ _ _ _ => F9
        rename News _ _ _ _ => N9
        refine itemL (i := j) N9 (.tail _ (.tail _ (.tail _ hR9))) rfl (by omega) hvj ?_
        refine LCg.CompEnd.intro F9 N9 news9 (fun p hp => hp) off8 trivial ⟨hs9, r ++ [tt], hr.app (.cons .nil), ?_⟩
        rw [take_snoc hgt]; exact hrs.append (List.Sublist.refl _)
      · rename Fr _ _ _ _ => F9
        rename News _ _ _ _ => N9
        refine LCg.CompEnd.intro F9 N9 news9 (fun p hp => hp) off8 trivial ⟨hs9, r, hr, ?_⟩
        rw [take_snoc hgt]; exact hrs.trans (List.sublist_append_left _ _)
    · rintro ys1 news9 ⟨hs9, r, hr, hrs⟩ D9 h9 tk9 F9 N9 o9
      rw [hul, List.take_length] at hrs
      refine ⟨_, _, (D9, LCg.lst ys1) :: led0, rfl, F9, news_sub N9 fun p hp => ?_, fun p hp => ?_, .tail _ hD0, fun q hq => .tail _ (hs0 q hq), by simp [hvl], fun v hv => ?_⟩
      · rcases List.mem_cons.mp hp with rfl | hp
        · exact .tail _ (hs9 _ (.head _))
        rcases List.mem_cons.mp hp with rfl | hp
        · exact .tail _ (hs9 _ (.tail _ (.head _)))
        rcases List.mem_cons.mp hp with rfl | hp
        · exact .tail _ (hs9 _ (.tail _ (.tail _ (.head _))))
        rcases List.mem_cons.mp hp with rfl | hp
        · exact .tail _ (hs9 _ (.tail _ (.tail _ (.tail _ (.head _)))))
        rcases List.mem_cons.mp hp with rfl | hp
        · exact .head _
        · exact .tail _ (hs9 _ (.tail _ (.tail _ (.tail _ (.tail _ hp)))))
      · rcases List.mem_cons.mp hp with rfl | hp
        · exact ⟨(off1_mem o9 _ (hs9 _ (.head _))).symm, (off1_mem o9 _ (hs9 _ (.tail _ (.head _)))).symm, (off1_mem o9 _ (hs9 _ (.tail _ (.tail _ (.head _))))).symm, (off1_mem o9 _ (hs9 _ (.tail _ (.tail _ (.tail _ (.head _)))))).symm⟩
        · exact off p hp
      · rcases List.mem_append.mp hv with hv | hv
        ·
          refine hideG fun G9 hG9 => ?_
          obtain ⟨l1, us1, n1, r1, rfl, hm1, ht1, hs1, ho1⟩ := hvs v hv
          refine hG9.out ?_
          clear hG9 G9
          exact ⟨l1, us1, n1, r1, rfl, .tail _ hm1, ht1, hs1, ho1⟩
        · rw [List.mem_singleton.mp hv]
          exact ⟨D9, ys1, _, r, rfl, .head _, hr, hrs, fun q hq => off1_mem o9 _ (hs9 _ (.tail _ (.tail _ (.tail _ (.tail _ (hs0 q hq))))))⟩
  · rintro D vs hh tk led0 ⟨hs0, hvl, hvs⟩ F5 N5 offD
    rw [List.length_drop, hyl] at hvl
    refine hideG fun G9 hG9 => ?_
    obtain ⟨v1, v2, rfl⟩ : ∃ v1 v2, vs = [v1, v2] := by
      rcases vs with _ | ⟨v1, _ | ⟨v2, _ | ⟨v3, vs⟩⟩⟩
      · cases hvl
      · cases hvl
      · exact ⟨v1, v2, rfl⟩
      · simp at hvl
    obtain ⟨l1, us1, n1, r1, rfl, hm1, ht1, hs1, ho1⟩ := hvs v1 (by simp)
    obtain ⟨l2, us2, n2, r2, rfl, hm2, ht2, hs2, ho2⟩ := hvs v2 (by simp)
    refine hG9.out ?_
    clear hG9 G9
    clear F3 N3 F4 N4
    k_extra "gl"
    rename Fr _ _ _ _ => F6
    rename News _ _ _ _ => N6
    exact hQ _ _ _ _ l1 us1 n1 r1 l2 us2 n2 r2 F6 N6 (fun q hq => .tail _ (hs0 q hq)) (.tail _ hm1) ht1 hs1 (.tail _ hm2) ht2 hs2 (fun q hq => ⟨ho1 q hq, ho2 q hq⟩) rfl rfl

theorem fresh_P635_ne : True := by
  w_top off
  trivial
theorem ne_idxOf {α : Type} [BEq α] [LawfulBEq α] {a : α} : ∀ {l : List α} {j : Nat}, j < l.idxOf a → l[j]? ≠ some a
  | [], j, h => by simp
  | b :: l, j, h => by
    rw [List.idxOf_cons] at h
    cases hb : b == a with
    | true => rw [hb] at h; simp at h
    | false =>
      rw [hb] at h
      cases j with
      | zero => simp; exact fun q => by simp [q] at hb
      | succ j =>
        simp at h ⊢
        exact ne_idxOf h
section
variable {prog : Program} {w : World} {A : Around} {E : Value → Shared → Prop} {s : Shared} {κ : Bool} {h₀ : Heap} {L : Addr} {m : Str → Option Value} {led : Led} {l b : Addr} {vs us : List Value} {n k : Nat} {rs : List (List (List Nat))} {r r' : List (List Nat)}
open PySem.SeqAt
theorem neTxts {Q : Value → Shared → Prop} (N : News h₀ L s.heap led) (hl : (l, listOf us.toArray n) ∈ led) (hb : (b, listOf vs.toArray k) ∈ led)
    (hu : TxtsAre κ us r) (hv : TxtsAre κ vs r') (h1 : AscR r) (h2 : AscR r') (hA : A.units < cLine) (h : Q (.bool (!decide (r = r'))) s) : wpAny (model prog w) A (compareOp .NotEq (.ref l) (.ref b)) Q E s := by
  have il : s.heap.IsList l us.toArray := ⟨_, (N _ hl).1, rfl, n, rfl⟩
  have ib : s.heap.IsList b vs.toArray := ⟨_, (N _ hb).1, rfl, k, rfl⟩
  by_cases hs : us.toArray.size = vs.toArray.size
  · obtain ⟨q1, q2⟩ := row_eq (A := A.in1) (s := s) hu hv h1 h2 hs
    refine RcNeAt.lists il ib hs hA q1 prog w E Q ?_
    rw [q2]; exact h
  · have : r ≠ r' := fun z => hs (by subst z; simp [hu.length, hv.length])
    rw [decide_eq_false this] at h
    exact RcNeAt.lists_lengths il ib (by simpa using hs) hA prog w E Q h
theorem eqTxts {Q : Value → Shared → Prop} (N : News h₀ L s.heap led) (hl : (l, listOf us.toArray n) ∈ led) (hb : (b, listOf vs.toArray k) ∈ led)
    (hu : TxtsAre κ us r) (hv : TxtsAre κ vs r') (h1 : AscR r) (h2 : AscR r') (hA : A.units < cLine) (h : Q (.bool (decide (r = r'))) s) : wpAny (model prog w) A (compareOp .Eq (.ref l) (.ref b)) Q E s := by
  have il : s.heap.IsList l us.toArray := ⟨_, (N _ hl).1, rfl, n, rfl⟩
  have ib : s.heap.IsList b vs.toArray := ⟨_, (N _ hb).1, rfl, k, rfl⟩
  by_cases hs : us.toArray.size = vs.toArray.size
  · obtain ⟨q1, q2⟩ := row_eq (A := A.in1) (s := s) hu hv h1 h2 hs
    refine RcAt.lists il ib hs hA q1 prog w E Q ?_
    rw [q2]; exact h
  · have : r ≠ r' := fun z => hs (by subst z; simp [hu.length, hv.length])
    rw [decide_eq_false this] at h
    exact RcAt.lists_lengths il ib (by simpa using hs) hA prog w E Q h
theorem indexG {x : Value} (e : Value → Bool) (j : Nat) {Q : Value → Shared → Prop} (N : News h₀ L s.heap led) (hl : (l, listOf vs.toArray n) ∈ led) (hj : j < vs.length) (hsm : vs.length ≤ 1000000) (hit : ∀ v, vs[j]? = some v → e v = true) (hno : ∀ i v, i < j → vs[i]? = some v → e v = false)
    (he : ∀ v ∈ vs, EqAt A.in1 s v x (e v)) (h : Q (.int (j : Nat) s.toks) { s with toks := s.toks + 1 }) : wpAny (model prog w) A (call (.builtin "list.index") [.ref l, x]) Q E s := by
  have ho := (N _ hl).1
  refine call_meets PySem.F.slot_list_index ⟨_, ho, rfl⟩ PySem.F.entry_list_index (PySem.F.args_list_index_2 _ _)
    (list_indexAt l vs.toArray n none #[] x e j (by simpa using hj) (by omega) ?_ ?_) ⟨ho, fun y hy => he y (by simpa using hy), h⟩
  · exact hit _ (by simp [hj])
  · intro i hi hlt
    have hi' : i < vs.length := by simpa using hi
    exact hno i _ hlt (by simp [hi'])
theorem indexRows {Q : Value → Shared → Prop} (N : News h₀ L s.heap led) (hl : (l, listOf vs.toArray n) ∈ led) (hr : RowsIn κ led vs rs) (ha : ∀ r ∈ rs, AscR r) (hb : (b, listOf us.toArray k) ∈ led) (hu : TxtsAre κ us r) (h1 : AscR r) (hm : r ∈ rs) (hsm : vs.length ≤ 1000000) (hA : A.units + 4 < cLine)
    (h : Q (.int (rs.idxOf r : Nat) s.toks) { s with toks := s.toks + 1 }) : wpAny (model prog w) A (call (.builtin "list.index") [.ref l, .ref b]) Q E s := by
  have hj : rs.idxOf r < rs.length := List.idxOf_lt_length_iff.mpr hm
  have hlen := hr.length
  refine indexG (likeRow κ led r) (rs.idxOf r) N hl (by omega) hsm ?_ ?_ ?_ h
  · intro v hv
    obtain ⟨r', g, e, _⟩ := like_row (A := { handled := none, depth := 0, frames := none, guards := none, units := 0 }) N hr ha h1 hv
    rw [e]
    have : r' = r := by
      rw [List.getElem?_eq_getElem hj, List.getElem_idxOf hj] at g
      exact (Option.some.inj g).symm
    exact decide_eq_true this
  · intro i v hi hv
    obtain ⟨r', g, e, _⟩ := like_row (A := { handled := none, depth := 0, frames := none, guards := none, units := 0 }) N hr ha h1 hv
    rw [e]
    refine decide_eq_false fun q => ?_
    subst q
    exact ne_idxOf hi g
  · intro v hv
    obtain ⟨i, hi, rfl⟩ := List.getElem_of_mem hv
    obtain ⟨r', g, e', q⟩ := like_row (A := A.in1) N hr ha h1 (List.getElem?_eq_getElem hi)
    exact q b us k hb hu (by show A.units + 1 < cLine; omega)
end
section
/-- which of these values is this text -/
noncomputable def likeTxt (κ : Bool) (t : List Nat) (v : Value) : Bool := match κ, v with
  | false, .str x _ => x == ⟨t.toArray⟩
  | true, .bytes b _ => b.toList == t.map UInt8.ofNat
  | _, _ => false
theorem likeTxt_eq (κ : Bool) {t u : List Nat} (ht : Asc t) (hu : Asc u) (k : Tok) : likeTxt κ t (txt κ u k) = decide (u = t) := by
  cases κ
  · rw [Bool.eq_iff_iff, decide_eq_true_iff]
    show ((⟨u.toArray⟩ : Str) == ⟨t.toArray⟩) = true ↔ _
    rw [beq_iff_eq]
    exact ⟨fun q => by have := congrArg (fun x : Str => x.cps.toList) q; simpa using this, fun q => by rw [q]⟩
  · rw [Bool.eq_iff_iff, decide_eq_true_iff]
    show (u.map UInt8.ofNat == t.map UInt8.ofNat) = true ↔ _
    rw [beq_iff_eq]
    exact u8_inj hu ht
variable {prog : Program} {w : World} {A : Around} {E : Value → Shared → Prop} {s : Shared} {κ : Bool} {h₀ : Heap} {L : Addr} {led : Led} {l : Addr} {us : List Value} {n : Nat} {r : List (List Nat)} {t : List Nat} {k : Tok}
theorem indexTxts {Q : Value → Shared → Prop} (N : News h₀ L s.heap led) (hl : (l, listOf us.toArray n) ∈ led) (hu : TxtsAre κ us r) (h1 : AscR r) (ht : Asc t) (hm : t ∈ r) (hsm : us.length ≤ 1000000)
    (h : Q (.int (r.idxOf t : Nat) s.toks) { s with toks := s.toks + 1 }) : wpAny (model prog w) A (call (.builtin "list.index") [.ref l, txt κ t k]) Q E s := by
  have hj : r.idxOf t < r.length := List.idxOf_lt_length_iff.mpr hm
  have hlen := hu.length
  refine indexG (likeTxt κ t) (r.idxOf t) N hl (by omega) hsm ?_ ?_ ?_ h
  · intro v hv
    obtain ⟨t', k', g, rfl⟩ := hu.get hv
    rw [likeTxt_eq κ ht (h1 t' (List.mem_of_getElem? g))]
    rw [List.getElem?_eq_getElem hj, List.getElem_idxOf hj] at g
    exact decide_eq_true (Option.some.inj g).symm
  · intro i v hi hv
    obtain ⟨t', k', g, rfl⟩ := hu.get hv
    rw [likeTxt_eq κ ht (h1 t' (List.mem_of_getElem? g))]
    refine decide_eq_false fun q => ?_
    subst q
    exact ne_idxOf hi g
  · intro v hv
    obtain ⟨i, hi, rfl⟩ := List.getElem_of_mem hv
    obtain ⟨t', k', g, e⟩ := hu.get (List.getElem?_eq_getElem hi)
    have ha := h1 t' (List.mem_of_getElem? g)
    rw [e, likeTxt_eq κ ht ha]
    exact eqAt_txt ha ht
end
/-- all choices, those that come of the row by leaving names out -/
theorem mem_pw_aux : ∀ (row : List (List Nat)) (acc : List (List (List Nat))) (c : List (List Nat)), c ∈ row.foldl (fun cs n => cs ++ cs.map (· ++ [n])) acc ↔ ∃ a ∈ acc, ∃ b, b.Sublist row ∧ c = a ++ b
  | [], acc, c => by simp
  | n :: row, acc, c => by
    rw [List.foldl_cons, mem_pw_aux row]
    constructor
    · rintro ⟨a, ha, b, hb, rfl⟩
      rcases List.mem_append.mp ha with q | q
      · exact ⟨a, q, b, hb.cons _, rfl⟩
      · obtain ⟨a0, q0, rfl⟩ := List.mem_map.mp q
        exact ⟨a0, q0, n :: b, hb.cons_cons _, by simp⟩
    · rintro ⟨a, ha, b, hb, rfl⟩
      cases hb with
      | cons _ hb => exact ⟨a, List.mem_append_left _ ha, b, hb, rfl⟩
      | cons_cons _ hb => exact ⟨a ++ [n], List.mem_append_right _ (List.mem_map.mpr ⟨a, ha, rfl⟩), _, hb, by simp⟩
theorem mem_pw {row c : List (List Nat)} : c ∈ pw row ↔ c.Sublist row := by
  unfold pw
  rw [mem_pw_aux]
  constructor
  · rintro ⟨a, ha, b, hb, rfl⟩
    rw [List.mem_singleton.mp ha]; exact hb
  · exact fun h => ⟨[], by simp, c, h, rfl⟩
theorem mem_dis (cs : List (List (List Nat))) : ∀ k, ∀ c, c ∈ dis cs k ↔ c ∈ cs.take k
  | 0, c => by simp [dis]
  | k + 1, c => by
    unfold dis
    cases hk : cs[k]? with
    | none =>
      have hl := List.getElem?_eq_none_iff.mp hk
      rw [mem_dis cs k, List.take_of_length_le hl, List.take_of_length_le (by omega)]
    | some x =>
      rw [take_snoc hk]
      dsimp only
      split
      · rename_i hx
        rw [mem_dis cs k, List.mem_append, List.mem_singleton]
        exact ⟨.inl, fun q => q.elim id fun e => e ▸ hx⟩
      · rw [List.mem_append, List.mem_append, mem_dis cs k]
theorem mem_choices {row c : List (List Nat)} : c ∈ choices row ↔ c.Sublist row := by
  unfold choices
  rw [mem_dis, List.take_length, mem_pw]
theorem dis_nodup (cs : List (List (List Nat))) : ∀ k, (dis cs k).Nodup
  | 0 => .nil
  | k + 1 => by
    unfold dis
    split
    · split
      · exact dis_nodup cs k
      · rename_i hx
        rw [List.nodup_append]
        refine ⟨dis_nodup cs k, by simp, fun a ha b hb => ?_⟩
        rw [List.mem_singleton.mp hb]
        intro e
        exact hx ((mem_dis cs k _).mp (e ▸ ha))
    · exact dis_nodup cs k
theorem choices_nodup (row : List (List Nat)) : (choices row).Nodup := dis_nodup _ _
theorem comp_sub3 {α : Type} {a b c d e f : α} {l : List α} : ∀ p ∈ a :: b :: c :: d :: e :: f :: l, p ∈ d :: e :: f :: a :: b :: c :: l := by
  intro p hp
  simp only [List.mem_cons] at hp ⊢
  rcases hp with h | h | h | h | h | h | h <;> simp [h]
/-- a thing made later is none of the three -/
theorem off3_of {I Cc Dc D' : Nat} {oI oC oD : Obj} {led : Led} (h : ∀ p ∈ led, p.1 < D') (h1 : ((I, oI) : Addr × Obj) ∈ led) (h2 : ((Cc, oC) : Addr × Obj) ∈ led) (h3 : ((Dc, oD) : Addr × Obj) ∈ led) : (@Ne Nat D' I) ∧ (@Ne Nat D' Cc) ∧ (@Ne Nat D' Dc) :=
  ⟨Nat.ne_of_gt (h _ h1), Nat.ne_of_gt (h _ h2), Nat.ne_of_gt (h _ h3)⟩
theorem cuts_asc {r : List (List Nat)} (h : RowOk r) : AscR (cuts r) := fun t ht => by
  obtain ⟨i, _, rfl⟩ := List.mem_map.mp ht
  exact (h.sub (List.eraseIdx_sublist r i)).path.asc
theorem lw45_all : True := by
  k_with "L getAttr ref" => ((with_reducible show wpAny _ _ (getAttr (Value.ref _) (Str.ofString "add") true) _ _ _); refine Box.out ?_)
  trivial

theorem fresh_P63_law4 : True := by
  w_top off
  trivial
theorem law_p4 (w : World) (body : List Stmt) (scope : Scope) (cdv : Addr × Value) (hL : LawAt w body scope) (loose : List Str) (mean : ExcName → Option Value) (mg mb : Str → Option Value) (base g : Heap) (L : Addr) (m : Str → Option Value) (led : Led) (s : Shared) (l1 l2 lR : Addr) (κ : Bool) (Φ : NodeFn) (nr : Nat) (us : List Value) (rw : List (List Nat)) (ko : Tok) (vs vn : Option Value) (Q : Flow → Shared → Prop)
    (C : LCx w loose mean mg mb base g) (F : Fr g L s.heap m) (N : News g L s.heap led) (K : LCe led L vs vn (some (txt κ [47] ko)) (some (.ref lR)) none none none none) (hR : (lR, listOf us.toArray nr) ∈ led) (hus : TxtsAre κ us rw) (hok : RowOk rw) (hv1 : m (Str.ofString "first") = some (.ref l1)) (hv2 : m (Str.ofString "second") = some (.ref l2))
    (hQ : ∀ h' tk m' led' kl S di D lW vW nW lP uP nP, Fr g L h' m' → News g L h' led' → (∀ q ∈ kl, q ∈ led' ∧ ¬ Adr S di D [] q.1) → LCe kl L vs vn (some (txt κ [47] ko)) (some (.ref lR)) (some (.ref lW)) (some (.ref lP)) none none → (∀ q ∈ led, ¬ isLC L q.1 → q ∈ kl) → (lW, listOf vW.toArray nW) ∈ kl → RowsIn κ kl vW (choices rw) → (lP, listOf uP.toArray nP) ∈ kl → TxtsAre κ uP ((choices rw).map (pth [47])) →
      (∀ a us n, (a, listOf us n) ∈ kl → @Ne Nat a (L + 1 + 1 + 1 + 1 + 1 + 1 + 1) ∧ @Ne Nat a (L + 1 + 1 + 1 + 1 + 1 + 1 + 1 + 1)) → SrtIn w κ Φ led' S di D [] .none 0 0 → m' (Str.ofString "sorter") = some (.ref S) → m' (Str.ofString "first") = some (.ref l1) → m' (Str.ofString "second") = some (.ref l2) → Q .next { s with heap := h', toks := tk }) :
    wpAny (model PySem.Challenge.rw_op0160_01.row.prog w) (callerA.deeper (lawE scope L cdv)) (execs ((body.drop 5).take 3) (lawE scope L cdv)) Q (fun _ _ => False) s := by
  have X := C.X
  revert X
  k_fill
  intro X
  refine' hL.at (P := fun body scope cdv => wpAny (model PySem.Challenge.rw_op0160_01.row.prog w) (callerA.deeper (lawE scope L cdv)) (execs ((body.drop 5).take 3) (lawE scope L cdv)) Q (fun _ _ => False) s) ?hc ?_
  (case hc => k_is)
  dsimp only [List.take, List.drop]
  refine hideG fun G9 hG9 => ?_
  obtain ⟨B, _, P, HB, KD⟩ := C
  have hul := hus.length
  have hrl := hok.len
  obtain ⟨oR, mR, dR⟩ := id K.w
  refine hG9.out ?_
  clear hG9 G9
  k_extra "gl"
  refine Fn.use (choices_fn w κ rw lR us nr led hR hus hrl fun t ht => (hok.nm t ht).asc) rfl B F X N P rfl rfl (Nat.le_of_ble_eq_true rfl) (Nat.le_of_ble_eq_true rfl) ?_
  rintro v h1 tk1 led1 F1 N1 hp9z
  refine hideG fun G9 hG9 => ?_
  obtain ⟨lW, vW, nW, rfl, hW, hrows, hs1⟩ := hp9z
  refine hG9.out ?_
  clear hG9 G9
  clear F N
  k_extra "gl"
  refine ⟨?_⟩
  have K1 := K.sub hs1
  refine storeC F1 N1 K1.r rfl ?_ rfl rfl
  intro h2 led2 F2 N2 c2 k2
  have K2 := K1.set_r k2 c2
  have hW2 := mem_keep N1 K1.r k2 hW list_cell
  have hrows2 := hrows.kept N1 K1.r k2 (fun _ _ => list_cell)
  have off2 : ∀ q ∈ led, ¬ isLC L q.1 → q ∈ led2 := fun q hq hn => k2 q (hs1 q hq) fun e => hn (e ▸ (isLC_all L).2.2.2.2.1)
  clear F1 N1 hrows hW
  k_extra "gl"
  refine LCg.ListComp_U (F₀ := F2) (by with_unfolding_all rfl) (by decide) (by rfl) (by decide) (by rfl) ?_
  k_extra "gl"
  have hvl := hrows2.length
  have hcl := choices_len hrl
  refine LCg.CompSrc.ledger rfl F2 N2 hW2 ?_ fun g' => compRest_of (fun j ys led' => (∀ p ∈ led2, p ∈ led') ∧ TxtsAre κ ys (((choices rw).map (pth [47])).take j)) (n := vW.length) ?_ ?_ _ 0 [] led2 ?_ ⟨fun p hp => hp, .nil⟩
  · rw [List.size_toArray, sizeLine_eq]; omega
  · rintro j ys news9 v I oI Cc oC Dc m₂ h8 tk8 E' hj ⟨hs9, hr9⟩ hP hC hx F8 N8 off ne
    refine wp_hide fun Qe hQe => ?_
    refine hideG fun G9 hG9 => ?_
    obtain ⟨ac, uc, nc, rc, rfl, hac, huc, hrc⟩ := hrows2.get (by simpa using hP)
    have hrk : RowOk rc := hok.choices (List.mem_of_getElem? hrc)
    have hbl := hrk.bod_len
    obtain ⟨oo, mo, do_⟩ := id K2.o
    refine hG9.out ?_
    clear hG9 G9
    have mo' := hs9 _ mo
    have hac' := hs9 _ hac
    clear F2 N2
    k_extra "gl"
    refine Fn.use (path_fn w κ [47] ko ac uc nc rc _ (.tail _ (.tail _ (.tail _ hac'))) huc (by rw [pth_bod]; simp; omega)) rfl B F8 X N8 P rfl rfl (Nat.le_of_ble_eq_true rfl) (Nat.le_of_ble_eq_true rfl) ?_
    intro v h1 tk1 led1 F1 N1 hp9z
    refine hideG fun G9 hG9 => ?_
    obtain ⟨rfl, kp, rfl⟩ := hp9z
    refine hG9.out ?_
    clear hG9 G9
    refine hQe.out _ _ ?_
    refine LCg.CompEnd.intro F1 N1 news9 (fun p hp => hp) off (.inr ⟨_, hs9 _ hW2, rfl, _, rfl⟩) ⟨hs9, ?_⟩
    rw [take_snoc (a := pth [47] rc) (by rw [List.getElem?_map, hrc]; rfl)]
    exact hr9.app (.cons .nil)
  · rintro ys news9 ⟨hs9, hr9⟩ D9 h9 tk9 F9 N9 o9
    k_extra "gl"
    refine ⟨?_⟩
    have K9 := (K2.sub hs9).sub (led' := (D9, LCg.lst ys) :: news9) fun q hq => .tail _ hq
    refine storeC F9 N9 K9.p rfl ?_ rfl rfl
    intro h3 led3 F3 N3 c3 k3
    have K3 := K9.set_p k3 c3
    have hD3 : (D9, listOf ys.toArray _) ∈ led3 := mem_keep N9 K9.p k3 (.head _) list_cell
    have hW3 := mem_keep N9 K9.p k3 (.tail _ (hs9 _ hW2)) list_cell
    have hrows3 := (hrows2.sub fun q hq => .tail _ (hs9 q hq)).kept N9 K9.p k3 (fun _ _ => list_cell)
    have off3 : ∀ q ∈ led, ¬ isLC L q.1 → q ∈ led3 := fun q hq hn => k3 q (.tail _ (hs9 q (off2 q hq hn))) fun e => hn (e ▸ (isLC_all L).2.2.2.2.2.1)
    rw [hvl, List.take_of_length_le (by rw [List.length_map]; omega)] at hr9
    clear F2 N2 F9 N9
    k_extra "gl"
    refine Fn.make (by k_is) (by k_is) (by k_is) (fun x dx l1 l2 => sorter_init w κ Φ x dx led3 l1 l2) rfl B F3 X N3 P rfl rfl (Nat.le_of_ble_eq_true rfl) (Nat.le_of_ble_eq_true rfl) ?_
    intro S di h4 tk4 led4 F4 N4 ld lS hp9z
    refine hideG fun G9 hG9 => ?_
    obtain ⟨D, H, hk, lD⟩ := hp9z
    refine hG9.out ?_
    clear hG9 G9
    have hap : ∀ a us n, (a, listOf us n) ∈ led3 → @Ne Nat a (L + 1 + 1 + 1 + 1 + 1 + 1 + 1) ∧ @Ne Nat a (L + 1 + 1 + 1 + 1 + 1 + 1 + 1 + 1) := fun a us n hm => ⟨ob_ne N3 K3.t hm list_cell, ob_ne N3 K3.c hm list_cell⟩
    k_extra "gl"
    rename Fr _ _ _ _ => F5
    rename News _ _ _ _ => N5
    refine hQ _ _ _ led4 led3 S di D lW vW nW D9 ys _ F5 N5 (fun q hq => ⟨hk q hq, ?_⟩) K3 off3 hW3 hrows3 hD3 hr9 hap H rfl hv1 hv2
    have h1 := ld q hq
    rintro (e | e | e | ⟨c, hc, _⟩)
    · exact absurd e (Nat.ne_of_lt (Nat.lt_trans h1 lS))
    · exact absurd e (Nat.ne_of_lt h1)
    · exact absurd e (Nat.ne_of_lt (Nat.lt_trans h1 (Nat.lt_trans lS lD)))
    · cases hc
  · simp

theorem fresh_P64_hold : True := by
  w_top off
  trivial
noncomputable abbrev tC (L : Nat) : Nat := L + 1 + 1 + 1 + 1 + 1 + 1 + 1
noncomputable abbrev cC (L : Nat) : Nat := L + 1 + 1 + 1 + 1 + 1 + 1 + 1 + 1
set_option genInjectivity false in
set_option genSizeOf false in
/-- what stays to the law's end -/
structure LD (L : Addr) where
  κ : Bool
  Φ : NodeFn
  kl : Led
  l1 : Addr
  l2 : Addr
  lR : Addr
  lW : Addr
  lP : Addr
  vs : Option Value
  vn : Option Value
  ko : Tok
  vW : List Value
  nW : Nat
  uP : List Value
  nP : Nat
  us1 : List Value
  n1 : Nat
  us2 : List Value
  n2 : Nat
  rw : List (List Nat)
  r1 : List (List Nat)
  r2 : List (List Nat)
  apart : ∀ a us n, (a, listOf us n) ∈ kl → @Ne Nat a (tC L) ∧ @Ne Nat a (cC L)
  K : LCe kl L vs vn (some (txt κ [47] ko)) (some (.ref lR)) (some (.ref lW)) (some (.ref lP)) none none
  hW : (lW, listOf vW.toArray nW) ∈ kl
  rows : RowsIn κ kl vW (choices rw)
  hP : (lP, listOf uP.toArray nP) ∈ kl
  paths : TxtsAre κ uP ((choices rw).map fun r => 47 :: bod r)
  h1 : (l1, listOf us1.toArray n1) ∈ kl
  t1 : TxtsAre κ us1 r1
  s1 : r1.Sublist rw
  h2 : (l2, listOf us2.toArray n2) ∈ kl
  t2 : TxtsAre κ us2 r2
  s2 : r2.Sublist rw
  ok : RowOk rw
  phi : ∀ t r, (choices rw)[t]? = some r → Φ.f t = 47 :: bod r
  tab : ((170 : Addr), tabObj #[]) ∈ kl
  ntab : @Ne Nat 170 (tC L) ∧ @Ne Nat 170 (cC L)
/-- it still stands -/
structure LH {L : Addr} (X : LD L) (led : Led) (S di D : Addr) (cs : List CE) : Prop where
  kp : ∀ q ∈ X.kl, ¬ Adr S di D cs q.1 ∧ (@Ne Nat q.1 (tC L) → @Ne Nat q.1 (cC L) → q ∈ led)
  ct : ∃ vt, Ob led (tC L) (IsCell vt)
  cc : ∃ vc, Ob led (cC L) (IsCell vc)
theorem LH.notc {L : Addr} {X : LD L} {led : Led} {S di D : Addr} {cs : List CE} (h : LH X led S di D cs) : ¬ Adr S di D cs (tC L) ∧ ¬ Adr S di D cs (cC L) :=
  ⟨let ⟨_, m, _⟩ := X.K.t; (h.kp _ m).1, let ⟨_, m, _⟩ := X.K.c; (h.kp _ m).1⟩
theorem LH.keep {L : Addr} {X : LD L} {led led' : Led} {S di D : Addr} {cs : List CE} (h : LH X led S di D cs) (hk : ∀ q ∈ led, ¬ Adr S di D cs q.1 → q ∈ led') : LH X led' S di D cs where
  kp q hq := ⟨(h.kp q hq).1, fun a b => hk q ((h.kp q hq).2 a b) (h.kp q hq).1⟩
  ct := let ⟨v, o, m, c⟩ := h.ct; ⟨v, o, hk _ m h.notc.1, c⟩
  cc := let ⟨v, o, m, c⟩ := h.cc; ⟨v, o, hk _ m h.notc.2, c⟩
theorem LH.sub {L : Addr} {X : LD L} {led led' : Led} {S di D : Addr} {cs : List CE} (h : LH X led S di D cs) (hk : ∀ q ∈ led, q ∈ led') : LH X led' S di D cs := h.keep fun q hq _ => hk q hq
theorem LH.kept {L : Addr} {X : LD L} {led led' : Led} {S di D : Addr} {cs cs' : List CE} (h : LH X led S di D cs) (hk : Kept S di D cs cs' led led') : LH X led' S di D cs' where
  kp q hq := ⟨by
    by_cases e : @Eq Nat q.1 (tC L)
    · obtain ⟨v, o, m, c⟩ := h.ct
      rw [e]; exact (hk _ m h.notc.1).2
    by_cases e2 : @Eq Nat q.1 (cC L)
    · obtain ⟨v, o, m, c⟩ := h.cc
      rw [e2]; exact (hk _ m h.notc.2).2
    exact (hk q ((h.kp q hq).2 e e2) (h.kp q hq).1).2, fun a b => (hk q ((h.kp q hq).2 a b) (h.kp q hq).1).1⟩
  ct := let ⟨v, o, m, c⟩ := h.ct; ⟨v, o, (hk _ m h.notc.1).1, c⟩
  cc := let ⟨v, o, m, c⟩ := h.cc; ⟨v, o, (hk _ m h.notc.2).1, c⟩
/-- the cell of t has a new thing -/
theorem LH.setT {L : Addr} {X : LD L} {led led' : Led} {S di D : Addr} {cs : List CE} {v : Value} (h : LH X led S di D cs) (hk : ∀ q ∈ led, @Ne Nat q.1 (tC L) → q ∈ led') (hc : Ob led' (tC L) (IsCell (some v))) : LH X led' S di D cs where
  kp q hq := ⟨(h.kp q hq).1, fun a b => hk q ((h.kp q hq).2 a b) a⟩
  ct := ⟨_, hc⟩
  cc := let ⟨v, o, m, c⟩ := h.cc; ⟨v, o, hk _ m (by show cC L ≠ tC L; simp [cC, tC]), c⟩
/-- what a path is shortened to, by number -/
noncomputable def psR (rws : List (List (List Nat))) (t : Nat) : List Nat := match rws[t]? with
  | some r => (List.range r.length).map fun k => rws.idxOf (r.eraseIdx k)
  | none => []
/-- what the sorter is told, from the last on -/
noncomputable def addAll (ps : Nat → List Nat) (n : Nat) : Nat → List Ent
  | 0 => []
  | i + 1 => addE (addAll ps n i) (n - 1 - i) (ps (n - 1 - i))
theorem LD.cell {L : Addr} (X : LD L) {a : Addr} {v : Option Value} {led : Led} {S di D : Addr} {cs : List CE} (h : LH X led S di D cs) (hc : Ob X.kl a (IsCell v)) (n1 : @Ne Nat a (tC L)) (n2 : @Ne Nat a (cC L)) : Ob led a (IsCell v) :=
  let ⟨o, m, c⟩ := hc; ⟨o, (h.kp _ m).2 n1 n2, c⟩
theorem LH.list {L : Addr} {X : LD L} {led : Led} {S di D : Addr} {cs : List CE} (h : LH X led S di D cs) {a : Addr} {us : Array Value} {n : Nat} (hm : (a, listOf us n) ∈ X.kl) : (a, listOf us n) ∈ led :=
  (h.kp _ hm).2 (X.apart _ _ _ hm).1 (X.apart _ _ _ hm).2
theorem LH.rows {L : Addr} {X : LD L} {led : Led} {S di D : Addr} {cs : List CE} (h : LH X led S di D cs) : RowsIn X.κ led X.vW (choices X.rw) := X.rows.keep fun _ _ _ hm => h.list hm
theorem LH.cr {L : Addr} {X : LD L} {led : Led} {S di D : Addr} {cs : List CE} (h : LH X led S di D cs) : Ob led (L + 1 + 1 + 1 + 1 + 1) (IsCell (some (.ref X.lW))) := X.cell h X.K.r (by show @Ne Nat (L + 1 + 1 + 1 + 1 + 1) _; simp [tC]) (by show @Ne Nat (L + 1 + 1 + 1 + 1 + 1) _; simp [cC])
theorem LH.cp {L : Addr} {X : LD L} {led : Led} {S di D : Addr} {cs : List CE} (h : LH X led S di D cs) : Ob led (L + 1 + 1 + 1 + 1 + 1 + 1) (IsCell (some (.ref X.lP))) := X.cell h X.K.p (by show @Ne Nat (L + 1 + 1 + 1 + 1 + 1 + 1) _; simp [tC]) (by show @Ne Nat (L + 1 + 1 + 1 + 1 + 1 + 1) _; simp [cC])
theorem LH.co {L : Addr} {X : LD L} {led : Led} {S di D : Addr} {cs : List CE} (h : LH X led S di D cs) : Ob led (L + 1 + 1 + 1) (IsCell (some (txt X.κ [47] X.ko))) := X.cell h X.K.o (by show @Ne Nat (L + 1 + 1 + 1) _; simp [tC]) (by show @Ne Nat (L + 1 + 1 + 1) _; simp [cC])
theorem LH.has {L : Addr} {X : LD L} {led : Led} {S di D : Addr} {cs : List CE} (h : LH X led S di D cs) (q : Addr × Obj) (hq : q ∈ X.kl) : ∃ o, (q.1, o) ∈ led := by
  by_cases e : @Eq Nat q.1 (tC L)
  · obtain ⟨v, o, m, c⟩ := h.ct
    exact ⟨o, e ▸ m⟩
  by_cases e2 : @Eq Nat q.1 (cC L)
  · obtain ⟨v, o, m, c⟩ := h.cc
    exact ⟨o, e2 ▸ m⟩
  exact ⟨q.2, (h.kp q hq).2 e e2⟩
theorem LH.tb {L : Addr} {X : LD L} {led : Led} {S di D : Addr} {cs : List CE} (h : LH X led S di D cs) : ((170 : Addr), tabObj #[]) ∈ led ∧ ¬ Adr S di D cs 170 := ⟨(h.kp _ X.tab).2 X.ntab.1 X.ntab.2, (h.kp _ X.tab).1⟩
theorem LH.lt {L : Addr} {X : LD L} {led : Led} {S di D : Addr} {cs : List CE} (h : LH X led S di D cs) {I : Addr} (hI : ∀ p ∈ led, p.1 < I) : ∀ q ∈ X.kl, q.1 ≠ I := fun q hq =>
  let ⟨o, m⟩ := h.has q hq; Nat.ne_of_lt (hI (q.1, o) m)
theorem LH.less {L : Addr} {X : LD L} {led led' : Led} {S di D : Addr} {cs : List CE} (h : LH X led S di D cs) {I : Addr} (hI : ∀ q ∈ X.kl, q.1 ≠ I) (hk : ∀ q ∈ led, q.1 ≠ I → q ∈ led') : LH X led' S di D cs where
  kp q hq := ⟨(h.kp q hq).1, fun a b => hk q ((h.kp q hq).2 a b) (hI q hq)⟩
  ct := by
    obtain ⟨v, o, m, c⟩ := h.ct
    obtain ⟨o2, mk, _⟩ := id X.K.t
    have h1 := hI _ mk
    exact ⟨v, o, hk _ m h1, c⟩
  cc := by
    obtain ⟨v, o, m, c⟩ := h.cc
    obtain ⟨o2, mk, _⟩ := id X.K.c
    have h1 := hI _ mk
    exact ⟨v, o, hk _ m h1, c⟩
theorem SrtIn.less {w : World} {κ : Bool} {Φ : NodeFn} {led led' : Led} {S di D : Addr} {cs : List CE} {vR : Value} {p f : Int} (H : SrtIn w κ Φ led S di D cs vR p f) {I : Addr} (hI : ¬ Adr S di D cs I) (hk : ∀ q ∈ led, q.1 ≠ I → q ∈ led') : SrtIn w κ Φ led' S di D cs vR p f :=
  H.keep fun q hq ha => hk q hq fun e => hI (e ▸ ha)
theorem LD.cuts {L : Addr} (X : LD L) {j : Nat} {r : List (List Nat)} (h : (choices X.rw)[j]? = some r) : (psR (choices X.rw) j).map X.Φ.f = Mine.cuts r := by
  unfold psR Mine.cuts
  rw [h]
  dsimp only
  rw [List.map_map]
  refine List.map_congr_left fun k _ => ?_
  have hme : r.eraseIdx k ∈ choices X.rw := mem_choices.mpr ((List.eraseIdx_sublist r k).trans (mem_choices.mp (List.mem_of_getElem? h)))
  have hij := List.idxOf_lt_length_iff.mpr hme
  exact X.phi _ _ (by rw [List.getElem?_eq_getElem hij, List.getElem_idxOf hij])
theorem psR_len {rws : List (List (List Nat))} {j : Nat} {r : List (List Nat)} (h : rws[j]? = some r) : (psR rws j).length = r.length := by
  unfold psR; rw [h]; simp

theorem fresh_P65_law5 : True := by
  w_top off
  trivial
inductive L5I (w : World) (g : Heap) (L : Addr) (X : LD L) (S : Addr) (di : Addr) (D : Addr) (IT : Addr) (s : Shared) (n' : Nat) (s' : Shared) : Prop
  | mk (i : Nat) (h' : Heap) (tk' : Nat) (m' : Str → Option Value) (led : Led) (cs : List CE)
      (e1 : n' = X.vW.length - i) (e2 : i ≤ X.vW.length) (e3 : s' = { s with heap := h', toks := tk' }) (e4 : Fr g L h' m') (e5 : News g L h' led) (e6 : Ob led IT (IsRIt ((X.vW.length : Int) - 1 - (i : Int)) ((X.vW.length : Int) - (i : Int)) (-1))) (e7 : ¬ Adr S di D cs IT) (e8 : LH X led S di D cs) (e9 : SrtIn w X.κ X.Φ led S di D cs .none 0 0) (e10 : cs.map (·.e) = addAll (psR (choices X.rw)) (choices X.rw).length i) (e11 : cs.length ≤ 5 * i) (e12 : SuLe (cs.map (·.e)) (4 * i)) (e13 : m' (Str.ofString "first") = some (.ref X.l1)) (e14 : m' (Str.ofString "second") = some (.ref X.l2)) (e15 : m' (Str.ofString "sorter") = some (.ref S))
theorem law_p5 (w : World) (body : List Stmt) (scope : Scope) (cdv : Addr × Value) (hL : LawAt w body scope) (loose : List Str) (mean : ExcName → Option Value) (mg mb : Str → Option Value) (base g : Heap) (L : Addr) (m : Str → Option Value) (led : Led) (s : Shared) (X : LD L) (S di D : Addr) (Q : Flow → Shared → Prop)
    (C : LCx w loose mean mg mb base g) (F : Fr g L s.heap m) (N : News g L s.heap led) (H : LH X led S di D []) (HS : SrtIn w X.κ X.Φ led S di D [] .none 0 0) (hv1 : m (Str.ofString "first") = some (.ref X.l1)) (hv2 : m (Str.ofString "second") = some (.ref X.l2)) (hv3 : m (Str.ofString "sorter") = some (.ref S))
    (hQ : ∀ h' tk m' led' cs, Fr g L h' m' → News g L h' led' → LH X led' S di D cs → SrtIn w X.κ X.Φ led' S di D cs .none 0 0 → cs.map (·.e) = addAll (psR (choices X.rw)) (choices X.rw).length (choices X.rw).length → cs.length ≤ 80 → SuLe (cs.map (·.e)) 64 → m' (Str.ofString "first") = some (.ref X.l1) → m' (Str.ofString "second") = some (.ref X.l2) → m' (Str.ofString "sorter") = some (.ref S) → Q .next { s with heap := h', toks := tk }) :
    wpAny (model PySem.Challenge.rw_op0160_01.row.prog w) (callerA.deeper (lawE scope L cdv)) (execs ((body.drop 8).take 1) (lawE scope L cdv)) Q (fun _ _ => False) s := by
  have XI := C.X
  revert XI
  k_fill
  intro XI
  refine' hL.at (P := fun body scope cdv => wpAny (model PySem.Challenge.rw_op0160_01.row.prog w) (callerA.deeper (lawE scope L cdv)) (execs ((body.drop 8).take 1) (lawE scope L cdv)) Q (fun _ _ => False) s) ?hc ?_
  (case hc => k_is)
  dsimp only [List.take, List.drop]
  refine hideG fun G9 hG9 => ?_
  obtain ⟨B, _, P, HB, KD⟩ := C
  refine hG9.out ?_
  clear hG9 G9
  have hcl := choices_len X.ok.len
  have hvl := X.rows.length
  have hcr := H.cr
  have hW := H.list X.hW
  k_extra "gl"
  refine for_at ?_ (fun _ => rfl)
  k_extra "gl"
  rename IsRange _ _ _ _ _ _ _ _ => hRg
  rename Fr _ _ _ _ => F1
  rename News _ _ _ _ => N1
  refine iter_R F1 N1 hRg (small_down (by omega) (by omega) (by omega) (by omega)) ?_
  rw [rangeSize_down]
  intro IT h3 F3 N3 ltI
  have hn0 : 1 ≤ X.vW.length := by
    rw [hvl]
    exact List.length_pos_of_mem (mem_choices.mpr (List.Sublist.refl X.rw))
  refine ForAt.introH (L5I w g L X S di D IT s) ?_ X.vW.length
    ⟨0, _, _, _, _, [], by omega, Nat.zero_le _, rfl, F3, N3, ⟨_, .head _, ?_⟩, ?_, H.sub fun q hq => .tail _ hq, HS.sub fun q hq => .tail _ hq, rfl, Nat.zero_le _, fun e he => (nomatch he), hv1, hv2, hv3⟩
  rotate_left
  · rw [if_pos (by omega)]
    show riO _ _ _ = riO _ _ _
    congr 1 <;> omega
  · intro ha
    obtain ⟨o, ho⟩ := HS.adr_in ha
    exact absurd (ltI _ ho) (Nat.lt_irrefl _)
  have hIk := H.lt ltI
  clear F1 N1 F3 N3 H HS hcr hW ltI
  intro n' s' Qb hQb hp9z
  refine hideG fun G9 hG9 => ?_
  obtain ⟨i, h', tk', m', led, cs, rfl, hi, rfl, F5, N5, hit, hnI, H5, HS5, hes, hcsl, hsu, v1, v2, v3⟩ := hp9z
  refine hG9.out ?_
  clear hG9 G9
  refine next_R rfl F5 N5 hit ?_ ?_
  · intro h6 led6 tk6 t6 hlt6 F6 N6 hit6 k6
    have H6 := H5.less hIk k6
    have HS6 := HS5.less hnI k6
    clear F5 N5 hit k6 H5 HS5
    obtain ⟨j, hj⟩ : ∃ j : Nat, i + j + 1 = X.vW.length := ⟨X.vW.length - 1 - i, by omega⟩
    have ej : (X.vW.length : Int) - 1 - (i : Int) = (j : Int) := by omega
    rw [ej] at hit6 ⊢
    k_extra "gl"
    refine ⟨?_⟩
    obtain ⟨vt, ht⟩ := H6.ct
    refine storeC F6 N6 ht rfl ?_ rfl rfl
    intro h7 led7 F7 N7 c7 k7
    have H7 := H6.setT k7 c7
    have HS7 := HS6.less H6.notc.1 k7
    have hit7 := ob_keep N6 ht k7 hit6 (fun o h1 h2 => cell_rit h2 h1)
    clear F6 N6 ht k7 H6 HS6 hit6
    have hcr := H7.cr
    have hcp := H7.cp
    have hW := H7.list X.hW
    have hP := H7.list X.hP
    have hrows := H7.rows
    k_extra "gl"
    refine hideG fun G9 hG9 => ?_
    obtain ⟨r, hr⟩ : ∃ r, (choices X.rw)[j]? = some r := ⟨(choices X.rw)[j]'(by omega), by simp⟩
    have hrk : RowOk r := X.ok.choices (List.mem_of_getElem? hr)
    have hbl := hrk.bod_len
    have hrlen := hrk.len
    obtain ⟨kp, hpj⟩ := X.paths.at (i := j) (t := 47 :: bod r) (by rw [List.getElem?_map, hr]; rfl)
    obtain ⟨la, ua, na, haj, hla, hta⟩ := hrows.at hr
    refine hG9.out ?_
    clear hG9 G9
    have hual := hta.length
    refine ⟨?_⟩
    refine itemL (i := j) N7 hP rfl (by omega) hpj ?_
    k_extra "gl"
    refine Fn.use (shorter_fn w X.κ r kp led7 hrk.bare hrk.path.asc (by omega) (by omega)) rfl B F7 XI N7 P rfl rfl (Nat.le_of_ble_eq_true rfl) (Nat.le_of_ble_eq_true rfl) ?_
    rintro v h8 tk8 led8 F8 N8 hp9z
    refine hideG fun G9 hG9 => ?_
    obtain ⟨Ds, vsS, eS, rfl, rfl, htS, ltS⟩ := hp9z
    refine hG9.out ?_
    clear hG9 G9
    clear F7 N7
    k_extra "gl"
    rename Fr _ _ _ _ => F8
    rename News _ _ _ _ => N8
    have c8 : Ob ((Ds, listOf vsS.toArray eS) :: led7) (tC L) (IsCell (some (.int (j : Int) t6))) := c7.more
    have hcr8 : Ob ((Ds, listOf vsS.toArray eS) :: led7) (L + 1 + 1 + 1 + 1 + 1) (IsCell (some (.ref X.lW))) := hcr.more
    have hcp8 : Ob ((Ds, listOf vsS.toArray eS) :: led7) (L + 1 + 1 + 1 + 1 + 1 + 1) (IsCell (some (.ref X.lP))) := hcp.more
    refine LCg.ListComp_U (F₀ := F8) (by with_unfolding_all rfl) (by decide) (by rfl) (by decide) (by rfl) ?_
    k_extra "gl"
    refine ⟨?_⟩
    refine itemL (i := j) N8 (.tail _ hW) rfl (by omega) haj ?_
    k_extra "gl"
    rename IsRange _ _ _ _ _ _ _ _ => hRg
    rename Fr _ _ _ _ => F9
    rename News _ _ _ _ => N9
    refine LCg.CompSrc.range (n := ua.length) rfl F9 N9 hRg (range_small (by omega)) (range_size _) (by rw [sizeLine_eq]; omega) fun g' => compRest_of (fun i ys led' => (∀ q ∈ (Ds, listOf vsS.toArray eS) :: led7, q ∈ led') ∧ TxtsAre X.κ ys ((cuts r).take i)) (n := ua.length) ?_ ?_ _ 0 [] _ (by omega) ⟨fun q hq => hq, .nil⟩
    · rintro k ys news10 v I oI Cc oC Dc m₂ h10 tk10 E' hk ⟨hs10, htk⟩ ⟨tz, rfl⟩ hC hx F10 N10 off ne
      refine wp_hide fun Qe hQe => ?_
      rw [Int.zero_add] at hx
      refine hideG fun G9 hG9 => ?_
      obtain ⟨oT, mT, dT⟩ := id c8
      have mT' := hs10 _ mT
      obtain ⟨oR, mR, dR⟩ := id hcr8
      have mR' := hs10 _ mR
      obtain ⟨oP, mP, dP⟩ := id hcp8
      refine hG9.out ?_
      clear hG9 G9
      have mP' := hs10 _ mP
      have hW' := hs10 _ (.tail _ hW)
      have hP' := hs10 _ (.tail _ hP)
      have hla' := hs10 _ (.tail _ hla)
      clear F9 N9
      k_extra "gl"
      refine ⟨?_⟩
      refine itemL (i := j) N10 (.tail _ (.tail _ (.tail _ hW'))) rfl (by omega) haj ?_
      k_extra "gl"
      refine ⟨?_⟩
      rename Fr _ _ _ _ => F11
      rename News _ _ _ _ => N11
      refine kba_turn (value' := PySem.Expr.Name (PySem.Str.ofString "_") ⟨0, 0, 0, 0⟩) (fun _ => rfl) ?_
      refine sliceL F11 N11 (.tail _ (.tail _ (.tail _ hla'))) .none (.int _ _) (by omega) ?_ (by intro v9 i9; with_unfolding_all rfl) (by intro v9 i9; with_unfolding_all rfl)
      intro D12 h12 F12 N12 lt12
      rw [cutL_to] at N12
      clear F11 N11
      k_extra "gl"
      refine ⟨?_⟩
      refine itemL (i := j) N12 (.tail _ (.tail _ (.tail _ (.tail _ hW')))) rfl (by omega) haj ?_
      k_extra "gl"
      refine ⟨?_⟩
      rename Fr _ _ _ _ => F13
      rename News _ _ _ _ => N13
      refine kba_turn (value' := PySem.Expr.Name (PySem.Str.ofString "_") ⟨0, 0, 0, 0⟩) (fun _ => rfl) ?_
      refine sliceL F13 N13 (.tail _ (.tail _ (.tail _ (.tail _ hla')))) (.int _ _) .none (by omega) ?_ (by intro v9 i9; with_unfolding_all rfl) (by intro v9 i9; with_unfolding_all rfl)
      intro D14 h14 F14 N14 lt14
      rw [show ((k : Int) + 1) = ((k + 1 : Nat) : Int) by omega, cutL_from] at N14
      clear F13 N13
      k_extra "gl"
      refine ⟨?_⟩
      refine addL F14 N14 (.tail _ (.head _)) (.head _) (by simp; omega) ?_
      intro D15 h15 F15 N15 lt15
      clear F14 N14
      have her : ua.take k ++ ua.drop (k + 1) = ua.eraseIdx k := (List.eraseIdx_eq_take_drop_succ ..).symm
      rw [her] at N15
      have hte : TxtsAre X.κ (ua.eraseIdx k) (r.eraseIdx k) := by
        rw [List.eraseIdx_eq_take_drop_succ, List.eraseIdx_eq_take_drop_succ]
        exact (hta.take k).app (hta.drop (k + 1))
      have hme : r.eraseIdx k ∈ choices X.rw := mem_choices.mpr ((List.eraseIdx_sublist r k).trans (mem_choices.mp (List.mem_of_getElem? hr)))
      have hsub15 : ∀ q ∈ news10, q ∈ (D15, listOf (ua.eraseIdx k).toArray 0) :: (D14, listOf (ua.drop (k + 1)).toArray 0) :: (D12, listOf (ua.take k).toArray 0) :: (I, oI) :: (Cc, oC) :: (Dc, LCg.lst ys) :: news10 := fun q hq => .tail _ (.tail _ (.tail _ (.tail _ (.tail _ (.tail _ hq)))))
      k_extra "gl"
      refine ⟨?_⟩
      refine indexRows N15 (hsub15 _ hW') (hrows.sub fun q hq => hsub15 q (hs10 q (.tail _ hq))) (fun r' hr' => (X.ok.choices hr').asc) (.head _) hte (X.ok.choices hme).asc hme (by omega) (Nat.le_of_ble_eq_true rfl) ?_
      k_extra "gl"
      refine ⟨?_⟩
      have hij : (choices X.rw).idxOf (r.eraseIdx k) < (choices X.rw).length := List.idxOf_lt_length_iff.mpr hme
      obtain ⟨kq, hpq⟩ := X.paths.at (i := (choices X.rw).idxOf (r.eraseIdx k)) (t := 47 :: bod (r.eraseIdx k)) (by rw [List.getElem?_map, List.getElem?_eq_getElem hij, List.getElem_idxOf hij]; rfl)
      refine itemL (i := (choices X.rw).idxOf (r.eraseIdx k)) N15 (hsub15 _ hP') rfl (by omega) hpq ?_
      refine hQe.out _ _ ?_
      refine LCg.CompEnd.intro F15 N15 ((D15, listOf (ua.eraseIdx k).toArray 0) :: (D14, listOf (ua.drop (k + 1)).toArray 0) :: (D12, listOf (ua.take k).toArray 0) :: news10) comp_sub3 ⟨off3_of lt15 (.tail _ (.tail _ (.head _))) (.tail _ (.tail _ (.tail _ (.head _)))) (.tail _ (.tail _ (.tail _ (.tail _ (.head _))))), off3_of lt14 (.tail _ (.head _)) (.tail _ (.tail _ (.head _))) (.tail _ (.tail _ (.tail _ (.head _)))), off3_of lt12 (.head _) (.tail _ (.head _)) (.tail _ (.tail _ (.head _))), off⟩ trivial ⟨fun q hq => .tail _ (.tail _ (.tail _ (hs10 q hq))), ?_⟩
      · rw [cuts_take_succ (by omega)]
        exact htk.app (.cons .nil)
    · rintro ys news10 ⟨hs10, htk⟩ D10 h10 tk10 F10 N10 o10
      rw [hual, List.take_of_length_le (by simp [cuts])] at htk
      clear F9 N9
      k_extra "gl"
      refine neTxts (vs := ys) N10 (.tail _ (hs10 _ (.head _))) (.head _) htS htk (cuts_asc hrk) (cuts_asc hrk) (Nat.le_of_ble_eq_true rfl) ?_
      rw [decide_eq_true rfl, Bool.not_true]
      k_extra "gl"
      refine ⟨?_⟩
      rename Fr _ _ _ _ => F11
      rename News _ _ _ _ => N11
      have HS10 : SrtIn w X.κ X.Φ ((D10, LCg.lst ys) :: news10) S di D cs .none 0 0 := HS7.sub fun q hq => .tail _ (hs10 q (.tail _ hq))
      have hsub : ∀ q ∈ led7, q ∈ (D10, LCg.lst ys) :: news10 := fun q hq => .tail _ (hs10 q (.tail _ hq))
      refine hideG fun G9 hG9 => ?_
      obtain ⟨ka, kb, hat10⟩ := HS10.attr
      refine hG9.out ?_
      clear hG9 G9
      refine boundA (f := 87) F11 N11 HS10.inst hat10 XI (by k_is) (by k_is) (by k_is) (by k_is) (by k_is) (by k_is) (by decide) rfl ?_
      intro qm h12 F12 N12 ltq
      clear F11 N11
      refine callStar2 (K := Mine.hd.heap_1 w.params) (f := 87) (x := S) (by k_is) ?_
      have hP12 : (X.lP, listOf X.uP.toArray X.nP) ∈ (qm, methodObj (.ref 87) (.ref S)) :: (D10, LCg.lst ys) :: news10 := .tail _ (hsub _ hP)
      have hDs12 : (Ds, listOf vsS.toArray eS) ∈ (qm, methodObj (.ref 87) (.ref S)) :: (D10, LCg.lst ys) :: news10 := .tail _ (.tail _ (hs10 _ (.head _)))
      have hcp12 := (hcp.sub hsub).more (p := (qm, methodObj (.ref 87) (.ref S)))
      have hct12 := (c7.sub hsub).more (p := (qm, methodObj (.ref 87) (.ref S)))
      k_extra "gl"
      refine ⟨?_⟩
      refine itemL (i := j) N12 hP12 rfl (by omega) hpj ?_
      k_extra "gl"
      refine starLi F12 N12 hDs12 (by rw [htS.length]; simp [cuts]; omega) ?_
      intro h13 F13 N13
      clear F12 N12
      k_extra "gl"
      refine call_meth N13 (.head _) ?_
      rw [List.append_nil, ← X.phi j r hr]
      have hps := psR_len hr
      have hnds : NodesAre X.κ X.Φ vsS (psR (choices X.rw) j) := .of (by rw [X.cuts hr]; exact htS)
      refine Fn.code (add_fn w X.κ X.Φ j kp vsS (psR (choices X.rw) j) S di D cs 0 0 _ hnds (HS10.sub fun q hq => .tail _ hq) (by omega) (by omega) (fun e he => by have := hsu e he; omega)) B F13 XI N13 P rfl rfl (Nat.le_of_ble_eq_true rfl) rfl (Nat.le_of_ble_eq_true rfl) ?_
      rintro v h14 tk14 led14 F14 N14 hp9z
      refine hideG fun G9 hG9 => ?_
      obtain ⟨rfl, cs', H14, he14, hl14, hk14⟩ := hp9z
      refine hG9.out ?_
      clear hG9 G9
      clear F13 N13
      k_extra "gl"
      have hjn : (choices X.rw).length - 1 - i = j := by omega
      refine hQb.next _ ⟨X.vW.length - (i + 1), by omega, i + 1, _, _, _, led14, cs', rfl, by omega, rfl, F14, N14, ?_, ?_, (H7.sub fun q hq => .tail _ (hsub q hq)).kept hk14, H14, ?_, by omega, ?_, v1, v2, v3⟩
      ·
        refine hideG fun G9 hG9 => ?_
        obtain ⟨o, mo, qo⟩ := hit7
        refine hG9.out ?_
        clear hG9 G9
        refine ⟨o, (hk14 _ (.tail _ (hsub _ mo)) hnI).1, ?_⟩
        have e1 : (X.vW.length : Int) - 1 - ((i + 1 : Nat) : Int) = (j : Int) + -1 := by omega
        have e2 : (X.vW.length : Int) - ((i + 1 : Nat) : Int) = (X.vW.length : Int) - (i : Int) - 1 := by omega
        rw [e1, e2]; exact qo
      ·
        refine hideG fun G9 hG9 => ?_
        obtain ⟨o, mo, qo⟩ := hit7
        refine hG9.out ?_
        clear hG9 G9
        exact (hk14 _ (.tail _ (hsub _ mo)) hnI).2
      · rw [he14, hes]
        show _ = addE _ _ _
        rw [hjn]
      · rw [he14]
        have h1 := hsu.add (a := j) (ps := psR (choices X.rw) j)
        exact fun e he => by have := h1 e he; omega
  · intro h6 led6 hlt6 F6 N6 k6
    have hei : i = (choices X.rw).length := by omega
    k_extra "gl"
    subst hei
    exact hQ _ _ m' led6 cs F6 N6 (H5.less hIk k6) (HS5.less hnI k6) hes (by omega) (fun e he => by have := hsu e he; omega) v1 v2 v3

theorem fresh_P66_law6 : True := by
  w_top off
  trivial
theorem lw46_all : True := by
  k_with "L getMethod ref" => ((with_reducible show wpAny _ _ (getMethod (Value.ref _) (Str.ofString "add") _) _ _ _); refine Box.out ?_)
  trivial
/-- what the sorter knows at the end -/
noncomputable def es2 (rws : List (List (List Nat))) (r1 r2 : List (List Nat)) : List Ent := addE (addAll (psR rws) rws.length rws.length) (rws.idxOf r1) [rws.idxOf r2]
/-- what stands still from now on -/
structure LF (w : World) {L : Addr} (X : LD L) (fz : Led) (S di D R : Addr) (cs : List CE) (pp : Int) (lr lg : Addr) (usr : List Value) (nr : Nat) (vsg : List Value) (ng : Nat) (ring : List Nat) (G : List (Nat × Nat)) : Prop where
  off : ∀ q ∈ fz, @Ne Nat q.1 (tC L) ∧ @Ne Nat q.1 (cC L) ∧ @Ne Nat q.1 170
  co : Ob fz (L + 1 + 1 + 1) (IsCell (some (txt X.κ [47] X.ko)))
  cr : Ob fz (L + 1 + 1 + 1 + 1 + 1) (IsCell (some (.ref X.lW)))
  cp : Ob fz (L + 1 + 1 + 1 + 1 + 1 + 1) (IsCell (some (.ref X.lP)))
  hW : (X.lW, listOf X.vW.toArray X.nW) ∈ fz
  rows : RowsIn X.κ fz X.vW (choices X.rw)
  hP : (X.lP, listOf X.uP.toArray X.nP) ∈ fz
  h1 : (X.l1, listOf X.us1.toArray X.n1) ∈ fz
  h2 : (X.l2, listOf X.us2.toArray X.n2) ∈ fz
  srt : SrtIn w X.κ X.Φ fz S di D cs (.ref R) pp pp
  hr : (lr, listOf usr.toArray nr) ∈ fz
  ring : NodesAre X.κ X.Φ usr ring
  hg : (lg, listOf vsg.toArray ng) ∈ fz
  given : PairsIn X.κ X.Φ fz vsg G
theorem tup_cell {us : List Value} {v : Option Value} (h2 : IsCell v (tupO us)) : False := by cases h2
theorem list_tab {its : Array Value} {n : Nat} {ps : Array Value} (h : listOf its n = tabObj ps) : False := by
  have := congrArg Obj.cls h
  cases this
theorem tup_tab {us : List Value} {ps : Array Value} (h : tupO us = tabObj ps) : False := by
  have := congrArg Obj.cls h
  cases this
theorem cell_tab {o : Obj} {v : Option Value} {ps : Array Value} (h : IsCell v o) (e : o = tabObj ps) : False := by subst e; cases h
/-- all but the two cells that change, and the table -/
noncomputable def frz (L : Nat) (led : Led) : Led := led.filter fun q => decide (@Ne Nat q.1 (tC L)) && (decide (@Ne Nat q.1 (cC L)) && decide (@Ne Nat q.1 170))
theorem mem_frz {L : Nat} {led : Led} {q : Addr × Obj} : q ∈ frz L led ↔ q ∈ led ∧ @Ne Nat q.1 (tC L) ∧ @Ne Nat q.1 (cC L) ∧ @Ne Nat q.1 170 := by
  unfold frz
  rw [List.mem_filter, Bool.and_eq_true, Bool.and_eq_true, decide_eq_true_iff, decide_eq_true_iff, decide_eq_true_iff]
theorem LF.of {w : World} {L : Addr} {X : LD L} {led : Led} {S di D R : Addr} {cs : List CE} {pp : Int} {lr lg : Addr} {usr : List Value} {nr : Nat} {vsg : List Value} {ng : Nat} {ring : List Nat} {G : List (Nat × Nat)} {g h : Heap} {L' : Addr} (N : News g L' h led) (H : LH X led S di D cs) (HS : SrtIn w X.κ X.Φ led S di D cs (.ref R) pp pp)
    (hr : (lr, listOf usr.toArray nr) ∈ led) (hri : NodesAre X.κ X.Φ usr ring) (hg : (lg, listOf vsg.toArray ng) ∈ led) (hgi : PairsIn X.κ X.Φ led vsg G) : LF w X (frz L led) S di D R cs pp lr lg usr nr vsg ng ring G := by
  refine hideG fun G9 hG9 => ?_
  obtain ⟨vt, ht⟩ := H.ct
  obtain ⟨vc, hc⟩ := H.cc
  refine hG9.out ?_
  clear hG9 G9
  have hb : Ob led 170 (fun o => o = tabObj #[]) := ⟨_, H.tb.1, rfl⟩
  have hl : ∀ {a : Addr} {us : Array Value} {n : Nat}, (a, listOf us n) ∈ led → (a, listOf us n) ∈ frz L led := fun hm => mem_frz.mpr ⟨hm, ob_ne N ht hm list_cell, ob_ne N hc hm list_cell, ob_ne N hb hm list_tab⟩
  have hce : ∀ {a : Addr} {v : Option Value}, Ob led a (IsCell v) → @Ne Nat a (tC L) → @Ne Nat a (cC L) → Ob (frz L led) a (IsCell v) := fun ⟨o, m, c⟩ h1 h2 => ⟨o, mem_frz.mpr ⟨m, h1, h2, ob_ne N hb m (cell_tab c)⟩, c⟩
  exact {
    off := fun q hq => (mem_frz.mp hq).2
    co := hce H.co (by show L + 1 + 1 + 1 ≠ _; simp [tC]) (by show L + 1 + 1 + 1 ≠ _; simp [cC])
    cr := hce H.cr (by show L + 1 + 1 + 1 + 1 + 1 ≠ _; simp [tC]) (by show L + 1 + 1 + 1 + 1 + 1 ≠ _; simp [cC])
    cp := hce H.cp (by show L + 1 + 1 + 1 + 1 + 1 + 1 ≠ _; simp [tC]) (by show L + 1 + 1 + 1 + 1 + 1 + 1 ≠ _; simp [cC])
    hW := hl (H.list X.hW)
    rows := H.rows.keep fun _ _ _ hm => hl hm
    hP := hl (H.list X.hP)
    h1 := hl (H.list X.h1)
    h2 := hl (H.list X.h2)
    srt := HS.keep fun q hq ha => mem_frz.mpr ⟨hq, fun e => H.notc.1 (e ▸ ha), fun e => H.notc.2 (e ▸ ha), fun e => H.tb.2 (e ▸ ha)⟩
    hr := hl hr
    ring := hri
    hg := hl hg
    given := hgi.keep fun _ _ hm => mem_frz.mpr ⟨hm, ob_ne N ht hm tup_cell, ob_ne N hc hm tup_cell, ob_ne N hb hm tup_tab⟩ }
theorem law_p6 (w : World) (body : List Stmt) (scope : Scope) (cdv : Addr × Value) (hL : LawAt w body scope) (loose : List Str) (mean : ExcName → Option Value) (mg mb : Str → Option Value) (base g : Heap) (L : Addr) (m : Str → Option Value) (led : Led) (s : Shared) (X : LD L) (S di D : Addr) (cs : List CE) (fuel : Nat) (res : Option (List Nat)) (Q : Flow → Shared → Prop)
    (C : LCx w loose mean mg mb base g) (F : Fr g L s.heap m) (N : News g L s.heap led) (H : LH X led S di D cs) (HS : SrtIn w X.κ X.Φ led S di D cs .none 0 0) (hes : cs.map (·.e) = addAll (psR (choices X.rw)) (choices X.rw).length (choices X.rw).length) (hcsl : cs.length ≤ 80) (hsu : SuLe (cs.map (·.e)) 64)
    (hsi : SuIn (es2 (choices X.rw) X.r1 X.r2)) (hres : findRing (es2 (choices X.rw) X.r1 X.r2) fuel ((es2 (choices X.rw) X.r1 X.r2).map (·.a)) [] = some res) (hne : res ≠ some []) (hrg : ∀ ring, res = some ring → ring.length ≤ 1000) (hok : RunOk 20 (es2 (choices X.rw) X.r1 X.r2) (rdy (es2 (choices X.rw) X.r1 X.r2)))
    (hv1 : m (Str.ofString "first") = some (.ref X.l1)) (hv2 : m (Str.ofString "second") = some (.ref X.l2)) (hv3 : m (Str.ofString "sorter") = some (.ref S))
    (hQ : ∀ g' h' tk m' led' fz R cs' pp lr lg usr nr vsg ng ld lw kb ke kl, LCx w loose mean mg mb base g' → Fr g' L h' m' → News g' L h' led' → LF w X fz S di D R cs' pp lr lg usr nr vsg ng (res.getD []) (runG 20 0 (es2 (choices X.rw) X.r1 X.r2) (rdy (es2 (choices X.rw) X.r1 X.r2))) →
      cs'.map (·.e) = runE 20 (es2 (choices X.rw) X.r1 X.r2) (rdy (es2 (choices X.rw) X.r1 X.r2)) → (∀ q ∈ fz, q ∈ led' ∧ q.1 ≠ ld ∧ q.1 ≠ lw) → (∃ vt, Ob led' (tC L) (IsCell vt)) → (∃ vc, Ob led' (cC L) (IsCell vc)) → CoTab led' → (ld, listOf ([] : List Value).toArray 0) ∈ led' → (lw, listOf ([] : List Value).toArray 0) ∈ led' → ld ≠ lw →
      m' (Str.ofString "first") = some (.ref X.l1) → m' (Str.ofString "second") = some (.ref X.l2) → m' (Str.ofString "sorter") = some (.ref S) → m' (Str.ofString "begin") = some (txt X.κ (47 :: bod X.r1) kb) → m' (Str.ofString "end") = some (txt X.κ (47 :: bod X.r2) ke) → m' (Str.ofString "ring") = some (.ref lr) → m' (Str.ofString "given") = some (.ref lg) → m' (Str.ofString "late") = some (.int ((X.r2.length + 1 - X.r1.length : Nat) : Int) kl) → m' (Str.ofString "due") = some (.ref ld) → m' (Str.ofString "words") = some (.ref lw) → Q .next { s with heap := h', toks := tk }) :
    wpAny (model PySem.Challenge.rw_op0160_01.row.prog w) (callerA.deeper (lawE scope L cdv)) (execs ((body.drop 9).take 6) (lawE scope L cdv)) Q (fun _ _ => False) s := by
  have XI := C.X
  revert XI
  k_fill
  intro XI
  refine' hL.at (P := fun body scope cdv => wpAny (model PySem.Challenge.rw_op0160_01.row.prog w) (callerA.deeper (lawE scope L cdv)) (execs ((body.drop 9).take 6) (lawE scope L cdv)) Q (fun _ _ => False) s) ?hc ?_
  (case hc => k_is)
  dsimp only [List.take, List.drop]
  have C0 := C
  refine hideG fun G9 hG9 => ?_
  obtain ⟨B, _, P, HB, KD⟩ := C
  have hcl := choices_len X.ok.len
  have hvl := X.rows.length
  have hpl := X.paths.length
  rw [List.length_map] at hpl
  have hcr := H.cr
  have hcp := H.cp
  have hW := H.list X.hW
  have hP := H.list X.hP
  have hl1 := H.list X.h1
  have hl2 := H.list X.h2
  have hrows := H.rows
  have ok1 := X.ok.sub X.s1
  have ok2 := X.ok.sub X.s2
  have hm1 := mem_choices.mpr X.s1
  have hm2 := mem_choices.mpr X.s2
  have hca : ∀ r ∈ choices X.rw, AscR r := fun r' hr' => (X.ok.choices hr').asc
  have hi1 := List.idxOf_lt_length_iff.mpr hm1
  have hi2 := List.idxOf_lt_length_iff.mpr hm2
  obtain ⟨kp1, hp1⟩ := X.paths.at (i := (choices X.rw).idxOf X.r1) (t := 47 :: bod X.r1) (by rw [List.getElem?_map, List.getElem?_eq_getElem hi1, List.getElem_idxOf hi1]; rfl)
  obtain ⟨kp2, hp2⟩ := X.paths.at (i := (choices X.rw).idxOf X.r2) (t := 47 :: bod X.r2) (by rw [List.getElem?_map, List.getElem?_eq_getElem hi2, List.getElem_idxOf hi2]; rfl)
  refine hG9.out ?_
  clear hG9 G9
  k_extra "gl"
  refine ⟨?_⟩
  refine indexRows N hW hrows hca hl1 X.t1 ok1.asc hm1 (by omega) (Nat.le_of_ble_eq_true rfl) ?_
  k_extra "gl"
  refine ⟨?_⟩
  have N1 : News g L s.heap led := N
  refine itemL (i := (choices X.rw).idxOf X.r1) N1 hP rfl (by omega) hp1 ?_
  k_extra "gl"
  refine ⟨?_⟩
  rename Fr _ _ _ _ => F2
  rename News _ _ _ _ => N2
  refine indexRows N2 hW hrows hca hl2 X.t2 ok2.asc hm2 (by omega) (Nat.le_of_ble_eq_true rfl) ?_
  k_extra "gl"
  refine ⟨?_⟩
  refine itemL (i := (choices X.rw).idxOf X.r2) N2 hP rfl (by omega) hp2 ?_
  have hS := HS.inst
  refine hideG fun G9 hG9 => ?_
  obtain ⟨ka, kb, hat⟩ := HS.attr
  refine hG9.out ?_
  clear hG9 G9
  k_extra "gl"
  refine ⟨?_⟩
  rename Fr _ _ _ _ => F3
  rename News _ _ _ _ => N3
  refine methA (f := 87) F3 N3 (.tail _ hS) hat.more XI (by k_is) (by k_is) (by k_is) rfl ?_
  k_extra "gl"
  have f1 : X.Φ.f ((choices X.rw).idxOf X.r1) = 47 :: bod X.r1 := X.phi _ _ (by rw [List.getElem?_eq_getElem hi1, List.getElem_idxOf hi1])
  have f2 : X.Φ.f ((choices X.rw).idxOf X.r2) = 47 :: bod X.r2 := X.phi _ _ (by rw [List.getElem?_eq_getElem hi2, List.getElem_idxOf hi2])
  rw [← f1, ← f2]
  refine Fn.use (add_fn w X.κ X.Φ _ kp1 [txt X.κ (X.Φ.f ((choices X.rw).idxOf X.r2)) kp2] [(choices X.rw).idxOf X.r2] S di D cs 0 0 _ (.cons .nil) (HS.sub fun q hq => .tail _ hq) (by simp; omega) (by simp) (fun e he => by have := hsu e he; omega)) rfl B F3 XI N3 P rfl rfl (Nat.le_of_ble_eq_true rfl) (Nat.le_of_ble_eq_true rfl) ?_
  rintro v h4 tk4 led4 F4 N4 hp9z
  refine hideG fun G9 hG9 => ?_
  obtain ⟨rfl, cs4, HS4, he4, hl4, hk4⟩ := hp9z
  refine hG9.out ?_
  clear hG9 G9
  have H4 := (H.sub (led' := _ :: led) fun q hq => .tail _ hq).kept hk4
  clear F3 N3
  rw [hes] at he4
  change cs4.map (·.e) = es2 (choices X.rw) X.r1 X.r2 at he4
  have hsu4 : SuLe (cs4.map (·.e)) 1000 := by
    rw [he4]
    have h1 := (hes ▸ hsu).add (a := (choices X.rw).idxOf X.r1) (ps := [(choices X.rw).idxOf X.r2])
    exact fun e he => by have := h1 e he; simp at this; omega
  have hcl4 : cs4.length ≤ 100 := by simp at hl4; omega
  have hcrl4 : cs4.map (·.e.a) = (es2 (choices X.rw) X.r1 X.r2).map (·.a) := by rw [← he4, List.map_map]; rfl
  k_extra "gl"
  refine FnS.use (run_fn w X.κ X.Φ S di D cs4 led4 fuel res HS4 hcl4 hsu4 (by rw [he4]; exact hsi) (by rw [he4, hcrl4]; exact hres) hne hrg (by rw [he4]; exact hok)) rfl rfl rfl B F4 N4 HB.out.1 HB.out.2 KD KtsTurn.refl rfl (Nat.le_of_ble_eq_true rfl) (Nat.le_of_ble_eq_true rfl) ?_ ?_
  · rintro v11 g11 h11 tk11 led11 T11 B11 F11 N11 X11 P11 D11 hp9z
    refine hideG fun G9 hG9 => ?_
    obtain ⟨T, lr, lg, usr, nr, vsg, ng, cs5, R, pp, rfl, hT, hlr, hur, hlg, hvg, H11, R11, he11, hk11⟩ := hp9z
    refine hG9.out ?_
    clear hG9 G9
    rw [he4] at hvg he11
    have H5 : LH X led11 S di D cs5 := H4.kept fun q hq ha => ⟨(hk11 q hq ha).1, (hk11 q hq ha).2.1⟩
    have hl1b := H5.list X.h1
    have hl2b := H5.list X.h2
    have e1 := X.t1.length
    have e2 := X.t2.length
    have n1 := ok1.len
    have n2 := ok2.len
    have N11b : Box (News g11 L h11 led11) := ⟨N11⟩
    k_extra "gl"
    rename Fr _ _ _ _ => F12
    rename News _ _ _ _ => N12
    rename ∀ p, p ∈ led11 → _ => ltd
    rename _ ∧ AllLt _ led11 => ltw
    have elate : (if (X.us2.length : Int) + 1 - (X.us1.length : Int) > 0 then (X.us2.length : Int) + 1 - (X.us1.length : Int) else 0) = ((X.r2.length + 1 - X.r1.length : Nat) : Int) := by
      split <;> omega
    rw [elate] at F12
    refine hQ g11 _ _ _ _ (frz L led11) R cs5 pp lr lg usr nr vsg ng _ _ _ _ _ (C0.turn T11) F12 N12 (LF.of N11b.out H5 H11 hlr hur hlg hvg) he11 (fun q hq => ?_) ?_ ?_ (.inl (.tail _ (.tail _ H5.tb.1))) (.tail _ (.head _)) (.head _) (Nat.ne_of_lt ltw.1) hv1 hv2 hv3 (by rw [← f1]; rfl) (by rw [← f2]; rfl) rfl rfl rfl rfl rfl
    ·
      have hq' := (mem_frz.mp hq).1
      exact ⟨.tail _ (.tail _ hq'), Nat.ne_of_lt (ltd q hq'), Nat.ne_of_lt (ktn_ltOf ltw.2 q hq')⟩
    ·
      obtain ⟨vt, ht⟩ := H5.ct
      exact ⟨vt, ht.more.more⟩
    ·
      obtain ⟨vc, hc⟩ := H5.cc
      exact ⟨vc, hc.more.more⟩
  · intro _ _ _ _ _ _ _ _ _ _ _ _ _ _ _ hf
    exact hf.elim

theorem fresh_P67_law7 : True := by
  w_top off
  trivial
theorem words_stop7_all : True := by
  k_with "stops7" => first
    | ((with_reducible show wpAny _ _ (compareOp _ (Value.ref _) (Value.ref _)) _ _ _); refine Box.out ?_)
    | ((with_reducible show wpAny _ _ (compareOp _ (txt false _ _) (Value.str _ _)) _ _ _); refine Box.out ?_)
    | ((with_reducible show wpAny _ _ (compareOp _ (txt false _ _) (txt false _ _)) _ _ _); refine Box.out ?_)
    | ((with_reducible show wpAny _ _ (compareOp _ (Value.str _ _) (Value.str _ _)) _ _ _); refine Box.out ?_)
    | ((with_reducible show wpAny _ _ (newTuple _) _ _ _); refine Box.out ?_)
    | ((with_reducible show wpAny _ _ (eval (Expr.BinOp _ Operator.Add (Expr.Name _ _) _) _) _ _ _); refine wpAny_BinOp ?_)
  k_with "gm" => repeat' ((fail_if_success (with_reducible show wpAny _ _ (exec (Stmt.While _ _ _ _) _) _ _ _)); (fail_if_success (with_reducible show wpAny _ _ (exec (Stmt.For _ _ _ _ _) _) _ _ _)); (fail_if_success (with_reducible show wpAny _ _ (eval (Expr.ListComp _ _ _ _) _) _ _ _)); (fail_if_success (with_reducible show wpAny _ _ (pyIter _) _ _ _)); (fail_if_success (with_reducible show LCt.CompSrcT _ _ _ _ _ _ _ _ _ _ _ _ _ _ _)); (fail_if_success (with_reducible show LCg.CompSrc _ _ _ _ _ _ _ _ _ _ _ _ _ _)); first | (k_unfold; (try dsimp only)) | ((with_reducible show wpAny _ _ (call (Value.ref _) _ _) _ _ _); k_extra "callfn") | k_extra "stops7" | k_extra "stops" | k_extra "hand" | ((fail_if_success (with_reducible show wpAny _ _ (call (Value.ref _) _ _) _ _ _)); first | walk1 | (dsimp only; walk1)) | fail "no step")
  trivial
theorem tup_rit {us : List Value} {x l st : Int} (h : IsRIt x l st (tupO us)) : False := by
  have := congrArg Obj.cls h
  exact absurd this (by show Value.type "tuple" ≠ Value.type "range_iterator"; decide)
noncomputable def noCo (P : Obj → Prop) : Prop := (∀ ps, ¬ P (tabObj ps)) ∧ ∀ o vs t, o.data = .fields vs → vs[1]? = some (.str cqual t) → ¬ P o
theorem noCo_list {us : Array Value} {n : Nat} : noCo (fun o => o = listOf us n) :=
  ⟨fun ps e => list_tab e.symm, fun o vs t h1 _ e => (by subst e; cases h1)⟩
theorem noCo_cell {v : Option Value} : noCo (IsCell v) :=
  ⟨fun ps e => (by cases e), fun o vs t h1 _ e => (by have := h1.symm.trans e; cases this)⟩
theorem noCo_rit {x l st : Int} : noCo (IsRIt x l st) := by
  refine ⟨fun ps e => ?_, fun o vs t h1 h2 e => ?_⟩
  ·
    have := congrArg Obj.cls e
    cases this
  · subst e
    injection h1 with h1
    subst h1
    simp [rawInt] at h2
theorem CoTab.move {led led' : Led} {P : Obj → Prop} {I : Addr} {h₀ h : Heap} {L : Addr} (hc : CoTab led) (N : News h₀ L h led) (hI : Ob led I P) (hk : ∀ q ∈ led, q.1 ≠ I → q ∈ led') (hn : noCo P) : CoTab led' := by
  rcases hc with h | ⟨c', oc, vs, t, h1, h2, h3, h4⟩
  · exact .inl (mem_keep N hI hk h (hn.1 _))
  · exact .inr ⟨c', oc, vs, t, mem_keep N hI hk h1 (hn.1 _), mem_keep N hI hk h2 (hn.2 _ _ _ h3 h4), h3, h4⟩
theorem CoTab.ob {led : Led} (hc : CoTab led) : Ob led 170 (fun o => ∃ ps, o = tabObj ps) := by
  rcases hc with h | ⟨c', oc, vs, t, h1, h2, h3, h4⟩
  · exact ⟨_, h, _, rfl⟩
  · exact ⟨_, h1, _, rfl⟩
/-- what the law's end keeps -/
structure LZ (L : Addr) (fz led : Led) : Prop where
  kp : ∀ q ∈ fz, q ∈ led
  ct : ∃ vt, Ob led (tC L) (IsCell vt)
  cc : ∃ vc, Ob led (cC L) (IsCell vc)
  tb : CoTab led
theorem LZ.sub {L : Addr} {fz led led' : Led} (h : LZ L fz led) (hs : ∀ q ∈ led, q ∈ led') : LZ L fz led' :=
  ⟨fun q hq => hs q (h.kp q hq), let ⟨v, c⟩ := h.ct; ⟨v, c.sub hs⟩, let ⟨v, c⟩ := h.cc; ⟨v, c.sub hs⟩, h.tb.sub hs⟩
theorem ext_keep {led led' : Led} {h₀ h : Heap} {L : Addr} (N : News h₀ L h led) (hb : CoTab led) (he : Ext led led') {a : Addr} {o : Obj} (hm : (a, o) ∈ led) (hn : ∀ ps, o ≠ tabObj ps) : (a, o) ∈ led' :=
  mem_keep N hb.ob he hm fun ⟨ps, e⟩ => hn ps e
theorem LZ.ext {L L' : Addr} {fz led led' : Led} {h₀ h₁ : Heap} (h : LZ L fz led) (N : News h₀ L' h₁ led) (hf : ∀ q ∈ fz, @Ne Nat q.1 170) (he : Ext led led') (hc : CoTab led') : LZ L fz led' where
  kp q hq := he q (h.kp q hq) (hf q hq)
  ct := let ⟨v, o, m, c⟩ := h.ct; ⟨v, o, ext_keep N h.tb he m fun ps e => cell_tab c e, c⟩
  cc := let ⟨v, o, m, c⟩ := h.cc; ⟨v, o, ext_keep N h.tb he m fun ps e => cell_tab c e, c⟩
  tb := hc
theorem LZ.move {L L' : Addr} {fz led led' : Led} {h₀ h₁ : Heap} {P : Obj → Prop} {I : Addr} (h : LZ L fz led) (N : News h₀ L' h₁ led) (hI : Ob led I P) (hk : ∀ q ∈ led, q.1 ≠ I → q ∈ led') (hf : ∀ q ∈ fz, @Ne Nat q.1 I) (hP : ∀ o v, IsCell v o → ¬ P o) (hn : noCo P) : LZ L fz led' where
  kp q hq := hk q (h.kp q hq) (hf q hq)
  ct := let ⟨v, o, m, c⟩ := h.ct; ⟨v, o, mem_keep N hI hk m (hP o v c), c⟩
  cc := let ⟨v, o, m, c⟩ := h.cc; ⟨v, o, mem_keep N hI hk m (hP o v c), c⟩
  tb := h.tb.move N hI hk hn
theorem LZ.setT {L L' : Addr} {fz led led' : Led} {h₀ h₁ : Heap} {vt v : Option Value} (h : LZ L fz led) (N : News h₀ L' h₁ led) (hI : Ob led (tC L) (IsCell vt)) (hk : ∀ q ∈ led, @Ne Nat q.1 (tC L) → q ∈ led') (hc : Ob led' (tC L) (IsCell v)) (hf : ∀ q ∈ fz, @Ne Nat q.1 (tC L)) : LZ L fz led' where
  kp q hq := hk q (h.kp q hq) (hf q hq)
  ct := ⟨v, hc⟩
  cc := let ⟨v, o, m, c⟩ := h.cc; ⟨v, o, hk _ m (by show cC L ≠ tC L; simp [cC, tC]), c⟩
  tb := h.tb.move N hI hk noCo_cell
theorem str_txt (x : Str) (k : Tok) : Value.str x k = txt false x.cps.toList k := by
  show Value.str x k = Value.str ⟨x.cps.toList.toArray⟩ k
  simp
noncomputable def doneW : List Nat := (Str.ofString "was already marked done").cps.toList
noncomputable def stillW : List Nat := (Str.ofString "was not passed out (still not ready)").cps.toList
/-- when a node is due, if at all -/
noncomputable def dueAt (hit nil : Bool) (late len t : Nat) : List (Nat × Nat) := if hit then (if nil then [(len + late, t)] else []) else [(len, t)]
noncomputable def dueL (rws : List (List (List Nat))) (hit : List (List Nat) → Bool) (nil : Bool) (late : Nat) : Nat → List (Nat × Nat)
  | 0 => []
  | i + 1 => dueL rws hit nil late i ++ dueAt (hit (rws.getD i [])) nil late (rws.getD i []).length i
noncomputable def wordL (rws : List (List (List Nat))) (hit : List (List Nat) → Bool) (nil : Bool) : Nat → List (List Nat)
  | 0 => []
  | i + 1 => wordL rws hit nil i ++ [if nil || !hit (rws.getD i []) then doneW else stillW]
/-- no refusal: the first row's names lie in the row -/
noncomputable def hitR (κ : Bool) (r1 : List (List Nat)) (r : List (List Nat)) : Bool := decide (refu κ [47] r1 (choices r) = [])
section
variable {prog : Program} {w : World} {A : Around} {E : Value → Shared → Prop} {s : Shared}
theorem strNe {t u : List Nat} {a b : Tok} {Q : Value → Shared → Prop} (h : Q (.bool (decide (t ≠ u))) s) : wpAny (model prog w) A (compareOp .NotEq (txt false t a) (txt false u b)) Q E s := by
  refine PyProof.Rows.ne_str ?_
  have e : ((⟨t.toArray⟩ : Str) != ⟨u.toArray⟩) = decide (t ≠ u) := by
    rw [Bool.eq_iff_iff, bne_iff_ne, decide_eq_true_iff]
    apply not_congr
    constructor
    · intro q; have := congrArg (fun x : Str => x.cps.toList) q; simpa using this
    · intro q; rw [q]
  rw [e]; exact h
theorem strNe0 {t : List Nat} {a b : Tok} {Q : Value → Shared → Prop} (h : Q (.bool (decide (t ≠ []))) s) : wpAny (model prog w) A (compareOp .NotEq (txt false t a) (.str (Str.ofString "") b)) Q E s := strNe (u := []) (b := b) h
end
section
variable {prog : Program} {w : World} {A : Around} {E : Value → Shared → Prop} {s : Shared} {h₀ : Heap} {L : Addr} {m : Str → Option Value} {led : Led}
theorem newTup {us : List Value} {Q : Value → Shared → Prop} (F : Fr h₀ L s.heap m) (N : News h₀ L s.heap led) (hsz : us.length ≤ 1000000) (h : ∀ a h', Fr h₀ L h' m → News h₀ L h' ((a, tupO us) :: led) → (∀ p ∈ led, p.1 < a) → Q (.ref a) { s with heap := h' }) : wpAny (model prog w) A (newTuple us) Q E s :=
  wpAny_newTuple (h _ _ (F.push _) (News.push F N (tupO us) rfl) fun q hq => Heap.lt_size (N q hq).1) (by rw [sizeLine_eq]; omega)
end
theorem news_tl {h₀ h : Heap} {L : Addr} {a : Addr × Obj} {led : Led} (_N : News h₀ L h (a :: led)) {q : Addr × Obj} (hq : q ∈ led) : q ∈ a :: led := .tail _ hq
theorem ob_tl {h₀ h : Heap} {L : Addr} {a : Addr × Obj} {led : Led} (_N : News h₀ L h (a :: led)) {x : Addr} {P : Obj → Prop} (hq : Ob led x P) : Ob (a :: led) x P := hq.more
theorem dueAt_yes {hit nil : Bool} {late len t : Nat} (h : hit = true) (n : nil = true) : dueAt hit nil late len t = [(len + late, t)] := by subst h n; rfl
theorem dueAt_no {hit nil : Bool} {late len t : Nat} (h : hit = true) (n : nil = false) : dueAt hit nil late len t = [] := by subst h n; rfl
theorem dueAt_out {hit nil : Bool} {late len t : Nat} (h : hit = false) : dueAt hit nil late len t = [(len, t)] := by subst h; rfl
theorem wordAt_nil {hit nil : Bool} (n : nil = true) : (if nil || !hit then doneW else stillW) = doneW := by subst n; rfl
theorem wordAt_out {hit nil : Bool} (h : hit = false) : (if nil || !hit then doneW else stillW) = doneW := by subst h; cases nil <;> rfl
theorem wordAt_still {hit nil : Bool} (n : nil = false) (h : hit = true) : (if nil || !hit then doneW else stillW) = stillW := by subst h n; rfl
/-- the loop's things -/
structure L7 {L : Addr} (X : LD L) (fz led : Led) (IT ld lw : Addr) (x e st : Int) (vsd : List Value) (nd : Nat) (due : List (Nat × Nat)) (vsw : List Value) (nw : Nat) : Prop where
  z : LZ L fz led
  it : Ob led IT (IsRIt x e st)
  hd : (ld, listOf vsd.toArray nd) ∈ led
  pd : PairsIn X.κ X.Φ led vsd due
  hw : (lw, listOf vsw.toArray nw) ∈ led
section
variable {L L' : Addr} {X : LD L} {fz led led' : Led} {IT ld lw : Addr} {x e st : Int} {vsd : List Value} {nd : Nat} {due : List (Nat × Nat)} {vsw : List Value} {nw : Nat} {g h : Heap}
theorem L7.sub (H : L7 X fz led IT ld lw x e st vsd nd due vsw nw) (hs : ∀ q ∈ led, q ∈ led') : L7 X fz led' IT ld lw x e st vsd nd due vsw nw :=
  ⟨H.z.sub hs, H.it.sub hs, hs _ H.hd, H.pd.sub hs, hs _ H.hw⟩
theorem L7.addD (H : L7 X fz led IT ld lw x e st vsd nd due vsw nw) (N : News g L' h led) (hk : ∀ p ∈ led, p.1 ≠ ld → p ∈ led') {a : Addr} {n b n' : Nat} {k1 k2 : Tok} (hm : (ld, listOf (vsd ++ [Value.ref a]).toArray n') ∈ led') (ht : (a, tupO [.int (n : Nat) k1, txt X.κ (X.Φ.f b) k2]) ∈ led) (hf : ∀ q ∈ fz, q.1 ≠ ld ∧ q.1 ≠ lw) (hne : ld ≠ lw) : L7 X fz led' IT ld lw x e st (vsd ++ [.ref a]) n' (due ++ [(n, b)]) vsw nw := by
  have hI : Ob led ld (fun o => o = listOf vsd.toArray nd) := ⟨_, H.hd, rfl⟩
  have tk : ∀ {a : Addr} {us : List Value}, (a, tupO us) ∈ led → (a, tupO us) ∈ led' := fun hm => mem_keep N hI hk hm fun q => by
    have := congrArg Obj.cls q
    exact absurd this (by show Value.type "tuple" ≠ Value.type "list"; decide)
  exact ⟨H.z.move N hI hk (fun q hq => (hf q hq).1) (fun o v h1 h2 => by subst h2; exact list_cell h1) noCo_list, ob_keep N hI hk H.it (fun o h1 h2 => by subst h2; exact list_rit h1), hm, (H.pd.keep fun _ _ => tk).app (.cons (tk ht) .nil), hk _ H.hw (fun q => hne q.symm)⟩
theorem L7.addW (H : L7 X fz led IT ld lw x e st vsd nd due vsw nw) (N : News g L' h led) (hk : ∀ p ∈ led, p.1 ≠ lw → p ∈ led') {v : Value} {n' : Nat} (hm : (lw, listOf (vsw ++ [v]).toArray n') ∈ led') (hf : ∀ q ∈ fz, q.1 ≠ ld ∧ q.1 ≠ lw) (hne : ld ≠ lw) : L7 X fz led' IT ld lw x e st vsd nd due (vsw ++ [v]) n' := by
  have hI : Ob led lw (fun o => o = listOf vsw.toArray nw) := ⟨_, H.hw, rfl⟩
  have tk : ∀ {a : Addr} {us : List Value}, (a, tupO us) ∈ led → (a, tupO us) ∈ led' := fun hm => mem_keep N hI hk hm fun q => by
    have := congrArg Obj.cls q
    exact absurd this (by show Value.type "tuple" ≠ Value.type "list"; decide)
  exact ⟨H.z.move N hI hk (fun q hq => (hf q hq).2) (fun o v h1 h2 => by subst h2; exact list_cell h1) noCo_list, ob_keep N hI hk H.it (fun o h1 h2 => by subst h2; exact list_rit h1), hk _ H.hd hne, H.pd.keep fun _ _ => tk, hm⟩
end
inductive L7I (w : World) (loose : List Str) (mean : ExcName → Option Value) (mg : Str → Option Value) (mb : Str → Option Value) (base : Heap) (L : Addr) (X : LD L) (fz : Led) (IT : Addr) (s : Shared) (ring : List Nat) (late : Nat) (kb : Tok) (ke : Tok) (kl : Tok) (S : Addr) (lr : Addr) (lg : Addr) (ld : Addr) (lw : Addr) (n' : Nat) (s' : Shared) : Prop
  | mk (i : Nat) (g' : Heap) (h' : Heap) (tk' : Nat) (m' : Str → Option Value) (led : Led) (vsd : List Value) (nd : Nat) (vsw : List Value) (nw : Nat)
      (e1 : n' = X.vW.length - i) (e2 : i ≤ X.vW.length) (e3 : s' = { s with heap := h', toks := tk' }) (e4 : LCx w loose mean mg mb base g') (e5 : Fr g' L h' m') (e6 : News g' L h' led) (e7 : Ob led IT (IsRIt (i : Int) ((X.vW.length : Int) - (i : Int)) 1)) (e8 : LZ L fz led) (e9 : (ld, listOf vsd.toArray nd) ∈ led) (e10 : PairsIn X.κ X.Φ led vsd (dueL (choices X.rw) (hitR X.κ X.r1) (decide (ring = [])) late i)) (e11 : vsd.length ≤ i) (e12 : (lw, listOf vsw.toArray nw) ∈ led) (e13 : TxtsAre false vsw (wordL (choices X.rw) (hitR X.κ X.r1) (decide (ring = [])) i)) (e14 : vsw.length ≤ i) (e15 : m' (Str.ofString "first") = some (.ref X.l1)) (e16 : m' (Str.ofString "second") = some (.ref X.l2)) (e17 : m' (Str.ofString "sorter") = some (.ref S)) (e18 : m' (Str.ofString "begin") = some (txt X.κ (47 :: bod X.r1) kb)) (e19 : m' (Str.ofString "end") = some (txt X.κ (47 :: bod X.r2) ke)) (e20 : m' (Str.ofString "ring") = some (.ref lr)) (e21 : m' (Str.ofString "given") = some (.ref lg)) (e22 : m' (Str.ofString "late") = some (.int (late : Nat) kl)) (e23 : m' (Str.ofString "due") = some (.ref ld)) (e24 : m' (Str.ofString "words") = some (.ref lw))
theorem law_p7 (w : World) (body : List Stmt) (scope : Scope) (cdv : Addr × Value) (hL : LawAt w body scope) (loose : List Str) (mean : ExcName → Option Value) (mg mb : Str → Option Value) (base g : Heap) (L : Addr) (m : Str → Option Value) (led : Led) (s : Shared) (X : LD L) (fz : Led) (S di D R : Addr) (cs : List CE) (pp : Int) (lr lg : Addr) (usr : List Value) (nr : Nat) (vsg : List Value) (ng : Nat) (ring : List Nat) (G : List (Nat × Nat)) (ld lw : Addr) (late : Nat) (kb ke kl : Tok) (Q : Flow → Shared → Prop)
    (C : LCx w loose mean mg mb base g) (F : Fr g L s.heap m) (N : News g L s.heap led) (H : LF w X fz S di D R cs pp lr lg usr nr vsg ng ring G) (Z : LZ L fz led) (hfd : ∀ q ∈ fz, q.1 ≠ ld ∧ q.1 ≠ lw) (hld : (ld, listOf ([] : List Value).toArray 0) ∈ led) (hlw : (lw, listOf ([] : List Value).toArray 0) ∈ led) (hne : ld ≠ lw)
    (hleap : ∀ r ∈ choices X.rw, leapsT X.κ X.r1 (47 :: bod r) = refu X.κ [47] X.r1 (choices r)) (hrl : usr.length ≤ 2000)
    (v1 : m (Str.ofString "first") = some (.ref X.l1)) (v2 : m (Str.ofString "second") = some (.ref X.l2)) (v3 : m (Str.ofString "sorter") = some (.ref S)) (v4 : m (Str.ofString "begin") = some (txt X.κ (47 :: bod X.r1) kb)) (v5 : m (Str.ofString "end") = some (txt X.κ (47 :: bod X.r2) ke)) (v6 : m (Str.ofString "ring") = some (.ref lr)) (v7 : m (Str.ofString "given") = some (.ref lg)) (v8 : m (Str.ofString "late") = some (.int (late : Nat) kl)) (v9 : m (Str.ofString "due") = some (.ref ld)) (v10 : m (Str.ofString "words") = some (.ref lw))
    (hQ : ∀ g' h' tk m' led' vsd nd vsw nw, LCx w loose mean mg mb base g' → Fr g' L h' m' → News g' L h' led' → LZ L fz led' → (ld, listOf vsd.toArray nd) ∈ led' → PairsIn X.κ X.Φ led' vsd (dueL (choices X.rw) (hitR X.κ X.r1) (decide (ring = [])) late (choices X.rw).length) → (lw, listOf vsw.toArray nw) ∈ led' → TxtsAre false vsw (wordL (choices X.rw) (hitR X.κ X.r1) (decide (ring = [])) (choices X.rw).length) →
      m' (Str.ofString "first") = some (.ref X.l1) → m' (Str.ofString "second") = some (.ref X.l2) → m' (Str.ofString "sorter") = some (.ref S) → m' (Str.ofString "begin") = some (txt X.κ (47 :: bod X.r1) kb) → m' (Str.ofString "end") = some (txt X.κ (47 :: bod X.r2) ke) → m' (Str.ofString "ring") = some (.ref lr) → m' (Str.ofString "given") = some (.ref lg) → m' (Str.ofString "due") = some (.ref ld) → m' (Str.ofString "words") = some (.ref lw) → Q .next { s with heap := h', toks := tk }) :
    wpAny (model PySem.Challenge.rw_op0160_01.row.prog w) (callerA.deeper (lawE scope L cdv)) (execs ((body.drop 15).take 1) (lawE scope L cdv)) Q (fun _ _ => False) s := by
  have XI := C.X
  revert XI
  k_fill
  intro XI
  refine' hL.at (P := fun body scope cdv => wpAny (model PySem.Challenge.rw_op0160_01.row.prog w) (callerA.deeper (lawE scope L cdv)) (execs ((body.drop 15).take 1) (lawE scope L cdv)) Q (fun _ _ => False) s) ?hc ?_
  (case hc => k_is)
  dsimp only [List.take, List.drop]
  have C0 := C
  refine hideG fun G9 hG9 => ?_
  obtain ⟨B, _, P, HB, KD⟩ := C
  refine hG9.out ?_
  clear hG9 G9
  have hcl := choices_len X.ok.len
  have hvl := X.rows.length
  have hpl := X.paths.length
  rw [List.length_map] at hpl
  have hul1 := X.t1.length
  have hn1 := (X.ok.sub X.s1).len
  have hcr := H.cr.sub Z.kp
  have hW := Z.kp _ H.hW
  k_extra "gm"
  refine for_at ?_ (fun _ => rfl)
  k_extra "gm"
  rename IsRange _ _ _ _ _ _ _ _ => hRg
  rename Fr _ _ _ _ => F1
  rename News _ _ _ _ => N1
  refine iter_R F1 N1 hRg (range_small (by omega)) ?_
  rw [range_size]
  intro IT h3 F3 N3 ltI
  refine ForAt.introH (L7I w loose mean mg mb base L X fz IT s ring late kb ke kl S lr lg ld lw) ?_ X.vW.length
    ⟨0, _, _, _, _, _, [], 0, [], 0, by omega, Nat.zero_le _, rfl, C0, F3, N3, ⟨_, .head _, by simp⟩, Z.sub fun q hq => .tail _ hq, .tail _ hld, .nil, Nat.le_refl _, .tail _ hlw, .nil, Nat.le_refl _, v1, v2, v3, v4, v5, v6, v7, v8, v9, v10⟩
  have hIf : ∀ q ∈ fz, @Ne Nat q.1 IT := fun q hq => Nat.ne_of_lt (ltI q (Z.kp q hq))
  have hId : ld ≠ IT := Nat.ne_of_lt (ltI _ hld)
  have hIw : lw ≠ IT := Nat.ne_of_lt (ltI _ hlw)
  clear F1 N1 F3 N3 Z hcr hW ltI hld hlw v1 v2 v3 v4 v5 v6 v7 v8 v9 v10 C0 B P HB KD XI hRg
  intro n' s' Qb hQb hp9z
  refine hideG fun G9 hG9 => ?_
  obtain ⟨i, g', h', tk', m', led, vsd, nd, vsw, nw, rfl, hi, rfl, C, F5, N5, hit, Z5, hld5, hpd5, hdl5, hlw5, hpw5, hwl5, v1, v2, v3, v4, v5, v6, v7, v8, v9, v10⟩ := hp9z
  have XI := C.X
  have C0 := C
  obtain ⟨B, _, P, HB, KD⟩ := C
  refine hG9.out ?_
  clear hG9 G9
  refine next_R rfl F5 N5 hit ?_ ?_
  · intro h6 led6 tk6 t6 hlt6 F6 N6 hit6 k6
    have Z6 := Z5.move N5 hit k6 hIf (fun o v h1 h2 => cell_rit h1 h2) noCo_rit
    have hld6 := mem_keep N5 hit k6 hld5 list_rit
    have hlw6 := mem_keep N5 hit k6 hlw5 list_rit
    have hpd6 := hpd5.keep (led' := led6) fun a us hm => mem_keep N5 hit k6 hm tup_rit
    clear F5 N5 hit k6 Z5 hld5 hlw5 hpd5
    k_extra "gm"
    refine ⟨?_⟩
    obtain ⟨vt, ht⟩ := Z6.ct
    refine storeC F6 N6 ht rfl ?_ rfl rfl
    intro h7 led7 F7 N7 c7 k7
    have Z7 := Z6.setT N6 ht k7 c7 fun q hq => (H.off q hq).1
    have hit7 := ob_keep N6 ht k7 hit6 (fun o h1 h2 => cell_rit h2 h1)
    have hld7 := mem_keep N6 ht k7 hld6 list_cell
    have hlw7 := mem_keep N6 ht k7 hlw6 list_cell
    have hpd7 := hpd6.keep (led' := led7) fun a us hm => mem_keep N6 ht k7 hm tup_cell
    clear F6 N6 ht k7 hit6 Z6 hld6 hlw6 hpd6
    have hcr := H.cr.sub Z7.kp
    have hco := H.co.sub Z7.kp
    have hcp := H.cp.sub Z7.kp
    have hW := Z7.kp _ H.hW
    have hP := Z7.kp _ H.hP
    have hl1 := Z7.kp _ H.h1
    have hrows := H.rows.sub Z7.kp
    refine hideG fun G9 hG9 => ?_
    obtain ⟨r, hr⟩ : ∃ r, (choices X.rw)[i]? = some r := ⟨(choices X.rw)[i]'(by omega), by simp⟩
    have hrm : r ∈ choices X.rw := List.mem_of_getElem? hr
    have hrk : RowOk r := X.ok.choices hrm
    have hbl := hrk.bod_len
    have hrlen := hrk.len
    obtain ⟨kp, hpj⟩ := X.paths.at (i := i) (t := 47 :: bod r) (by rw [List.getElem?_map, hr]; rfl)
    obtain ⟨la, ua, na, haj, hlf, hta⟩ := H.rows.at hr
    refine hG9.out ?_
    clear hG9 G9
    have hla := Z7.kp _ hlf
    have hual := hta.length
    have ok1 := X.ok.sub X.s1
    k_extra "gm"
    refine ⟨?_⟩
    refine itemL (i := i) N7 hW rfl (by omega) haj ?_
    k_extra "gm"
    refine Fn.use (choices_fn w X.κ r la ua na led7 hla hta hrlen fun t ht => (hrk.nm t ht).asc) rfl B F7 XI N7 P rfl rfl (Nat.le_of_ble_eq_true rfl) (Nat.le_of_ble_eq_true rfl) ?_
    rintro v h8 tk8 led8 F8 N8 hp9z
    refine hideG fun G9 hG9 => ?_
    obtain ⟨Dc, vc, ec, rfl, hDc, hrc, hs8⟩ := hp9z
    refine hG9.out ?_
    clear hG9 G9
    clear F7 N7
    have hvcl := choices_len hrlen
    k_extra "gm"
    refine Fn.use (refusal_fn w X.κ [47] X.ko X.r1 (choices r) X.l1 Dc X.us1 vc X.n1 ec led8 (hs8 _ hl1) X.t1 hn1 (fun t ht => ⟨(ok1.nm t ht).plain, ((ok1.nm t ht).asc).2⟩) hDc hrc (fun r' hr' => (hrk.choices hr').asc) (by omega) ⟨fun c hc => .inl (List.mem_singleton.mp hc), by decide⟩) rfl B F8 XI N8 P rfl rfl (Nat.le_of_ble_eq_true rfl) (Nat.le_of_ble_eq_true rfl) ?_
    intro v h9 tk9 led9 F9 N9 hp9z
    refine hideG fun G9 hG9 => ?_
    obtain ⟨hs9, kr, rfl⟩ := hp9z
    refine hG9.out ?_
    clear hG9 G9
    clear F8 N8
    have hs79 : ∀ q ∈ led7, q ∈ led9 := fun q hq => hs9 q (hs8 q hq)
    have Z9 := Z7.sub hs79
    have hit9 := hit7.sub hs79
    have hld9 := hs79 _ hld7
    have hlw9 := hs79 _ hlw7
    have hpd9 := hpd7.sub hs79
    have hct9 := c7.sub hs79
    have hcp9 := hcp.sub hs79
    have hP9 := hs79 _ hP
    clear hs8 hs9 hDc hrc Z7 hit7 hld7 hlw7 hpd7 c7 hcp hP hcr hco hW hrows hl1 hs79
    k_extra "gm"
    refine ⟨?_⟩
    rename Fr _ _ _ _ => F10
    rename News _ _ _ _ => N10
    refine itemL (i := i) N10 hP9 rfl (by omega) hpj ?_
    k_extra "gm"
    refine FnS.use (leaps_fn w X.κ (47 :: bod r) kp X.l1 X.us1 X.n1 X.r1 led9 (Z9.kp _ H.h1) X.t1 hrk.path.asc (by rw [List.length_cons]; omega) (fun t ht => ⟨(ok1.nm t ht).plain, ((ok1.nm t ht).asc).2⟩) Z9.tb) rfl rfl rfl B F10 N10 HB.out.1 HB.out.2 KD KtsTurn.refl rfl (Nat.le_of_ble_eq_true rfl) (Nat.le_of_ble_eq_true rfl) ?_ ?_
    rotate_left
    · intro _ _ _ _ _ _ _ _ _ _ _ _ _ _ _ hf
      exact hf.elim
    intro v11 g11 h11 tk11 led11 T11 B11 F11 N11 X11 P11 D11 hp9z
    refine hideG fun G9 hG9 => ?_
    obtain ⟨hx11, hc11, kl11, rfl⟩ := hp9z
    refine hG9.out ?_
    clear hG9 G9
    have C11 := C0.turn T11
    have Z11 := Z9.ext N10 (fun q hq => (H.off q hq).2.2) hx11 hc11
    have hit11 : Ob led11 IT _ := let ⟨o, m, c⟩ := hit9; ⟨o, ext_keep N10 Z9.tb hx11 m (fun ps e => by subst e; have := congrArg Obj.cls c; cases this), c⟩
    have hld11 := ext_keep N10 Z9.tb hx11 hld9 (fun ps e => list_tab e)
    have hlw11 := ext_keep N10 Z9.tb hx11 hlw9 (fun ps e => list_tab e)
    have hpd11 := hpd9.keep (led' := led11) fun a us hm => ext_keep N10 Z9.tb hx11 hm (fun ps e => tup_tab e)
    have hct11 : Ob led11 (tC L) _ := let ⟨o, m, c⟩ := hct9; ⟨o, ext_keep N10 Z9.tb hx11 m (fun ps e => cell_tab c e), c⟩
    have hcp11 := H.cp.sub Z11.kp
    have hcr11 := H.cr.sub Z11.kp
    have hP11 := Z11.kp _ H.hP
    have hW11 := Z11.kp _ H.hW
    have hrg11 := Z11.kp _ H.hr
    have hla11 := Z11.kp _ hlf
    have L11 : L7 X fz led11 IT ld lw _ _ _ _ _ _ _ _ := ⟨Z11, hit11, hld11, hpd11, hlw11⟩
    clear hit11 hpd11 Z11
    have hasc : AscR (ring.map X.Φ.f) := fun t ht => by obtain ⟨b, _, rfl⟩ := List.mem_map.mp ht; exact X.Φ.asc b
    have hda : (choices X.rw).getD i [] = r := by rw [List.getD_eq_getElem?_getD, hr]; rfl
    have hph := X.phi i r hr
    have hdn : dueL (choices X.rw) (hitR X.κ X.r1) (decide (ring = [])) late (i + 1) = dueL (choices X.rw) (hitR X.κ X.r1) (decide (ring = [])) late i ++ dueAt (hitR X.κ X.r1 r) (decide (ring = [])) late ua.length i := by
      show _ ++ _ = _
      rw [hda, hual]
    have hwn : wordL (choices X.rw) (hitR X.κ X.r1) (decide (ring = [])) (i + 1) = wordL (choices X.rw) (hitR X.κ X.r1) (decide (ring = [])) i ++ [if decide (ring = []) || !hitR X.κ X.r1 r then doneW else stillW] := by
      show _ ++ _ = _
      rw [hda]
    have ei1 : (((i + 1 : Nat)) : Int) = (i : Int) + 1 := by omega
    have ei2 : (X.vW.length : Int) - ((i : Int) + 1) = (X.vW.length : Int) - (i : Int) - 1 := by omega
    clear hx11 hc11 Z9 hit9 hld9 hlw9 hpd9 hct9 hcp9 hP9 F10 N10 C0 B P HB KD XI
    rw [hleap r hrm]
    k_extra "gm"
    refine ⟨?_⟩
    refine strNe ?_
    rw [decide_eq_false (fun h => h rfl)]
    refine hideG fun G9 hG9 => ?_
    obtain ⟨B, XI, P, HB, KD⟩ := id C11
    refine hG9.out ?_
    clear hG9 G9
    k_extra "gm"
    refine ⟨?_⟩
    refine strNe0 ?_
    by_cases hz : refu X.κ [47] X.r1 (choices r) = []
    · rw [decide_eq_false (fun h => h hz)]
      have hhit : hitR X.κ X.r1 r = true := decide_eq_true hz
      k_extra "gm"
      refine ⟨?_⟩
      rename Fr _ _ _ _ => F12
      rename News _ _ _ _ => N12
      refine eqTxts N12 (.tail _ hrg11) (.head _) H.ring.txts .nil hasc (fun _ h => nomatch h) (Nat.le_of_ble_eq_true rfl) ?_
      by_cases hn : ring = []
      · rw [decide_eq_true (by rw [hn]; rfl)]
        have hld12 := news_tl N12 hld11
        have hla12 := news_tl N12 hla11
        have hct12 := ob_tl N12 hct11
        have hcr12 := ob_tl N12 hcr11
        have hcp12 := ob_tl N12 hcp11
        k_extra "gm"
        refine ⟨?_⟩
        refine itemL (i := i) N12 (.tail _ hW11) rfl (by omega) haj ?_
        k_extra "gm"
        refine ⟨?_⟩
        refine itemL (i := i) N12 (.tail _ hP11) rfl (by omega) hpj ?_
        k_extra "gm"
        refine ⟨?_⟩
        rw [← hph]
        refine newTup F12 N12 (by show 2 ≤ _; omega) ?_
        intro at13 h13 F13 N13 lt13
        k_extra "gm"
        refine ⟨?_⟩
        refine appL F13 N13 (.tail _ (.tail _ hld11)) (by omega) ?_
        intro h14 led14 F14 N14 hd14 k14
        have L14 := (L11.sub (led' := _) fun q hq => .tail _ (.tail _ hq)).addD N13 k14 hd14 (by rw [← Int.natCast_add]; exact .head _) hfd hne
        have hw14 := L14.hw
        have hr14 := L14.z.kp _ H.hr
        clear F13 N13 k14
        k_extra "gm"
        refine ⟨?_⟩
        rename Fr _ _ _ _ => F15
        rename News _ _ _ _ => N15
        refine eqTxts N15 (.tail _ hr14) (.head _) H.ring.txts .nil hasc (fun _ h => nomatch h) (Nat.le_of_ble_eq_true rfl) ?_
        rw [decide_eq_true (by rw [hn]; rfl)]
        k_extra "gm"
        refine ⟨?_⟩
        rename Fr _ _ _ _ => F17
        rename News _ _ _ _ => N17
        refine appL F17 N17 (.tail _ L14.hw) (by omega) ?_
        intro h18 led18 F18 N18 hd18 k18
        have L18 := (L14.sub (led' := _ :: _) fun q hq => .tail _ hq).addW N17 k18 hd18 hfd hne
        rw [str_txt] at L18
        clear F17 N17 k18
        k_extra "gm"
        refine hQb.next _ ⟨X.vW.length - (i + 1), by omega, i + 1, g11, _, _, _, led18, _, _, _, _, rfl, by omega, rfl, C11, F18, N18, by rw [ei1, ei2]; exact L18.it, L18.z, L18.hd, ?_, by first | omega | (simp only [List.length_append, List.length_cons, List.length_nil]; omega), L18.hw, ?_, by first | omega | (simp only [List.length_append, List.length_cons, List.length_nil]; omega), v1, v2, v3, v4, v5, v6, v7, v8, v9, v10⟩
        · rw [hdn, dueAt_yes hhit (decide_eq_true hn)]; exact L18.pd
        · rw [hwn, wordAt_nil (decide_eq_true hn)]; exact hpw5.app (.cons .nil)
      · rw [decide_eq_false (by simpa using hn)]
        have L12 := L11.sub fun q hq => news_tl N12 hq
        have hw12 := L12.hw
        k_extra "gm"
        refine ⟨?_⟩
        rename Fr _ _ _ _ => F15
        rename News _ _ _ _ => N15
        refine eqTxts N15 (.tail _ (.tail _ hrg11)) (.head _) H.ring.txts .nil hasc (fun _ h => nomatch h) (Nat.le_of_ble_eq_true rfl) ?_
        rw [decide_eq_false (by simpa using hn)]
        k_extra "gm"
        refine ⟨?_⟩
        refine strNe0 ?_
        rw [decide_eq_false (fun h => h hz)]
        k_extra "gm"
        refine ⟨?_⟩
        rename Fr _ _ _ _ => F17
        rename News _ _ _ _ => N17
        refine appL F17 N17 (.tail _ L12.hw) (by omega) ?_
        intro h18 led18 F18 N18 hd18 k18
        have L18 := (L12.sub (led' := _ :: _) fun q hq => .tail _ hq).addW N17 k18 hd18 hfd hne
        rw [str_txt] at L18
        clear F17 N17 k18
        k_extra "gm"
        refine hQb.next _ ⟨X.vW.length - (i + 1), by omega, i + 1, g11, _, _, _, led18, _, _, _, _, rfl, by omega, rfl, C11, F18, N18, by rw [ei1, ei2]; exact L18.it, L18.z, L18.hd, ?_, by first | omega | (simp only [List.length_append, List.length_cons, List.length_nil]; omega), L18.hw, ?_, by first | omega | (simp only [List.length_append, List.length_cons, List.length_nil]; omega), v1, v2, v3, v4, v5, v6, v7, v8, v9, v10⟩
        · rw [hdn, dueAt_no hhit (decide_eq_false hn), List.append_nil]; exact L18.pd
        · rw [hwn, wordAt_still (decide_eq_false hn) hhit]; exact hpw5.app (.cons .nil)
    · rw [decide_eq_true hz]
      have hhit : hitR X.κ X.r1 r = false := decide_eq_false hz
      k_extra "gm"
      refine ⟨?_⟩
      rename Fr _ _ _ _ => F12
      rename News _ _ _ _ => N12
      refine itemL (i := i) N12 hW11 rfl (by omega) haj ?_
      k_extra "gm"
      refine ⟨?_⟩
      refine itemL (i := i) N12 hP11 rfl (by omega) hpj ?_
      k_extra "gm"
      refine ⟨?_⟩
      rw [← hph]
      refine newTup F12 N12 (by show 2 ≤ _; omega) ?_
      intro at13 h13 F13 N13 lt13
      k_extra "gm"
      refine ⟨?_⟩
      refine appL F13 N13 (.tail _ hld11) (by omega) ?_
      intro h14 led14 F14 N14 hd14 k14
      have L14 := (L11.sub (led' := _) fun q hq => .tail _ hq).addD N13 k14 hd14 (.head _) hfd hne
      have hw14 := L14.hw
      have hr14 := L14.z.kp _ H.hr
      clear F13 N13 k14
      k_extra "gm"
      refine ⟨?_⟩
      rename Fr _ _ _ _ => F15
      rename News _ _ _ _ => N15
      refine eqTxts N15 (.tail _ hr14) (.head _) H.ring.txts .nil hasc (fun _ h => nomatch h) (Nat.le_of_ble_eq_true rfl) ?_
      by_cases hn : ring = []
      · rw [decide_eq_true (by rw [hn]; rfl)]
        k_extra "gm"
        refine ⟨?_⟩
        rename Fr _ _ _ _ => F17
        rename News _ _ _ _ => N17
        refine appL F17 N17 (.tail _ L14.hw) (by omega) ?_
        intro h18 led18 F18 N18 hd18 k18
        have L18 := (L14.sub (led' := _ :: _) fun q hq => .tail _ hq).addW N17 k18 hd18 hfd hne
        rw [str_txt] at L18
        clear F17 N17 k18
        k_extra "gm"
        refine hQb.next _ ⟨X.vW.length - (i + 1), by omega, i + 1, g11, _, _, _, led18, _, _, _, _, rfl, by omega, rfl, C11, F18, N18, by rw [ei1, ei2]; exact L18.it, L18.z, L18.hd, ?_, by first | omega | (simp only [List.length_append, List.length_cons, List.length_nil]; omega), L18.hw, ?_, by first | omega | (simp only [List.length_append, List.length_cons, List.length_nil]; omega), v1, v2, v3, v4, v5, v6, v7, v8, v9, v10⟩
        · rw [hdn, dueAt_out hhit]; exact L18.pd
        · rw [hwn, wordAt_nil (decide_eq_true hn)]; exact hpw5.app (.cons .nil)
      · rw [decide_eq_false (by simpa using hn)]
        k_extra "gm"
        refine ⟨?_⟩
        refine strNe0 ?_
        rw [decide_eq_true hz]
        k_extra "gm"
        refine ⟨?_⟩
        rename Fr _ _ _ _ => F17
        rename News _ _ _ _ => N17
        refine appL F17 N17 (.tail _ L14.hw) (by omega) ?_
        intro h18 led18 F18 N18 hd18 k18
        have L18 := (L14.sub (led' := _ :: _) fun q hq => .tail _ hq).addW N17 k18 hd18 hfd hne
        rw [str_txt] at L18
        clear F17 N17 k18
        k_extra "gm"
        refine hQb.next _ ⟨X.vW.length - (i + 1), by omega, i + 1, g11, _, _, _, led18, _, _, _, _, rfl, by omega, rfl, C11, F18, N18, by rw [ei1, ei2]; exact L18.it, L18.z, L18.hd, ?_, by first | omega | (simp only [List.length_append, List.length_cons, List.length_nil]; omega), L18.hw, ?_, by first | omega | (simp only [List.length_append, List.length_cons, List.length_nil]; omega), v1, v2, v3, v4, v5, v6, v7, v8, v9, v10⟩
        · rw [hdn, dueAt_out hhit]; exact L18.pd
        · rw [hwn, wordAt_out hhit]; exact hpw5.app (.cons .nil)
  · intro h6 led6 hlt6 F6 N6 k6
    have hei : i = (choices X.rw).length := by omega
    have Z6 := Z5.move N5 hit k6 hIf (fun o v h1 h2 => cell_rit h1 h2) noCo_rit
    have hld6 := mem_keep N5 hit k6 hld5 list_rit
    have hlw6 := mem_keep N5 hit k6 hlw5 list_rit
    have hpd6 := hpd5.keep (led' := led6) fun a us hm => mem_keep N5 hit k6 hm tup_rit
    k_extra "gm"
    subst hei
    exact hQ _ _ _ m' led6 _ _ _ _ C0 F6 N6 Z6 hld6 hpd6 hlw6 hpw5 v1 v2 v3 v4 v5 v6 v7 v9 v10

theorem fresh_P68_pairs : True := by
  w_top off
  trivial
-- texts in order
noncomputable def ltT : List Nat → List Nat → Bool
  | _, [] => false
  | [], _ :: _ => true
  | a :: r, b :: t => decide (a < b) || (a == b && ltT r t)
theorem ltT_asym : ∀ {t u : List Nat}, ltT t u = true → ltT u t = false
  | [], _ :: _, _ => rfl
  | a :: r, b :: t, h => by
    unfold ltT at h ⊢
    rcases Nat.lt_trichotomy a b with q | q | q
    · have e1 : decide (b < a) = false := by simp; omega
      have e2 : (b == a) = false := by simp; omega
      rw [e1, e2]; rfl
    · subst q
      have e1 : decide (a < a) = false := by simp
      rw [e1] at h ⊢
      have h : ltT r t = true := by simpa using h
      rw [ltT_asym h]; simp
    · have e1 : decide (a < b) = false := by simp; omega
      have e2 : (a == b) = false := by simp; omega
      rw [e1, e2] at h
      cases h
theorem ltT_trans : ∀ {t u v : List Nat}, ltT t u = true → ltT u v = true → ltT t v = true
  | [], _ :: _, _ :: _, _, _ => rfl
  | a :: r, b :: t, c :: v, h, h' => by
    unfold ltT at h h' ⊢
    rw [Bool.or_eq_true, Bool.and_eq_true, decide_eq_true_iff, beq_iff_eq] at h h' ⊢
    rcases h with h | ⟨h1, h2⟩
    · rcases h' with h' | ⟨h1', _⟩
      · exact .inl (by omega)
      · exact .inl (by omega)
    · rcases h' with h' | ⟨h1', h2'⟩
      · exact .inl (by omega)
      · exact .inr ⟨by omega, ltT_trans h2 h2'⟩
theorem ltT_total : ∀ {t u : List Nat}, t ≠ u → ltT t u = false → ltT u t = true
  | [], [], h, _ => absurd rfl h
  | _ :: _, [], _, _ => rfl
  | a :: r, b :: t, hn, h => by
    unfold ltT at h ⊢
    rw [Bool.or_eq_false_iff, Bool.and_eq_false_iff, decide_eq_false_iff_not] at h
    rw [Bool.or_eq_true, Bool.and_eq_true, decide_eq_true_iff, beq_iff_eq]
    rcases Nat.lt_trichotomy a b with q | q | q
    · exact absurd q h.1
    · subst q
      refine .inr ⟨rfl, ltT_total (fun e => hn (by rw [e])) (h.2.resolve_left (by simp))⟩
    · exact .inl q
theorem ltT_list : ∀ t u : List Nat, decide (t < u) = ltT t u
  | [], [] => by decide
  | _ :: _, [] => by rw [decide_eq_false (List.not_lt_nil _)]; rfl
  | [], _ :: _ => by rw [decide_eq_true (List.nil_lt_cons _ _)]; rfl
  | a :: r, b :: t => by
    unfold ltT
    rw [← ltT_list r t, Bool.eq_iff_iff, decide_eq_true_iff, Bool.or_eq_true, Bool.and_eq_true, decide_eq_true_iff, decide_eq_true_iff, beq_iff_eq, List.cons_lt_cons_iff]
theorem ltT_bytes : ∀ {t u : List Nat}, Asc t → Asc u → (Builtin.Bytes.order (t.map UInt8.ofNat) (u.map UInt8.ofNat) == .lt) = ltT t u
  | [], [], _, _ => rfl
  | _ :: _, [], _, _ => rfl
  | [], _ :: _, _, _ => rfl
  | a :: r, b :: t, h, h' => by
    have ha := h a (.head _)
    have hb := h' b (.head _)
    have ea : (UInt8.ofNat a).toNat = a := by rw [UInt8.toNat_ofNat']; omega
    have eb : (UInt8.ofNat b).toNat = b := by rw [UInt8.toNat_ofNat']; omega
    have l1 : UInt8.ofNat a < UInt8.ofNat b ↔ a < b := by rw [UInt8.lt_iff_toNat_lt, ea, eb]
    have l2 : UInt8.ofNat b < UInt8.ofNat a ↔ b < a := by rw [UInt8.lt_iff_toNat_lt, ea, eb]
    have ih := ltT_bytes (t := r) (u := t) (fun c hc => h c (.tail _ hc)) (fun c hc => h' c (.tail _ hc))
    unfold ltT
    show ((if UInt8.ofNat a < UInt8.ofNat b then Ordering.lt else if UInt8.ofNat a > UInt8.ofNat b then Ordering.gt else Builtin.Bytes.order (r.map UInt8.ofNat) (t.map UInt8.ofNat)) == .lt) = _
    rcases Nat.lt_trichotomy a b with q | q | q
    · rw [if_pos (l1.mpr q), decide_eq_true q]; rfl
    · subst q
      rw [if_neg (fun z => absurd (l1.mp z) (Nat.lt_irrefl _)), if_neg (fun z => absurd (l1.mp z) (Nat.lt_irrefl _)), ih]
      simp
    · have e1 : decide (a < b) = false := by simp; omega
      have e2 : (a == b) = false := by simp; omega
      rw [if_neg (fun z => absurd (l1.mp z) (by omega)), if_pos (l2.mpr q), e1, e2]; rfl
theorem slot_bytes_lt : Slot "bytes" (cmpInfo .Lt).2.1 "bytes.__lt__" :=
  .of (owner := "bytes") (n := "__lt__") (by rw [typeLookup_type, builtinLookup_eq_fast]; kernel_rfl) (by decide +kernel) (by decide +kernel) (by decide +kernel)
    (by first | exact .inl (by decide +kernel) | exact .inr (by decide +kernel)) (by rw [isSubtype_type]; kernel_rfl)
theorem entry_bytes_lt : entryFor table "bytes.__lt__" = some Builtin.«bytes.__lt__» := entryFor_of_tree (by kernel_rfl)
theorem args_bytes_lt (a b : Value) : argsOk "bytes.__lt__" ⟨[a, b], []⟩ := by
  unfold argsOk; rw [signature?_of (id := "bytes.__lt__") (n := ['_', '_', 't', 'l', '_', '_']) (o := ['s', 'e', 't', 'y', 'b']) (by kernel_rfl) FB.owner_bytes]; kernel_rfl
theorem gives_bytes_lt (b c : Array UInt8) (t u : Tok) : Gives (Builtin.«bytes.__lt__» ⟨[.bytes b t, .bytes c u], []⟩) (.val (.bool (Builtin.Bytes.order b.toList c.toList == .lt))) := by
  refine .of_wp fun M A E s Q hq => ?_
  show wpAny M A (isInstance (.bytes c u) (.type "bytes") >>= fun r => _) _ E s
  refine wpAny_bind (wpAny_isInstance (typeIs_bytes s c u) F.sub_bytes_bytes ?_)
  exact wpAny_pure ⟨_, rfl, hq⟩
section
variable {prog : Program} {w : World} {A : Around} {E : Value → Shared → Prop} {s : Shared} {κ : Bool} {t u : List Nat} {a b : Tok}
theorem txt_lt {Q : Value → Shared → Prop} (ht : Asc t) (hu : Asc u) (h : Q (.bool (ltT t u)) s) : wpAny (model prog w) A (compareOp .Lt (txt κ t a) (txt κ u b)) Q E s := by
  cases κ
  · refine lt_str ?_
    have e : decide ((⟨t.toArray⟩ : Str).cps.toList < (⟨u.toArray⟩ : Str).cps.toList) = ltT t u := ltT_list t u
    rw [e]; exact h
  · refine compareOp_gives (op := .Lt) (typeIs_bytes s _ a) (typeIs_bytes s _ b) slot_bytes_lt entry_bytes_lt (args_bytes_lt _ _) (gives_bytes_lt _ _ a b) (fun e => nomatch e) ?_
    have e : (Builtin.Bytes.order (t.map UInt8.ofNat).toArray.toList (u.map UInt8.ofNat).toArray.toList == .lt) = ltT t u := ltT_bytes ht hu
    show Q (.bool _) s
    rw [e]; exact h
end
/-- pairs in order -/
noncomputable def ltP (Φ : NodeFn) (p q : Nat × Nat) : Bool := decide (p.1 < q.1) || (p.1 == q.1 && ltT (Φ.f p.2) (Φ.f q.2))
theorem ltP_asym {Φ : NodeFn} {p q : Nat × Nat} (h : ltP Φ p q = true) : ltP Φ q p = false := by
  unfold ltP at *
  rw [Bool.or_eq_true, Bool.and_eq_true, decide_eq_true_iff, beq_iff_eq] at h
  rw [Bool.or_eq_false_iff, Bool.and_eq_false_iff, decide_eq_false_iff_not]
  rcases h with h | ⟨h1, h2⟩
  · exact ⟨by omega, .inl (by simp; omega)⟩
  · exact ⟨by omega, .inr (ltT_asym h2)⟩
theorem ltP_trans {Φ : NodeFn} {p q r : Nat × Nat} (h : ltP Φ p q = true) (h' : ltP Φ q r = true) : ltP Φ p r = true := by
  unfold ltP at *
  rw [Bool.or_eq_true, Bool.and_eq_true, decide_eq_true_iff, beq_iff_eq] at *
  rcases h with h | ⟨h1, h2⟩
  · rcases h' with h' | ⟨h1', h2'⟩ <;> exact .inl (by omega)
  · rcases h' with h' | ⟨h1', h2'⟩
    · exact .inl (by omega)
    · exact .inr ⟨by omega, ltT_trans h2 h2'⟩
theorem ltP_total {Φ : NodeFn} {p q : Nat × Nat} (hn : p ≠ q) (h : ltP Φ p q = false) : ltP Φ q p = true := by
  unfold ltP at *
  rw [Bool.or_eq_false_iff, Bool.and_eq_false_iff, decide_eq_false_iff_not] at h
  rw [Bool.or_eq_true, Bool.and_eq_true, decide_eq_true_iff, beq_iff_eq]
  rcases Nat.lt_trichotomy p.1 q.1 with w | w | w
  · exact absurd w h.1
  · refine .inr ⟨w.symm, ltT_total (fun e => hn (Prod.ext w (Φ.inj _ _ e))) (h.2.resolve_left (by simp [w]))⟩
  · exact .inl w
theorem srt_uniq {Φ : NodeFn} : ∀ {l k : List (Nat × Nat)}, l.Pairwise (fun p q => ltP Φ p q = true) → k.Pairwise (fun p q => ltP Φ p q = true) → (∀ p, p ∈ l ↔ p ∈ k) → l = k
  | [], [], _, _, _ => rfl
  | [], b :: k, _, _, h => absurd ((h b).mpr (.head _)) (by simp)
  | a :: l, [], _, _, h => absurd ((h a).mp (.head _)) (by simp)
  | a :: l, b :: k, h1, h2, h => by
    obtain ⟨g1, g2⟩ := List.pairwise_cons.mp h1
    obtain ⟨g3, g4⟩ := List.pairwise_cons.mp h2
    have irr : ∀ p, ltP Φ p p = true → False := fun p hp => by have := ltP_asym hp; rw [hp] at this; cases this
    have e : a = b := by
      rcases List.mem_cons.mp ((h a).mp (.head _)) with q | q
      · exact q
      · rcases List.mem_cons.mp ((h b).mpr (.head _)) with q' | q'
        · exact q'.symm
        · have h3 := g3 a q
          have h4 := ltP_asym (g1 b q')
          rw [h3] at h4; cases h4
    subst e
    rw [srt_uniq g2 g4 fun p => ⟨fun hp => ?_, fun hp => ?_⟩]
    · rcases List.mem_cons.mp ((h p).mp (.tail _ hp)) with q | q
      · subst q; exact (irr _ (g1 _ hp)).elim
      · exact q
    · rcases List.mem_cons.mp ((h p).mpr (.tail _ hp)) with q | q
      · subst q; exact (irr _ (g3 _ hp)).elim
      · exact q
section
variable {prog : Program} {w : World} {A : Around} {E : Value → Shared → Prop} {s : Shared} {κ : Bool} {Φ : NodeFn} {h₀ : Heap} {L l b : Addr} {m : Str → Option Value} {led : Led} {vs us : List Value} {ps : List (Nat × Nat)} {n k : Nat}
open PySem.SeqAt in
/-- two lists of the same pairs are alike -/
theorem nePairs {Q : Value → Shared → Prop} (N : News h₀ L s.heap led) (hl : (l, listOf us.toArray n) ∈ led) (hb : (b, listOf vs.toArray k) ∈ led) (hu : PairsIn κ Φ led us ps) (hv : PairsIn κ Φ led vs ps) (hA : A.units + 3 < cLine) (h : Q (.bool false) s) : wpAny (model prog w) A (compareOp .NotEq (.ref l) (.ref b)) Q E s := by
  have il : s.heap.IsList l us.toArray := ⟨_, (N _ hl).1, rfl, n, rfl⟩
  have ib : s.heap.IsList b vs.toArray := ⟨_, (N _ hb).1, rfl, k, rfl⟩
  have l1 := hu.length
  have l2 := hv.length
  refine RcNeAt.lists (e := fun _ => true) il ib (by simp; omega) (by omega) (fun j q1 q2 => ?_) prog w E Q ?_
  · have e1 : us[j]? = some us.toArray[j] := by simp at q1 ⊢
    have e2 : vs[j]? = some vs.toArray[j] := by simp at q2 ⊢
    obtain ⟨a, x, y, k1, k2, g1, g2, g3⟩ := hu.get e1
    obtain ⟨a', x', y', k1', k2', g1', g2', g3'⟩ := hv.get e2
    rw [g3] at g3'
    obtain ⟨rfl, rfl⟩ : x = x' ∧ y = y' := by injection g3' with g; injection g with g g'; exact ⟨g, g'⟩
    rw [g1, g1']
    by_cases e : a = a'
    · subst e; exact EqAt.same _
    · refine EqAt.of_refs e ?_
      have ta : s.heap.IsTuple a (#[.int (x : Nat) k1, txt κ (Φ.f y) k2] : Array Value) := ⟨_, (N _ g2).1, rfl, _, rfl⟩
      have tb : s.heap.IsTuple a' (#[.int (x : Nat) k1', txt κ (Φ.f y) k2'] : Array Value) := ⟨_, (N _ g2').1, rfl, _, rfl⟩
      have r := RcAt.tuples (A := A.in1) (e := fun _ => true) ta tb (by show A.units + 1 < _; omega) fun j h1 h2 => ?_
      · exact r
      · have hj : j = 0 ∨ j = 1 := by
          have : j < 2 := h1
          omega
        rcases hj with rfl | rfl
        · intro prog w E Q hq
          refine wpAny_eqBool_int ?_
          rw [beq_self_eq_true]; exact hq
        · have := eqAt_txt (A := A.in1.in1) (s := s) (κ := κ) (a := k2) (b := k2') (Φ.asc y) (Φ.asc y)
          rw [decide_eq_true rfl] at this
          exact this
  · have : ((List.range us.toArray.size).all fun _ => true) = true := by simp
    rw [this]; exact h
end
section
variable {prog : Program} {w : World} {A : Around} {E : Value → Shared → Prop} {s : Shared} {h₀ : Heap} {L a : Addr} {m : Str → Option Value} {news : Led} {vs : List Value}
theorem zip_few : ∀ (vs : List Value), vs.length < 2 → (vs.toArray.zip vs.toArray).map (·.2) = vs.toArray
  | [], _ => by simp
  | [v], _ => by simp
  | _ :: _ :: _, h => absurd h (by simp)
theorem sort_few {n : Nat} {P : PySem.Fin → Shared → Prop} (F : Fr h₀ L s.heap m) (N : News h₀ L s.heap news) (ho : s.heap.get? a = some (seqObj "list" vs.toArray n)) (haL : a ≠ L) (ha0 : h₀.get? a = none) (hna : ∀ p ∈ news, p.1 ≠ a) (h2 : vs.length < 2)
    (h : ∀ e1 h', Fr h₀ L h' m → News h₀ L h' ((a, listOf vs.toArray e1) :: news) → P (.done (.ret .none)) { s with heap := h' }) :
    wpAny (model prog w) A (Builtin.«list.sort» ⟨[.ref a], []⟩) P E s := by
  have ha : a < s.heap.objs.size := Heap.lt_size ho
  have s1 := Heap.SameBut.update s.heap a (Obj.mapSeq fun _ => (#[] : Array Value))
  obtain ⟨e1, ho1⟩ : ∃ e1, (s.heap.update a (Obj.mapSeq fun _ => (#[] : Array Value))).get? a = some (seqObj "list" #[] e1) := ⟨_, get?_update_seq ho fun _ => #[]⟩
  have F3 : Fr h₀ L (((s.heap.update a (Obj.mapSeq fun _ => (#[] : Array Value))).push (seqObj "tuple" vs.toArray 0)).push (seqObj "list" #[] 0)) m := ((kas_fr F s1 haL ha0).push _).push _
  have N3 : News h₀ L (((s.heap.update a (Obj.mapSeq fun _ => (#[] : Array Value))).push (seqObj "tuple" vs.toArray 0)).push (seqObj "list" #[] 0)) ((a, seqObj "list" #[] e1) :: news) := fun p hp => by
    rcases List.mem_cons.mp hp with rfl | hp
    · exact ⟨Heap.get?_push_of_some _ (Heap.get?_push_of_some _ ho1), haL, ha0⟩
    · exact (kas_news N s1 hna).grown (fun b x e => Heap.get?_push_of_some _ (Heap.get?_push_of_some _ e)) p hp
  have ho6 := (N3 (a, seqObj "list" #[] e1) (.head _)).1
  have s2 := Heap.SameBut.update (((s.heap.update a (Obj.mapSeq fun _ => (#[] : Array Value))).push (seqObj "tuple" vs.toArray 0)).push (seqObj "list" #[] 0)) a (Obj.mapSeq fun _ => vs.toArray)
  obtain ⟨c2, hc2⟩ : ∃ c2, ((((s.heap.update a (Obj.mapSeq fun _ => (#[] : Array Value))).push (seqObj "tuple" vs.toArray 0)).push (seqObj "list" #[] 0)).update a (Obj.mapSeq fun _ => vs.toArray)).get? a = some (seqObj "list" vs.toArray c2) := ⟨_, get?_update_seq ho6 fun _ => vs.toArray⟩
  have fin := h c2 _ (kas_fr F3 s2 haL ha0) (news_set (pre := []) N3 (fun p hp => (nomatch hp)) hna s2 hc2)
  have ez := zip_few vs h2
  rw [list_sort_plain]
  refine wpAny_bind (listItems_at ho rfl ?_)
  refine wpAny_bind (listUpdate_at ho rfl ?_ (by rw [List.size_toArray, sizeLine_eq]; omega) (Nat.zero_le _))
  refine wpAny_bind (seqEpoch_at ho1 rfl ?_)
  refine wpAny_bind (wpAny_newTuple ?_ (by show vs.length ≤ _; rw [sizeLine_eq]; omega))
  refine wpAny_bind (wpAny_newList ?_ (Nat.zero_le _))
  refine wpAny_holding ?_
  dsimp only
  have hn2 : vs.toArray.size < 2 := by rw [List.size_toArray]; omega
  rw [if_pos hn2, if_pos hn2]
  refine wpAny_bind (wpAny_pure ?_)
  rw [StateT.run_pure]
  refine wpAny_bind (wpAny_pure ?_)
  dsimp only
  refine wpAny_bind (seqEpoch_at ho6 rfl ?_)
  have e3 : (arrOf (SortSt.mk' general' (vs.toArray.zip vs.toArray) #[] 7 none)).map (·.2) = vs.toArray := ez
  rw [e3]
  refine wpAny_bind (listUpdate_at ho6 rfl ?_ (Nat.zero_le _) (by rw [List.size_toArray, sizeLine_eq]; omega))
  simp only [bne_self_eq_false, Bool.false_eq_true, if_false]
  exact wpAny_pure fin
theorem sorted_few {l : Addr} {n : Nat} {Q : Value → Shared → Prop} (F : Fr h₀ L s.heap m) (N : News h₀ L s.heap news) (hl : s.heap.IsList l vs.toArray) (h2 : vs.length < 2)
    (h : ∀ D e1 h', Fr h₀ L h' m → News h₀ L h' ((D, listOf vs.toArray e1) :: news) → (∀ q ∈ news, q.1 < D) → Q (.ref D) { s with heap := h' }) :
    wpAny (model prog w) A (call (.builtin "sorted") [.ref l]) Q E s := by
  refine Calls.call_function_entry kind_sorted plain_sorted entry_sorted (args_sorted1 _) ?_
  unfold Builtin.«sorted»
  refine wpAny_bind (m := checkCount "sorted" 1 1 _) (wpAny_pure ?_)
  refine wpAny_bind (collect_list hl ?_ (by rw [sizeLine_eq]; omega))
  refine wpAny_bind (wpAny_newList ?_ (by rw [sizeLine_eq]; omega))
  have hsz : ((s.heap.push (seqObj "list" #[] 0)).update s.heap.objs.size (Obj.mapSeq (· ++ vs.toArray))).objs.size = s.heap.objs.size + 1 := by
    rw [Heap.size_update, size_push']
  have hoL : (((s.heap.push (seqObj "list" #[] 0)).update s.heap.objs.size (Obj.mapSeq (· ++ vs.toArray))).push (seqObj "list" vs.toArray 0)).get? (s.heap.objs.size + 1) = some (seqObj "list" vs.toArray 0) := by
    rw [← hsz]; exact Heap.get?_push_size _ rfl
  have keep : ∀ b o, s.heap.get? b = some o → (((s.heap.push (seqObj "list" #[] 0)).update s.heap.objs.size (Obj.mapSeq (· ++ vs.toArray))).push (seqObj "list" vs.toArray 0)).get? b = some o := fun b o q => by
    have hlt : b < s.heap.objs.size := Heap.lt_size q
    rw [Heap.get?_push_ne _ _ _ (by rw [hsz]; exact Nat.ne_of_lt (Nat.lt_succ_of_lt hlt)), Heap.get?_update_ne _ _ _ _ (Nat.ne_of_lt hlt), Heap.get?_push_ne _ _ _ (Nat.ne_of_lt hlt)]
    exact q
  have hL : L < s.heap.objs.size := F.ns.lt
  show wpAny _ _ _ _ _ { s with heap := ((s.heap.push (seqObj "list" #[] 0)).update s.heap.objs.size (Obj.mapSeq (· ++ vs.toArray))).push (seqObj "list" vs.toArray 0) }
  rw [hsz]
  refine wpAny_bind (wpAny_holding (wpAny_call_entry slot_list_sort ⟨_, hoL, rfl⟩ entry_list_sort ?body (args_list_sort _)))
  case body =>
    refine sort_few (s := { s with heap := ((s.heap.push (seqObj "list" #[] 0)).update s.heap.objs.size (Obj.mapSeq (· ++ vs.toArray))).push (seqObj "list" vs.toArray 0) })
      (F.kept keep) (N.grown keep) hoL (Nat.ne_of_gt (Nat.lt_succ_of_lt hL)) (Heap.get?_none_of_le (Nat.le_trans F.above (Nat.le_succ_of_le (Nat.le_of_lt hL))))
      (fun p hp => Nat.ne_of_lt (Nat.lt_succ_of_lt (Heap.lt_size (N p hp).1))) h2 fun e1 h' F' N' => ?_
    exact ⟨_, rfl, wpAny_pure ⟨_, rfl, h _ e1 h' F' N' fun q hq => Nat.lt_succ_of_lt (Heap.lt_size (N q hq).1)⟩⟩
end
section
variable {prog : Program} {w : World} {A : Around} {E : Value → Shared → Prop} {s : Shared} {κ : Bool} {Φ : NodeFn} {h₀ : Heap} {L l b : Addr} {m : Str → Option Value} {led : Led} {vs us : List Value} {ps : List (Nat × Nat)} {n k : Nat}
theorem PairsIn.pick (h : PairsIn κ Φ led vs ps) : ∀ idx : List Nat, (∀ i ∈ idx, i < ps.length) → PairsIn κ Φ led (idx.map fun i => vs.getD i .none) (idx.map fun i => ps.getD i (0, 0))
  | [], _ => .nil
  | i :: idx, hi => by
    have hl := h.length
    have h1 := hi i (.head _)
    obtain ⟨a, x, y, k1, k2, g1, g2, g3⟩ := h.get (i := i) (List.getElem?_eq_getElem (by omega))
    have e1 : vs.getD i .none = .ref a := by rw [List.getD_eq_getElem?_getD, List.getElem?_eq_getElem (by omega), g1]; rfl
    have e2 : ps.getD i (0, 0) = (x, y) := by rw [List.getD_eq_getElem?_getD, g3]; rfl
    rw [List.map_cons, List.map_cons, e1, e2]
    exact .cons g2 (h.pick idx fun j hj => hi j (.tail _ hj))
theorem PairsIn.tups (N : News h₀ L s.heap led) (h : PairsIn κ Φ led vs ps) : ∃ fs : List Value, KatTups s.heap vs fs ∧ fs.length = vs.length ∧ ∀ v ∈ fs, ∃ z t, v = .int z t := by
  induction h with
  | nil => exact ⟨[], trivial, rfl, fun v hv => (nomatch hv)⟩
  | @cons a x y k1 k2 vs ps h1 _ ih =>
    obtain ⟨fs, g1, g2, g3⟩ := ih
    refine ⟨.int (x : Nat) k1 :: fs, .cons (xs := #[.int (x : Nat) k1, txt κ (Φ.f y) k2]) (N _ h1).1 rfl rfl rfl g1, by simp [g2], fun v hv => ?_⟩
    rcases List.mem_cons.mp hv with q | q
    · exact ⟨_, _, q⟩
    · exact g3 v q
theorem ask_pairs (h : PairsIn κ Φ led vs ps) (s : Shared) (N : News h₀ L s.heap led) : AskOk (kas_ask prog w A (tuples' (Value.type "int" != Value.type "tuple")) vs) (fun s' => s' = s) (fun i j => ltP Φ (ps.getD i (0, 0)) (ps.getD j (0, 0))) ps.length := by
  intro i j C s' hi hj hs hC
  subst hs
  have hl := h.length
  obtain ⟨a, x, y, k1, k2, g1, g2, g3⟩ := h.get (i := i) (List.getElem?_eq_getElem (by omega))
  obtain ⟨a', x', y', k1', k2', g1', g2', g3'⟩ := h.get (i := j) (List.getElem?_eq_getElem (by omega))
  have e1 : vs.getD i .none = .ref a := by rw [List.getD_eq_getElem?_getD, List.getElem?_eq_getElem (by omega), g1]; rfl
  have e2 : ps.getD i (0, 0) = (x, y) := by rw [List.getD_eq_getElem?_getD, g3]; rfl
  have e1' : vs.getD j .none = .ref a' := by rw [List.getD_eq_getElem?_getD, List.getElem?_eq_getElem (by omega), g1']; rfl
  have e2' : ps.getD j (0, 0) = (x', y') := by rw [List.getD_eq_getElem?_getD, g3']; rfl
  have hC := hC s' rfl
  dsimp only at hC
  rw [e2, e2'] at hC
  unfold kas_ask
  rw [e1, e1']
  refine kat_lt (xs := #[.int (x : Nat) k1, txt κ (Φ.f y) k2]) (ys := #[.int (x' : Nat) k1', txt κ (Φ.f y') k2']) (N _ g2).1 rfl (N _ g2').1 rfl ?_
  have hb : (Value.type "int" != Value.type "tuple") = true := by decide
  rw [hb]
  show KatLex _ _ _ _ _ _ [(Value.int (x : Nat) k1, Value.int (x' : Nat) k1'), (txt κ (Φ.f y) k2, txt κ (Φ.f y') k2')] 0 _
  refine kat_cons (wpAny_eqBool_int ?_)
  unfold ltP at hC
  by_cases hx : x = x'
  · subst hx
    rw [beq_self_eq_true]
    refine kat_yes (kat_cons (eqAt_txt (Φ.asc y) (Φ.asc y') prog w _ _ ?_))
    rw [beq_self_eq_true, Bool.true_and, decide_eq_false (Nat.lt_irrefl _), Bool.false_or] at hC
    by_cases hy : Φ.f y = Φ.f y'
    · rw [decide_eq_true hy]
      refine kat_yes (kat_nil ?_)
      have : ltT (Φ.f y) (Φ.f y') = false := by
        rw [← hy]
        cases q : ltT (Φ.f y) (Φ.f y) with
        | false => rfl
        | true => have := ltT_asym q; rw [q] at this; cases this
      rw [this] at hC
      exact hC
    · rw [decide_eq_false hy]
      refine kat_no ?_
      show wpAny _ _ (oneLt' false _ _) _ _ _
      exact kat_one _ _ (txt_lt (Φ.asc y) (Φ.asc y') hC)
  · have e : ((x : Int) == (x' : Int)) = false := by simp; omega
    have e' : (x == x') = false := by simpa using hx
    rw [e]
    refine kat_no ?_
    show wpAny _ _ (oneLt' true _ _) _ _ _
    refine oneLt_int ?_
    rw [e', Bool.false_and, Bool.or_false] at hC
    have e3 : decide ((x : Int) < (x' : Int)) = decide (x < x') := by rw [decide_eq_decide]; omega
    rw [e3]; exact hC
theorem strict_pairs (hn : ps.Nodup) : Strict (fun i j => ltP Φ (ps.getD i (0, 0)) (ps.getD j (0, 0))) ps.length where
  asym i j _ _ h := ltP_asym h
  trans i j k _ _ _ h h' := ltP_trans h h'
  total i j hi hj hij h := by
    refine ltP_total (fun e => hij ?_) h
    rw [List.getD_eq_getElem?_getD, List.getD_eq_getElem?_getD, List.getElem?_eq_getElem hi, List.getElem?_eq_getElem hj] at e
    exact (List.getElem_inj hn).mp (by simpa using e)
theorem getD_range (ps : List (Nat × Nat)) : (List.range ps.length).map (fun i => ps.getD i (0, 0)) = ps := by
  apply List.ext_getElem
  · simp
  · intro i h1 h2
    rw [List.getElem_map, List.getElem_range, List.getD_eq_getElem?_getD, List.getElem?_eq_getElem h2]; rfl
/-- sorted over pairs -/
theorem sortP {Q : Value → Shared → Prop} (F : Fr h₀ L s.heap m) (N : News h₀ L s.heap led) (hl : (l, listOf vs.toArray n) ∈ led) (hv : PairsIn κ Φ led vs ps) (hn : ps.Nodup) (h64 : ps.length < 64)
    (h : ∀ D h' vs' n' ps', Fr h₀ L h' m → News h₀ L h' ((D, listOf vs'.toArray n') :: led) → (∀ q ∈ led, q.1 < D) → PairsIn κ Φ led vs' ps' → (∀ p, p ∈ ps' ↔ p ∈ ps) → ps'.Pairwise (fun p q => ltP Φ p q = true) → Q (.ref D) { s with heap := h' }) :
    wpAny (model prog w) A (call (.builtin "sorted") [.ref l]) Q E s := by
  have il : s.heap.IsList l vs.toArray := ⟨_, (N _ hl).1, rfl, n, rfl⟩
  have hlen := hv.length
  by_cases h2 : vs.length < 2
  · refine sorted_few (n := n) F N il h2 fun D e1 h' F' N' lt => h D h' vs e1 ps F' N' lt hv (fun p => Iff.rfl) ?_
    match ps, hlen with
    | [], _ => exact .nil
    | [p], _ => simp
    | p :: q :: r, e => simp at e; omega
  · refine kat_sorted F N il (by omega) (by omega) fun D e1 h' F' N' lt => ?_
    obtain ⟨fs, t1, t2, t3⟩ := hv.tups (s := { s with heap := h' }) (fun p hp => N' p (.tail _ hp))
    refine kat_kind (T := .type "int") t1 (by omega) (fun v hv => ?_) rfl ?_
    · obtain ⟨z, t, rfl⟩ := t3 v hv
      kas_ty
    · rw [hlen]
      refine ask_sort (ask_pairs hv { s with heap := h' } (fun p hp => N' p (.tail _ hp))) (strict_pairs hn) (by omega) rfl fun p s2 hs2 hp hsrt => ?_
      subst hs2
      refine KasFin.intro F' N' (.head fun q hq => Nat.ne_of_lt (lt q hq)) fun h'' c F'' N'' => ?_
      have hidx : ∀ i ∈ p.toList, i < ps.length := fun i hi => List.mem_range.mp (hp.mem_iff.mp hi)
      refine h D h'' (p.toList.map fun i => vs.getD i .none) c (p.toList.map fun i => ps.getD i (0, 0)) F'' N'' lt (hv.pick _ hidx) (fun q => ?_) ?_
      · have := (hp.map fun i => ps.getD i (0, 0)).mem_iff (a := q)
        rw [getD_range] at this
        exact this
      · rw [List.pairwise_iff_getElem]
        intro i j hi hj hij
        rw [List.length_map] at hi hj
        have hsz := hp.size
        have := hsrt i j hij (by rw [← hsz]; simpa using hj)
        rw [List.getElem_map, List.getElem_map]
        rw [Array.getD_eq_getD_getElem?, Array.getD_eq_getD_getElem?, Array.getElem?_eq_getElem (by simpa using hi), Array.getElem?_eq_getElem (by simpa using hj)] at this
        simpa using this
end

theorem fresh_P69_law8 : True := by
  w_top off
  trivial
theorem words_stop8_all : True := by
  k_with "stops7" => first
    | ((with_reducible show wpAny _ _ (compareOp _ (Value.ref _) (Value.ref _)) _ _ _); refine Box.out ?_)
    | ((with_reducible show wpAny _ _ (compareOp _ (txt false _ _) (Value.str _ _)) _ _ _); refine Box.out ?_)
    | ((with_reducible show wpAny _ _ (compareOp _ (txt _ _ _) (txt _ _ _)) _ _ _); refine Box.out ?_)
    | ((with_reducible show wpAny _ _ (compareOp _ (Value.str _ _) (Value.str _ _)) _ _ _); refine Box.out ?_)
    | ((with_reducible show wpAny _ _ (newTuple _) _ _ _); refine Box.out ?_)
    | ((with_reducible show wpAny _ _ (call (Value.builtin "sorted") _) _ _ _); refine Box.out ?_)
    | ((with_reducible show wpAny _ _ (eval (Expr.BinOp _ Operator.Add (Expr.Name _ _) _) _) _ _ _); refine wpAny_BinOp ?_)
  trivial
theorem law_p8 (w : World) (body : List Stmt) (scope : Scope) (cdv : Addr × Value) (hL : LawAt w body scope) (loose : List Str) (mean : ExcName → Option Value) (mg mb : Str → Option Value) (base g : Heap) (L : Addr) (m : Str → Option Value) (led : Led) (s : Shared) (X : LD L) (fz : Led) (S di D R : Addr) (cs : List CE) (pp : Int) (lr lg : Addr) (usr : List Value) (nr : Nat) (vsg : List Value) (ng : Nat) (ring : List Nat) (G : List (Nat × Nat)) (ld : Addr) (vsd : List Value) (nd : Nat) (due : List (Nat × Nat)) (Q : Flow → Shared → Prop)
    (C : LCx w loose mean mg mb base g) (F : Fr g L s.heap m) (N : News g L s.heap led) (H : LF w X fz S di D R cs pp lr lg usr nr vsg ng ring G) (Z : LZ L fz led) (hld : (ld, listOf vsd.toArray nd) ∈ led) (hdu : PairsIn X.κ X.Φ led vsd due)
    (hGn : G.Nodup) (hDn : due.Nodup) (hG64 : G.length < 64) (hD64 : due.length < 64) (hGD : ∀ p, p ∈ G ↔ p ∈ due) (hri : (ring ≠ []) ↔ X.r1 ∈ choices X.r2)
    (v1 : m (Str.ofString "first") = some (.ref X.l1)) (v2 : m (Str.ofString "second") = some (.ref X.l2)) (v6 : m (Str.ofString "ring") = some (.ref lr)) (v7 : m (Str.ofString "given") = some (.ref lg)) (v9 : m (Str.ofString "due") = some (.ref ld))
    (hQ : ∀ h' tk led', Fr g L h' m → News g L h' led' → (∀ q ∈ led, q ∈ led') → Q .next { s with heap := h', toks := tk }) :
    wpAny (model PySem.Challenge.rw_op0160_01.row.prog w) (callerA.deeper (lawE scope L cdv)) (execs ((body.drop 16).take 1) (lawE scope L cdv)) Q (fun _ _ => False) s := by
  have XI := C.X
  revert XI
  k_fill
  intro XI
  refine' hL.at (P := fun body scope cdv => wpAny (model PySem.Challenge.rw_op0160_01.row.prog w) (callerA.deeper (lawE scope L cdv)) (execs ((body.drop 16).take 1) (lawE scope L cdv)) Q (fun _ _ => False) s) ?hc ?_
  (case hc => k_is)
  dsimp only [List.take, List.drop]
  refine hideG fun G9 hG9 => ?_
  obtain ⟨B, _, P, HB, KD⟩ := C
  refine hG9.out ?_
  clear hG9 G9
  have hgm := Z.kp _ H.hg
  have hgp := H.given.sub Z.kp
  have hrm := Z.kp _ H.hr
  have hl1 := Z.kp _ H.h1
  have hl2 := Z.kp _ H.h2
  have ok1 := X.ok.sub X.s1
  have ok2 := X.ok.sub X.s2
  have hcl := choices_len ok2.len
  have hasc : AscR (ring.map X.Φ.f) := fun t ht => by obtain ⟨b, _, rfl⟩ := List.mem_map.mp ht; exact X.Φ.asc b
  k_extra "gm"
  refine ⟨?_⟩
  rename Fr _ _ _ _ => F1
  rename News _ _ _ _ => N1
  refine sortP F1 N1 hgm hgp hGn hG64 ?_
  intro D1 h1 vs1 n1 ps1 F2 N2 lt1 hp1 hm1 hs1
  clear F1 N1
  k_extra "gm"
  refine ⟨?_⟩
  refine sortP F2 N2 (.tail _ hld) (hdu.sub fun q hq => .tail _ hq) hDn hD64 ?_
  intro D2 h2 vs2 n2 ps2 F3 N3 lt2 hp2 hm2 hs2
  clear F2 N2
  have e12 : ps1 = ps2 := srt_uniq hs1 hs2 fun p => (hm1 p).trans ((hGD p).trans (hm2 p).symm)
  subst e12
  k_extra "gm"
  refine ⟨?_⟩
  refine nePairs N3 (.tail _ (.head _)) (.head _) (hp1.sub fun q hq => .tail _ (.tail _ hq)) (hp2.sub fun q hq => .tail _ hq) (Nat.le_of_ble_eq_true rfl) ?_
  have hl23 : (X.l2, listOf X.us2.toArray X.n2) ∈ (D2, listOf vs2.toArray n2) :: (D1, listOf vs1.toArray n1) :: led := .tail _ (.tail _ hl2)
  k_extra "gm"
  refine ⟨?_⟩
  rename Fr _ _ _ _ => F4
  rename News _ _ _ _ => N4
  refine neTxts N4 (.tail _ (.tail _ (.tail _ hrm))) (.head _) H.ring.txts .nil hasc (fun _ h => nomatch h) (Nat.le_of_ble_eq_true rfl) ?_
  k_extra "gm"
  refine Fn.use (choices_fn w X.κ X.r2 X.l2 X.us2 X.n2 _ (.tail _ (.tail _ (.tail _ hl2))) X.t2 ok2.len fun t ht => (ok2.nm t ht).asc) rfl B F4 XI N4 P rfl rfl (Nat.le_of_ble_eq_true rfl) (Nat.le_of_ble_eq_true rfl) ?_
  rintro v h8 tk8 led8 F8 N8 hp9z
  refine hideG fun G9 hG9 => ?_
  obtain ⟨Dc, vc, ec, rfl, hDc, hrc, hs8⟩ := hp9z
  refine hG9.out ?_
  clear hG9 G9
  clear F4 N4
  k_extra "gm"
  refine ⟨?_⟩
  refine inRows N8 hDc hrc (fun r' hr' => (ok2.choices hr').asc) (hs8 _ (.tail _ (.tail _ (.tail _ hl1)))) X.t1 ok1.asc (Nat.le_of_ble_eq_true rfl) ?_
  have hbb : (!decide (ring.map X.Φ.f = [])) = decide (X.r1 ∈ choices X.r2) := by
    rw [Bool.eq_iff_iff, decide_eq_true_iff, ← hri]
    simp
  rw [hbb]
  k_extra "gm"
  exact hQ _ _ _ F8 N8 fun q hq => hs8 _ (.tail _ (.tail _ (.tail _ hq)))

theorem fresh_P69a_law9 : True := by
  w_top off
  trivial
theorem words_stop9_all : True := by
  k_with "stops7" => first
    | ((with_reducible show wpAny _ _ (compareOp _ (Value.ref _) (Value.ref _)) _ _ _); refine Box.out ?_)
    | ((with_reducible show wpAny _ _ (compareOp _ (txt false _ _) (Value.str _ _)) _ _ _); refine Box.out ?_)
    | ((with_reducible show wpAny _ _ (compareOp _ (txt _ _ _) (txt _ _ _)) _ _ _); refine Box.out ?_)
    | ((with_reducible show wpAny _ _ (compareOp _ (txt _ _ _) (Value.ref _)) _ _ _); refine Box.out ?_)
    | ((with_reducible show wpAny _ _ (compareOp _ (Value.str _ _) (Value.str _ _)) _ _ _); refine Box.out ?_)
    | ((with_reducible show wpAny _ _ (exec (Stmt.Assign [Expr.Name _ _] (Expr.ListComp _ _ _ _) _) _) _ _ _); refine wpAny_Assign_Name ?_)
    | ((with_reducible show wpAny _ _ (execs (Stmt.Assign _ (Expr.ListComp _ _ _ _) _ :: _) _) _ _ _); refine wpAny_execs_cons ?_)
    | ((with_reducible show wpAny _ _ (newTuple _) _ _ _); refine Box.out ?_)
    | ((with_reducible show wpAny _ _ (call (Value.builtin "sorted") _) _ _ _); refine Box.out ?_)
    | ((with_reducible show wpAny _ _ (binaryOp Operator.Add (Value.ref _) (Value.ref _)) _ _ _); refine Box.out ?_)
    | ((with_reducible show wpAny _ _ (eval (Expr.BinOp _ Operator.Add (Expr.Name _ _) _) _) _ _ _); refine wpAny_BinOp ?_)
  trivial
section
variable {prog : Program} {w : World} {A : Around} {E : Value → Shared → Prop} {s : Shared} {κ : Bool} {h₀ : Heap} {L : Addr} {led : Led} {l : Addr} {us : List Value} {n : Nat} {r : List (List Nat)} {t : List Nat} {k : Tok}
open PySem.SeqAt in
theorem notInTxts {Q : Value → Shared → Prop} (N : News h₀ L s.heap led) (hl : (l, listOf us.toArray n) ∈ led) (hu : TxtsAre κ us r) (h1 : AscR r) (ht : Asc t) (h : Q (.bool (!decide (t ∈ r))) s) : wpAny (model prog w) A (compareOp .NotIn (txt κ t k) (.ref l)) Q E s := by
  refine notIn_listAt (items := us.toArray) (likeTxt κ t) ⟨_, (N _ hl).1, rfl, n, rfl⟩ (fun y hy => ?_) ?_
  ·
    refine hideG fun G9 hG9 => ?_
    obtain ⟨i, hi, rfl⟩ := Array.getElem_of_mem hy
    have hv : us[i]? = some us.toArray[i] := by simp at hi ⊢
    obtain ⟨t', k', g, e⟩ := hu.get hv
    refine hG9.out ?_
    clear hG9 G9
    have ha := h1 t' (List.mem_of_getElem? g)
    rw [e, likeTxt_eq κ ht ha]
    exact eqAt_txt ha ht
  ·
    have e : us.toArray.any (likeTxt κ t) = decide (t ∈ r) := by
      rw [Bool.eq_iff_iff, decide_eq_true_iff, List.any_toArray, List.any_eq_true]
      constructor
      · intro hp9z
        obtain ⟨v, hv, hq⟩ := hp9z
        obtain ⟨i, hi, rfl⟩ := List.getElem_of_mem hv
        refine hideG fun G9 hG9 => ?_
        obtain ⟨t', k', g, e⟩ := hu.get (List.getElem?_eq_getElem hi)
        refine hG9.out ?_
        clear hG9 G9
        rw [e, likeTxt_eq κ ht (h1 t' (List.mem_of_getElem? g)), decide_eq_true_iff] at hq
        exact hq ▸ List.mem_of_getElem? g
      · intro hm
        obtain ⟨i, hi, rfl⟩ := List.getElem_of_mem hm
        obtain ⟨k', g⟩ := hu.at (List.getElem?_eq_getElem hi)
        exact ⟨_, List.mem_of_getElem? g, by rw [likeTxt_eq κ ht ht]; simp⟩
    rw [e]; exact h
end
theorem idxOf_inj (Φ : NodeFn) (b : Nat) : ∀ l : List Nat, (l.map Φ.f).idxOf (Φ.f b) = l.idxOf b
  | [] => rfl
  | a :: l => by
    rw [List.map_cons, List.idxOf_cons, List.idxOf_cons, idxOf_inj Φ b l]
    by_cases e : a = b
    · subst e; simp
    ·
      have e1 : (a == b) = false := by simpa using e
      have e2 : (Φ.f a == Φ.f b) = false := by simpa using fun q => e (Φ.inj _ _ q)
      rw [e1, e2]
theorem cutL_back {α : Type} (t : List α) (i : Nat) : cutL t (some (i : Int)) (some (-1)) = (t.drop i).take (t.length - 1 - i) := by
  have e : clipAt t.length (-1) = t.length - 1 := by unfold clipAt; omega
  have e2 : clipAt t.length (i : Int) = min i t.length := by rw [clipAt_nat]
  unfold cutL
  simp only [Option.elim_some, e, e2]
  rcases Nat.le_total i t.length with h | h
  · rw [Nat.min_eq_left h]
  · rw [Nat.min_eq_right h, List.drop_of_length_le (Nat.le_refl _), List.drop_of_length_le h]; simp
/-- what is known of a ring that was found -/
structure RingF (rws : List (List (List Nat))) (b0 e0 : Nat) (ring chain : List Nat) : Prop where
  lt : ∀ x ∈ ring, x < rws.length
  mb : b0 ∈ ring
  ch : chain = (ring.drop (ring.idxOf b0)).take (ring.length - 1 - ring.idxOf b0) ++ ring.take (ring.idxOf b0)
  st : ∀ k a b, chain[k]? = some a → chain[k + 1]? = some b → a ∈ psR rws b
  la : ∃ us, chain = us ++ [e0]
  ends : ∃ a us, ring = a :: us ++ [a]
theorem LZ.setC {L L' : Addr} {fz led led' : Led} {h₀ h₁ : Heap} {vt v : Option Value} (h : LZ L fz led) (N : News h₀ L' h₁ led) (hI : Ob led (cC L) (IsCell vt)) (hk : ∀ q ∈ led, @Ne Nat q.1 (cC L) → q ∈ led') (hc : Ob led' (cC L) (IsCell v)) (hf : ∀ q ∈ fz, @Ne Nat q.1 (cC L)) : LZ L fz led' where
  kp q hq := hk q (h.kp q hq) (hf q hq)
  ct := let ⟨v, o, m, c⟩ := h.ct; ⟨v, o, hk _ m (by show tC L ≠ cC L; simp [cC, tC]), c⟩
  cc := ⟨v, hc⟩
  tb := h.tb.move N hI hk noCo_cell
theorem range_size1 {n : Nat} : Builtin.Range.rangeSize 1 ((n + 1 : Nat) : Int) 1 = ((n : Nat) : Int) := by
  have := range_size n
  unfold Builtin.Range.rangeSize at *
  omega

theorem law_p9 (w : World) (body : List Stmt) (scope : Scope) (cdv : Addr × Value) (hL : LawAt w body scope) (loose : List Str) (mean : ExcName → Option Value) (mg mb : Str → Option Value) (base g : Heap) (L : Addr) (m : Str → Option Value) (led : Led) (s : Shared) (X : LD L) (fz : Led) (S di D R : Addr) (cs : List CE) (pp : Int) (lr lg : Addr) (usr : List Value) (nr : Nat) (vsg : List Value) (ng : Nat) (ring : List Nat) (G : List (Nat × Nat)) (lw : Addr) (kb ke : Tok) (Q : Flow → Shared → Prop)
    (C : LCx w loose mean mg mb base g) (F : Fr g L s.heap m) (N : News g L s.heap led) (H : LF w X fz S di D R cs pp lr lg usr nr vsg ng ring G) (Z : LZ L fz led)
    (hrf : ring ≠ [] → ∃ chain, RingF (choices X.rw) ((choices X.rw).idxOf X.r1) ((choices X.rw).idxOf X.r2) ring chain) (hrl : usr.length ≤ 2000)
    (v3 : m (Str.ofString "sorter") = some (.ref S)) (v4 : m (Str.ofString "begin") = some (txt X.κ (47 :: bod X.r1) kb)) (v5 : m (Str.ofString "end") = some (txt X.κ (47 :: bod X.r2) ke)) (v6 : m (Str.ofString "ring") = some (.ref lr)) (v10 : m (Str.ofString "words") = some (.ref lw))
    (hQ : ∀ h' tk m' led', Fr g L h' m' → News g L h' led' → LZ L fz led' → (∀ a us n, (a, listOf us n) ∈ led → (a, listOf us n) ∈ led') → m' (Str.ofString "sorter") = some (.ref S) → m' (Str.ofString "words") = some (.ref lw) → Q .next { s with heap := h', toks := tk }) :
    wpAny (model PySem.Challenge.rw_op0160_01.row.prog w) (callerA.deeper (lawE scope L cdv)) (execs ((body.drop 17).take 1) (lawE scope L cdv)) Q (fun _ _ => False) s := by
  have XI := C.X
  revert XI
  k_fill
  intro XI
  refine' hL.at (P := fun body scope cdv => wpAny (model PySem.Challenge.rw_op0160_01.row.prog w) (callerA.deeper (lawE scope L cdv)) (execs ((body.drop 17).take 1) (lawE scope L cdv)) Q (fun _ _ => False) s) ?hc ?_
  (case hc => k_is)
  dsimp only [List.take, List.drop]
  refine hideG fun G9 hG9 => ?_
  obtain ⟨B, _, P, HB, KD⟩ := C
  refine hG9.out ?_
  clear hG9 G9
  have hrm := Z.kp _ H.hr
  have hasc : AscR (ring.map X.Φ.f) := fun t ht => by obtain ⟨b, _, rfl⟩ := List.mem_map.mp ht; exact X.Φ.asc b
  have hm1 := mem_choices.mpr X.s1
  have hm2 := mem_choices.mpr X.s2
  have hi1 := List.idxOf_lt_length_iff.mpr hm1
  have hi2 := List.idxOf_lt_length_iff.mpr hm2
  have f1 : X.Φ.f ((choices X.rw).idxOf X.r1) = 47 :: bod X.r1 := X.phi _ _ (by rw [List.getElem?_eq_getElem hi1, List.getElem_idxOf hi1])
  have f2 : X.Φ.f ((choices X.rw).idxOf X.r2) = 47 :: bod X.r2 := X.phi _ _ (by rw [List.getElem?_eq_getElem hi2, List.getElem_idxOf hi2])
  rw [← f1] at v4
  rw [← f2] at v5
  have hrlen := H.ring.length
  k_extra "gm"
  refine ⟨?_⟩
  rename Fr _ _ _ _ => F1
  rename News _ _ _ _ => N1
  refine neTxts N1 (.tail _ hrm) (.head _) H.ring.txts .nil hasc (fun _ h => nomatch h) (Nat.le_of_ble_eq_true rfl) ?_
  by_cases hn : ring = []
  · rw [decide_eq_true (by rw [hn]; rfl)]
    k_extra "gm"
    exact hQ _ _ _ _ F1 N1 (Z.sub fun q hq => news_tl N1 hq) (fun a us n hm => .tail _ hm) v3 v10
  rw [decide_eq_false (by simpa using hn)]
  obtain ⟨chain, RF⟩ := hrf hn
  have hbm : X.Φ.f ((choices X.rw).idxOf X.r1) ∈ ring.map X.Φ.f := List.mem_map.mpr ⟨_, RF.mb, rfl⟩
  have hj := List.idxOf_lt_length_iff.mpr RF.mb
  have hrm1 := news_tl N1 hrm
  have Z1 := Z.sub fun q hq => news_tl N1 hq
  k_extra "gm"
  refine ⟨?_⟩
  refine indexTxts N1 hrm1 H.ring.txts hasc (X.Φ.asc _) hbm (by omega) ?_
  rw [idxOf_inj]
  k_extra "gm"
  refine ⟨?_⟩
  rename Fr _ _ _ _ => F2
  rename News _ _ _ _ => N2
  refine sliceL F2 N2 hrm1 (.int _ _) (.int _ _) (by omega) ?_ (by intro v9 i9; with_unfolding_all rfl) (by intro v9 i9; with_unfolding_all rfl)
  intro D3 h3 F3 N3 lt3
  rw [cutL_back] at N3
  have hrm3 := news_tl N3 hrm1
  k_extra "gm"
  refine ⟨?_⟩
  refine indexTxts N3 hrm3 H.ring.txts hasc (X.Φ.asc _) hbm (by omega) ?_
  rw [idxOf_inj]
  k_extra "gm"
  refine ⟨?_⟩
  rename Fr _ _ _ _ => F4
  rename News _ _ _ _ => N4
  refine sliceL F4 N4 hrm3 .none (.int _ _) (by omega) ?_ (by intro v9 i9; with_unfolding_all rfl) (by intro v9 i9; with_unfolding_all rfl)
  intro D5 h5 F5 N5 lt5
  rw [cutL_to] at N5
  k_extra "gm"
  refine ⟨?_⟩
  have htwo := Nat.add_le_add (((List.take_sublist (usr.length - 1 - ring.idxOf ((choices X.rw).idxOf X.r1)) (usr.drop (ring.idxOf ((choices X.rw).idxOf X.r1)))).trans (List.drop_sublist _ usr)).length_le) (List.take_sublist (ring.idxOf ((choices X.rw).idxOf X.r1)) usr).length_le
  refine addL F5 N5 (.tail _ (.head _)) (.head _) (Nat.le_trans htwo (by omega)) ?_
  intro D6 h6 F6 N6 lt6
  have hch : NodesAre X.κ X.Φ ((usr.drop (ring.idxOf ((choices X.rw).idxOf X.r1))).take (usr.length - 1 - ring.idxOf ((choices X.rw).idxOf X.r1)) ++ usr.take (ring.idxOf ((choices X.rw).idxOf X.r1))) chain := by
    rw [RF.ch, hrlen]
    exact ((H.ring.drop _).take _).app (H.ring.take _)
  have hcu : ((usr.drop (ring.idxOf ((choices X.rw).idxOf X.r1))).take (usr.length - 1 - ring.idxOf ((choices X.rw).idxOf X.r1)) ++ usr.take (ring.idxOf ((choices X.rw).idxOf X.r1))).length ≤ 4000 := by
    rw [List.length_append]; exact Nat.le_trans htwo (by omega)
  have Z6 := ((Z1.sub fun q hq => news_tl N4 hq).sub fun q hq => news_tl N5 hq).sub fun q hq => news_tl N6 hq
  have hs6 := fun (q : Addr × Obj) (hq : q ∈ led) => news_tl N6 (news_tl N5 (news_tl N4 (news_tl N2 hq)))
  refine hideG fun G9 hG9 => ?_
  obtain ⟨usc, led6, hch, hcu, N6, Z6, hs6, hD6⟩ : ∃ usc led6, NodesAre X.κ X.Φ usc chain ∧ usc.length ≤ 4000 ∧ News g L h6 led6 ∧ LZ L fz led6 ∧ (∀ q ∈ led, q ∈ led6) ∧ (D6, listOf usc.toArray 0) ∈ led6 := ⟨_, _, hch, hcu, N6, Z6, hs6, .head _⟩
  obtain ⟨vc, hcc⟩ := Z6.cc
  refine hG9.out ?_
  clear hG9 G9
  k_extra "gm"
  refine ⟨?_⟩
  refine storeC F6 N6 hcc rfl ?_ rfl rfl
  intro h7 led7 F7 N7 c7 k7
  have Z7 := Z6.setC N6 hcc k7 c7 fun q hq => (H.off q hq).2.1
  have hD7 := mem_keep N6 hcc k7 hD6 list_cell
  have hls7 : ∀ a us n, (a, listOf us n) ∈ led → (a, listOf us n) ∈ led7 := fun a us n hm => mem_keep N6 hcc k7 (hs6 _ hm) list_cell
  have hrm7 := Z7.kp _ H.hr
  obtain ⟨us0, hla⟩ := RF.la
  have hcl := hch.length
  have hcl2 : usc.length = us0.length + 1 := by rw [hcl, hla]; simp
  clear hs6 hcc k7 F5 N5 F4 N4 F2 N2
  refine wpAny_execs_cons ?_
  refine LCt.Assign_ListComp_T (F₀ := F7) (by rfl) (by with_unfolding_all rfl) (by with_unfolding_all rfl) (by decide) (by rfl) (by decide) (by rfl) (by rfl) (by rfl) ?_
  k_extra "gm"
  rename IsRange _ _ _ _ _ _ _ _ => hRg
  rename Fr _ _ _ _ => F8
  rename News _ _ _ _ => N8
  refine LCt.CompSrcT.range (n := us0.length) rfl F8 N8 hRg (small_one (by omega) (by omega) (by omega) (by omega)) (by rw [hcl2]; exact range_size1) (by rw [sizeLine_eq]; omega) fun g' => compRestT_of (fun j ys led' => (∀ q ∈ led7, q ∈ led') ∧ ys = []) (n := us0.length) ?_ ?_ _ 0 [] _ (by omega) ⟨fun q hq => hq, rfl⟩
  · rintro j ys news9 v I oI C oC Dc m₂ h9 tk9 E' hj ⟨hs9, rfl⟩ ⟨tj, rfl⟩ hC9 hx F9 N9 off ne
    refine hideG fun G9 hG9 => ?_
    obtain ⟨oc, mc, dc⟩ := id c7
    have mc' := hs9 _ mc
    have hD9 := hs9 _ hD7
    obtain ⟨a, ha⟩ : ∃ a, chain[j]? = some a := ⟨chain[j]'(by omega), by simp⟩
    obtain ⟨b, hb⟩ : ∃ b, chain[j + 1]? = some b := ⟨chain[j + 1]'(by omega), by simp⟩
    have hst := RF.st j a b ha hb
    obtain ⟨ka, hva⟩ := hch.at ha
    obtain ⟨kb', hvb⟩ := hch.at hb
    have hbn := RF.lt b (by
      have := List.mem_of_getElem? hb
      rw [RF.ch] at this
      rcases List.mem_append.mp this with q | q
      · exact List.mem_of_mem_drop (List.mem_of_mem_take q)
      · exact List.mem_of_mem_take q)
    obtain ⟨r, hr⟩ : ∃ r, (choices X.rw)[b]? = some r := ⟨(choices X.rw)[b], by simp [hbn]⟩
    refine hG9.out ?_
    clear hG9 G9
    have hrk : RowOk r := X.ok.choices (List.mem_of_getElem? hr)
    have hbl := hrk.bod_len
    have hrlen := hrk.len
    rw [X.phi b r hr] at hvb
    k_extra "gm"
    refine ⟨?_⟩
    rename Fr _ _ _ _ => F10
    rename News _ _ _ _ => N10
    refine itemL (i := j) N10 (.tail _ (.tail _ (.tail _ hD9))) (by omega) (by omega) hva ?_
    k_extra "gm"
    refine ⟨?_⟩
    rename Fr _ _ _ _ => F11
    rename News _ _ _ _ => N11
    refine itemL (i := j + 1) N11 (.tail _ (.tail _ (.tail _ hD9))) (by omega) (by omega) hvb ?_
    k_extra "gm"
    refine Fn.use (shorter_fn w X.κ r kb' _ hrk.bare hrk.path.asc (by omega) (by omega)) rfl B F11 XI N11 P rfl rfl (Nat.le_of_ble_eq_true rfl) (Nat.le_of_ble_eq_true rfl) ?_
    rintro v h12 tk12 led12 F12 N12 hp9z
    refine hideG fun G9 hG9 => ?_
    obtain ⟨Ds, vsS, eS, rfl, rfl, htS, ltS⟩ := hp9z
    refine hG9.out ?_
    clear hG9 G9
    k_extra "gm"
    refine ⟨?_⟩
    refine notInTxts N12 (.head _) htS (cuts_asc hrk) (X.Φ.asc a) ?_
    have hin : X.Φ.f a ∈ cuts r := by
      rw [← X.cuts hr]
      exact List.mem_map.mpr ⟨a, hst, rfl⟩
    rw [decide_eq_true hin]
    k_extra "gm"
    exact LCg.CompEnd.intro F12 N12 news9 (fun p hp => .tail _ hp) off trivial ⟨hs9, rfl⟩
  · rintro ys news9 ⟨hs9, rfl⟩ D9 h9 tk9 F9 N9 o9
    refine hideG fun G9 hG9 => ?_
    obtain ⟨ra, rus, hre⟩ := RF.ends
    have hring := H.ring
    rw [hre] at hring
    obtain ⟨usl, kz, hul, _⟩ := hring.snoc
    obtain ⟨k0, hv0⟩ := hring.at (i := 0) (a := ra) rfl
    rw [hla] at hch
    obtain ⟨ucl, kw, hucl, _⟩ := hch.snoc
    refine hG9.out ?_
    clear hG9 G9
    have hrm9 := hs9 _ hrm7
    have hD9 := hs9 _ hD7
    have c9 := (c7.sub hs9).more (p := (D9, LCg.lst []))
    k_extra "gm"
    refine ⟨?_⟩
    refine itemL (i := 0) N9 (.tail _ hrm9) rfl (by omega) hv0 ?_
    rw [hul] at hrm9
    rw [hucl] at hD9
    k_extra "gm"
    refine ⟨?_⟩
    refine lastL N9 (.tail _ hrm9) ?_
    k_extra "gm"
    refine ⟨?_⟩
    refine txt_ne (X.Φ.asc _) (X.Φ.asc _) ?_
    rw [decide_eq_false (fun h => h rfl)]
    k_extra "gm"
    refine ⟨?_⟩
    refine lastL N9 (.tail _ hD9) ?_
    k_extra "gm"
    refine ⟨?_⟩
    refine txt_ne (X.Φ.asc _) (X.Φ.asc _) ?_
    rw [decide_eq_false (fun h => h rfl)]
    k_extra "gm"
    refine ⟨?_⟩
    rename Fr _ _ _ _ => F10
    rename News _ _ _ _ => N10
    refine neTxts (κ := X.κ) (us := []) (vs := []) (r := []) (r' := []) N10 (.tail _ (.head _)) (.head _) .nil .nil (fun _ h => nomatch h) (fun _ h => nomatch h) (Nat.le_of_ble_eq_true rfl) ?_
    k_extra "gm"
    exact hQ _ _ _ _ F10 N10 ((Z7.sub hs9).sub fun q hq => .tail _ (.tail _ hq)) (fun a us n hm => .tail _ (.tail _ (hs9 _ (hls7 a us n hm)))) v3 v10

theorem fresh_P69b_law10 : True := by
  w_top off
  trivial
theorem words_stop10_all : True := by
  k_with "stops7" => first
    | ((with_reducible show wpAny _ _ (compareOp _ (txt false _ _) _) _ _ _); refine Box.out ?_)
    | ((with_reducible show wpAny _ _ (compareOp _ (Value.str _ _) _) _ _ _); refine Box.out ?_)
    | ((with_reducible show wpAny _ _ (getMethod (Value.ref _) (Str.ofString "done") _) _ _ _); refine Box.out ?_)
    | ((with_reducible show wpAny _ _ (call (Value.type "str") [Value.ref _] _) _ _ _); refine Box.out ?_)
  trivial
theorem refuW {κ : Bool} {t wd : List Nat} {np : Int} (h : (wd = doneW ∧ np = -2) ∨ (wd = stillW ∧ 0 ≤ np)) : (Str.empty ++ Str.ofString "node " ++ ⟨(reprT κ t).toArray⟩ ++ Str.ofString " " ++ ⟨wd.toArray⟩ : Str) = ⟨(refuT κ t np).toArray⟩ := by
  have e0 : Str.empty = ⟨([] : List Nat).toArray⟩ := rfl
  have e1 : Str.ofString "node " = ⟨nodeL.toArray⟩ := by decide +kernel
  have e2 : Str.ofString " " = ⟨([32] : List Nat).toArray⟩ := by decide +kernel
  have e3 : stillL = [32] ++ stillW := by decide +kernel
  have e4 : doneL = [32] ++ doneW := by decide +kernel
  rw [e0, e1, e2]
  simp only [str_app, List.nil_append]
  unfold refuT
  rcases h with ⟨rfl, h⟩ | ⟨rfl, h⟩
  · rw [if_neg (by omega), e4]; simp
  · rw [if_pos h, e3]; simp
inductive L10I (w : World) (loose : List Str) (mean : ExcName → Option Value) (mg : Str → Option Value) (mb : Str → Option Value) (base : Heap) (L : Addr) (X : LD L) (fz : Led) (IT : Addr) (s : Shared) (vsw : List Value) (nw : Nat) (lw : Addr) (S : Addr) (n' : Nat) (s' : Shared) : Prop
  | mk (i : Nat) (g' : Heap) (h' : Heap) (tk' : Nat) (m' : Str → Option Value) (led : Led)
      (e1 : n' = X.vW.length - i) (e2 : i ≤ X.vW.length) (e3 : s' = { s with heap := h', toks := tk' }) (e4 : LCx w loose mean mg mb base g') (e5 : Fr g' L h' m') (e6 : News g' L h' led) (e7 : Ob led IT (IsRIt (i : Int) ((X.vW.length : Int) - (i : Int)) 1)) (e8 : LZ L fz led) (e9 : (lw, listOf vsw.toArray nw) ∈ led) (e10 : m' (Str.ofString "sorter") = some (.ref S)) (e11 : m' (Str.ofString "words") = some (.ref lw))
theorem law_p10 (w : World) (body : List Stmt) (scope : Scope) (cdv : Addr × Value) (hL : LawAt w body scope) (loose : List Str) (mean : ExcName → Option Value) (mg mb : Str → Option Value) (base g : Heap) (L : Addr) (m : Str → Option Value) (led : Led) (s : Shared) (X : LD L) (fz : Led) (S di D R : Addr) (cs : List CE) (pp : Int) (lr lg : Addr) (usr : List Value) (nr : Nat) (vsg : List Value) (ng : Nat) (ring : List Nat) (G : List (Nat × Nat)) (lw : Addr) (vsw : List Value) (nw : Nat) (ws : List (List Nat)) (Q : Flow → Shared → Prop)
    (C : LCx w loose mean mg mb base g) (F : Fr g L s.heap m) (N : News g L s.heap led) (H : LF w X fz S di D R cs pp lr lg usr nr vsg ng ring G) (Z : LZ L fz led) (hlw : (lw, listOf vsw.toArray nw) ∈ led) (hws : TxtsAre false vsw ws)
    (hcs : ∀ t, t < (choices X.rw).length → ∃ wd, ws[t]? = some wd ∧ ∃ c ∈ cs, c.e.a = t ∧ ((wd = doneW ∧ c.e.np = -2) ∨ (wd = stillW ∧ 0 ≤ c.e.np)))
    (v3 : m (Str.ofString "sorter") = some (.ref S)) (v10 : m (Str.ofString "words") = some (.ref lw))
    (hQ : ∀ g' h' tk m' led', LCx w loose mean mg mb base g' → Fr g' L h' m' → News g' L h' led' → LZ L fz led' → Q .next { s with heap := h', toks := tk }) :
    wpAny (model PySem.Challenge.rw_op0160_01.row.prog w) (callerA.deeper (lawE scope L cdv)) (execs ((body.drop 18).take 1) (lawE scope L cdv)) Q (fun _ _ => False) s := by
  have XI := C.X
  revert XI
  k_fill
  intro XI
  refine' hL.at (P := fun body scope cdv => wpAny (model PySem.Challenge.rw_op0160_01.row.prog w) (callerA.deeper (lawE scope L cdv)) (execs ((body.drop 18).take 1) (lawE scope L cdv)) Q (fun _ _ => False) s) ?hc ?_
  (case hc => k_is)
  dsimp only [List.take, List.drop]
  have C0 := C
  refine hideG fun G9 hG9 => ?_
  obtain ⟨B, _, P, HB, KD⟩ := C
  refine hG9.out ?_
  clear hG9 G9
  have hcl := choices_len X.ok.len
  have hvl := X.rows.length
  have hpl := X.paths.length
  rw [List.length_map] at hpl
  have hcr := H.cr.sub Z.kp
  have hW := Z.kp _ H.hW
  k_extra "gm"
  refine for_at ?_ (fun _ => rfl)
  k_extra "gm"
  rename IsRange _ _ _ _ _ _ _ _ => hRg
  rename Fr _ _ _ _ => F1
  rename News _ _ _ _ => N1
  refine iter_R F1 N1 hRg (range_small (by omega)) ?_
  rw [range_size]
  intro IT h3 F3 N3 ltI
  refine ForAt.introH (L10I w loose mean mg mb base L X fz IT s vsw nw lw S) ?_ X.vW.length
    ⟨0, _, _, _, _, _, by omega, Nat.zero_le _, rfl, C0, F3, N3, ⟨_, .head _, by simp⟩, Z.sub fun q hq => .tail _ hq, .tail _ hlw, v3, v10⟩
  have hIf : ∀ q ∈ fz, @Ne Nat q.1 IT := fun q hq => Nat.ne_of_lt (ltI q (Z.kp q hq))
  clear F1 N1 F3 N3 Z hcr hW ltI hlw v3 v10 C0 B P HB KD XI hRg
  intro n' s' Qb hQb hp9z
  refine hideG fun G9 hG9 => ?_
  obtain ⟨i, g', h', tk', m', led, rfl, hi, rfl, C, F5, N5, hit, Z5, hlw5, v3, v10⟩ := hp9z
  have XI := C.X
  have C0 := C
  obtain ⟨B, _, P, HB, KD⟩ := C
  refine hG9.out ?_
  clear hG9 G9
  refine next_R rfl F5 N5 hit ?_ ?_
  · intro h6 led6 tk6 t6 hlt6 F6 N6 hit6 k6
    have Z6 := Z5.move N5 hit k6 hIf (fun o v h1 h2 => cell_rit h1 h2) noCo_rit
    have hlw6 := mem_keep N5 hit k6 hlw5 list_rit
    clear F5 N5 hit k6 Z5 hlw5
    k_extra "gm"
    refine ⟨?_⟩
    obtain ⟨vt, ht⟩ := Z6.ct
    refine storeC F6 N6 ht rfl ?_ rfl rfl
    intro h7 led7 F7 N7 c7 k7
    have Z7 := Z6.setT N6 ht k7 c7 fun q hq => (H.off q hq).1
    have hit7 := ob_keep N6 ht k7 hit6 (fun o h1 h2 => cell_rit h2 h1)
    have hlw7 := mem_keep N6 ht k7 hlw6 list_cell
    clear F6 N6 ht k7 hit6 Z6 hlw6
    have hcp := H.cp.sub Z7.kp
    have hP := Z7.kp _ H.hP
    have HS7 := H.srt.sub Z7.kp
    have hS7 := HS7.inst
    refine hideG fun G9 hG9 => ?_
    obtain ⟨kp7, kf7, hat7⟩ := HS7.attr
    obtain ⟨r, hr⟩ : ∃ r, (choices X.rw)[i]? = some r := ⟨(choices X.rw)[i]'(by omega), by simp⟩
    have hrk : RowOk r := X.ok.choices (List.mem_of_getElem? hr)
    have hbl := hrk.bod_len
    obtain ⟨kp, hpj⟩ := X.paths.at (i := i) (t := 47 :: bod r) (by rw [List.getElem?_map, hr]; rfl)
    obtain ⟨wd, hwd, c, hc, hca, hcw⟩ := hcs i (by omega)
    obtain ⟨kwd, hvw⟩ := hws.at hwd
    refine hG9.out ?_
    clear hG9 G9
    have hph := X.phi i r hr
    k_extra "gm"
    refine ⟨?_⟩
    refine methA (f := 120) F7 N7 hS7 hat7 XI (by k_is) (by k_is) (by k_is) rfl ?_
    k_extra "gm"
    refine ⟨?_⟩
    refine itemL (i := i) N7 hP rfl (by omega) hpj ?_
    rw [← hph]
    k_extra "gm"
    refine FnS.use (done_no w X.κ X.Φ i kp S di D R cs c pp pp led7 HS7 hc hca (by omega) (hph ▸ hrk.path) (by rw [hph, List.length_cons]; omega)) rfl rfl rfl B F7 N7 HB.out.1 HB.out.2 KD KtsTurn.refl rfl (Nat.le_of_ble_eq_true rfl) (Nat.le_of_ble_eq_true rfl) ?_ ?_
    · intro _ _ _ _ _ _ _ _ _ _ _ _ hf
      exact hf.elim
    intro e g8 h8 tk8 G8 cls t8 vs8 led8 T8 B8 F8 KD8 R8 U8 hp9z
    refine hideG fun G9 hG9 => ?_
    obtain ⟨rfl, ⟨kz, rfl⟩, hs8⟩ := hp9z
    refine hG9.out ?_
    clear hG9 G9
    refine catch_X (KF := Mine.hd.heap_1 w.params) (c := .type "ValueError") R8 F8 B8 U8 HB KD8 T8 rfl (by kts_nm) (by kts_exm) ?_ rfl rfl (by decide) rfl
    intro h9 g9 tk9 oe ot T9 F9 N9 G9 B9 X9 P9 D9
    have hs9 : ∀ q ∈ led7, q ∈ (e, oe) :: (t8, ot) :: led8 := fun q hq => .tail _ (.tail _ (hs8 q hq))
    have hct9 := c7.sub hs9
    have hcp9 := hcp.sub hs9
    have hP9 := hs9 _ hP
    have hlw9 := hs9 _ hlw7
    have Z9 := Z7.sub hs9
    have hit9 := hit7.sub hs9
    have hpln : Plain (X.Φ.f i) := hph ▸ hrk.path
    have hplen : (X.Φ.f i).length ≤ 13 := by rw [hph, List.length_cons]; omega
    have hrp := reprT_len X.κ (X.Φ.f i)
    have ei1 : (((i + 1 : Nat)) : Int) = (i : Int) + 1 := by omega
    have ei2 : (X.vW.length : Int) - ((i : Int) + 1) = (X.vW.length : Int) - (i : Int) - 1 := by omega
    have hwl : wd.length ≤ 60 := by
      rcases hcw with ⟨h, _⟩ | ⟨h, _⟩
      · rw [h]; exact Nat.le_of_ble_eq_true (by decide +kernel)
      · rw [h]; exact Nat.le_of_ble_eq_true (by decide +kernel)
    have C9 := C0.turn T9
    clear hP hlw7 Z7 hit7 c7 hcp F7 N7 C0 B P XI KD HS7 hS7 hat7
    k_extra "gm"
    refine ⟨?_⟩
    refine str_got_one PySem.F.excStr_ValueError N9 G9 (Nat.le_of_ble_eq_true rfl) ?_
    k_extra "gm"
    refine ⟨?_⟩
    rename Fr _ _ _ _ => F10
    rename News _ _ _ _ => N10
    refine itemL (i := i) N10 hP9 rfl (by omega) hpj ?_
    rw [← hph]
    k_extra "gm"
    refine ⟨?_⟩
    rename Fr _ _ _ _ => F11
    rename News _ _ _ _ => N11
    refine itemL (i := i) N11 hlw9 rfl (by omega) hvw ?_
    k_extra "gm"
    refine ⟨?_⟩
    rw [refuW hcw]
    refine strNe ?_
    rw [decide_eq_false (fun h => h rfl)]
    k_extra "gm"
    rename Fr _ _ _ _ => F12
    rename News _ _ _ _ => N12
    refine goneX F12 N12 rfl rfl ?_
    intro h13 v13 F13 N13
    k_extra "gm"
    refine hQb.next _ ⟨X.vW.length - (i + 1), by omega, i + 1, g9, _, _, _, _, rfl, by omega, rfl, C9, F13, N13, by rw [ei1, ei2]; exact hit9, Z9, hlw9, v3, v10⟩
  · intro h6 led6 hlt6 F6 N6 k6
    k_extra "gm"
    exact hQ _ _ _ _ _ C0 F6 N6 (Z5.move N5 hit k6 hIf (fun o v h1 h2 => cell_rit h1 h2) noCo_rit)

theorem fresh_P69c_law : True := by
  w_top off
  trivial
theorem law_p11 (w : World) (body : List Stmt) (scope : Scope) (cdv : Addr × Value) (hL : LawAt w body scope) (loose : List Str) (mean : ExcName → Option Value) (mg mb : Str → Option Value) (base g : Heap) (L : Addr) (m : Str → Option Value) (led : Led) (s : Shared) (Q : Flow → Shared → Prop)
    (C : LCx w loose mean mg mb base g) (F : Fr g L s.heap m) (N : News g L s.heap led) (hQ : Q (.ret (.bool true)) s) :
    wpAny (model PySem.Challenge.rw_op0160_01.row.prog w) (callerA.deeper (lawE scope L cdv)) (execs (body.drop 19) (lawE scope L cdv)) Q (fun _ _ => False) s := by
  have XI := C.X
  revert XI
  k_fill
  intro XI
  refine' hL.at (P := fun body scope cdv => wpAny (model PySem.Challenge.rw_op0160_01.row.prog w) (callerA.deeper (lawE scope L cdv)) (execs (body.drop 19) (lawE scope L cdv)) Q (fun _ _ => False) s) ?hc ?_
  (case hc => k_is)
  dsimp only [List.take, List.drop]
  obtain ⟨B, _, P, HB, KD⟩ := C
  k_extra "gm"
  exact hQ
theorem bod_inj : ∀ {r r' : List (List Nat)}, (∀ t ∈ r, isNm t) → (∀ t ∈ r', isNm t) → bod r = bod r' → r = r'
  | [], [], _, _, _ => rfl
  | [], n :: r, _, _, h => by rw [bod_cons] at h; exact absurd (congrArg List.length h) (by simp [bod])
  | n :: r, [], _, _, h => by rw [bod_cons] at h; exact absurd (congrArg List.length h) (by simp [bod])
  | n :: r, n' :: r', h1, h2, h => by
    have g1 := h1 n (.head _)
    have g2 := h2 n' (.head _)
    rw [bod_cons, bod_cons] at h
    have e : n = n' ∧ bod r = bod r' := by
      rcases g1 with rfl | rfl <;> rcases g2 with rfl | rfl <;> simp at h ⊢ <;> exact h
    rw [e.1, bod_inj (fun t ht => h1 t (.tail _ ht)) (fun t ht => h2 t (.tail _ ht)) e.2]
/-- the nodes' texts -/
noncomputable def nodeF (rw : List (List Nat)) (h : RowOk rw) : NodeFn where
  f a := match (choices rw)[a]? with
    | some r => 47 :: bod r
    | none => List.replicate (1000 + a) 47
  inj a b e := by
    have hl : ∀ r ∈ choices rw, (47 :: bod r).length ≤ 13 := fun r hr => by
      have := (h.choices hr).bod_len
      rw [List.length_cons]; omega
    cases ha : (choices rw)[a]? with
    | some r =>
      cases hb : (choices rw)[b]? with
      | some r' =>
        rw [ha, hb] at e
        have ma := List.mem_of_getElem? ha
        have mb := List.mem_of_getElem? hb
        have er : r = r' := bod_inj (h.choices ma).nm (h.choices mb).nm (by simpa using e)
        subst er
        obtain ⟨la, ga⟩ := List.getElem?_eq_some_iff.mp ha
        obtain ⟨lb, gb⟩ := List.getElem?_eq_some_iff.mp hb
        exact (List.getElem_inj (choices_nodup rw)).mp (ga.trans gb.symm)
      | none =>
        rw [ha, hb] at e
        have h1 := hl r (List.mem_of_getElem? ha)
        have h2 := congrArg List.length e
        dsimp only at h2
        rw [List.length_replicate] at h2
        omega
    | none =>
      cases hb : (choices rw)[b]? with
      | some r' =>
        rw [ha, hb] at e
        have h1 := hl r' (List.mem_of_getElem? hb)
        have h2 := congrArg List.length e
        dsimp only at h2
        rw [List.length_replicate] at h2
        omega
      | none =>
        rw [ha, hb] at e
        have h2 := congrArg List.length e
        dsimp only at h2
        rw [List.length_replicate, List.length_replicate] at h2
        omega
  asc a := by
    cases ha : (choices rw)[a]? with
    | some r => exact (h.choices (List.mem_of_getElem? ha)).path.asc
    | none =>
      intro c hc
      rw [(List.mem_replicate.mp hc).2]; decide
theorem nodeF_at {rw : List (List Nat)} (h : RowOk rw) (t : Nat) (r : List (List Nat)) (ht : (choices rw)[t]? = some r) : (nodeF rw h).f t = 47 :: bod r := by
  show (match (choices rw)[t]? with | some r => 47 :: bod r | none => List.replicate (1000 + t) 47) = _
  rw [ht]
/-- what is shown of the graph alone -/
noncomputable def PlainOk (κ : Bool) (rw r1 r2 : List (List Nat)) : Prop := ∃ fuel res, SuIn (es2 (choices rw) r1 r2) ∧ findRing (es2 (choices rw) r1 r2) fuel ((es2 (choices rw) r1 r2).map (·.a)) [] = some res ∧ res ≠ some [] ∧ (∀ ring, res = some ring → ring.length ≤ 1000) ∧
  RunOk 20 (es2 (choices rw) r1 r2) (rdy (es2 (choices rw) r1 r2)) ∧ (∀ r ∈ choices rw, leapsT κ r1 (47 :: bod r) = refu κ [47] r1 (choices r)) ∧
  ((runG 20 0 (es2 (choices rw) r1 r2) (rdy (es2 (choices rw) r1 r2))).Nodup ∧ (dueL (choices rw) (hitR κ r1) (decide (res.getD [] = [])) (r2.length + 1 - r1.length) (choices rw).length).Nodup ∧ (runG 20 0 (es2 (choices rw) r1 r2) (rdy (es2 (choices rw) r1 r2))).length < 64 ∧ (dueL (choices rw) (hitR κ r1) (decide (res.getD [] = [])) (r2.length + 1 - r1.length) (choices rw).length).length < 64 ∧
    ∀ p, p ∈ runG 20 0 (es2 (choices rw) r1 r2) (rdy (es2 (choices rw) r1 r2)) ↔ p ∈ dueL (choices rw) (hitR κ r1) (decide (res.getD [] = [])) (r2.length + 1 - r1.length) (choices rw).length) ∧
  ((res.getD [] ≠ []) ↔ r1 ∈ choices r2) ∧ (res.getD [] ≠ [] → ∃ chain, RingF (choices rw) ((choices rw).idxOf r1) ((choices rw).idxOf r2) (res.getD []) chain) ∧
  ∀ t, t < (choices rw).length → ∃ wd, (wordL (choices rw) (hitR κ r1) (decide (res.getD [] = [])) (choices rw).length)[t]? = some wd ∧ ∃ e ∈ runE 20 (es2 (choices rw) r1 r2) (rdy (es2 (choices rw) r1 r2)), e.a = t ∧ ((wd = doneW ∧ e.np = -2) ∨ (wd = stillW ∧ 0 ≤ e.np))
theorem execs_at {prog : Program} {w : World} {A : Around} {env : Env} {Q : Flow → Shared → Prop} {E : Value → Shared → Prop} (k n : Nat) (body : List Stmt) (s : Shared)
    (h : wpAny (model prog w) A (execs ((body.drop k).take n) env) (fun f s' => match f with | .next => wpAny (model prog w) A (execs (body.drop (k + n)) env) Q E s' | f => Q f s') E s) : wpAny (model prog w) A (execs (body.drop k) env) Q E s := by
  refine execs_split (fun s' => wpAny (model prog w) A (execs (body.drop (k + n)) env) Q E s') n (body.drop k) s h fun s' hs => ?_
  rw [List.drop_drop]; exact hs
theorem LCe.off {led : Led} {L : Nat} {vs vn vo vw vr vp vt vc : Option Value} {g h : Heap} {L' : Addr} (N : News g L' h led) (K : LCe led L vs vn vo vw vr vp vt vc) {a : Nat} {o : Obj} (hm : ((a, o) : Addr × Obj) ∈ led) (hn : ∀ v, ¬ IsCell v o) : ¬ isLC L a := by
  rintro ⟨h1, h2⟩
  have q : ∀ {b : Addr} {v : Option Value}, Ob led b (IsCell v) → @Ne Nat a b := fun hb => ob_ne N hb hm (hn _)
  have := q K.s
  have := q K.n
  have := q K.o
  have := q K.w
  have := q K.r
  have := q K.p
  have := q K.t
  have := q K.c
  omega

theorem fresh_P69d_all : True := by
  w_top off
  trivial
theorem law_all (w : World) (body : List Stmt) (scope : Scope) (cdv : Addr × Value) (hL : LawAt w body scope) (loose : List Str) (mean : ExcName → Option Value) (mg mb : Str → Option Value) (base g : Heap) (L : Addr) (m : Str → Option Value) (led : Led) (s : Shared) (ls : Addr) (wvs : List Value) (ns : List Int)
    (C : LCx w loose mean mg mb base g) (F : Fr g L s.heap m) (N : News g L s.heap led) (K : LCe led L (some (.ref ls)) none none none none none none none) (h170 : ((170 : Addr), tabObj #[]) ∈ led) (hs : g.IsList ls wvs.toArray) (hi : IntsAre wvs ns) (hlen : ns.length ≤ 63) (hab : base.objs.size ≤ L)
    (hplain : ∀ κ rw r1 r2, RowOk rw → r1.Sublist rw → r2.Sublist rw → PlainOk κ rw r1 r2) :
    wpAny (model PySem.Challenge.rw_op0160_01.row.prog w) (callerA.deeper (lawE scope L cdv)) (execs body (lawE scope L cdv)) (fun f s' => f = .ret (.bool true) ∧ GrownAt 170 s'.heap ∧ (∃ m', Fr base L s'.heap m') ∧ s'.gens = s.gens ∧ s'.os = s.os) (fun _ _ => False) s := by
  show wpAny (model PySem.Challenge.rw_op0160_01.row.prog w) (callerA.deeper (lawE scope L cdv)) (execs (body.drop 0) (lawE scope L cdv)) _ _ _
  have nt : ∀ v, ¬ IsCell v (tabObj #[]) := fun v h => by cases h
  have nl : ∀ {us : Array Value} {n : Nat}, ∀ v, ¬ IsCell v (listOf us n) := fun v h => list_cell h
  refine execs_at 0 2 body _ (law_p1 w body scope cdv hL loose mean mg mb base g L m led s ls wvs ns _ C F N hs hi hlen K ?_)
  intro h1 tk1 m1 led1 κ lN k1 k2 lC nC ys zs F1 N1 K1 hN1 hC1 hys hyl v1 off1 _
  have t1 := off1 _ h170 (K.off N h170 nt)
  refine execs_at 2 2 body _ (law_p2 w body scope cdv hL loose mean mg mb base g L m1 led1 _ ls lN lC κ k1 k2 nC ys zs _ C F1 N1 K1 hN1 hC1 hys hyl v1 ?_)
  intro h2 tk2 m2 led2 ko lR us nr rw F2 N2 K2 hR2 hus hrl hnm v2 off2 _
  have t2 := off2 _ t1 (K1.off N1 t1 nt)
  have hC2 := off2 _ hC1 (K1.off N1 hC1 nl)
  have hok : RowOk rw := ⟨hrl, hnm⟩
  refine execs_at 4 1 body _ (law_p3 w body scope cdv hL loose mean mg mb base g L m2 led2 _ lC lR κ nC nr ys us zs rw _ _ _ _ C F2 N2 K2 hC2 hys hyl v2 hR2 hus hrl ?_)
  intro h3 tk3 m3 led3 l1 us1 n1 r1 l2 us2 n2 r2 F3 N3 hs3 hl1 ht1 hsb1 hl2 ht2 hsb2 _ u1 u2
  have K3 := K2.sub hs3
  have t3 := hs3 _ t2
  refine execs_at 5 3 body _ (law_p4 w body scope cdv hL loose mean mg mb base g L m3 led3 _ l1 l2 lR κ (nodeF rw hok) nr us rw ko _ _ _ C F3 N3 K3 (hs3 _ hR2) hus hok u1 u2 ?_)
  intro h4 tk4 m4 led4 kl S di D lW vW nW lP uP nP F4 N4 hkl K4 off4 hW4 hrows4 hP4 hpaths4 hap4 HS4 x3 x1 x2
  have t4 := off4 _ t3 (K3.off N3 t3 nt)
  have hpaths5 : TxtsAre κ uP ((choices rw).map fun r => 47 :: bod r) := by
    have e : (choices rw).map (pth [47]) = (choices rw).map fun r => 47 :: bod r := List.map_congr_left fun r _ => pth_bod r [47]
    rw [← e]; exact hpaths4
  let X : LD L := LD.mk κ (nodeF rw hok) kl l1 l2 lR lW lP _ _ ko vW nW uP nP us1 n1 us2 n2 rw r1 r2 hap4 K4 hW4 hrows4 hP4 hpaths5 (off4 _ hl1 (K3.off N3 hl1 nl)) ht1 hsb1 (off4 _ hl2 (K3.off N3 hl2 nl)) ht2 hsb2 hok (nodeF_at hok) t4
    ⟨ob_ne N4 (K4.t.sub fun q hq => (hkl q hq).1) (hkl _ t4).1 (nt _), ob_ne N4 (K4.c.sub fun q hq => (hkl q hq).1) (hkl _ t4).1 (nt _)⟩
  have H4 : LH X led4 S di D [] := ⟨fun q hq => ⟨(hkl q hq).2, fun _ _ => (hkl q hq).1⟩, ⟨_, K4.t.sub fun q hq => (hkl q hq).1⟩, ⟨_, K4.c.sub fun q hq => (hkl q hq).1⟩⟩
  refine hideG fun G9 hG9 => ?_
  obtain ⟨fuel, res, p1, p2, p3, p4, p5, p6, ⟨p7, p8, p9, p10, p11⟩, p12, p13, p14⟩ := hplain κ rw r1 r2 hok hsb1 hsb2
  refine hG9.out ?_
  clear hG9 G9
  refine execs_at 8 1 body _ (law_p5 w body scope cdv hL loose mean mg mb base g L m4 led4 _ X S di D _ C F4 N4 H4 HS4 x1 x2 x3 ?_)
  intro h5 tk5 m5 led5 cs5 F5 N5 H5 HS5 he5 hc5 hsu5 y1 y2 y3
  refine execs_at 9 6 body _ (law_p6 w body scope cdv hL loose mean mg mb base g L m5 led5 _ X S di D cs5 fuel res _ C F5 N5 H5 HS5 he5 hc5 hsu5 p1 p2 p3 p4 p5 y1 y2 y3 ?_)
  intro g6 h6 tk6 m6 led6 fz R cs6 pp lr lg usr nr6 vsg ng ld lw kb ke kl6 C6 F6 N6 H6 he6 hfz ct6 cc6 tb6 hld6 hlw6 hne6 z1 z2 z3 z4 z5 z6 z7 z8 z9 z10
  have hul : usr.length ≤ 2000 := by
    rw [H6.ring.length]
    cases res with
    | none => exact Nat.zero_le _
    | some ring => have := p4 ring rfl; show ring.length ≤ 2000; omega
  refine execs_at 15 1 body _ (law_p7 w body scope cdv hL loose mean mg mb base g6 L m6 led6 _ X fz S di D R cs6 pp lr lg usr nr6 vsg ng _ _ ld lw (r2.length + 1 - r1.length) kb ke kl6 _ C6 F6 N6 H6 ⟨fun q hq => (hfz q hq).1, ct6, cc6, tb6⟩ (fun q hq => (hfz q hq).2) hld6 hlw6 hne6 p6 hul z1 z2 z3 z4 z5 z6 z7 z8 z9 z10 ?_)
  intro g7 h7 tk7 m7 led7 vsd nd vsw nw C7 F7 N7 Z7 hld7 hpd7 hlw7 hpw7 a1 a2 a3 a4 a5 a6 a7 a9 a10
  refine execs_at 16 1 body _ (law_p8 w body scope cdv hL loose mean mg mb base g7 L m7 led7 _ X fz S di D R cs6 pp lr lg usr nr6 vsg ng _ _ ld vsd nd _ _ C7 F7 N7 H6 Z7 hld7 hpd7 p7 p8 p9 p10 p11 p12 a1 a2 a6 a7 a9 ?_)
  intro h8 tk8 led8 F8 N8 hs8
  have Z8 := Z7.sub hs8
  refine execs_at 17 1 body _ (law_p9 w body scope cdv hL loose mean mg mb base g7 L m7 led8 _ X fz S di D R cs6 pp lr lg usr nr6 vsg ng _ _ lw kb ke _ C7 F8 N8 H6 Z8 p13 hul a3 a4 a5 a6 a10 ?_)
  intro h9 tk9 m9 led9 F9 N9 Z9 hk9 b3 b10
  refine execs_at 18 1 body _ (law_p10 w body scope cdv hL loose mean mg mb base g7 L m9 led9 _ X fz S di D R cs6 pp lr lg usr nr6 vsg ng _ _ lw vsw nw _ _ C7 F9 N9 H6 Z9 (hk9 _ _ _ (hs8 _ hlw7)) hpw7 ?_ b3 b10 ?_)
  · intro t ht
    refine hideG fun G9 hG9 => ?_
    obtain ⟨wd, q1, e, q2, q3, q4⟩ := p14 t ht
    refine hG9.out ?_
    clear hG9 G9
    refine ⟨wd, q1, ?_⟩
    rw [← he6] at q2
    refine hideG fun G9 hG9 => ?_
    obtain ⟨c, hc, rfl⟩ := List.mem_map.mp q2
    refine hG9.out ?_
    clear hG9 G9
    exact ⟨c, hc, q3, q4⟩
  · intro g10 h10 tk10 m10 led10 C10 F10 N10 Z10
    refine law_p11 w body scope cdv hL loose mean mg mb base g10 L m10 led10 _ _ C10 F10 N10 ⟨rfl, ?_, ⟨m10, F10.ns, fun b o e => F10.keep b o (C10.B.stays b o e), hab⟩, rfl, rfl⟩
    refine hideG fun G9 hG9 => ?_
    obtain ⟨o, hm, ps, rfl⟩ := Z10.tb.ob
    refine hG9.out ?_
    clear hG9 G9
    exact ⟨ps, (N10 _ hm).1⟩
theorem law_top (w : World) (body : List Stmt) (scope : Scope) (cdv : Addr × Value) (hL : LawAt w body scope) (env : Env) (loose : List Str) (mean : ExcName → Option Value) (mg mb : Str → Option Value) (g h : Heap) (L : Addr) (m : Str → Option Value) (led : Led) (s : Shared) (ls : Addr) (wvs : List Value) (ns : List Int)
    (B : Below callerA g [] g) (X : (Mine.hd.heap_1 w.params).In g) (P : Top topProg loose mean mg mb g) (F : Fr g L h m) (N : News g L h led) (hsh : s.heap = h) (hen : env = lawE scope L cdv) (K : LCe led L (some (.ref ls)) none none none none none none none) (h170 : ((170 : Addr), tabObj #[]) ∈ led) (hs : g.IsList ls wvs.toArray) (hi : IntsAre wvs ns) (hlen : ns.length ≤ 63)
    (hplain : ∀ κ rw r1 r2, RowOk rw → r1.Sublist rw → r2.Sublist rw → PlainOk κ rw r1 r2) :
    wpAny (model PySem.Challenge.rw_op0160_01.row.prog w) (callerA.deeper env) (execs body env) (fun f s' => f = .ret (.bool true) ∧ GrownAt 170 s'.heap ∧ (∃ m', Fr g L s'.heap m') ∧ s'.gens = s.gens ∧ s'.os = s.os) (fun _ _ => False) s := by
  subst hsh hen
  exact law_all w body scope cdv hL loose mean mg mb g g L m led s ls wvs ns ⟨B, X, P, ⟨X, P⟩, fun b hb => nomatch hb⟩ F N K h170 hs hi hlen F.above hplain

theorem fresh_P71_graph : True := by
  w_top off
  trivial
/-- is the node known -/
noncomputable abbrev keysE (es : List Ent) : List Nat := es.map (·.a)
theorem find_some {es : List Ent} {b : Nat} {e : Ent} (h : es.find? (fun e => e.a == b) = some e) : e ∈ es ∧ e.a = b :=
  ⟨List.mem_of_find?_eq_some h, by simpa using List.find?_some h⟩
theorem find_mem {es : List Ent} {b : Nat} (h : b ∈ keysE es) : ∃ e, es.find? (fun e => e.a == b) = some e := by
  obtain ⟨e, he, rfl⟩ := List.mem_map.mp h
  cases q : es.find? (fun e' => e'.a == e.a) with
  | some e' => exact ⟨e', rfl⟩
  | none => exact absurd (List.find?_eq_none.mp q e he) (by simp)
theorem find_not {es : List Ent} {b : Nat} (h : b ∉ keysE es) : es.find? (fun e => e.a == b) = none := by
  rw [List.find?_eq_none]
  intro e he
  simp only [beq_iff_eq]
  exact fun q => h (List.mem_map.mpr ⟨e, he, q⟩)
theorem np_not {es : List Ent} {b : Nat} (h : b ∉ keysE es) : npOf es b = 0 := by unfold npOf; rw [find_not h]
theorem su_not {es : List Ent} {b : Nat} (h : b ∉ keysE es) : suOf es b = [] := by unfold suOf; rw [find_not h]
theorem find_at {es : List Ent} {a b : Nat} {g : Ent → Ent} (hg : ∀ e, (g e).a = e.a) : (atNode es a g).find? (fun e => e.a == b) = (es.find? fun e => e.a == b).map (fun e => if e.a = a then g e else e) := by
  unfold atNode
  rw [List.find?_map]
  congr 2
  funext e
  show ((if e.a = a then g e else e).a == b) = (e.a == b)
  split
  · rw [hg]
  · rfl
theorem keys_at {es : List Ent} {a : Nat} {g : Ent → Ent} (hg : ∀ e, (g e).a = e.a) : keysE (atNode es a g) = keysE es := by
  unfold atNode keysE
  rw [List.map_map]
  refine List.map_congr_left fun e _ => ?_
  show (if e.a = a then g e else e).a = e.a
  split
  · rw [hg]
  · rfl
theorem np_bump {es : List Ent} {a b : Nat} {n : Int} : npOf (atNode es a (bump n)) b = if b = a ∧ b ∈ keysE es then npOf es b + n else npOf es b := by
  unfold npOf
  rw [find_at (g := bump n) (fun _ => rfl)]
  by_cases hb : b ∈ keysE es
  · obtain ⟨e, he⟩ := find_mem hb
    obtain ⟨_, h2⟩ := find_some he
    rw [he]
    by_cases q : b = a
    · rw [if_pos ⟨q, hb⟩, Option.map_some, if_pos (h2.trans q)]; rfl
    · rw [if_neg (fun z => q z.1), Option.map_some, if_neg (fun z => q (h2.symm.trans z))]
  · rw [find_not hb, if_neg (fun z => hb z.2)]; rfl
theorem np_put {es : List Ent} {a b : Nat} {n : Int} : npOf (atNode es a (putNp n)) b = if b = a ∧ b ∈ keysE es then n else npOf es b := by
  unfold npOf
  rw [find_at (g := putNp n) (fun _ => rfl)]
  by_cases hb : b ∈ keysE es
  · obtain ⟨e, he⟩ := find_mem hb
    obtain ⟨_, h2⟩ := find_some he
    rw [he]
    by_cases q : b = a
    · rw [if_pos ⟨q, hb⟩, Option.map_some, if_pos (h2.trans q)]; rfl
    · rw [if_neg (fun z => q z.1), Option.map_some, if_neg (fun z => q (h2.symm.trans z))]
  · rw [find_not hb, if_neg (fun z => hb z.2)]; rfl
theorem np_link {es : List Ent} {a b x : Nat} : npOf (atNode es a (link x)) b = npOf es b := by
  unfold npOf
  rw [find_at (g := link x) (fun _ => rfl)]
  cases es.find? (fun e => e.a == b) with
  | none => rfl
  | some e =>
    show (if e.a = a then link x e else e).np = e.np
    split <;> rfl
theorem su_link {es : List Ent} {a b x : Nat} : suOf (atNode es a (link x)) b = if b = a ∧ b ∈ keysE es then suOf es b ++ [x] else suOf es b := by
  unfold suOf
  rw [find_at (g := link x) (fun _ => rfl)]
  by_cases hb : b ∈ keysE es
  · obtain ⟨e, he⟩ := find_mem hb
    obtain ⟨_, h2⟩ := find_some he
    rw [he]
    by_cases q : b = a
    · rw [if_pos ⟨q, hb⟩, Option.map_some, if_pos (h2.trans q)]; rfl
    · rw [if_neg (fun z => q z.1), Option.map_some, if_neg (fun z => q (h2.symm.trans z))]
  · rw [find_not hb, if_neg (fun z => hb z.2)]; rfl
theorem su_same {es : List Ent} {a b : Nat} {g : Ent → Ent} (hg : ∀ e, (g e).a = e.a) (hs : ∀ e, (g e).su = e.su) : suOf (atNode es a g) b = suOf es b := by
  unfold suOf
  rw [find_at hg]
  cases es.find? (fun e => e.a == b) with
  | none => rfl
  | some e =>
    show (if e.a = a then g e else e).su = e.su
    split
    · rw [hs]
    · rfl
theorem keys_ensure {es : List Ent} {a : Nat} : keysE (ensure es a) = if a ∈ keysE es then keysE es else keysE es ++ [a] := by
  have e : es.any (fun e => decide (e.a = a)) = decide (a ∈ keysE es) := by
    rw [Bool.eq_iff_iff, List.any_eq_true, decide_eq_true_iff, List.mem_map]
    simp
  unfold ensure
  rw [e]
  by_cases h : a ∈ keysE es
  · simp [h]
  · simp only [h, decide_false, Bool.false_eq_true, if_false]
    simp [keysE]
theorem mem_ensure {es : List Ent} {a b : Nat} : b ∈ keysE (ensure es a) ↔ b ∈ keysE es ∨ b = a := by
  rw [keys_ensure]
  split
  · rename_i h
    exact ⟨.inl, fun q => q.elim id fun e => e ▸ h⟩
  · rw [List.mem_append, List.mem_singleton]
theorem nodup_ensure {es : List Ent} {a : Nat} (h : (keysE es).Nodup) : (keysE (ensure es a)).Nodup := by
  rw [keys_ensure]
  split
  · exact h
  · rename_i q
    rw [List.nodup_append]
    exact ⟨h, by simp, fun x hx y hy e => q (by rw [List.mem_singleton.mp hy] at e; exact e ▸ hx)⟩
theorem find_ensure {es : List Ent} {a b : Nat} : (ensure es a).find? (fun e => e.a == b) = es.find? (fun e => e.a == b) ∨ (es.find? (fun e => e.a == b) = none ∧ (ensure es a).find? (fun e => e.a == b) = some ⟨a, 0, []⟩) := by
  unfold ensure
  split
  · exact .inl rfl
  · rw [List.find?_append]
    cases h : es.find? (fun e => e.a == b) with
    | some e => exact .inl rfl
    | none =>
      rw [List.find?_singleton]
      split
      · exact .inr ⟨rfl, rfl⟩
      · exact .inl rfl
theorem np_ensure {es : List Ent} {a b : Nat} : npOf (ensure es a) b = npOf es b := by
  unfold npOf
  rcases find_ensure (es := es) (a := a) (b := b) with h | ⟨h1, h2⟩
  · rw [h]
  · rw [h1, h2]
theorem su_ensure {es : List Ent} {a b : Nat} : suOf (ensure es a) b = suOf es b := by
  unfold suOf
  rcases find_ensure (es := es) (a := a) (b := b) with h | ⟨h1, h2⟩
  · rw [h]
  · rw [h1, h2]
/-- what the links of one node make -/
theorem links_spec (a : Nat) : ∀ (ps : List Nat) (es : List Ent), (∀ b, b ∈ keysE (ps.foldl (fun es b => atNode (ensure es b) b (link a)) es) ↔ b ∈ keysE es ∨ b ∈ ps) ∧ ((keysE es).Nodup → (keysE (ps.foldl (fun es b => atNode (ensure es b) b (link a)) es)).Nodup) ∧
    (∀ b, npOf (ps.foldl (fun es b => atNode (ensure es b) b (link a)) es) b = npOf es b) ∧ ∀ b x, (suOf (ps.foldl (fun es b => atNode (ensure es b) b (link a)) es) b).count x = (suOf es b).count x + if x = a then ps.count b else 0
  | [], es => ⟨fun b => by simp, id, fun b => rfl, fun b x => by simp⟩
  | p :: ps, es => by
    obtain ⟨h1, h2, h3, h4⟩ := links_spec a ps (atNode (ensure es p) p (link a))
    have hk : keysE (atNode (ensure es p) p (link a)) = keysE (ensure es p) := keys_at fun _ => rfl
    refine ⟨fun b => ?_, fun hn => h2 (hk ▸ nodup_ensure hn), fun b => ?_, fun b x => ?_⟩
    · rw [List.foldl_cons, h1, hk, mem_ensure, List.mem_cons]
      exact ⟨fun q => q.elim (fun q => q.elim .inl fun e => .inr (.inl e)) fun q => .inr (.inr q), fun q => q.elim (fun q => .inl (.inl q)) fun q => q.elim (fun e => .inl (.inr e)) .inr⟩
    · rw [List.foldl_cons, h3, np_link, np_ensure]
    · rw [List.foldl_cons, h4, su_link, su_ensure]
      by_cases hb : b = p
      · subst hb
        rw [if_pos ⟨rfl, mem_ensure.mpr (.inr rfl)⟩, List.count_append, List.count_cons_self]
        by_cases hx : x = a
        · subst hx
          rw [if_pos rfl, if_pos rfl, List.count_singleton_self]; omega
        · rw [if_neg hx, if_neg hx, List.count_singleton]
          simp [Ne.symm hx]
      · rw [if_neg (fun z => hb z.1), List.count_cons_of_ne (Ne.symm hb)]
theorem addE_spec (es : List Ent) (a : Nat) (ps : List Nat) : (∀ b, b ∈ keysE (addE es a ps) ↔ b ∈ keysE es ∨ b = a ∨ b ∈ ps) ∧ ((keysE es).Nodup → (keysE (addE es a ps)).Nodup) ∧
    (∀ b, npOf (addE es a ps) b = npOf es b + if b = a then (ps.length : Int) else 0) ∧ ∀ b x, (suOf (addE es a ps) b).count x = (suOf es b).count x + if x = a then ps.count b else 0 := by
  obtain ⟨h1, h2, h3, h4⟩ := links_spec a ps (atNode (ensure es a) a (bump ps.length))
  have hk : keysE (atNode (ensure es a) a (bump ps.length)) = keysE (ensure es a) := keys_at fun _ => rfl
  refine ⟨fun b => ?_, fun hn => h2 (hk ▸ nodup_ensure hn), fun b => ?_, fun b x => ?_⟩
  · unfold addE
    rw [h1, hk, mem_ensure]
    exact ⟨fun q => q.elim (fun q => q.elim .inl fun e => .inr (.inl e)) fun q => .inr (.inr q), fun q => q.elim (fun q => .inl (.inl q)) fun q => q.elim (fun e => .inl (.inr e)) .inr⟩
  · unfold addE
    rw [h3, np_bump, np_ensure]
    by_cases hb : b = a
    · subst hb
      rw [if_pos ⟨rfl, mem_ensure.mpr (.inr rfl)⟩, if_pos rfl]
    · rw [if_neg (fun z => hb z.1), if_neg hb]; omega
  · unfold addE
    rw [h4, su_same (g := bump ps.length) (fun _ => rfl) (fun _ => rfl), su_ensure]
theorem addAll_spec (ps : Nat → List Nat) (n : Nat) : ∀ i, i ≤ n → (∀ b, b < n → n - i ≤ b → b ∈ keysE (addAll ps n i)) ∧ (∀ b ∈ keysE (addAll ps n i), b < n ∨ ∃ t, t < n ∧ b ∈ ps t) ∧ (keysE (addAll ps n i)).Nodup ∧
    (∀ b, npOf (addAll ps n i) b = if n - i ≤ b ∧ b < n then ((ps b).length : Int) else 0) ∧ ∀ b x, (suOf (addAll ps n i) b).count x = if n - i ≤ x ∧ x < n then (ps x).count b else 0
  | 0, _ => ⟨fun b h1 h2 => by omega, fun b hb => (nomatch hb), .nil, fun b => by rw [if_neg (by omega)]; rfl, fun b x => by rw [if_neg (by omega)]; rfl⟩
  | i + 1, hi => by
    obtain ⟨h1, h2, h3, h4, h5⟩ := addAll_spec ps n i (by omega)
    obtain ⟨g1, g2, g3, g4⟩ := addE_spec (addAll ps n i) (n - 1 - i) (ps (n - 1 - i))
    rw [show addAll ps n (i + 1) = addE (addAll ps n i) (n - 1 - i) (ps (n - 1 - i)) from rfl]
    obtain ⟨j, e1, e2, e3, hj⟩ : ∃ j, n - 1 - i = j ∧ n - i = j + 1 ∧ n - (i + 1) = j ∧ j < n := ⟨n - 1 - i, rfl, by omega, by omega, by omega⟩
    rw [e2] at h1 h4 h5
    rw [e1] at g1 g2 g3 g4 ⊢
    rw [e3]
    clear e1 e2 e3 hi
    refine ⟨fun b hb hl => (g1 b).mpr ?_, fun b hb => ?_, g2 h3, fun b => ?_, fun b x => ?_⟩
    · rcases Nat.lt_or_ge b (j + 1) with q | q
      · exact .inr (.inl (by omega))
      · exact .inl (h1 b hb q)
    · rcases (g1 b).mp hb with q | q | q
      · exact h2 b q
      · exact .inl (by omega)
      · exact .inr ⟨_, by omega, q⟩
    · rw [g3, h4]
      by_cases hb : b = j
      · subst hb
        rw [if_pos rfl, if_neg (by omega), if_pos (by omega)]; omega
      · rw [if_neg hb]
        by_cases q : j + 1 ≤ b ∧ b < n
        · rw [if_pos q, if_pos (by omega)]; omega
        · rw [if_neg q, if_neg (by omega)]; omega
    · rw [g4, h5]
      by_cases hb : x = j
      · subst hb
        rw [if_pos rfl, if_neg (by omega), if_pos (by omega)]; omega
      · rw [if_neg hb]
        by_cases q : j + 1 ≤ x ∧ x < n
        · rw [if_pos q, if_pos (by omega)]; omega
        · rw [if_neg q, if_neg (by omega)]
/-- the records tell this graph: n nodes, each with its forerunners -/
structure Gr (es : List Ent) (pr : Nat → List Nat) (n : Nat) : Prop where
  nd : (keysE es).Nodup
  mem : ∀ b, b ∈ keysE es ↔ b < n
  pr_lt : ∀ b, ∀ p ∈ pr b, p < n ∧ b < n
  np : ∀ b, npOf es b = ((pr b).length : Int)
  su : ∀ b x, (suOf es b).count x = (pr x).count b
theorem es2_gr {rws : List (List (List Nat))} {r1 r2 : List (List Nat)} (hp : ∀ t, ∀ p ∈ psR rws t, p < rws.length) (h1 : r1 ∈ rws) (h2 : r2 ∈ rws) :
    Gr (es2 rws r1 r2) (fun t => psR rws t ++ if t = rws.idxOf r1 then [rws.idxOf r2] else []) rws.length := by
  obtain ⟨a1, a2, a3, a4, a5⟩ := addAll_spec (psR rws) rws.length rws.length (Nat.le_refl _)
  obtain ⟨g1, g2, g3, g4⟩ := addE_spec (addAll (psR rws) rws.length rws.length) (rws.idxOf r1) [rws.idxOf r2]
  have i1 := List.idxOf_lt_length_iff.mpr h1
  have i2 := List.idxOf_lt_length_iff.mpr h2
  have hnil : ∀ b, ¬ b < rws.length → psR rws b = [] := fun b hb => by
    unfold psR; rw [List.getElem?_eq_none_iff.mpr (by omega)]
  refine ⟨g2 a3, fun b => ?_, fun b p hm => ?_, fun b => ?_, fun b x => ?_⟩
  · show b ∈ keysE (addE _ _ _) ↔ _
    rw [g1]
    refine ⟨fun q => ?_, fun q => .inl (a1 b q (by omega))⟩
    rcases q with q | q | q
    · rcases a2 b q with q | ⟨t, _, q⟩
      · exact q
      · exact hp t b q
    · omega
    · rw [List.mem_singleton.mp q]; exact i2
  · rcases List.mem_append.mp hm with q | q
    · refine ⟨hp b p q, ?_⟩
      by_cases hb : b < rws.length
      · exact hb
      · rw [hnil b hb] at q; cases q
    · split at q
      · rename_i hb
        rw [List.mem_singleton.mp q]; exact ⟨i2, by omega⟩
      · cases q
  · show npOf (addE _ _ _) b = _
    rw [g3, a4, List.length_append]
    by_cases hb : b < rws.length
    · rw [if_pos ⟨by omega, hb⟩]
      split
      · simp
      · simp
    · rw [if_neg (fun q => hb q.2), if_neg (by omega), hnil b hb, if_neg (by omega)]; rfl
  · show (suOf (addE _ _ _) b).count x = _
    rw [g4, a5, List.count_append]
    by_cases hx : x < rws.length
    · rw [if_pos ⟨by omega, hx⟩]
      split
      · rfl
      · simp
    · rw [if_neg (fun q => hx q.2), if_neg (by omega), hnil x hx, if_neg (by omega)]; simp

theorem fresh_P72_kahn : True := by
  w_top off
  trivial
theorem succ_fold : ∀ (l : List Nat) (es : List Ent) (rd : List Nat), (∀ b ∈ l, b ∈ keysE es) → (∀ b ∈ l, (l.count b : Int) ≤ npOf es b) →
    (∀ b, suOf (l.foldl succStep (es, rd)).1 b = suOf es b) ∧ keysE (l.foldl succStep (es, rd)).1 = keysE es ∧ (∀ b, npOf (l.foldl succStep (es, rd)).1 b = npOf es b - (l.count b : Int)) ∧ ∃ new, (l.foldl succStep (es, rd)).2 = rd ++ new ∧ new.Nodup ∧ ∀ b, b ∈ new ↔ b ∈ l ∧ npOf es b = (l.count b : Int)
  | [], es, rd, _, _ => ⟨fun _ => rfl, rfl, fun b => by simp, [], by simp, .nil, fun b => by simp⟩
  | c :: l, es, rd, hk, hc => by
    have hck := hk c (.head _)
    have ks : keysE (atNode es c (bump (-1))) = keysE es := keys_at fun _ => rfl
    have n1 : ∀ b, npOf (atNode es c (bump (-1))) b = if b = c then npOf es b - 1 else npOf es b := fun b => by
      rw [np_bump]
      by_cases q : b = c
      · subst q; rw [if_pos ⟨rfl, hck⟩, if_pos rfl]; omega
      · rw [if_neg (fun z => q z.1), if_neg q]
    have hcc := hc c (.head _)
    rw [List.count_cons_self] at hcc
    have step : succStep (es, rd) c = (atNode es c (bump (-1)), if npOf es c = 1 then rd ++ [c] else rd) := by
      unfold succStep
      simp only [n1, if_pos]
      congr 1
      by_cases q : npOf es c = 1
      · rw [if_pos q, if_pos (by omega)]
      · rw [if_neg q, if_neg (by omega)]
    obtain ⟨h1, h2, h3, new, h4, h5, h6⟩ := succ_fold l (atNode es c (bump (-1))) (if npOf es c = 1 then rd ++ [c] else rd) (fun b hb => ks ▸ hk b (.tail _ hb)) (fun b hb => by
      have h := hc b (.tail _ hb)
      rw [n1]
      by_cases q : b = c
      · subst q
        rw [List.count_cons_self] at h
        rw [if_pos rfl]; omega
      · rw [List.count_cons_of_ne (Ne.symm q)] at h
        rw [if_neg q]; exact h)
    rw [List.foldl_cons, step]
    refine ⟨fun b => ?_, h2.trans ks, fun b => ?_, ?_⟩
    · rw [h1, su_same (g := bump (-1)) (fun _ => rfl) (fun _ => rfl)]
    · rw [h3, n1]
      by_cases q : b = c
      · subst q; rw [if_pos rfl, List.count_cons_self]; omega
      · rw [if_neg q, List.count_cons_of_ne (Ne.symm q)]
    · by_cases q : npOf es c = 1
      · rw [if_pos q] at h4
        have hz : l.count c = 0 := by omega
        have hcl : c ∉ l := List.count_eq_zero.mp hz
        refine ⟨c :: new, by rw [if_pos q, h4]; simp, ?_, fun b => ?_⟩
        · rw [List.nodup_cons]
          exact ⟨fun z => hcl ((h6 c).mp z).1, h5⟩
        · rw [List.mem_cons, List.mem_cons, h6, n1]
          by_cases e : b = c
          · subst e
            rw [List.count_cons_self]
            exact ⟨fun _ => ⟨.inl rfl, by omega⟩, fun _ => .inl rfl⟩
          · rw [if_neg e, List.count_cons_of_ne (Ne.symm e)]
            exact ⟨fun z => z.elim (fun z => absurd z e) fun z => ⟨.inr z.1, z.2⟩, fun z => .inr ⟨z.1.elim (fun z => absurd z e) id, z.2⟩⟩
      · rw [if_neg q] at h4
        refine ⟨new, by rw [if_neg q]; exact h4, h5, fun b => ?_⟩
        rw [h6, n1, List.mem_cons]
        by_cases e : b = c
        · subst e
          rw [if_pos rfl, List.count_cons_self]
          refine ⟨fun z => ⟨.inl rfl, by omega⟩, fun z => ⟨?_, by omega⟩⟩
          rcases Nat.eq_zero_or_pos (l.count b) with w | w
          · omega
          · exact List.count_pos_iff.mp w
        · rw [if_neg e, List.count_cons_of_ne (Ne.symm e)]
          exact ⟨fun z => ⟨.inr z.1, z.2⟩, fun z => ⟨z.1.elim (fun z => absurd z e) id, z.2⟩⟩
theorem countP_out {und : Nat → Bool} {a : Nat} (ha : und a = true) : ∀ l : List Nat, l.countP und = l.countP (fun x => und x && x != a) + l.count a
  | [] => rfl
  | x :: l => by
    rw [List.countP_cons, List.countP_cons, List.count_cons, countP_out ha l]
    by_cases e : x = a
    · subst e; simp [ha]; omega
    · have e1 : (x == a) = false := by simp [e]
      have e2 : (x != a) = true := by simp [e]
      rw [e1, e2, Bool.and_true]
      simp only [Bool.false_eq_true, if_false]; omega
/-- a round's state: what is not done, what is handed out, what is ready -/
structure Kn (es0 : List Ent) (pr : Nat → List Nat) (n : Nat) (und : Nat → Bool) (q : List Nat) (es : List Ent) (rd : List Nat) : Prop where
  sh : ∀ b, suOf es b = suOf es0 b
  ks : keysE es = keysE es0
  qn : q.Nodup
  qu : ∀ x ∈ q, x < n ∧ und x = true
  qp : ∀ x ∈ q, ∀ p ∈ pr x, und p = false
  dp : ∀ x, x < n → und x = false → ∀ p ∈ pr x, und p = false
  nd : ∀ x, x < n → und x = false → npOf es x = -2
  nq : ∀ x ∈ q, npOf es x = -1
  nu : ∀ x, x < n → und x = true → x ∉ q → npOf es x = ((pr x).countP und : Nat)
  rn : rd.Nodup
  rm : ∀ b, b ∈ rd ↔ b < n ∧ und b = true ∧ b ∉ q ∧ (pr b).countP und = 0
theorem Kn.step {es0 : List Ent} {pr : Nat → List Nat} {n : Nat} (G : Gr es0 pr n) {und : Nat → Bool} {a : Nat} {q : List Nat} {es : List Ent} {rd : List Nat} (K : Kn es0 pr n und (a :: q) es rd) :
    Kn es0 pr n (fun x => und x && x != a) q (doneStep (es, rd) a).1 (doneStep (es, rd) a).2 := by
  obtain ⟨han, hau⟩ := K.qu a (.head _)
  have haq : a ∉ q := (List.nodup_cons.mp K.qn).1
  have hak : a ∈ keysE es := K.ks ▸ (G.mem a).mpr han
  have n1 : ∀ b, npOf (atNode es a (putNp (-2))) b = if b = a then -2 else npOf es b := fun b => by
    rw [np_put]
    by_cases e : b = a
    · subst e; rw [if_pos ⟨rfl, hak⟩, if_pos rfl]
    · rw [if_neg (fun z => e z.1), if_neg e]
  have ks1 : keysE (atNode es a (putNp (-2))) = keysE es := keys_at fun _ => rfl
  have su1 : ∀ b, suOf (atNode es a (putNp (-2))) b = suOf es b := fun b => su_same (fun _ => rfl) (fun _ => rfl)
  have cnt : ∀ x, (suOf es a).count x = (pr x).count a := fun x => by rw [K.sh, G.su]
  have mem : ∀ x, x ∈ suOf es a ↔ a ∈ pr x := fun x => by rw [← List.count_pos_iff, ← List.count_pos_iff, cnt]
  have off : ∀ x, a ∈ pr x → x < n ∧ und x = true ∧ x ≠ a ∧ x ∉ q := fun x hx => by
    have hn := (G.pr_lt x a hx).2
    refine ⟨hn, ?_, ?_, ?_⟩
    · cases h : und x with
      | true => rfl
      | false => have := K.dp x hn h a hx; rw [hau] at this; cases this
    · intro e
      have := K.qp a (.head _) a (e ▸ hx)
      rw [hau] at this; cases this
    · intro e
      have := K.qp x (.tail _ e) a hx
      rw [hau] at this; cases this
  have hnu : ∀ x, a ∈ pr x → npOf es x = ((pr x).countP und : Nat) := fun x hx => by
    obtain ⟨o1, o2, o3, o4⟩ := off x hx
    exact K.nu x o1 o2 fun z => (List.mem_cons.mp z).elim o3 o4
  obtain ⟨h1, h2, h3, new, h4, h5, h6⟩ := succ_fold (suOf es a) (atNode es a (putNp (-2))) rd (fun b hb => by
      rw [ks1, K.ks]; exact (G.mem b).mpr (off b ((mem b).mp hb)).1) (fun b hb => by
      have hb' := (mem b).mp hb
      rw [n1, if_neg (off b hb').2.2.1, hnu b hb', cnt, countP_out hau]; omega)
  have c0 : ∀ x, a ∉ pr x → (suOf es a).count x = 0 := fun x hx => by rw [cnt]; exact List.count_eq_zero.mpr hx
  have e0 : doneStep (es, rd) a = (suOf es a).foldl succStep (atNode es a (putNp (-2)), rd) := rfl
  rw [e0]
  have haa : a ∉ pr a := fun z => (off a z).2.2.1 rfl
  have hle : ∀ x, (pr x).countP (fun y => und y && y != a) + (pr x).count a = (pr x).countP und := fun x => (countP_out hau _).symm
  refine ⟨fun b => by rw [h1, su1, K.sh], by rw [h2, ks1, K.ks], (List.nodup_cons.mp K.qn).2, fun x hx => ⟨(K.qu x (.tail _ hx)).1, ?_⟩, fun x hx p hp => ?_, fun x hn hx p hp => ?_, fun x hn hx => ?_, fun x hx => ?_, fun x hn hx hq => ?_, ?_, fun b => ?_⟩
  · rw [(K.qu x (.tail _ hx)).2]
    have : x ≠ a := fun e => haq (e ▸ hx)
    simp [this]
  · show (und p && p != a) = false
    rw [K.qp x (.tail _ hx) p hp]; rfl
  · show (und p && p != a) = false
    cases h : und x with
    | false => rw [K.dp x hn h p hp]; rfl
    | true =>
      have : x = a := by
        have hx : (und x && x != a) = false := hx
        rw [h] at hx; simpa using hx
      subst this
      rw [K.qp x (.head _) p hp]; rfl
  · rw [h3, n1]
    by_cases e : x = a
    · subst e
      rw [if_pos rfl, c0 x haa]; rfl
    · have hx : (und x && x != a) = false := hx
      have hux : und x = false := by
        have e2 : (x != a) = true := by simp [e]
        rw [e2, Bool.and_true] at hx; exact hx
      rw [if_neg e, c0 x (fun z => by have := (off x z).2.1; rw [hux] at this; cases this), K.nd x hn hux]; rfl
  · have e : x ≠ a := fun e => haq (e ▸ hx)
    rw [h3, n1, if_neg e, c0 x (fun z => (off x z).2.2.2 hx), K.nq x (.tail _ hx)]; rfl
  · have hx : (und x && x != a) = true := hx
    rw [Bool.and_eq_true] at hx
    have e : x ≠ a := by simpa using hx.2
    rw [h3, n1, if_neg e, cnt, K.nu x hn hx.1 (fun z => (List.mem_cons.mp z).elim e hq), ← hle x]; omega
  · rw [h4, List.nodup_append]
    refine ⟨K.rn, h5, fun x hx y hy exy => ?_⟩
    subst exy
    have hz := ((K.rm x).mp hx).2.2.2
    have hy := (mem x).mp ((h6 x).mp hy).1
    have := List.count_pos_iff.mpr hy
    have := hle x
    omega
  · rw [h4, List.mem_append, K.rm, h6, mem, cnt, n1]
    have hl := hle b
    constructor
    · rintro (⟨g1, g2, g3, g4⟩ | ⟨g1, g2⟩)
      · have e : b ≠ a := fun e => g3 (e ▸ .head _)
        exact ⟨g1, by rw [g2]; simp [e], fun z => g3 (.tail _ z), by omega⟩
      · obtain ⟨o1, o2, o3, o4⟩ := off b g1
        rw [if_neg o3, hnu b g1] at g2
        exact ⟨o1, by rw [o2]; simp [o3], o4, by omega⟩
    · rintro ⟨g1, g2, g3, g4⟩
      have g2 : (und b && b != a) = true := g2
      rw [Bool.and_eq_true] at g2
      have e : b ≠ a := by simpa using g2.2
      by_cases hb : a ∈ pr b
      · exact .inr ⟨hb, by rw [if_neg e, hnu b hb]; omega⟩
      · have := List.count_eq_zero.mpr hb
        exact .inl ⟨g1, g2.1, fun z => (List.mem_cons.mp z).elim e g3, by omega⟩
theorem Kn.all {es0 : List Ent} {pr : Nat → List Nat} {n : Nat} (G : Gr es0 pr n) : ∀ (q : List Nat) {und : Nat → Bool} {es : List Ent} {rd : List Nat}, Kn es0 pr n und q es rd →
    doneOk (es, rd) q ∧ Kn es0 pr n (fun x => und x && !decide (x ∈ q)) [] (q.foldl doneStep (es, rd)).1 (q.foldl doneStep (es, rd)).2
  | [], und, es, rd, K => ⟨trivial, by
    have e : (fun x => und x && !decide (x ∈ ([] : List Nat))) = und := by funext x; simp
    rw [e]; exact K⟩
  | a :: q, und, es, rd, K => by
    obtain ⟨h1, h2⟩ := Kn.all G q (K.step G)
    refine ⟨⟨K.nq a (.head _), h1⟩, ?_⟩
    have e : (fun x => und x && !decide (x ∈ a :: q)) = fun x => (und x && x != a) && !decide (x ∈ q) := by
      funext x
      by_cases h : x = a
      · simp [h]
      · have h' : (x != a) = true := by simp [h]
        rw [h', Bool.and_true]
        simp [h]
    rw [e]; exact h2
theorem out_spec : ∀ (rd : List Nat) (es : List Ent), (∀ b ∈ rd, b ∈ keysE es) → (∀ b, suOf (outE es rd) b = suOf es b) ∧ keysE (outE es rd) = keysE es ∧ ∀ b, npOf (outE es rd) b = if b ∈ rd then -1 else npOf es b
  | [], es, _ => ⟨fun _ => rfl, rfl, fun b => by rw [if_neg (by simp)]; rfl⟩
  | a :: rd, es, hk => by
    have ks1 : keysE (atNode es a (putNp (-1))) = keysE es := keys_at fun _ => rfl
    obtain ⟨h1, h2, h3⟩ := out_spec rd (atNode es a (putNp (-1))) fun b hb => ks1 ▸ hk b (.tail _ hb)
    have e0 : outE es (a :: rd) = outE (atNode es a (putNp (-1))) rd := rfl
    rw [e0]
    refine ⟨fun b => by rw [h1, su_same (g := putNp (-1)) (fun _ => rfl) (fun _ => rfl)], h2.trans ks1, fun b => ?_⟩
    rw [h3, np_put]
    by_cases e : b ∈ rd
    · rw [if_pos e, if_pos (List.mem_cons_of_mem _ e)]
    · rw [if_neg e]
      by_cases e2 : b = a
      · subst e2; rw [if_pos ⟨rfl, hk b (.head _)⟩, if_pos (.head _)]
      · rw [if_neg (fun z => e2 z.1), if_neg (fun z => (List.mem_cons.mp z).elim e2 e)]
theorem Kn.round {es0 : List Ent} {pr : Nat → List Nat} {n : Nat} (G : Gr es0 pr n) {und : Nat → Bool} {es : List Ent} {rd : List Nat} (K : Kn es0 pr n und [] es rd) :
    (∀ b ∈ rd, b ∈ keysE es) ∧ doneOk (outE es rd, []) rd ∧ Kn es0 pr n (fun x => und x && !decide (x ∈ rd)) [] (rnd es rd).1 (rnd es rd).2 := by
  have hk : ∀ b ∈ rd, b ∈ keysE es := fun b hb => K.ks ▸ (G.mem b).mpr ((K.rm b).mp hb).1
  obtain ⟨h1, h2, h3⟩ := out_spec rd es hk
  have K2 : Kn es0 pr n und rd (outE es rd) [] := by
    refine ⟨fun b => by rw [h1, K.sh], h2.trans K.ks, K.rn, fun x hx => ⟨((K.rm x).mp hx).1, ((K.rm x).mp hx).2.1⟩, fun x hx p hp => ?_, K.dp, fun x hn hx => ?_, fun x hx => by rw [h3, if_pos hx], fun x hn hx hq => ?_, .nil, fun b => ?_⟩
    · have := List.countP_eq_zero.mp ((K.rm x).mp hx).2.2.2 p hp
      simpa using this
    · rw [h3, if_neg, K.nd x hn hx]
      intro z
      have := ((K.rm x).mp z).2.1
      rw [hx] at this; cases this
    · rw [h3, if_neg hq, K.nu x hn hx (by simp)]
    · refine ⟨fun z => (nomatch z), fun ⟨g1, g2, g3, g4⟩ => absurd ((K.rm b).mpr ⟨g1, g2, by simp, g4⟩) g3⟩
  exact ⟨hk, Kn.all G rd K2⟩
/-- levels: what is due in which round -/
structure Lv (pr : Nat → List Nat) (n : Nat) (ok : Nat → Bool) (lv : Nat → Nat) : Prop where
  lt : ∀ t, ok t = true → t < n
  lo : ∀ t, ok t = true → ∀ p ∈ pr t, ok p = true ∧ lv p < lv t
  hi : ∀ t, ok t = true → 0 < lv t → ∃ p ∈ pr t, lv p + 1 = lv t
  bl : ∀ t, t < n → ok t = false → ∃ p ∈ pr t, ok p = false
noncomputable def undK (ok : Nat → Bool) (lv : Nat → Nat) (k x : Nat) : Bool := !(ok x && decide (lv x < k))
theorem Kn.lev {es0 : List Ent} {pr : Nat → List Nat} {n : Nat} {ok : Nat → Bool} {lv : Nat → Nat} (V : Lv pr n ok lv) {k : Nat} {es : List Ent} {rd : List Nat} (K : Kn es0 pr n (undK ok lv k) [] es rd) (b : Nat) : b ∈ rd ↔ ok b = true ∧ lv b = k := by
  rw [K.rm, List.countP_eq_zero]
  constructor
  · rintro ⟨h1, h2, _, h4⟩
    have h4 : ∀ p ∈ pr b, ok p = true ∧ lv p < k := fun p hp => by
      have := h4 p hp
      simpa [undK] using this
    cases hb : ok b with
    | false =>
      obtain ⟨p, hp, hq⟩ := V.bl b h1 hb
      have := (h4 p hp).1
      rw [hq] at this; cases this
    | true =>
      refine ⟨rfl, ?_⟩
      have h2 : k ≤ lv b := by simpa [undK, hb] using h2
      rcases Nat.lt_or_ge k (lv b) with w | w
      · obtain ⟨p, hp, hq⟩ := V.hi b hb (by omega)
        have := (h4 p hp).2
        omega
      · omega
  · rintro ⟨h1, h2⟩
    refine ⟨V.lt b h1, by simp [undK, h1, h2], by simp, fun p hp => ?_⟩
    obtain ⟨g1, g2⟩ := V.lo b h1 p hp
    simp [undK, g1]; omega
theorem Lv.down {pr : Nat → List Nat} {n : Nat} {ok : Nat → Bool} {lv : Nat → Nat} (V : Lv pr n ok lv) {k : Nat} : ∀ (d t : Nat), ok t = true → lv t = k + d → ∃ t', ok t' = true ∧ lv t' = k
  | 0, t, h1, h2 => ⟨t, h1, h2⟩
  | d + 1, t, h1, h2 => by
    obtain ⟨p, hp, hq⟩ := V.hi t h1 (by omega)
    exact V.down d p (V.lo t h1 p hp).1 (by omega)
theorem run_ok {es0 : List Ent} {pr : Nat → List Nat} {n : Nat} (G : Gr es0 pr n) {ok : Nat → Bool} {lv : Nat → Nat} (V : Lv pr n ok lv) (h16 : n ≤ 16) : ∀ (f k : Nat) (es : List Ent) (rd : List Nat), Kn es0 pr n (undK ok lv k) [] es rd → (∀ t, ok t = true → lv t < k + f) →
    RunOk f es rd ∧ (runG f k es rd).Nodup ∧ (∀ p, p ∈ runG f k es rd ↔ ok p.2 = true ∧ lv p.2 = p.1 ∧ k ≤ p.1) ∧ ∀ t, t < n → (ok t = true → npOf (runE f es rd) t = -2) ∧ (ok t = false → 0 ≤ npOf (runE f es rd) t) ∧ keysE (runE f es rd) = keysE es0
  | 0, k, es, rd, K, hf => by
    have hl := K.lev V
    refine ⟨?_, .nil, fun p => ⟨fun z => (nomatch z), fun ⟨h1, h2, h3⟩ => ?_⟩, fun t ht => ⟨fun h => ?_, fun h => ?_, K.ks⟩⟩
    · show rd = []
      cases rd with
      | nil => rfl
      | cons b rd =>
        obtain ⟨h1, h2⟩ := (hl b).mp (.head _)
        have := hf b h1
        omega
    · have := hf _ h1; omega
    · have := hf t h
      exact K.nd t ht (by simp [undK, h]; omega)
    · show 0 ≤ npOf es t
      rw [K.nu t ht (by simp [undK, h]) (by simp)]; omega
  | f + 1, k, es, rd, K, hf => by
    have hl := K.lev V
    by_cases hr : rd = []
    · have hno : ∀ t, ok t = true → lv t < k := fun t ht => by
        rcases Nat.lt_or_ge (lv t) k with w | w
        · exact w
        · obtain ⟨t', g1, g2⟩ := V.down (k := k) (lv t - k) t ht (by omega)
          have := (hl t').mpr ⟨g1, g2⟩
          rw [hr] at this; cases this
      refine ⟨.inl hr, ?_, fun p => ?_, fun t ht => ?_⟩
      · show (if rd = [] then [] else _).Nodup
        rw [if_pos hr]; exact .nil
      · show p ∈ (if rd = [] then [] else _) ↔ _
        rw [if_pos hr]
        exact ⟨fun z => (nomatch z), fun ⟨h1, h2, h3⟩ => by have := hno _ h1; omega⟩
      · show (_ → npOf (if rd = [] then es else _) t = -2) ∧ (_ → 0 ≤ npOf (if rd = [] then es else _) t) ∧ keysE (if rd = [] then es else _) = _
        rw [if_pos hr]
        refine ⟨fun h => K.nd t ht ?_, fun h => ?_, K.ks⟩
        · have := hno t h
          simp [undK, h]; omega
        · rw [K.nu t ht (by simp [undK, h]) (by simp)]; omega
    · obtain ⟨r1, r2, r3⟩ := K.round G
      have e : (fun x => undK ok lv k x && !decide (x ∈ rd)) = undK ok lv (k + 1) := by
        funext x
        have hx := hl x
        cases hx1 : ok x with
        | false =>
          have : x ∉ rd := fun z => by have := (hx.mp z).1; rw [hx1] at this; cases this
          simp [undK, hx1, this]
        | true =>
          rw [hx1] at hx
          by_cases h2 : lv x = k
          · have : x ∈ rd := hx.mpr ⟨rfl, h2⟩
            simp [undK, hx1, this, h2]
          · have : x ∉ rd := fun z => h2 (hx.mp z).2
            simp only [undK, hx1, this, Bool.true_and, decide_false, Bool.not_false, Bool.and_true]
            congr 1
            rw [decide_eq_decide]; omega
      rw [e] at r3
      obtain ⟨i1, i2, i3, i4⟩ := run_ok G V h16 f (k + 1) _ _ r3 fun t ht => by have := hf t ht; omega
      have hlen : rd.length ≤ 16 := by
        have h := nodup_len (k := List.range n) K.rn fun b hb => List.mem_range.mpr ((K.rm b).mp hb).1
        rw [List.length_range] at h
        omega
      refine ⟨.inr ⟨hlen, r1, r2, i1⟩, ?_, fun p => ?_, fun t ht => ?_⟩
      · show (if rd = [] then [] else _).Nodup
        rw [if_neg hr, List.nodup_append]
        refine ⟨?_, i2, fun x hx y hy exy => ?_⟩
        · rw [List.Nodup, List.pairwise_map]
          exact K.rn.imp fun h e => h (by injection e)
        · subst exy
          obtain ⟨b, hb, rfl⟩ := List.mem_map.mp hx
          have := ((i3 _).mp hy).2.2
          simp at this
          omega
      · show p ∈ (if rd = [] then [] else _) ↔ _
        rw [if_neg hr, List.mem_append, i3, List.mem_map]
        constructor
        · rintro (⟨b, hb, rfl⟩ | ⟨h1, h2, h3⟩)
          · obtain ⟨h1, h2⟩ := (hl b).mp hb
            exact ⟨h1, h2, Nat.le_refl _⟩
          · exact ⟨h1, h2, by omega⟩
        · rintro ⟨h1, h2, h3⟩
          rcases Nat.lt_or_ge k p.1 with w | w
          · exact .inr ⟨h1, h2, w⟩
          · have : p.1 = k := by omega
            exact .inl ⟨p.2, (hl _).mpr ⟨h1, h2.trans this⟩, by rw [← this]⟩
      · show (_ → npOf (if rd = [] then es else _) t = -2) ∧ (_ → 0 ≤ npOf (if rd = [] then es else _) t) ∧ keysE (if rd = [] then es else _) = _
        rw [if_neg hr]
        exact i4 t ht
theorem kn_start {es0 : List Ent} {pr : Nat → List Nat} {n : Nat} (G : Gr es0 pr n) {ok : Nat → Bool} {lv : Nat → Nat} : Kn es0 pr n (undK ok lv 0) [] es0 (rdy es0) := by
  have ht : ∀ x, undK ok lv 0 x = true := fun x => by simp [undK]
  have hc : ∀ l : List Nat, l.countP (undK ok lv 0) = l.length := fun l => List.countP_eq_length.mpr fun x _ => ht x
  refine ⟨fun _ => rfl, rfl, .nil, fun x hx => (nomatch hx), fun x hx => (nomatch hx), fun x _ h => (by rw [ht] at h; cases h), fun x _ h => (by rw [ht] at h; cases h), fun x hx => (nomatch hx), fun x _ _ _ => by rw [G.np, hc], ?_, fun b => ?_⟩
  · exact List.Nodup.sublist (List.Sublist.map _ List.filter_sublist) G.nd
  · rw [hc]
    have key : ∀ e ∈ es0, npOf es0 e.a = e.np := fun e he => by
      obtain ⟨e', he'⟩ := find_mem (es := es0) (b := e.a) (List.mem_map.mpr ⟨e, he, rfl⟩)
      obtain ⟨h1, h2⟩ := find_some he'
      have : e' = e := by
        have hn := List.pairwise_map.mp G.nd
        rcases List.getElem_of_mem h1 with ⟨i, hi, ei⟩
        rcases List.getElem_of_mem he with ⟨j, hj, ej⟩
        have hp := List.pairwise_iff_getElem.mp hn
        rcases Nat.lt_trichotomy i j with q | q | q
        · exact absurd (by rw [ei, ej]; exact h2) (hp i j hi hj q)
        · subst q; exact ei.symm.trans ej
        · exact absurd (by rw [ei, ej]; exact h2.symm) (hp j i hj hi q)
      unfold npOf
      rw [he', this]
    unfold rdy
    rw [List.mem_map]
    constructor
    · rintro ⟨e, he, rfl⟩
      obtain ⟨h1, h2⟩ := List.mem_filter.mp he
      have h2 : e.np = 0 := of_decide_eq_true h2
      have hm : e.a ∈ keysE es0 := List.mem_map.mpr ⟨e, h1, rfl⟩
      refine ⟨(G.mem _).mp hm, ht _, by simp, ?_⟩
      have := G.np e.a
      rw [key e h1, h2] at this
      omega
    · rintro ⟨h1, _, _, h4⟩
      obtain ⟨e, he, rfl⟩ := List.mem_map.mp ((G.mem b).mpr h1)
      refine ⟨e, List.mem_filter.mpr ⟨he, decide_eq_true ?_⟩, rfl⟩
      rw [← key e he, G.np, h4]; rfl

theorem fresh_P73_ring : True := by
  w_top off
  trivial
/-- each next one is a successor -/
noncomputable def Walk (es : List Ent) : List Nat → Prop
  | x :: y :: r => y ∈ suOf es x ∧ Walk es (y :: r)
  | _ => True
theorem Walk.snoc {es : List Ent} {x a : Nat} (h : a ∈ suOf es x) : ∀ {l : List Nat}, Walk es (l ++ [x]) → Walk es (l ++ [x] ++ [a])
  | [], _ => ⟨h, trivial⟩
  | [y], hw => ⟨hw.1, h, trivial⟩
  | y :: z :: l, hw => ⟨hw.1, Walk.snoc h (l := z :: l) hw.2⟩
theorem Walk.tail {es : List Ent} {x : Nat} {l : List Nat} (h : Walk es (x :: l)) : Walk es l := by
  cases l with
  | nil => trivial
  | cons y l => exact h.2
theorem Walk.drop {es : List Ent} : ∀ {l : List Nat} (k : Nat), Walk es l → Walk es (l.drop k)
  | [], k, h => by simpa using h
  | x :: l, 0, h => h
  | x :: l, k + 1, h => Walk.drop (l := l) k h.tail
theorem Walk.left {es : List Ent} {r : List Nat} : ∀ {l : List Nat}, Walk es (l ++ r) → Walk es l
  | [], _ => trivial
  | [x], _ => trivial
  | x :: y :: l, h => ⟨h.1, Walk.left (l := y :: l) h.2⟩
theorem Walk.join {es : List Ent} {a : Nat} {r : List Nat} (hr : Walk es (a :: r)) : ∀ {l : List Nat}, Walk es (l ++ [a]) → Walk es (l ++ a :: r)
  | [], _ => hr
  | [x], h => ⟨h.1, hr⟩
  | x :: y :: l, h => ⟨h.1, Walk.join hr (l := y :: l) h.2⟩
/-- a ring -/
structure RingOk (es : List Ent) (ring c : List Nat) (a : Nat) : Prop where
  eq : ring = c ++ [a]
  hd : c.head? = some a
  nd : c.Nodup
  wk : Walk es (c ++ [a])
/-- finished nodes, the last first -/
noncomputable def Topo (es : List Ent) : List Nat → Prop
  | [] => True
  | x :: f => x ∉ f ∧ (∀ y ∈ suOf es x, y ∈ f) ∧ Topo es f
noncomputable def Stk (es : List Ent) (fin : List Nat) : Nat → List (Nat × Nat) → Prop
  | _, [] => True
  | a, (x, i) :: r => ∃ j, i = j + 1 ∧ (suOf es x)[j]? = some a ∧ (∀ y ∈ (suOf es x).take j, y ∈ fin) ∧ Stk es fin x r
noncomputable def BStk (es : List Ent) (fin : List Nat) : List (Nat × Nat) → Prop
  | [] => True
  | (x, i) :: r => (∀ y ∈ (suOf es x).take i, y ∈ fin) ∧ Stk es fin x r
theorem Stk.mono {es : List Ent} {fin fin' : List Nat} (h : ∀ x ∈ fin, x ∈ fin') : ∀ {st : List (Nat × Nat)} {a : Nat}, Stk es fin a st → Stk es fin' a st
  | [], _, _ => trivial
  | (x, i) :: r, a, ⟨j, h1, h2, h3, h4⟩ => ⟨j, h1, h2, fun y hy => h y (h3 y hy), h4.mono h⟩
theorem take_one {l : List Nat} {j a : Nat} (h : l[j]? = some a) : l.take (j + 1) = l.take j ++ [a] := by
  rw [List.take_add_one, h]; rfl
theorem Stk.back {es : List Ent} {fin : List Nat} : ∀ {st : List (Nat × Nat)} {a : Nat}, Stk es fin a st → a ∈ fin → BStk es fin st
  | [], _, _, _ => trivial
  | (x, i) :: r, a, ⟨j, h1, h2, h3, h4⟩, ha => by
    refine ⟨fun y hy => ?_, h4⟩
    rw [h1, take_one h2] at hy
    rcases List.mem_append.mp hy with q | q
    · exact h3 y q
    · rw [List.mem_singleton.mp q]; exact ha
theorem Stk.walk {es : List Ent} {fin : List Nat} : ∀ {st : List (Nat × Nat)} {a : Nat}, Stk es fin a st → Walk es ((st.map (·.1)).reverse ++ [a])
  | [], _, _ => trivial
  | (x, i) :: r, a, ⟨j, h1, h2, h3, h4⟩ => by
    show Walk es ((x :: r.map (·.1)).reverse ++ [a])
    rw [List.reverse_cons]
    exact Walk.snoc (List.mem_of_getElem? h2) h4.walk
noncomputable def remS (es : List Ent) : List (Nat × Nat) → Nat
  | [] => 0
  | (x, i) :: r => ((suOf es x).length - i) + remS es r
theorem back_ok {es : List Ent} : ∀ (st : List (Nat × Nat)) (fin : List Nat), BStk es fin st → (st.map (·.1)).Nodup → (∀ x ∈ st.map (·.1), x ∉ fin) → Topo es fin →
    (back es st = none ∧ ∃ fin', Topo es fin' ∧ ∀ x, x ∈ fin' ↔ x ∈ fin ∨ x ∈ st.map (·.1)) ∨
    ∃ b st' fin', back es st = some (b, st') ∧ Stk es fin' b st' ∧ Topo es fin' ∧ (st'.map (·.1)).Nodup ∧ (∀ x ∈ st'.map (·.1), x ∉ fin') ∧ (∀ x, (x ∈ fin' ∨ x ∈ st'.map (·.1)) ↔ (x ∈ fin ∨ x ∈ st.map (·.1))) ∧ remS es st' < remS es st
  | [], fin, _, _, _, ht => .inl ⟨rfl, fin, ht, fun x => by simp⟩
  | (x, i) :: r, fin, ⟨h1, h2⟩, hn, hd, ht => by
    have hn' := List.nodup_cons.mp hn
    unfold back
    cases hs : (suOf es x)[i]? with
    | some b =>
      have hi := (List.getElem?_eq_some_iff.mp hs).1
      refine .inr ⟨b, (x, i + 1) :: r, fin, rfl, ⟨i, rfl, hs, h1, h2⟩, ht, hn, hd, fun y => Iff.rfl, ?_⟩
      show _ - (i + 1) + _ < _ - i + _
      omega
    | none =>
      have hi := List.getElem?_eq_none_iff.mp hs
      rw [List.take_of_length_le hi] at h1
      have hx := hd x (.head _)
      have ht' : Topo es (x :: fin) := ⟨hx, h1, ht⟩
      have hb : BStk es (x :: fin) r := (h2.mono fun y hy => .tail _ hy).back (.head _)
      have hd' : ∀ y ∈ r.map (·.1), y ∉ x :: fin := fun y hy q => by
        rcases List.mem_cons.mp q with e | q
        · exact hn'.1 (e ▸ hy)
        · exact hd y (.tail _ hy) q
      have hmem : ∀ y, (y ∈ x :: fin ∨ y ∈ r.map (·.1)) ↔ (y ∈ fin ∨ y ∈ ((x, i) :: r).map (·.1)) := fun y => by
        rw [List.map_cons, List.mem_cons, List.mem_cons]
        exact ⟨fun q => q.elim (fun q => q.elim (fun e => .inr (.inl e)) .inl) fun q => .inr (.inr q), fun q => q.elim (fun q => .inl (.inr q)) fun q => q.elim (fun e => .inl (.inl e)) .inr⟩
      rcases back_ok r (x :: fin) hb hn'.2 hd' ht' with ⟨e, fin', g1, g2⟩ | ⟨b, st', fin', e, g1, g2, g3, g4, g5, g6⟩
      · exact .inl ⟨e, fin', g1, fun y => (g2 y).trans (hmem y)⟩
      · refine .inr ⟨b, st', fin', e, g1, g2, g3, g4, fun y => (g5 y).trans (hmem y), ?_⟩
        show _ < _ - i + _
        omega
noncomputable def remU (w : Nat → Nat) (seen : List Nat) : List Nat → Nat
  | [] => 0
  | x :: l => (if x ∈ seen then 0 else w x) + remU w seen l
theorem remU_mono {w : Nat → Nat} {seen seen' : List Nat} (h : ∀ x ∈ seen, x ∈ seen') : ∀ l, remU w seen' l ≤ remU w seen l
  | [] => Nat.le_refl _
  | x :: l => by
    have := remU_mono (w := w) h l
    unfold remU
    by_cases q : x ∈ seen
    · rw [if_pos q, if_pos (h x q)]; omega
    · rw [if_neg q]; split <;> omega
theorem remU_push {w : Nat → Nat} {seen : List Nat} {a : Nat} (ha : a ∉ seen) : ∀ l, a ∈ l → remU w (seen ++ [a]) l + w a ≤ remU w seen l
  | x :: l, hm => by
    have h1 := remU_mono (w := w) (seen := seen) (seen' := seen ++ [a]) (fun x hx => List.mem_append_left _ hx) l
    unfold remU
    by_cases e : x = a
    · subst e
      rw [if_pos (by simp), if_neg ha]; omega
    · have h2 := remU_push (w := w) ha l ((List.mem_cons.mp hm).resolve_left (Ne.symm e))
      by_cases q : x ∈ seen
      · rw [if_pos q, if_pos (List.mem_append_left _ q)]; omega
      · rw [if_neg q, if_neg (by simp [q, e])]; omega
noncomputable abbrev wE (es : List Ent) (x : Nat) : Nat := (suOf es x).length
theorem ringOf_ok {es : List Ent} {fin : List Nat} {st : List (Nat × Nat)} {a : Nat} (h : Stk es fin a st) (hn : (st.map (·.1)).Nodup) (ha : a ∈ st.map (·.1)) : ∃ c, RingOk es (ringOf st a) c a := by
  unfold ringOf
  have hr : a ∈ (st.map (·.1)).reverse := List.mem_reverse.mpr ha
  have hi := List.idxOf_lt_length_iff.mpr hr
  have hw := Walk.drop ((st.map (·.1)).reverse.idxOf a) h.walk
  rw [List.drop_append_of_le_length (by omega)] at hw
  refine ⟨_, rfl, ?_, (List.Nodup.sublist (List.drop_sublist _ _) (List.pairwise_reverse.mpr (hn.imp fun h e => h e.symm))), hw⟩
  rw [List.head?_drop, List.getElem?_eq_getElem hi, List.getElem_idxOf hi]
theorem dfs_ok {es : List Ent} : ∀ (n a : Nat) (st : List (Nat × Nat)) (seen fin : List Nat), Stk es fin a st → (st.map (·.1)).Nodup → (∀ x ∈ st.map (·.1), x ∉ fin) → (∀ x, x ∈ seen ↔ x ∈ fin ∨ x ∈ st.map (·.1)) → Topo es fin → remU (wE es) seen (keysE es) + remS es st < n →
    (∃ ring c b, dfs es n a st seen = some (.inl ring) ∧ RingOk es ring c b) ∨ ∃ seen' fin', dfs es n a st seen = some (.inr seen') ∧ Topo es fin' ∧ (∀ x, x ∈ seen' ↔ x ∈ fin') ∧ (∀ x ∈ seen, x ∈ seen') ∧ a ∈ seen'
  | 0, _, _, _, _, _, _, _, _, _, h => by omega
  | n + 1, a, st, seen, fin, h1, h2, h3, h4, h5, h6 => by
    unfold dfs
    by_cases ha : a ∈ seen
    · by_cases hb : a ∈ st.map (·.1)
      · have e : turnOf a st seen = .inl (ringOf st a) := by unfold turnOf; rw [if_pos ha, if_pos hb]
        rw [e]
        obtain ⟨c, hc⟩ := ringOf_ok h1 h2 hb
        exact .inl ⟨_, c, a, rfl, hc⟩
      · have e : turnOf a st seen = .inr (st, seen) := by unfold turnOf; rw [if_pos ha, if_neg hb]
        rw [e]
        dsimp only
        have haf : a ∈ fin := ((h4 a).mp ha).resolve_right hb
        rcases back_ok st fin (h1.back haf) h2 h3 h5 with ⟨e, fin', g1, g2⟩ | ⟨b, st', fin', e, g1, g2, g3, g4, g5, g6⟩
        · rw [e]
          exact .inr ⟨seen, fin', rfl, g1, fun x => (h4 x).trans (g2 x).symm, fun x hx => hx, ha⟩
        · rw [e]
          rcases dfs_ok n b st' seen fin' g1 g3 g4 (fun x => (h4 x).trans (g5 x).symm) g2 (by omega) with q | ⟨seen', fin2, q1, q2, q3, q4, q5⟩
          · exact .inl q
          · exact .inr ⟨seen', fin2, q1, q2, q3, q4, q4 a ha⟩
    · have e : turnOf a st seen = .inr ((a, 0) :: st, seen ++ [a]) := by unfold turnOf; rw [if_neg ha]
      rw [e]
      dsimp only
      have hna : a ∉ fin ∧ a ∉ st.map (·.1) := ⟨fun q => ha ((h4 a).mpr (.inl q)), fun q => ha ((h4 a).mpr (.inr q))⟩
      have hB : BStk es fin ((a, 0) :: st) := ⟨fun y hy => by simp at hy, h1⟩
      have hn2 : (((a, 0) :: st).map (·.1)).Nodup := List.nodup_cons.mpr ⟨hna.2, h2⟩
      have hd2 : ∀ x ∈ ((a, 0) :: st).map (·.1), x ∉ fin := fun x hx => by
        rcases List.mem_cons.mp hx with e | hx
        · rw [e]; exact hna.1
        · exact h3 x hx
      have hs2 : ∀ x, x ∈ seen ++ [a] ↔ x ∈ fin ∨ x ∈ ((a, 0) :: st).map (·.1) := fun x => by
        rw [List.mem_append, h4, List.mem_singleton, List.map_cons, List.mem_cons]
        exact ⟨fun q => q.elim (fun q => q.elim .inl fun q => .inr (.inr q)) fun e => .inr (.inl e), fun q => q.elim (fun q => .inl (.inl q)) fun q => q.elim .inr fun q => .inl (.inr q)⟩
      have hU : remU (wE es) (seen ++ [a]) (keysE es) + (suOf es a).length ≤ remU (wE es) seen (keysE es) := by
        by_cases hk : a ∈ keysE es
        · exact remU_push ha _ hk
        · rw [su_not hk]
          exact remU_mono (fun x hx => List.mem_append_left _ hx) _
      have hS : remS es ((a, 0) :: st) = (suOf es a).length + remS es st := by show _ - 0 + _ = _; omega
      rcases back_ok ((a, 0) :: st) fin hB hn2 hd2 h5 with ⟨e, fin', g1, g2⟩ | ⟨b, st', fin', e, g1, g2, g3, g4, g5, g6⟩
      · rw [e]
        exact .inr ⟨seen ++ [a], fin', rfl, g1, fun x => (hs2 x).trans (g2 x).symm, fun x hx => List.mem_append_left _ hx, by simp⟩
      · rw [e]
        rcases dfs_ok n b st' (seen ++ [a]) fin' g1 g3 g4 (fun x => (hs2 x).trans (g5 x).symm) g2 (by omega) with q | ⟨seen', fin2, q1, q2, q3, q4, q5⟩
        · exact .inl q
        · exact .inr ⟨seen', fin2, q1, q2, q3, fun x hx => q4 x (List.mem_append_left _ hx), q4 a (by simp)⟩
theorem findRing_ok {es : List Ent} {fuel : Nat} (hf : remU (wE es) [] (keysE es) < fuel) : ∀ (as seen fin : List Nat), Topo es fin → (∀ x, x ∈ seen ↔ x ∈ fin) →
    (∃ ring c b, findRing es fuel as seen = some (some ring) ∧ RingOk es ring c b) ∨ (findRing es fuel as seen = some none ∧ ∃ fin', Topo es fin' ∧ (∀ x ∈ as, x ∈ fin') ∧ ∀ x ∈ fin, x ∈ fin')
  | [], seen, fin, h1, h2 => .inr ⟨rfl, fin, h1, fun x hx => (nomatch hx), fun x hx => hx⟩
  | a :: as, seen, fin, h1, h2 => by
    unfold findRing
    by_cases ha : a ∈ seen
    · rw [if_pos ha]
      rcases findRing_ok hf as seen fin h1 h2 with q | ⟨q1, fin', q2, q3, q4⟩
      · exact .inl q
      · refine .inr ⟨q1, fin', q2, fun x hx => ?_, q4⟩
        rcases List.mem_cons.mp hx with e | hx
        · rw [e]; exact q4 a ((h2 a).mp ha)
        · exact q3 x hx
    · rw [if_neg ha]
      have hm := remU_mono (w := wE es) (seen := []) (seen' := seen) (fun x hx => (nomatch hx)) (keysE es)
      rcases dfs_ok fuel a [] seen fin trivial .nil (fun x hx => (nomatch hx)) (fun x => by rw [h2]; simp) h1 (by show _ + 0 < _; omega) with ⟨ring, c, b, e, q⟩ | ⟨seen', fin2, e, q2, q3, q4, q5⟩
      · rw [e]
        exact .inl ⟨ring, c, b, rfl, q⟩
      · rw [e]
        dsimp only
        rcases findRing_ok hf as seen' fin2 q2 q3 with q | ⟨w1, fin', w2, w3, w4⟩
        · exact .inl q
        · refine .inr ⟨w1, fin', w2, fun x hx => ?_, fun x hx => w4 x ((q3 x).mp (q4 x ((h2 x).mpr hx)))⟩
          rcases List.mem_cons.mp hx with e | hx
          · rw [e]; exact w4 a ((q3 a).mp q5)
          · exact w3 x hx
theorem Topo.closed {es : List Ent} : ∀ {f : List Nat}, Topo es f → ∀ x ∈ f, ∀ y ∈ suOf es x, y ∈ f
  | x :: f, ⟨h1, h2, h3⟩, z, hz, y, hy => by
    rcases List.mem_cons.mp hz with e | hz
    · exact .tail _ (h2 y (e ▸ hy))
    · exact .tail _ (h3.closed z hz y hy)
theorem Topo.pos {es : List Ent} : ∀ {f : List Nat}, Topo es f → ∀ x ∈ f, ∀ y ∈ suOf es x, f.idxOf x < f.idxOf y
  | z :: f, ⟨h1, h2, h3⟩, x, hx, y, hy => by
    rw [List.idxOf_cons, List.idxOf_cons]
    by_cases e : z = x
    · subst e
      have e3 : (z == y) = false := by simpa using fun e : z = y => h1 (e ▸ h2 y hy)
      have e4 : (z == z) = true := by simp
      rw [e3, e4]; exact Nat.succ_pos _
    · have hx := (List.mem_cons.mp hx).resolve_left (Ne.symm e)
      have hy' := h3.closed x hx y hy
      have e2 : (z == y) = false := by simpa using fun e : z = y => h1 (e ▸ hy')
      have e4 : (z == x) = false := by simpa using e
      have := h3.pos x hx y hy
      rw [e2, e4]
      exact Nat.succ_lt_succ this

theorem fresh_P74_level : True := by
  w_top off
  trivial
-- rows by number
noncomputable abbrev rowOf (rws : List (List (List Nat))) (t : Nat) : List (List Nat) := rws.getD t []
theorem rowOf_at {rws : List (List (List Nat))} {t : Nat} {r : List (List Nat)} (h : rws[t]? = some r) : rowOf rws t = r := by
  show rws.getD t [] = r
  rw [List.getD_eq_getElem?_getD, h]; rfl
theorem at_idx {rws : List (List (List Nat))} {r : List (List Nat)} (h : r ∈ rws) : rws[rws.idxOf r]? = some r := by
  have hi := List.idxOf_lt_length_iff.mpr h
  rw [List.getElem?_eq_getElem hi, List.getElem_idxOf hi]
theorem idx_at {rws : List (List (List Nat))} (hn : rws.Nodup) {t : Nat} {r : List (List Nat)} (h : rws[t]? = some r) : t = rws.idxOf r := by
  have h2 := at_idx (List.mem_of_getElem? h)
  obtain ⟨l1, g1⟩ := List.getElem?_eq_some_iff.mp h
  obtain ⟨l2, g2⟩ := List.getElem?_eq_some_iff.mp h2
  exact (List.getElem_inj hn).mp (g1.trans g2.symm)
theorem erase_in {rw r : List (List Nat)} (h : r ∈ choices rw) (k : Nat) : r.eraseIdx k ∈ choices rw :=
  mem_choices.mpr ((List.eraseIdx_sublist r k).trans (mem_choices.mp h))
theorem psR_mem {rw : List (List Nat)} {t p : Nat} (h : p ∈ psR (choices rw) t) : ∃ r k, (choices rw)[t]? = some r ∧ k < r.length ∧ (choices rw)[p]? = some (r.eraseIdx k) := by
  unfold psR at h
  cases ht : (choices rw)[t]? with
  | none => rw [ht] at h; cases h
  | some r =>
    rw [ht] at h
    obtain ⟨k, hk, rfl⟩ := List.mem_map.mp h
    exact ⟨r, k, rfl, List.mem_range.mp hk, at_idx (erase_in (List.mem_of_getElem? ht) k)⟩
theorem psR_of {rw : List (List Nat)} {t k : Nat} {r : List (List Nat)} (ht : (choices rw)[t]? = some r) (hk : k < r.length) : (choices rw).idxOf (r.eraseIdx k) ∈ psR (choices rw) t ∧ (choices rw)[(choices rw).idxOf (r.eraseIdx k)]? = some (r.eraseIdx k) := by
  refine ⟨?_, at_idx (erase_in (List.mem_of_getElem? ht) k)⟩
  unfold psR
  rw [ht]
  exact List.mem_map.mpr ⟨k, List.mem_range.mpr hk, rfl⟩
theorem sub_erase {α : Type} {a b : List α} (h : a.Sublist b) : a ≠ b → ∃ k, k < b.length ∧ a.Sublist (b.eraseIdx k) := by
  induction h with
  | slnil => exact fun q => absurd rfl q
  | @cons l₁ l₂ x h _ => exact fun _ => ⟨0, by simp, by simpa using h⟩
  | @cons_cons l₁ l₂ x h ih =>
    intro q
    obtain ⟨k, h1, h2⟩ := ih fun e => q (by rw [e])
    exact ⟨k + 1, by simp; omega, by simpa using h2.cons_cons x⟩
theorem erase_len {α : Type} {r : List α} {k : Nat} (h : k < r.length) : (r.eraseIdx k).length = r.length - 1 := by
  rw [List.length_eraseIdx, if_pos h]
theorem hitR_iff {κ : Bool} {r1 r : List (List Nat)} : hitR κ r1 r = true ↔ r1.Sublist r := by
  unfold hitR
  rw [decide_eq_true_iff]
  unfold refu
  cases hf : (List.range r1.length).find? (fun k => decide (r1.take (k + 1) ∉ choices r)) with
  | none =>
    refine ⟨fun _ => ?_, fun _ => rfl⟩
    have h := List.find?_eq_none.mp hf
    cases r1 with
    | nil => exact List.nil_sublist _
    | cons n r1 =>
      have := h r1.length (List.mem_range.mpr (by simp))
      rw [decide_eq_true_iff, Classical.not_not, mem_choices, List.take_of_length_le (by simp)] at this
      exact this
  | some k =>
    refine ⟨fun h => ?_, fun h => ?_⟩
    · exact absurd (congrArg List.length h) (by simp [expd])
    · have := List.find?_some hf
      rw [decide_eq_true_iff, mem_choices] at this
      exact absurd ((List.take_sublist _ _).trans h) this
section
variable {κ : Bool} {rw r1 r2 : List (List Nat)}
/-- what is due, and when -/
noncomputable def okT (κ : Bool) (rw r1 : List (List Nat)) (nil : Bool) (t : Nat) : Bool := decide (t < (choices rw).length) && (nil || !hitR κ r1 (rowOf (choices rw) t))
noncomputable def lvT (κ : Bool) (rw r1 : List (List Nat)) (late t : Nat) : Nat := (rowOf (choices rw) t).length + if hitR κ r1 (rowOf (choices rw) t) then late else 0
noncomputable abbrev prT (rw r1 r2 : List (List Nat)) (t : Nat) : List Nat := psR (choices rw) t ++ if t = (choices rw).idxOf r1 then [(choices rw).idxOf r2] else []
theorem okT_iff {nil : Bool} {t : Nat} : okT κ rw r1 nil t = true ↔ t < (choices rw).length ∧ (nil = true ∨ hitR κ r1 (rowOf (choices rw) t) = false) := by
  unfold okT
  rw [Bool.and_eq_true, decide_eq_true_iff, Bool.or_eq_true, Bool.not_eq_true']
theorem lv_ok (h1 : r1 ∈ choices rw) (h2 : r2 ∈ choices rw) {nil : Bool} (hnil : nil = true ↔ ¬ r1.Sublist r2) : Lv (prT rw r1 r2) (choices rw).length (okT κ rw r1 nil) (lvT κ rw r1 (r2.length + 1 - r1.length)) := by
  have hb := at_idx h1
  have he := at_idx h2
  have hin := List.idxOf_lt_length_iff.mpr h2
  have hit_self : hitR κ r1 r1 = true := hitR_iff.mpr (List.Sublist.refl _)
  have hit_mono : ∀ {a b : List (List Nat)}, a.Sublist b → hitR κ r1 b = false → hitR κ r1 a = false := fun {a b} hs hb => by
    cases h : hitR κ r1 a with
    | false => rfl
    | true => rw [hitR_iff.mpr ((hitR_iff.mp h).trans hs)] at hb; cases hb
  have hit2 : nil = true → hitR κ r1 r2 = false := fun hn => by
    cases h : hitR κ r1 r2 with
    | false => rfl
    | true => exact absurd (hitR_iff.mp h) (hnil.mp hn)
  obtain ⟨late, hlate, z0, z1, z2⟩ : ∃ late, r2.length + 1 - r1.length = late ∧ r2.length < r1.length + late ∧ (¬ r1.length < r2.length + 1 → late = 0) ∧ (r1.length < r2.length + 1 → r1.length + late = r2.length + 1) := ⟨_, rfl, by omega, fun h => by omega, fun h => by omega⟩
  rw [hlate]
  clear hlate
  refine ⟨fun t h => (okT_iff.mp h).1, fun t h p hp => ?_, fun t h hl => ?_, fun t ht h => ?_⟩
  · obtain ⟨g1, g2⟩ := okT_iff.mp h
    rcases List.mem_append.mp hp with hp | hp
    · obtain ⟨r, k, e1, e2, e3⟩ := psR_mem hp
      have hlen := erase_len e2
      rw [rowOf_at e1] at g2
      have hs := List.eraseIdx_sublist r k
      refine ⟨okT_iff.mpr ⟨(List.getElem?_eq_some_iff.mp e3).1, ?_⟩, ?_⟩
      · rw [rowOf_at e3]
        exact g2.imp id (hit_mono hs)
      · unfold lvT
        rw [rowOf_at e1, rowOf_at e3, hlen]
        cases hr : hitR κ r1 r with
        | true => split <;> simp <;> omega
        | false => rw [hit_mono hs hr]; simp; omega
    · split at hp
      · rename_i e
        rw [List.mem_singleton.mp hp]
        rw [e, rowOf_at hb, hit_self] at g2
        have hn : nil = true := g2.resolve_right (by simp)
        refine ⟨okT_iff.mpr ⟨hin, .inl hn⟩, ?_⟩
        unfold lvT
        rw [e, rowOf_at hb, rowOf_at he, hit_self, hit2 hn]
        simp; omega
      · cases hp
  · obtain ⟨g1, g2⟩ := okT_iff.mp h
    obtain ⟨r, hr⟩ : ∃ r, (choices rw)[t]? = some r := ⟨_, List.getElem?_eq_getElem g1⟩
    unfold lvT at hl ⊢
    rw [rowOf_at hr] at hl g2 ⊢
    cases hh : hitR κ r1 r with
    | false =>
      rw [hh] at hl
      have hk : 0 < r.length := by simpa using hl
      obtain ⟨q1, q2⟩ := psR_of hr hk
      refine ⟨_, List.mem_append_left _ q1, ?_⟩
      rw [rowOf_at q2, erase_len hk, hit_mono (List.eraseIdx_sublist r 0) hh]
      simp; omega
    | true =>
      rw [hh] at g2 hl
      have hn : nil = true := g2.resolve_right (by simp)
      by_cases e : r = r1
      · have et : t = (choices rw).idxOf r1 := idx_at (choices_nodup rw) (e ▸ hr)
        by_cases hlt : r1.length < r2.length + 1
        · refine ⟨(choices rw).idxOf r2, List.mem_append_right _ ?_, ?_⟩
          · rw [if_pos et]; exact .head _
          · rw [rowOf_at he, hit2 hn, e]; have := z2 hlt; clear z0 z1 z2; simp; omega
        · have hk : 0 < r.length := by rw [e]; omega
          obtain ⟨q1, q2⟩ := psR_of hr hk
          refine ⟨_, List.mem_append_left _ q1, ?_⟩
          have hf : hitR κ r1 (r.eraseIdx 0) = false := by
            cases q : hitR κ r1 (r.eraseIdx 0) with
            | false => rfl
            | true =>
              have := (hitR_iff.mp q).length_le
              rw [erase_len hk, e] at this
              rw [e] at hk
              omega
          rw [rowOf_at q2, erase_len hk, hf, e]
          rw [e] at hk
          have := z1 hlt
          clear z0 z1 z2
          simp; omega
      · obtain ⟨k, hk, hs⟩ := sub_erase (hitR_iff.mp hh) (Ne.symm e)
        obtain ⟨q1, q2⟩ := psR_of hr hk
        refine ⟨_, List.mem_append_left _ q1, ?_⟩
        rw [rowOf_at q2, erase_len hk, hitR_iff.mpr hs]
        simp; omega
  · have h' : ¬ (okT κ rw r1 nil t = true) := by rw [h]; simp
    rw [okT_iff] at h'
    have hn : nil = false := by
      cases nil with
      | false => rfl
      | true => exact absurd ⟨ht, .inl rfl⟩ h'
    have hh : hitR κ r1 (rowOf (choices rw) t) = true := by
      cases q : hitR κ r1 (rowOf (choices rw) t) with
      | true => rfl
      | false => exact absurd ⟨ht, .inr q⟩ h'
    have h12 : r1.Sublist r2 := Classical.byContradiction fun q => by rw [hnil.mpr q] at hn; cases hn
    have bad : ∀ {p : Nat} {r : List (List Nat)}, (choices rw)[p]? = some r → r1.Sublist r → okT κ rw r1 nil p = false := fun {p r} hp hs => by
      cases q : okT κ rw r1 nil p with
      | false => rfl
      | true =>
        obtain ⟨_, g⟩ := okT_iff.mp q
        rw [hn, rowOf_at hp, hitR_iff.mpr hs] at g
        simp at g
    obtain ⟨r, hr⟩ : ∃ r, (choices rw)[t]? = some r := ⟨_, List.getElem?_eq_getElem ht⟩
    rw [rowOf_at hr] at hh
    by_cases e : r = r1
    · have et : t = (choices rw).idxOf r1 := idx_at (choices_nodup rw) (e ▸ hr)
      refine ⟨(choices rw).idxOf r2, List.mem_append_right _ ?_, bad he h12⟩
      rw [if_pos et]; exact .head _
    · obtain ⟨k, hk, hs⟩ := sub_erase (hitR_iff.mp hh) (Ne.symm e)
      obtain ⟨q1, q2⟩ := psR_of hr hk
      exact ⟨_, List.mem_append_left _ q1, bad q2 hs⟩
theorem due_mem {nil : Bool} {late : Nat} : ∀ (i : Nat) (p : Nat × Nat), p ∈ dueL (choices rw) (hitR κ r1) nil late i ↔ p.2 < i ∧ (nil = true ∨ hitR κ r1 (rowOf (choices rw) p.2) = false) ∧ lvT κ rw r1 late p.2 = p.1
  | 0, p => ⟨fun h => (nomatch h), fun h => absurd h.1 (Nat.not_lt_zero _)⟩
  | i + 1, (a, b) => by
    show (a, b) ∈ dueL _ _ _ _ i ++ dueAt (hitR κ r1 (rowOf (choices rw) i)) nil late (rowOf (choices rw) i).length i ↔ b < i + 1 ∧ (nil = true ∨ hitR κ r1 (rowOf (choices rw) b) = false) ∧ lvT κ rw r1 late b = a
    rw [List.mem_append, due_mem i]
    have hat : (a, b) ∈ dueAt (hitR κ r1 (rowOf (choices rw) i)) nil late (rowOf (choices rw) i).length i ↔ b = i ∧ (nil = true ∨ hitR κ r1 (rowOf (choices rw) b) = false) ∧ lvT κ rw r1 late b = a := by
      unfold dueAt lvT
      constructor
      · intro h
        cases hh : hitR κ r1 (rowOf (choices rw) i) with
        | false =>
          rw [hh] at h
          have h : (a, b) = ((rowOf (choices rw) i).length, i) := by simpa using h
          injection h with h1 h2
          subst h2
          rw [hh]
          exact ⟨rfl, .inr rfl, by simp [h1]⟩
        | true =>
          rw [hh] at h
          cases nil with
          | false => simp at h
          | true =>
            have h : (a, b) = ((rowOf (choices rw) i).length + late, i) := by simpa using h
            injection h with h1 h2
            subst h2
            rw [hh]
            exact ⟨rfl, .inl rfl, by simp [h1]⟩
      · rintro ⟨rfl, h2, h3⟩
        cases hh : hitR κ r1 (rowOf (choices rw) b) with
        | false =>
          rw [hh] at h3
          simp at h3
          simp [h3]
        | true =>
          rw [hh] at h2 h3
          have hn : nil = true := h2.resolve_right (by simp)
          simp at h3
          simp [hn, h3]
    rw [hat]
    constructor
    · rintro (⟨h1, h2⟩ | ⟨h1, h2⟩)
      · exact ⟨Nat.lt_succ_of_lt h1, h2⟩
      · exact ⟨by omega, h2⟩
    · rintro ⟨h1, h2⟩
      rcases Nat.lt_succ_iff_lt_or_eq.mp h1 with q | q
      · exact .inl ⟨q, h2⟩
      · exact .inr ⟨q, h2⟩
theorem due_nodup {nil : Bool} {late : Nat} : ∀ i, (dueL (choices rw) (hitR κ r1) nil late i).Nodup ∧ (dueL (choices rw) (hitR κ r1) nil late i).length ≤ i
  | 0 => ⟨.nil, Nat.le_refl _⟩
  | i + 1 => by
    obtain ⟨h1, h2⟩ := due_nodup (nil := nil) (late := late) i
    have ha : ∃ l, dueAt (hitR κ r1 (rowOf (choices rw) i)) nil late (rowOf (choices rw) i).length i = l ∧ l.Nodup ∧ l.length ≤ 1 ∧ ∀ p ∈ l, p.2 = i := by
      unfold dueAt
      split
      · split
        · exact ⟨_, rfl, by simp, by simp, fun p hp => by rw [List.mem_singleton.mp hp]⟩
        · exact ⟨_, rfl, .nil, by simp, fun p hp => (nomatch hp)⟩
      · exact ⟨_, rfl, by simp, by simp, fun p hp => by rw [List.mem_singleton.mp hp]⟩
    obtain ⟨l, e, g1, g2, g3⟩ := ha
    show (dueL _ _ _ _ i ++ dueAt (hitR κ r1 (rowOf (choices rw) i)) nil late (rowOf (choices rw) i).length i).Nodup ∧ _
    show _ ∧ (dueL _ _ _ _ i ++ dueAt (hitR κ r1 (rowOf (choices rw) i)) nil late (rowOf (choices rw) i).length i).length ≤ i + 1
    rw [e, List.nodup_append, List.length_append]
    refine ⟨⟨h1, g1, fun x hx y hy exy => ?_⟩, by omega⟩
    subst exy
    have := ((due_mem i x).mp hx).1
    have := g3 x hy
    omega
theorem word_at {nil : Bool} : ∀ i, (wordL (choices rw) (hitR κ r1) nil i).length = i ∧ ∀ t, t < i → (wordL (choices rw) (hitR κ r1) nil i)[t]? = some (if nil || !hitR κ r1 (rowOf (choices rw) t) then doneW else stillW)
  | 0 => ⟨rfl, fun t h => absurd h (Nat.not_lt_zero _)⟩
  | i + 1 => by
    obtain ⟨h1, h2⟩ := word_at (nil := nil) i
    have e : wordL (choices rw) (hitR κ r1) nil (i + 1) = wordL (choices rw) (hitR κ r1) nil i ++ [if nil || !hitR κ r1 (rowOf (choices rw) i) then doneW else stillW] := rfl
    rw [e, List.length_append]
    refine ⟨by simp [h1], fun t ht => ?_⟩
    rcases Nat.lt_succ_iff_lt_or_eq.mp ht with q | q
    · rw [List.getElem?_append_left (by omega)]; exact h2 t q
    · subst q
      rw [List.getElem?_append_right (by omega), h1]; simp
end

theorem fresh_P75_ringf : True := by
  w_top off
  trivial
/-- each one comes of the next by leaving a name out -/
noncomputable def BWalk (rws : List (List (List Nat))) : List Nat → Prop
  | x :: y :: r => x ∈ psR rws y ∧ BWalk rws (y :: r)
  | _ => True
section
variable {rw r1 r2 : List (List Nat)}
theorem BWalk.up : ∀ {l : List Nat} {x : Nat}, BWalk (choices rw) (x :: l) → ∀ y ∈ l, (rowOf (choices rw) x).Sublist (rowOf (choices rw) y) ∧ (rowOf (choices rw) x).length < (rowOf (choices rw) y).length
  | [], _, _, y, hy => (nomatch hy)
  | z :: l, x, ⟨h1, h2⟩, y, hy => by
    obtain ⟨r, k, e1, e2, e3⟩ := psR_mem h1
    have hs : (rowOf (choices rw) x).Sublist (rowOf (choices rw) z) ∧ (rowOf (choices rw) x).length < (rowOf (choices rw) z).length := by
      rw [rowOf_at e1, rowOf_at e3, erase_len e2]
      exact ⟨List.eraseIdx_sublist r k, by omega⟩
    rcases List.mem_cons.mp hy with rfl | hy
    · exact hs
    · obtain ⟨g1, g2⟩ := BWalk.up h2 y hy
      exact ⟨hs.1.trans g1, by omega⟩
theorem BWalk.get : ∀ {l : List Nat}, BWalk (choices rw) l → ∀ k a b, l[k]? = some a → l[k + 1]? = some b → a ∈ psR (choices rw) b
  | [], _, k, a, b, h, _ => by simp at h
  | [x], _, k, a, b, _, h => by simp at h
  | x :: y :: l, ⟨h1, h2⟩, k, a, b, ha, hb => by
    cases k with
    | zero =>
      simp at ha hb
      subst ha hb; exact h1
    | succ k => exact BWalk.get h2 k a b (by simpa using ha) (by simpa using hb)
variable {es : List Ent}
theorem edge_iff (G : Gr es (prT rw r1 r2) (choices rw).length) {x y : Nat} : y ∈ suOf es x ↔ x ∈ prT rw r1 r2 y := by
  rw [← List.count_pos_iff, ← List.count_pos_iff, G.su]
theorem Walk.base (G : Gr es (prT rw r1 r2) (choices rw).length) : ∀ {l : List Nat} {x : Nat}, Walk es (x :: l) → (∀ y ∈ l, y ≠ (choices rw).idxOf r1) → BWalk (choices rw) (x :: l)
  | [], _, _, _ => trivial
  | z :: l, x, ⟨h1, h2⟩, hn => by
    refine ⟨?_, Walk.base G h2 fun y hy => hn y (.tail _ hy)⟩
    have h := (edge_iff G).mp h1
    rcases List.mem_append.mp h with h | h
    · exact h
    · rw [if_neg (hn z (.head _))] at h; cases h
theorem Walk.lt (G : Gr es (prT rw r1 r2) (choices rw).length) : ∀ {l : List Nat} {x y : Nat}, Walk es (x :: y :: l) → ∀ z ∈ x :: y :: l, z < (choices rw).length
  | [], x, y, ⟨h1, _⟩, z, hz => by
    have h := G.pr_lt y x ((edge_iff G).mp h1)
    rcases List.mem_cons.mp hz with rfl | hz
    · exact h.1
    · rw [List.mem_singleton.mp hz]; exact h.2
  | w :: l, x, y, ⟨h1, h2⟩, z, hz => by
    rcases List.mem_cons.mp hz with rfl | hz
    · exact (G.pr_lt y z ((edge_iff G).mp h1)).1
    · exact Walk.lt G h2 z hz
/-- a ring runs once through the added step -/
theorem ring_facts (G : Gr es (prT rw r1 r2) (choices rw).length) (h1 : r1 ∈ choices rw) (h2 : r2 ∈ choices rw) {ring c : List Nat} {a : Nat} (R : RingOk es ring c a) :
    r1.Sublist r2 ∧ ∃ chain, RingF (choices rw) ((choices rw).idxOf r1) ((choices rw).idxOf r2) ring chain := by
  obtain ⟨he, hd, hn, hw⟩ := R
  obtain ⟨c', rfl⟩ : ∃ c', c = a :: c' := by
    cases c with
    | nil => cases hd
    | cons x c' => simp at hd; exact ⟨c', by rw [hd]⟩
  have hb := at_idx h1
  have hee := at_idx h2
  have hlt : ∀ x ∈ ring, x < (choices rw).length := by
    rw [he]
    cases hc : c' ++ [a] with
    | nil => simp at hc
    | cons y l =>
      have hw' : Walk es (a :: y :: l) := by rw [← hc]; exact hw
      intro x hx
      exact Walk.lt G hw' x (by rw [← hc]; exact hx)
  have hm : (choices rw).idxOf r1 ∈ a :: c' := Classical.byContradiction fun q => by
    have hw' : Walk es (a :: (c' ++ [a])) := hw
    have hB := Walk.base G hw' fun y hy e => by
      rcases List.mem_append.mp hy with hy | hy
      · exact q (e ▸ .tail _ hy)
      · exact q (by rw [← e, List.mem_singleton.mp hy]; exact .head _)
    have := (hB.up a (by simp)).2
    omega
  obtain ⟨u, v, huv⟩ := List.append_of_mem hm
  rw [huv] at he hn hw
  have hnu : (choices rw).idxOf r1 ∉ u := fun q => by
    rw [List.nodup_append] at hn
    exact hn.2.2 _ q _ (.head _) rfl
  have hnv : (choices rw).idxOf r1 ∉ v := fun q => by
    rw [List.nodup_append] at hn
    exact (List.nodup_cons.mp hn.2.1).1 q
  have hwalk : Walk es ((choices rw).idxOf r1 :: (v ++ u) ++ [(choices rw).idxOf r1]) := by
    cases u with
    | nil =>
      have ea : a = (choices rw).idxOf r1 := by have := congrArg List.head? huv; simpa using this
      rw [ea] at hw
      simpa using hw
    | cons x u' =>
      have ea : a = x := by have := congrArg List.head? huv; simpa using this
      subst ea
      have w1 : Walk es ((choices rw).idxOf r1 :: v ++ [a]) := by
        have := Walk.drop (a :: u').length hw
        rw [List.append_assoc, List.drop_left' rfl] at this
        exact this
      have w2 : Walk es (a :: (u' ++ [(choices rw).idxOf r1])) := by
        have e : a :: u' ++ (choices rw).idxOf r1 :: v ++ [a] = (a :: (u' ++ [(choices rw).idxOf r1])) ++ (v ++ [a]) := by simp
        rw [e] at hw
        exact hw.left
      have := Walk.join w2 (l := (choices rw).idxOf r1 :: v) w1
      simpa using this
  have hB : BWalk (choices rw) ((choices rw).idxOf r1 :: (v ++ u)) := Walk.base G hwalk.left fun y hy e => by
    rcases List.mem_append.mp hy with hy | hy
    · exact hnv (e ▸ hy)
    · exact hnu (e ▸ hy)
  obtain ⟨us, z, hz⟩ : ∃ us z, (choices rw).idxOf r1 :: (v ++ u) = us ++ [z] := ⟨_, _, (List.dropLast_concat_getLast (by simp)).symm⟩
  have hlast : z ∈ prT rw r1 r2 ((choices rw).idxOf r1) := by
    have hw2 := hwalk
    rw [hz, List.append_assoc] at hw2
    have := Walk.drop us.length hw2
    rw [List.drop_left' rfl] at this
    exact (edge_iff G).mp this.1
  have hup : (rowOf (choices rw) ((choices rw).idxOf r1)).Sublist (rowOf (choices rw) z) ∧ (rowOf (choices rw) ((choices rw).idxOf r1)).length ≤ (rowOf (choices rw) z).length := by
    have hzm : z ∈ (choices rw).idxOf r1 :: (v ++ u) := by rw [hz]; simp
    rcases List.mem_cons.mp hzm with e | hzm
    · rw [e]; exact ⟨List.Sublist.refl _, Nat.le_refl _⟩
    · have := hB.up z hzm
      exact ⟨this.1, Nat.le_of_lt this.2⟩
  have ez : z = (choices rw).idxOf r2 := by
    rcases List.mem_append.mp hlast with q | q
    · obtain ⟨r, k, e1, e2, e3⟩ := psR_mem q
      have hl := hup.2
      rw [rowOf_at e1, rowOf_at e3, erase_len e2] at hl
      omega
    · rw [if_pos rfl] at q
      exact List.mem_singleton.mp q
  have hsub := hup.1
  rw [ez, rowOf_at hb, rowOf_at hee] at hsub
  have hidx : ring.idxOf ((choices rw).idxOf r1) = u.length := by
    rw [he, List.append_assoc, List.idxOf_append, if_neg hnu]
    simp
  refine ⟨hsub, (choices rw).idxOf r1 :: (v ++ u), hlt, ?_, ?_, hB.get, ⟨us, by rw [hz, ez]⟩, a, c', ?_⟩
  · rw [he]; simp
  · rw [hidx, he]
    have e1 : (u ++ (choices rw).idxOf r1 :: v ++ [a]).drop u.length = (choices rw).idxOf r1 :: v ++ [a] := by rw [List.append_assoc, List.drop_left' rfl]
    have e2 : (u ++ (choices rw).idxOf r1 :: v ++ [a]).take u.length = u := by rw [List.append_assoc, List.take_left' rfl]
    rw [e1, e2, List.take_left' (by first | (simp; done) | (simp; omega))]
    simp
  · rw [he, ← huv]
/-- no ring, no row within the other -/
theorem topo_facts (G : Gr es (prT rw r1 r2) (choices rw).length) (h1 : r1 ∈ choices rw) (h2 : r2 ∈ choices rw) {f : List Nat} (T : Topo es f) (hf : ∀ t, t < (choices rw).length → t ∈ f) : ¬ r1.Sublist r2 := by
  have hpos : ∀ x y, x ∈ prT rw r1 r2 y → f.idxOf x < f.idxOf y := fun x y h => T.pos x (hf x (G.pr_lt y x h).1) y ((edge_iff G).mpr h)
  have up : ∀ n r, r.length ≤ n → r ∈ choices rw → r1.Sublist r → f.idxOf ((choices rw).idxOf r1) ≤ f.idxOf ((choices rw).idxOf r) := by
    intro n
    induction n with
    | zero =>
      intro r hl hr hs
      have e : r = [] := List.eq_nil_of_length_eq_zero (by omega)
      subst e
      rw [List.sublist_nil.mp hs]
      exact Nat.le_refl _
    | succ n ih =>
      intro r hl hr hs
      by_cases e : r1 = r
      · rw [e]; exact Nat.le_refl _
      · obtain ⟨k, hk, hs'⟩ := sub_erase hs e
        obtain ⟨q1, q2⟩ := psR_of (at_idx hr) hk
        have h3 := ih _ (by rw [erase_len hk]; omega) (erase_in hr k) hs'
        have h4 := hpos _ _ (List.mem_append_left _ q1)
        omega
  intro hs
  have h3 := up _ r2 (Nat.le_refl _) h2 hs
  have h4 := hpos ((choices rw).idxOf r2) ((choices rw).idxOf r1) (List.mem_append_right _ (by rw [if_pos rfl]; exact .head _))
  omega
end

theorem fresh_P76_plain : True := by
  w_top off
  trivial
-- leaps and refusal, word by word
noncomputable def rowsUp : Nat → List (List (List Nat))
  | 0 => [[]]
  | n + 1 => [] :: (rowsUp n).flatMap fun r => [[97] :: r, [97, 98] :: r]
theorem mem_rowsUp : ∀ (n : Nat) (r : List (List Nat)), r.length ≤ n → (∀ t ∈ r, isNm t) → r ∈ rowsUp n
  | 0, r, h, _ => by
    have e : r = [] := List.eq_nil_of_length_eq_zero (by omega)
    rw [e]; exact .head _
  | n + 1, [], _, _ => .head _
  | n + 1, t :: r, h, hn => by
    have ih := mem_rowsUp n r (by simpa using h) fun t ht => hn t (.tail _ ht)
    refine .tail _ (List.mem_flatMap.mpr ⟨r, ih, ?_⟩)
    rcases hn t (.head _) with rfl | rfl
    · exact .head _
    · exact .tail _ (.head _)
noncomputable def leapB (r1 r : List (List Nat)) : Bool := decide (leap (47 :: bod r) r1 0 = ((List.range r1.length).find? fun k => !(r1.take (k + 1)).isSublist r).map fun k => 47 :: (r1.getD k [] ++ [47]))
theorem leap_all : ((rowsUp 4).all fun r1 => (rowsUp 4).all fun r => leapB r1 r) = true := by decide +kernel
theorem leaps_refu {κ : Bool} {r1 r : List (List Nat)} (h1 : RowOk r1) (h2 : RowOk r) : leapsT κ r1 (47 :: bod r) = refu κ [47] r1 (choices r) := by
  have h := List.all_eq_true.mp (List.all_eq_true.mp leap_all r1 (mem_rowsUp 4 r1 h1.len h1.nm)) r (mem_rowsUp 4 r h2.len h2.nm)
  have h := of_decide_eq_true h
  have e : (fun k => !(r1.take (k + 1)).isSublist r) = fun k => decide (r1.take (k + 1) ∉ choices r) := by
    funext k
    have q : (r1.take (k + 1)).isSublist r = true ↔ (r1.take (k + 1)).Sublist r := List.isSublist_iff_sublist
    rw [Bool.eq_iff_iff, decide_eq_true_iff, mem_choices, ← q, Bool.not_eq_true', Bool.not_eq_true]
  rw [e] at h
  unfold leapsT refu
  rw [h]
  cases (List.range r1.length).find? (fun k => decide (r1.take (k + 1) ∉ choices r)) with
  | none => rfl
  | some k => rfl
theorem plain_ok (κ : Bool) (rw r1 r2 : List (List Nat)) (hok : RowOk rw) (s1 : r1.Sublist rw) (s2 : r2.Sublist rw) : PlainOk κ rw r1 r2 := by
  have h1 := mem_choices.mpr s1
  have h2 := mem_choices.mpr s2
  have hcl := choices_len hok.len
  have hlt : ∀ t, ∀ p ∈ psR (choices rw) t, p < (choices rw).length := fun t p hp => by
    obtain ⟨r, k, _, _, e⟩ := psR_mem hp
    exact (List.getElem?_eq_some_iff.mp e).1
  have G : Gr (es2 (choices rw) r1 r2) (prT rw r1 r2) (choices rw).length := es2_gr hlt h1 h2
  generalize hes : es2 (choices rw) r1 r2 = es at *
  have hring := findRing_ok (es := es) (fuel := remU (wE es) [] (keysE es) + 1) (Nat.lt_succ_self _) (keysE es) [] [] trivial (fun x => Iff.rfl)
  obtain ⟨res, hres, hnil, hlen, hiff, hrf⟩ : ∃ res, findRing es (remU (wE es) [] (keysE es) + 1) (keysE es) [] = some res ∧ res ≠ some [] ∧ (∀ ring, res = some ring → ring.length ≤ 1000) ∧ ((res.getD [] ≠ []) ↔ r1.Sublist r2) ∧ (res.getD [] ≠ [] → ∃ chain, RingF (choices rw) ((choices rw).idxOf r1) ((choices rw).idxOf r2) (res.getD []) chain) := by
    rcases hring with ⟨ring, c, a, e, R⟩ | ⟨e, f, T, hf, _⟩
    · obtain ⟨q1, q2⟩ := ring_facts G h1 h2 R
      have hne : ring ≠ [] := by rw [R.eq]; simp
      refine ⟨some ring, e, fun h => hne (Option.some.inj h), fun r h => ?_, ⟨fun _ => q1, fun _ => hne⟩, fun _ => q2⟩
      rw [← Option.some.inj h, R.eq, List.length_append]
      have hc : ∀ x ∈ c, x ∈ List.range (choices rw).length := fun x hx => by
        obtain ⟨chain, q⟩ := q2
        exact List.mem_range.mpr (q.lt x (by rw [R.eq]; exact List.mem_append_left _ hx))
      have := nodup_len R.nd hc
      rw [List.length_range] at this
      simp; omega
    · have q := topo_facts G h1 h2 T fun t ht => hf t ((G.mem t).mpr ht)
      refine ⟨none, e, (by simp), fun r h => (by cases h), ⟨fun h => absurd rfl h, fun h => absurd h q⟩, fun h => absurd rfl h⟩
  have hnl : decide (res.getD [] = []) = true ↔ ¬ r1.Sublist r2 := by
    rw [decide_eq_true_iff, ← hiff, Classical.not_not]
  have V := lv_ok (κ := κ) (nil := decide (res.getD [] = [])) h1 h2 hnl
  have hlv : ∀ t, okT κ rw r1 (decide (res.getD [] = [])) t = true → lvT κ rw r1 (r2.length + 1 - r1.length) t < 0 + 20 := fun t ht => by
    have hl := (okT_iff.mp ht).1
    have hr := (hok.choices (List.mem_of_getElem? (List.getElem?_eq_getElem hl))).len
    have h2l := (hok.sub s2).len
    unfold lvT
    rw [rowOf_at (List.getElem?_eq_getElem hl)]
    split <;> omega
  obtain ⟨p1, p2, p3, p4⟩ := run_ok G V hcl 20 0 es (rdy es) (kn_start G) hlv
  obtain ⟨d1, d2⟩ := due_nodup (κ := κ) (rw := rw) (r1 := r1) (nil := decide (res.getD [] = [])) (late := r2.length + 1 - r1.length) (choices rw).length
  have hGD : ∀ p, p ∈ runG 20 0 es (rdy es) ↔ p ∈ dueL (choices rw) (hitR κ r1) (decide (res.getD [] = [])) (r2.length + 1 - r1.length) (choices rw).length := fun p => by
    rw [p3, due_mem, okT_iff]
    exact ⟨fun ⟨⟨a, b⟩, c, _⟩ => ⟨a, b, c⟩, fun ⟨a, b, c⟩ => ⟨⟨a, b⟩, c, Nat.zero_le _⟩⟩
  have hGl : (runG 20 0 es (rdy es)).length = (dueL (choices rw) (hitR κ r1) (decide (res.getD [] = [])) (r2.length + 1 - r1.length) (choices rw).length).length := ((List.perm_ext_iff_of_nodup p2 d1).mpr hGD).length_eq
  unfold PlainOk
  rw [hes]
  refine ⟨_, res, fun e he b hb => ?_, hres, hnil, hlen, p1, fun r hr => leaps_refu (hok.sub s1) (hok.choices hr), ⟨p2, d1, by omega, by omega, hGD⟩, ?_, hrf, fun t ht => ?_⟩
  · have hs : suOf es e.a = e.su := by
      obtain ⟨e', he'⟩ := find_mem (es := es) (b := e.a) (List.mem_map.mpr ⟨e, he, rfl⟩)
      obtain ⟨g1, g2⟩ := find_some he'
      have hp := List.pairwise_iff_getElem.mp (List.pairwise_map.mp G.nd)
      obtain ⟨i, hi, ei⟩ := List.getElem_of_mem g1
      obtain ⟨j, hj, ej⟩ := List.getElem_of_mem he
      have : e' = e := by
        rcases Nat.lt_trichotomy i j with q | q | q
        · exact absurd (by rw [ei, ej]; exact g2) (hp i j hi hj q)
        · subst q; exact ei.symm.trans ej
        · exact absurd (by rw [ei, ej]; exact g2.symm) (hp j i hj hi q)
      unfold suOf
      rw [he', this]
    rw [← hs] at hb
    exact (G.mem b).mpr (G.pr_lt b e.a ((edge_iff G).mp hb)).2
  · rw [hiff, mem_choices]
  · obtain ⟨_, hw⟩ := word_at (κ := κ) (rw := rw) (r1 := r1) (nil := decide (res.getD [] = [])) (choices rw).length
    refine ⟨_, hw t ht, ?_⟩
    obtain ⟨q1, q2, q3⟩ := p4 t ht
    have hk : t ∈ keysE (runE 20 es (rdy es)) := by rw [q3]; exact (G.mem t).mpr ht
    obtain ⟨e, he⟩ := find_mem hk
    obtain ⟨g1, g2⟩ := find_some he
    have hnp : npOf (runE 20 es (rdy es)) t = e.np := by unfold npOf; rw [he]
    refine ⟨e, g1, g2, ?_⟩
    rw [← hnp]
    cases hkt : okT κ rw r1 (decide (res.getD [] = [])) t with
    | true =>
      left
      refine ⟨if_pos ?_, q1 hkt⟩
      rcases (okT_iff.mp hkt).2 with z | z
      · rw [z]; rfl
      · rw [z]; simp
    | false =>
      right
      refine ⟨if_neg ?_, q2 hkt⟩
      intro z
      have : okT κ rw r1 (decide (res.getD [] = [])) t = true := by
        rw [okT_iff]
        refine ⟨ht, ?_⟩
        rw [Bool.or_eq_true, Bool.not_eq_true'] at z
        exact z
      rw [hkt] at this; cases this

theorem fresh_P99_top : True := by
  w_top off
  trivial
theorem whole_law : PySem.Challenge.rw_op0160_01.Holds := hd (by
  k_go0
  rename_i d8 d7 d6 d5 d4 d3 d2 d1 X0 X' T' K' F' N' l0
  rename IntsAre _ _ => hI
  rename ¬ (_ < _) => hc
  refine wpAny_mono (E := fun _ _ => False) (law_top _ _ _ (_, _) ⟨_, _, _, _, _, _, _, _, _, _, _, _, by k_is⟩ _ _ _ _ _ _ _ _ _ _ _ _ _ _ K' X' T' F' N' (by rfl) (by rfl) ⟨⟨_, .tail _ (.tail _ (.tail _ (.tail _ (.tail _ (.tail _ (.tail _ (.head _))))))), d1⟩, ⟨_, .tail _ (.tail _ (.tail _ (.tail _ (.tail _ (.tail _ (.head _)))))), d2⟩, ⟨_, .tail _ (.tail _ (.tail _ (.tail _ (.tail _ (.head _))))), d3⟩, ⟨_, .tail _ (.tail _ (.tail _ (.tail _ (.head _)))), d4⟩, ⟨_, .tail _ (.tail _ (.tail _ (.head _))), d5⟩, ⟨_, .tail _ (.tail _ (.head _)), d6⟩, ⟨_, .tail _ (.head _), d7⟩, ⟨_, .head _, d8⟩⟩ (by simp) lifted hI (by omega) ?hp) ?fin (fun _ _ h => h.elim)
  case hp => exact plain_ok
  rintro f s' ⟨rfl, hg, ⟨m', Fz⟩, hgz, hoz⟩
  refine ⟨?_, hg, trivial⟩
  refine goodW_bool Fz (hgz.trans (by assumption)) (raisesW_false ?_) ?_ hoz
  · wrow_none_raised
  · kc_post)

end Mine
theorem PySem.Challenge.cw_op0160_01_holds : PySem.Challenge.rw_op0160_01.Holds :=
  Mine.whole_law
