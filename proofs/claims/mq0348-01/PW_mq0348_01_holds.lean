import PyProof.Rows.All
import Wide.All
import OpenK.AllK
import Wide.FinOn
import Lean
import PySem.Challenge.RW_mq0348_01
set_option Elab.async false
set_option maxRecDepth 100000
set_option linter.unusedVariables false
namespace Mine
open PySem PySem.W PyProof.Rows
noncomputable def view : Program := { PySem.Challenge.rw_mq0348_01.row.prog with main := { PySem.Challenge.rw_mq0348_01.row.prog.main with body := [0, 2, 3, 4, 6, 7, 8, 9, 10, 12, 13, 14, 15].filterMap fun i => PySem.Challenge.rw_mq0348_01.row.prog.main.body[i]? } }
end Mine
section
open PySem PySem.W PyProof.Rows
set_option hygiene false in
local macro_rules | `(tactic| o_law) => `(tactic| refine holds_law (by kernel_rfl) fun said => ?_)
set_option hygiene false in
local macro_rules | `(tactic| o_head $H) => `(tactic| (
  refine holds_open (r := PySem.Challenge.rw_mq0348_01.row) (q := Mine.view) (loose := [Str.ofString "_NodeInfo"]) (Xt := fun s => xlAt Mine.view [] s && recOk PySem.Challenge.rw_mq0348_01.row.records s) (XP := XL Mine.view []) (Yf := Hook.obs $H) (Ya := Hook.val $H) (YP := Hook.says $H) (N := 2688) ?hl (Hook.of $H) (Hook.keeps $H) (fun s e => xl_of s (Bool.and_eq_true_iff.mp e).1) XL.keeps (by rfl) (by rfl) (by rfl) (fun s e => recFacts_of (Bool.and_eq_true_iff.mp e).2) (by rfl) said (by decide +kernel) ⟨rfl, rfl, rfl, rfl, rfl, by decide +kernel⟩ ?hw ?hc
  case hl => exact fun w => by kernel_rfl
  all_goals clear said))
set_option maxHeartbeats 8000000 in
open_top hd for PySem.Challenge.rw_mq0348_01
end


namespace Mine
open PySem PySem.W PyProof.Rows PySem.Calls
open PySem PySem.W PyProof.Rows PySem.Calls

/-! ## The ledger: what is known of the objects that the call has made -/
abbrev OP := Obj → Prop
abbrev Led := Addr → Option OP
def upd (H : Led) (a : Addr) (P : OP) : Led := fun b => if b = a then some P else H b
def del (H : Led) (a : Addr) : Led := fun b => if b = a then none else H b
theorem upd_same (H : Led) (a : Addr) (P : OP) : upd H a P a = some P := if_pos rfl
theorem upd_ne (H : Led) {a b : Addr} (P : OP) (h : b ≠ a) : upd H a P b = H b := if_neg h
theorem upd_of {H : Led} {a b : Addr} {P : OP} {r : Option OP} (h : b ≠ a) (e : H b = r) : upd H a P b = r := (if_neg h).trans e
theorem upd_none {H : Led} {a b : Addr} {P : OP} (h : upd H a P b = none) : b ≠ a ∧ H b = none := by
  by_cases e : b = a
  · subst e; rw [upd_same] at h; cases h
  · rw [upd_ne _ _ e] at h; exact ⟨e, h⟩
theorem del_same (H : Led) (a : Addr) : del H a a = none := if_pos rfl
theorem del_ne (H : Led) {a b : Addr} (h : b ≠ a) : del H a b = H b := if_neg h
theorem led_ne {H : Led} {a b : Addr} {P : OP} (ha : H a = none) (hb : H b = some P) : b ≠ a := fun e => by subst e; rw [ha] at hb; cases hb
theorem led_ne' {H : Led} {a b : Addr} {P : OP} (ha : H a = none) (hb : H b = some P) : a ≠ b := fun e => by subst e; rw [ha] at hb; cases hb
def Sub (H H' : Led) : Prop := ∀ a P, H a = some P → H' a = some P
theorem Sub.refl (H : Led) : Sub H H := fun _ _ e => e
theorem Sub.trans {H H' H'' : Led} (x : Sub H H') (y : Sub H' H'') : Sub H H'' := fun a P e => y a P (x a P e)
theorem Sub.upd {H : Led} {a : Addr} (P : OP) (h : H a = none) : Sub H (upd H a P) := fun b Q e => upd_of (led_ne h e) e

/-- a frame's locals, up to what the frame object notes beside them -/
def frO (oL : Obj) : OP := fun o => o.data = oL.data
structure Inv (h₀ : Heap) (L : Addr) (m : Str → Option Value) (H : Led) (h : Heap) : Prop where
  ns : h.Ns L m
  keep : ∀ b o, h₀.get? b = some o → h.get? b = some o
  own : ∀ a P, H a = some P → ∃ o, h.get? a = some o ∧ P o
  low : ∀ a P, H a = some P → h₀.get? a = none
  above : h₀.objs.size ≤ L
  out : H L = none

section
variable {h₀ h h' : Heap} {L a : Addr} {m m' : Str → Option Value} {H H' : Led} {P : OP}
theorem get_none_of_le {h : Heap} {a : Addr} (q : h.objs.size ≤ a) : h.get? a = none := by
  cases e : h.get? a with
  | none => rfl
  | some o => exact absurd (Nat.lt_of_lt_of_le (Heap.lt_size e) q) (Nat.lt_irrefl _)
theorem Inv.new (I : Inv h₀ L m H h) : ∀ a P, H a = some P → h₀.get? a = none := I.low
theorem Inv.fr (I : Inv h₀ L m H h) : Fr h₀ L h m := ⟨I.ns, I.keep, I.above⟩
theorem Inv.Lnone (I : Inv h₀ L m H h) : h₀.get? L = none := by
  cases q : h₀.get? L with
  | none => rfl
  | some o => exact absurd (Nat.lt_of_lt_of_le (Heap.lt_size q) I.above) (Nat.lt_irrefl _)
theorem Inv.neL (I : Inv h₀ L m H h) (e : H a = some P) : a ≠ L := fun q => by subst q; rw [I.out] at e; cases e
theorem Inv.weaken (I : Inv h₀ L m H h) (s : Sub H' H) : Inv h₀ L m H' h :=
  ⟨I.ns, I.keep, fun a P e => I.own a P (s a P e), fun a P e => I.low a P (s a P e), I.above, by
    cases q : H' L with
    | none => rfl
    | some P => have := s _ _ q; rw [I.out] at this; cases this⟩
theorem Inv.set (I : Inv h₀ L m H h) (hn : h'.Ns L m') (hs : Heap.SameBut L h h') : Inv h₀ L m' H h' :=
  ⟨hn, fun b o e => (hs.2 b (fun q => by rw [q, I.Lnone] at e; cases e)).trans (I.keep b o e),
    fun a P e => by obtain ⟨o, ho, hp⟩ := I.own a P e; exact ⟨o, (hs.2 a (I.neL e)).trans ho, hp⟩, I.low, I.above, I.out⟩
/-- one object of the ledger changed -/
theorem Inv.change {P' : OP} (I : Inv h₀ L m H h) (e : H a = some P) (hs : Heap.ExtBut a h h') (hp : ∃ o, h'.get? a = some o ∧ P' o) : Inv h₀ L m (upd H a P') h' := by
  refine ⟨I.ns.extBut hs (Ne.symm (I.neL e)), fun b o q => hs b o (fun z => ?_) (I.keep b o q), fun b Q q => ?_, fun b Q q => ?_, I.above, ?_⟩
  · rw [z, I.new a P e] at q; cases q
  · by_cases hb : b = a
    · subst hb; rw [upd_same] at q; cases q; exact hp
    · rw [upd_ne _ _ hb] at q
      obtain ⟨o, ho, hq⟩ := I.own b Q q
      exact ⟨o, hs b o hb ho, hq⟩
  · by_cases hb : b = a
    · subst hb; exact I.low _ _ e
    · rw [upd_ne _ _ hb] at q; exact I.low b Q q
  · rw [upd_ne _ _ (Ne.symm (I.neL e))]; exact I.out
theorem Inv.lose (I : Inv h₀ L m H h) (e : H a = some P) (hs : Heap.ExtBut a h h') : Inv h₀ L m (del H a) h' := by
  refine ⟨I.ns.extBut hs (Ne.symm (I.neL e)), fun b o q => hs b o (fun z => ?_) (I.keep b o q), fun b Q q => ?_, fun b Q q => ?_, I.above, ?_⟩
  · rw [z, I.new a P e] at q; cases q
  · by_cases hb : b = a
    · subst hb; rw [del_same] at q; cases q
    · rw [del_ne _ hb] at q
      obtain ⟨o, ho, hq⟩ := I.own b Q q
      exact ⟨o, hs b o hb ho, hq⟩
  · by_cases hb : b = a
    · subst hb; exact I.low _ _ e
    · rw [del_ne _ hb] at q; exact I.low b Q q
  · rw [del_ne _ (Ne.symm (I.neL e))]; exact I.out
theorem Inv.fresh (I : Inv h₀ L m H h) : H h.objs.size = none := by
  cases q : H h.objs.size with
  | none => rfl
  | some P => obtain ⟨o, ho, _⟩ := I.own _ _ q; exact absurd (Heap.lt_size ho) (Nat.lt_irrefl _)
theorem Inv.fresh₀ (I : Inv h₀ L m H h) : h₀.objs.size ≤ h.objs.size := Nat.le_trans I.above (Nat.le_of_lt I.ns.lt)
theorem Inv.freshN (I : Inv h₀ L m H h) : h₀.get? h.objs.size = none := get_none_of_le I.fresh₀
theorem Inv.freshL (I : Inv h₀ L m H h) : h.objs.size ≠ L := Nat.ne_of_gt I.ns.lt
theorem Inv.grow (I : Inv h₀ L m H h) (k : ∀ b o, h.get? b = some o → h'.get? b = some o) : Inv h₀ L m H h' :=
  ⟨I.ns.keeps k, fun b o e => k b o (I.keep b o e), fun a P e => by obtain ⟨o, ho, hp⟩ := I.own a P e; exact ⟨o, k _ _ ho, hp⟩, I.low, I.above, I.out⟩
/-- a new object -/
theorem Inv.add (I : Inv h₀ L m H h) (hf : H a = none) (hz : h₀.get? a = none) (hL : a ≠ L) (hp : ∃ o, h.get? a = some o ∧ P o) : Inv h₀ L m (upd H a P) h := by
  refine ⟨I.ns, I.keep, fun b Q q => ?_, fun b Q q => ?_, I.above, by rw [upd_ne _ _ (Ne.symm hL)]; exact I.out⟩
  · by_cases hb : b = a
    · subst hb; rw [upd_same] at q; cases q; exact hp
    · rw [upd_ne _ _ hb] at q; exact I.own b Q q
  · by_cases hb : b = a
    · subst hb; exact hz
    · rw [upd_ne _ _ hb] at q; exact I.low b Q q
theorem Inv.push (I : Inv h₀ L m H h) (o : Obj) (hp : P o) (hf : o.isFreed = false := by rfl) : Inv h₀ L m (upd H h.objs.size P) (h.push o) :=
  (I.grow fun _ _ e => Heap.get?_push_of_some o e).add I.fresh I.freshN I.freshL ⟨o, Heap.get?_push_size _ hf, hp⟩
/-- a frame is entered -/
theorem Inv.enter {L' : Addr} {oL : Obj} (I : Inv h₀ L m H h) (hL : h.get? L = some oL) (hn : h'.Ns L' m') (hk : ∀ b o, h.get? b = some o → h'.get? b = some o) (hL' : L' = h.objs.size) : Inv h₀ L' m' (upd H L (frO oL)) h' := by
  subst hL'
  have J : Inv h₀ L m H h' := I.grow hk
  refine ⟨hn, J.keep, fun b Q q => ?_, fun b Q q => ?_, ?_, by rw [upd_ne _ _ I.freshL]; exact I.fresh⟩
  · by_cases hb : b = L
    · subst hb; rw [upd_same] at q; cases q; exact ⟨oL, hk _ _ hL, rfl⟩
    · rw [upd_ne _ _ hb] at q; exact J.own b Q q
  · by_cases hb : b = L
    · subst hb; exact get_none_of_le I.above
    · rw [upd_ne _ _ hb] at q; exact I.low b Q q
  · exact Nat.le_trans I.above (Nat.le_of_lt I.ns.lt)
/-- a frame is left -/
theorem Inv.back {L' : Addr} {oL : Obj} {hh : Heap} {m₀ : Str → Option Value} (I : Inv h₀ L' m' H h) (e : H L = some (frO oL)) (hL : hh.get? L = some oL) (hn : hh.Ns L m₀) (ab : h₀.objs.size ≤ L) : Inv h₀ L m₀ (del H L) h := by
  obtain ⟨o, ho, hd⟩ := I.own _ _ e
  refine ⟨?_, I.keep, fun b Q q => ?_, fun b Q q => ?_, ab, del_same _ _⟩
  · obtain ⟨o', es, ep, g, r1, r⟩ := hn
    rw [hL] at g; cases g
    exact ⟨_, es, ep, ho, hd.trans r1, r⟩
  · by_cases hb : b = L
    · subst hb; rw [del_same] at q; cases q
    · rw [del_ne _ hb] at q; exact I.own b Q q
  · by_cases hb : b = L
    · subst hb; rw [del_same] at q; cases q
    · rw [del_ne _ hb] at q; exact I.low b Q q
end

/-! ## The whole heap as the library's ledger -/
def allNews (h₀ : Heap) (L : Addr) (h : Heap) : List (Addr × Obj) :=
  (List.range h.objs.size).filterMap fun b => if b = L then none else match h₀.get? b with | some _ => none | none => (h.get? b).map fun o => (b, o)
section
variable {h₀ h h' : Heap} {L a x : Addr} {m m' : Str → Option Value} {H H' : Led} {P : OP}
theorem mem_allNews {p : Addr × Obj} : p ∈ allNews h₀ L h ↔ h.get? p.1 = some p.2 ∧ p.1 ≠ L ∧ h₀.get? p.1 = none := by
  obtain ⟨b, o⟩ := p
  unfold allNews
  rw [List.mem_filterMap]
  constructor
  · rintro ⟨c, hc, e⟩
    by_cases q : c = L
    · rw [if_pos q] at e; cases e
    · rw [if_neg q] at e
      cases z : h₀.get? c with
      | some _ => rw [z] at e; cases e
      | none =>
        rw [z] at e
        obtain ⟨o', ho', e'⟩ := Option.map_eq_some_iff.mp e
        cases e'
        exact ⟨ho', q, z⟩
  · rintro ⟨e, q, z⟩
    dsimp only at e q z
    exact ⟨b, List.mem_range.mpr (Heap.lt_size e), by rw [if_neg q, z, e]; rfl⟩
theorem allNews_is (h₀ : Heap) (L : Addr) (h : Heap) : News h₀ L h (allNews h₀ L h) := fun _ hp => mem_allNews.mp hp
theorem filterMap_keys {l : List Nat} (hl : l.Nodup) (f : Nat → Option (Nat × Obj)) (hf : ∀ b p, f b = some p → p.1 = b) : ((l.filterMap f).map (·.1)).Nodup := by
  induction l with
  | nil => exact List.nodup_nil
  | cons b l ih =>
    rw [List.nodup_cons] at hl
    rw [List.filterMap_cons]
    cases e : f b with
    | none => exact ih hl.2
    | some p =>
      rw [List.map_cons, List.nodup_cons]
      refine ⟨fun q => ?_, ih hl.2⟩
      obtain ⟨p', hp', e'⟩ := List.mem_map.mp q
      obtain ⟨c, hc, ec⟩ := List.mem_filterMap.mp hp'
      have : c = b := by rw [← hf c p' ec, e', hf b p e]
      exact hl.1 (this ▸ hc)
theorem allNews_nodup (h₀ : Heap) (L : Addr) (h : Heap) : ((allNews h₀ L h).map (·.1)).Nodup := by
  refine filterMap_keys List.nodup_range _ fun b p e => ?_
  by_cases q : b = L
  · rw [if_pos q] at e; cases e
  · rw [if_neg q] at e
    cases z : h₀.get? b with
    | some _ => rw [z] at e; cases e
    | none =>
      rw [z] at e
      obtain ⟨o', _, e'⟩ := Option.map_eq_some_iff.mp e
      cases e'; rfl
theorem allNews_split {ox : Obj} (e : h.get? x = some ox) (q : x ≠ L) (z : h₀.get? x = none) :
    ∃ pre post, allNews h₀ L h = pre ++ (x, ox) :: post ∧ (∀ p ∈ pre, p.1 ≠ x) ∧ ∀ p ∈ post, p.1 ≠ x := by
  obtain ⟨pre, post, hs⟩ := List.append_of_mem (mem_allNews.mpr ⟨e, q, z⟩ : (x, ox) ∈ allNews h₀ L h)
  have nd := allNews_nodup h₀ L h
  rw [hs, List.map_append, List.map_cons] at nd
  refine ⟨pre, post, hs, fun p hp => ?_, fun p hp => ?_⟩
  · exact (List.nodup_append.mp nd).2.2 p.1 (List.mem_map_of_mem hp) x (.head _)
  · intro e'
    have mm : p.1 ∈ post.map (·.1) := List.mem_map_of_mem hp
    rw [e'] at mm
    exact (List.nodup_cons.mp (List.nodup_append.mp nd).2.1).1 mm
/-- behind a rule of the library that keeps the whole ledger -/
theorem Inv.of_all (I : Inv h₀ L m H h) (F : Fr h₀ L h' m') (N : News h₀ L h' (allNews h₀ L h)) : Inv h₀ L m' H h' :=
  ⟨F.ns, F.keep, fun a P e => by
    obtain ⟨o, ho, hp⟩ := I.own a P e
    exact ⟨o, (N (a, o) (mem_allNews.mpr ⟨ho, I.neL e, I.new a P e⟩)).1, hp⟩, I.low, I.above, I.out⟩
/-- behind a rule of the library that changes one object -/
theorem Inv.of_set {pre post : List (Addr × Obj)} {ox ox' : Obj} {P' : OP} (I : Inv h₀ L m H h) (e : H x = some P) (hs : allNews h₀ L h = pre ++ (x, ox) :: post) (F : Fr h₀ L h' m') (N : News h₀ L h' (pre ++ (x, ox') :: post)) (hp : P' ox') : Inv h₀ L m' (upd H x P') h' := by
  refine ⟨F.ns, F.keep, fun a Q q => ?_, fun a Q q => ?_, I.above, by rw [upd_ne _ _ (Ne.symm (I.neL e))]; exact I.out⟩
  · by_cases hb : a = x
    · subst hb; rw [upd_same] at q; cases q; exact ⟨ox', (N _ (List.mem_append_right _ (.head _))).1, hp⟩
    · rw [upd_ne _ _ hb] at q
      obtain ⟨o, ho, hq⟩ := I.own a Q q
      have mem : (a, o) ∈ allNews h₀ L h := mem_allNews.mpr ⟨ho, I.neL q, I.new a Q q⟩
      rw [hs] at mem
      refine ⟨o, (N (a, o) ?_).1, hq⟩
      rcases List.mem_append.mp mem with mm | mm
      · exact List.mem_append_left _ mm
      · rcases List.mem_cons.mp mm with e' | mm
        · cases e'; exact absurd rfl hb
        · exact List.mem_append_right _ (.tail _ mm)
  · by_cases hb : a = x
    · subst hb; exact I.low _ _ e
    · rw [upd_ne _ _ hb] at q; exact I.low a Q q
end

/-! ## The state between two steps, and the rules in its terms -/
noncomputable abbrev KK (w : World) : Frag := hd.heap_1 w.params
structure Bs (w : World) (h₀ : Heap) : Prop where
  X : (KK w).In h₀
  T : ∃ p loose mg mb, TopRead p loose mg mb h₀

abbrev Loc := Str → Option Value
def put (m : Loc) (x : Str) (v : Value) : Loc := fun y => if y = x then some v else m y
theorem put_same (m : Loc) (x : Str) (v : Value) : put m x v x = some v := if_pos rfl
theorem put_ne {m : Loc} {x y : Str} {v : Value} {r : Option Value} (h : y ≠ x) (e : m y = r) : put m x v y = r := (if_neg h).trans e

structure St (h₀ : Heap) (g : Array GenState) (os : OsState) (L : Addr) (m : Loc) (H : Led) (s : Shared) : Prop where
  inv : Inv h₀ L m H s.heap
  gens : s.gens = g
  os : s.os = os

/-- what a loop hands on to its frame -/
def LBack (M : Model) (A : Around) (env : Env) (Q : Flow → Shared → Prop) (E : Value → Shared → Prop) : Result → Shared → Prop := fun r s' => match r with | .ok f => Q f s' | .error e => cameBackBy M A env E e s'
def noO : OP := fun o => o = emptyDict
def instO (C d : Addr) : OP := fun o => o = instObj C d
def listO (vs : List Value) : OP := fun o => ∃ n, o = listOf vs.toArray n
def tupO (vs : List Value) : OP := fun o => ∃ n, o = { cls := .type "tuple", data := .seq vs.toArray n }
def idictO (prog : Program) (w : World) (kvs : List (Int × Value)) : OP := fun o => o.IsDictOf (intKind prog w) kvs

section
variable {prog : Program} {w : World} {A : Around} {E : Value → Shared → Prop} {s : Shared} {h₀ : Heap} {g : Array GenState} {os : OsState} {L : Addr} {m : Loc} {H H' : Led}
  {cn : Str} {cs : Scope} {fa : Addr} {ccd : Value} {cl : List (Str × Addr)} {env : Env}

theorem St.weaken (S : St h₀ g os L m H s) (x : Sub H' H) : St h₀ g os L m H' s := ⟨S.inv.weaken x, S.gens, S.os⟩

theorem St.imp {a : Addr} {P P' : OP} (S : St h₀ g os L m H s) (e : H a = some P) (i : ∀ o, P o → P' o) : St h₀ g os L m (upd H a P') s := by
  obtain ⟨o, ho, hp⟩ := S.inv.own _ _ e
  exact ⟨S.inv.change e (Heap.ExtBut.refl _ _) ⟨o, ho, i o hp⟩, S.gens, S.os⟩
def intsO (ns : List Int) : OP := fun o => ∃ vs n, IntsAre vs ns ∧ o = listOf vs.toArray n
theorem listO.ints {vs : List Value} {ns : List Int} (h : IntsAre vs ns) (o : Obj) (x : listO vs o) : intsO ns o := let ⟨n, e⟩ := x; ⟨vs, n, h, e⟩
/-! names -/
theorem r_nl {x : Str} {pos : Pos} {v : Value} {Q : Value → Shared → Prop} (S : St h₀ g os L m H s) (hv : m x = some v) (h : Q v s)
    (hk : cs.kind = .function) (hx : (envX cn cs L fa ccd cl).kindOf x = some .local) (hd : (x == ("__debug__" : Str)) = false) :
    wpAny (model prog w) A (eval (.Name x pos) (envX cn cs L fa ccd cl)) Q E s := nameX_L S.inv.fr hv h hk hx hd
theorem r_ln {x : Str} {v : Value} {Q : Value → Shared → Prop} (S : St h₀ g os L m H s) (hv : m x = some v) (h : Q v s)
    (hk : cs.kind = .function) (hx : (envX cn cs L fa ccd cl).kindOf x = some .local) :
    wpAny (model prog w) A (loadName (envX cn cs L fa ccd cl) x) Q E s := wpAny_loadName_local hk hx S.inv.ns hv h
theorem r_ng {x : Str} {pos : Pos} {v : Value} {Q : Value → Shared → Prop} (B : Bs w h₀) (S : St h₀ g os L m H s) (e : nsIn (KK w) mainGlobals x = some (some v)) (h : Q v s)
    (hk : cs.kind = .function) (hx : (envX cn cs L fa ccd cl).kindOf x = some .globalImplicit) (hd : (x == ("__debug__" : Str)) = false) :
    wpAny (model prog w) A (eval (.Name x pos) (envX cn cs L fa ccd cl)) Q E s := by
  obtain ⟨p, loose, mg, mb, T⟩ := B.T
  exact nameX_K S.inv.fr B.X T e h hk hx hd
theorem r_nb {x : Str} {pos : Pos} {v : Value} {Q : Value → Shared → Prop} (B : Bs w h₀) (S : St h₀ g os L m H s) (e : nsIn (KK w) mainGlobals x = some none) (hv : bootBuiltins x = some v) (hn : x ≠ "__name__") (h : Q v s)
    (hk : cs.kind = .function) (hx : (envX cn cs L fa ccd cl).kindOf x = some .globalImplicit) (hd : (x == ("__debug__" : Str)) = false) :
    wpAny (model prog w) A (eval (.Name x pos) (envX cn cs L fa ccd cl)) Q E s := by
  obtain ⟨p, loose, mg, mb, T⟩ := B.T
  exact nameX_B S.inv.fr B.X T e hv hn h hk hx hd
theorem r_st {x : Str} {v : Value} {Q : Unit → Shared → Prop} (S : St h₀ g os L m H s) (k : ∀ s', St h₀ g os L (put m x v) H s' → Q () s')
    (hk : cs.kind = .function) (hx : (envX cn cs L fa ccd cl).kindOf x = some .local) : wpAny (model prog w) A (storeName (envX cn cs L fa ccd cl) x v) Q E s :=
  wpAny_storeName_local hx S.inv.ns (fun h' hn hs => k _ ⟨S.inv.set hn hs, S.gens, S.os⟩) (by show (cs.kind == .class || (cs.kind == .module && L != mainGlobals)) = false; rw [hk]; rfl)

/-! constants, ints -/
theorem r_ci {i : Int} {k : Nat} {pos : Pos} {Q : Value → Shared → Prop} (S : St h₀ g os L m H s) (h : ∀ t s', St h₀ g os L m H s' → Q (.int i t) s') :
    wpAny (model prog w) A (eval (.Constant (.int i) k pos) env) Q E s := wpAny_Constant_int (h _ _ ⟨S.inv, S.gens, S.os⟩)
theorem r_cs {x : Str} {k : Nat} {pos : Pos} {Q : Value → Shared → Prop} (S : St h₀ g os L m H s) (h : ∀ t s', St h₀ g os L m H s' → Q (.str x t) s') :
    wpAny (model prog w) A (eval (.Constant (.str x) k pos) env) Q E s := wpAny_Constant_str (h _ _ ⟨S.inv, S.gens, S.os⟩)
theorem r_add {a b : Int} {t u : Tok} {Q : Value → Shared → Prop} (S : St h₀ g os L m H s) (h : ∀ t s', St h₀ g os L m H s' → Q (.int (a + b) t) s') :
    wpAny (model prog w) A (binaryOp .Add (.int a t) (.int b u)) Q E s := add_int (h _ _ ⟨S.inv, S.gens, S.os⟩)
theorem r_sub {a b : Int} {t u : Tok} {Q : Value → Shared → Prop} (S : St h₀ g os L m H s) (h : ∀ t s', St h₀ g os L m H s' → Q (.int (a - b) t) s') :
    wpAny (model prog w) A (binaryOp .Sub (.int a t) (.int b u)) Q E s := sub_int (h _ _ ⟨S.inv, S.gens, S.os⟩)
theorem r_iadd {a b : Int} {t u : Tok} {Q : Value → Shared → Prop} (S : St h₀ g os L m H s) (h : ∀ t s', St h₀ g os L m H s' → Q (.int (a + b) t) s') :
    wpAny (model prog w) A (inplaceOp .Add (.int a t) (.int b u)) Q E s := iadd_int (h _ _ ⟨S.inv, S.gens, S.os⟩)
theorem r_isub {a b : Int} {t u : Tok} {Q : Value → Shared → Prop} (S : St h₀ g os L m H s) (h : ∀ t s', St h₀ g os L m H s' → Q (.int (a - b) t) s') :
    wpAny (model prog w) A (inplaceOp .Sub (.int a t) (.int b u)) Q E s := isub_int (h _ _ ⟨S.inv, S.gens, S.os⟩)

/-! a def is called -/
theorem r_callC {R : Result → Shared → Prop} {f : Addr} {oc : Value} {od : Option Addr} {osl : Array (Option Value)} {name qual : Str} {params : Arguments} {body : List Stmt} {scope : Scope} {dV kV doc pm : Value} {an : Option Addr} {cdv ct : Value}
    {args : Args} {binds : List (Str × Value)} (B : Bs w h₀) (S : St h₀ g os L m H s)
    (hl : (KK w).lookup f = some ⟨oc, od, .func (fnOf name qual params body scope dV kV doc pm an cdv ct), osl⟩) (hcd : codeIn (KK w) cdv qual = true) (hroom : A.depth < recursionLimit)
    (hbind : BindsTo s (fnOf name qual params body scope dV kV doc pm an cdv ct) args binds) (hcell : ∀ x ∈ scope.names, x.2 ≠ .cell) (hloc : ∀ x ∈ binds, scope.names.lookup x.1 = some .local)
    (hco : scope.isCoroutine = false) (hgen : scope.isGenerator = false) (hk : scope.kind = .function)
    (h : ∀ L' oL s₁, L' ≠ L → H L' = none → St h₀ g os L' (fun y => binds.reverse.lookup y) (upd H L (frO oL)) s₁ →
      (∀ g' m' H' s', St h₀ g' os L' m' H' s' → H' L = some (frO oL) → St h₀ g' os L m (del H' L) s') →
      wpAny (model prog w) (A.deeper (envX qual scope L' f cdv [])) (execs body (envX qual scope L' f cdv [])) (fun fl s' => R (.ok (.ret (match fl with | .ret v => v | _ => .none))) s')
        (fun e s' => wpAny (model prog w) (A.deeper (envX qual scope L' f cdv [])) (leaving (envX qual scope L' f cdv []) e) (fun _ s'' => R (.error e) s'') (fun e' s'' => R (.error e') s'') s') s₁) :
    codeAny (model prog w) A (.call (.ref f) args) R s := by
  obtain ⟨p, loose, mg, mb, T⟩ := B.T
  have X := B.X.keeps S.inv.keep
  refine codeAny_call_def (fd := fnOf name qual params body scope dV kV doc pm an cdv ct) (body := body) (binds := binds) hroom (X _ _ hl) rfl (T.nolimit.keeps S.inv.keep) (codeRec_of X hcd) rfl hbind hcell hloc (fun h₁ hns hk₁ => ?_) hco hgen hk
  obtain ⟨oL, es, ep, hL, hr⟩ := S.inv.ns
  exact h s.heap.objs.size oL _ S.inv.freshL S.inv.fresh ⟨S.inv.enter hL hns hk₁ rfl, S.gens, S.os⟩ fun g' m' H' s' S' e => ⟨S'.inv.back e hL ⟨oL, es, ep, hL, hr⟩ S.inv.above, S'.gens, S'.os⟩
/-- what a call hands on -/
def Back (Q : Value → Shared → Prop) (E : Value → Shared → Prop) : Result → Shared → Prop := fun r s' => match r with | .ok (.ret v) => Q v s' | .ok _ => False | .error e => E e s'
theorem r_call {Q : Value → Shared → Prop} {f : Addr} {pos : List Value} {kw : List (Str × Value)} (h : codeAny (model prog w) A (.call (.ref f) ⟨pos, kw⟩) (Back Q E) s) : wpAny (model prog w) A (call (.ref f) pos kw) Q E s := wpAny_call h

/-! an own class is called -/
theorem r_make {Q : Value → Shared → Prop} {C fI : Addr} {rest : List Value} {kw : List (Str × Value)} (B : Bs w h₀) (S : St h₀ g os L m H s)
    (hm : makesIn (KK w) C = true) (hi : findIn (KK w) (.ref C) "__init__" = some (some (.ref fI))) (hf : isFn (KK w) (.ref fI) = true)
    (h : ∀ x d s₁, H x = none → H d = none → x ≠ d → x ≠ L → d ≠ L → St h₀ g os L m (upd (upd H d noO) x (instO C d)) s₁ →
      codeAny (model prog w) (A.under (.builtin "type.__call__" ⟨.ref C :: rest, kw⟩)) (.call (.ref fI) ⟨.ref x :: rest, kw⟩) (Back (fun v s' => v = .none ∧ Q (.ref x) s') E) s₁) :
    wpAny (model prog w) A (call (.ref C) rest kw) Q E s := by
  have X := B.X.keeps S.inv.keep
  refine wpAny_call ?_
  have I1 := S.inv.push emptyDict (P := noO) rfl
  have I2 := I1.push (instObj C s.heap.objs.size) (P := instO C s.heap.objs.size) rfl
  rw [Heap.size_push] at I2
  obtain ⟨hh, gg, d, t, oo⟩ := s
  refine make_core (makes_of X hm) (looks_findIn X hi) (fun self => bind_fn X self (beq_iff_eq.mp hf)) (.inl rfl) ?_
  have f1 := I1.fresh
  rw [Heap.size_push, upd_ne _ _ (Nat.succ_ne_self _)] at f1
  have fL := I1.freshL
  rw [Heap.size_push] at fL
  refine codeAny_mono (h (hh.objs.size + 1) hh.objs.size ⟨_, gg, d, t, oo⟩ f1 S.inv.fresh (Nat.succ_ne_self _) fL S.inv.freshL ⟨I2, S.gens, S.os⟩) fun r s' z => ?_
  rcases r with e | (v | _ | _ | _) <;> first | exact z | exact z.elim

/-! lists -/
theorem St.list {a : Addr} {vs : List Value} (S : St h₀ g os L m H s) (e : H a = some (listO vs)) : s.heap.PlainList a vs.toArray := by
  obtain ⟨o, ho, n, rfl⟩ := S.inv.own _ _ e
  exact ⟨n, ho⟩
theorem St.isList {a : Addr} {vs : List Value} (S : St h₀ g os L m H s) (e : H a = some (listO vs)) : s.heap.IsList a vs.toArray := by
  obtain ⟨o, ho, n, rfl⟩ := S.inv.own _ _ e
  exact ⟨_, ho, rfl, n, rfl⟩
theorem r_append {a : Addr} {vs : List Value} {v : Value} {Q : Value → Shared → Prop} (S : St h₀ g os L m H s) (e : H a = some (listO vs)) (hz : vs.length ≤ 16777216)
    (h : ∀ s', St h₀ g os L m (upd H a (listO (vs ++ [v]))) s' → Q .none s') : wpAny (model prog w) A (call (.builtin "list.append") [.ref a, v]) Q E s := by
  refine wpAny_list_append_plain (S.list e) (fun h' hl hs => h _ ⟨S.inv.change e hs.extBut ?_, S.gens, S.os⟩) (by rw [List.size_toArray]; exact hz)
  obtain ⟨n, ho⟩ := hl
  exact ⟨_, ho, n, by rw [List.push_toArray]⟩
theorem r_getMethod_list {a : Addr} {vs : List Value} {name : Str} {id : String} {pl : Sem Bool} {Q : Value × List Value → Shared → Prop} (S : St h₀ g os L m H s) (e : H a = some (listO vs)) (slot : Slot "list" name id)
    (hty : typeOf (.builtin id) = pure (.type "method_descriptor")) (h : Q (.builtin id, [.ref a]) s) : wpAny (model prog w) A (getMethod (.ref a) name pl) Q E s := by
  obtain ⟨o, ho, n, rfl⟩ := S.inv.own _ _ e
  exact getMethod_list_of slot hty (S.isList e) ⟨_, ho, rfl⟩ h
theorem r_newList {vs : List Value} {Q : Value → Shared → Prop} (S : St h₀ g os L m H s) (hz : vs.length ≤ 16777216)
    (h : ∀ a s', H a = none → a ≠ L → St h₀ g os L m (upd H a (listO vs)) s' → Q (.ref a) s') : wpAny (model prog w) A (newList vs) Q E s :=
  wpAny_newObj_type (h _ _ S.inv.fresh S.inv.freshL ⟨S.inv.push _ ⟨0, rfl⟩, S.gens, S.os⟩) (by show vs.toArray.size ≤ sizeLine; rw [List.size_toArray]; exact hz)
theorem r_newTuple {vs : List Value} {Q : Value → Shared → Prop} (S : St h₀ g os L m H s) (hz : vs.length ≤ 16777216)
    (h : ∀ a s', H a = none → a ≠ L → St h₀ g os L m (upd H a (tupO vs)) s' → Q (.ref a) s') : wpAny (model prog w) A (newTuple vs) Q E s :=
  wpAny_newObj_type (h _ _ S.inv.fresh S.inv.freshL ⟨S.inv.push _ ⟨0, rfl⟩, S.gens, S.os⟩) (by show vs.toArray.size ≤ sizeLine; rw [List.size_toArray]; exact hz)

/-! dicts keyed by ints -/
theorem St.dict {a : Addr} {kvs : List (Int × Value)} (S : St h₀ g os L m H s) (e : H a = some (idictO prog w kvs)) : s.heap.DictOf (intKind prog w) a kvs := Heap.dictOf_iff.mpr (S.inv.own _ _ e)
theorem Bs.fresh (B : Bs w h₀) (I : Inv h₀ L m H s.heap) : (s.heap.objs.size == sysModules) = false := by
  obtain ⟨p, loose, mg, mb, T⟩ := B.T
  exact beq_eq_false_iff_ne.mpr (Nat.ne_of_gt (Nat.lt_of_lt_of_le (modules_low T.nolimit) I.fresh₀))
end

/-! the rest of a block, kept opaque while one of its statements is walked -/
section
variable {M : Model} {A : Around} {E : Value → Shared → Prop} {s : Shared} {env : Env}
def Imp (P Q : Flow → Shared → Prop) : Prop := ∀ f s', P f s' → Q f s'
theorem Imp.go {P Q : Flow → Shared → Prop} {f : Flow} (i : Imp P Q) (h : P f s) : Q f s := i f s h
theorem r_cons {st : Stmt} {rest : List Stmt} {Q : Flow → Shared → Prop}
    (h : ∀ Q' : Flow → Shared → Prop, Imp (fun f s' => match f with | .next => wpAny M A (execs rest env) Q E s' | f => Q f s') Q' → wpAny M A (exec st env) Q' E s) :
    wpAny M A (execs (st :: rest) env) Q E s := wpAny_execs_cons (h _ fun _ _ x => x)
end
local macro_rules | `(tactic| walk_at "sub") => `(tactic| (intro aa QQ ee; grind [upd, del]))
local macro_rules | `(tactic| walk_at "lk") => `(tactic| first | exact put_same _ _ _ | (refine put_ne (by decide) ?_; walk_at "lk") | assumption | with_unfolding_all rfl)
local macro_rules | `(tactic| walk_at "H") => `(tactic| first | exact upd_same _ _ _ | assumption | (refine upd_of (by assumption) ?_; walk_at "H") | (refine upd_of (Ne.symm (by assumption)) ?_; walk_at "H") | (refine upd_of (led_ne (by assumption) (by assumption)) ?_; walk_at "H") | (refine upd_of (led_ne' (by assumption) (by assumption)) ?_; walk_at "H"))
local macro_rules | `(tactic| walk_at "HG") => `(tactic| first | walk_at "H" | grind [upd, del])
local macro_rules | `(tactic| walk_at "py") => `(tactic| first
  | with_reducible refine wpAny_execs_nil ?_
  | with_reducible refine wpAny_If ?_
  | with_reducible refine ite_tt ?_
  | with_reducible refine ite_ff ?_
  | with_reducible refine wpAny_Return_some ?_
  | with_reducible refine wpAny_Return_none ?_
  | ((with_reducible refine' wpAny_isTrue_Compare1 ?_ ?hm); (case hm => with_unfolding_all rfl))
  | ((with_reducible refine' wpAny_Compare1 ?_ ?hm); (case hm => with_unfolding_all rfl))
  | with_reducible refine wpAny_BinOp ?_
  | ((with_reducible refine' wpAny_Expr ?_ ?hi ?hs); (case hi => rfl); (case hs => rfl))
  | ((with_reducible refine' r_ci ?S ?_); (case S => assumption); intro _ _ _)
  | ((with_reducible refine' r_cs ?S ?_); (case S => assumption); intro _ _ _)
  | with_reducible refine wpAny_Constant_none ?_
  | with_reducible refine wpAny_Constant_bool ?_
  | ((with_reducible refine' r_nl ?S ?hv ?_ ?hk ?hx ?hd); (case hx => with_unfolding_all rfl); (case S => assumption); (case hv => walk_at "lk"); (case hk => rfl); (case hd => decide))
  | ((with_reducible refine' r_ln ?S ?hv ?_ ?hk ?hx); (case hx => with_unfolding_all rfl); (case S => assumption); (case hv => walk_at "lk"); (case hk => rfl))
  | ((with_reducible refine' r_st ?S ?_ ?hk ?hx); (case hx => with_unfolding_all rfl); (case S => assumption); (case hk => rfl); intro _ _)
  | ((with_reducible refine' wpAny_Assign_Name ?_ ?hs); (case hs => rfl))
  | ((with_reducible refine' wpAny_Assign_Subscript ?_ ?hs); (case hs => rfl))
  | ((with_reducible refine' plainObj_wpAny_Assign_Attribute ?_ ?hs); (case hs => rfl))
  | ((with_reducible refine' wpAny_Assign_two ?_ ?he ?hw); (case he => rfl); (case hw => rfl))
  | with_reducible refine wpAny_AugAssign_Name ?_
  | with_reducible refine wpAny_AugAssign_AttributeAny ?_
  | with_reducible refine wpAny_NamedExpr ?_
  | with_reducible refine wpAny_assign_Name ?_
  | with_reducible refine wpAny_truthy_bool ?_
  | ((with_reducible refine' Attribute_any_ ?_ ?he); (case he => with_unfolding_all rfl))
  | ((with_reducible refine' MethodCall_ ?_ ?he); (case he => rfl))
  | ((with_reducible refine' Call_ ?_ ?he); (case he => rfl))
  | with_reducible refine Subscript_ ?_
  | with_reducible refine spliced_none ?_
  | ((with_reducible refine' spliced_more ?_ ?he); (case he => rfl))
  | with_reducible refine callWith_method0 ?_
  | ((with_reducible refine' callWith_method1 ?_ ?he ?hp); (case he => rfl); (case hp => rfl))
  | ((with_reducible refine' r_add ?S ?_); (case S => assumption); intro _ _ _)
  | ((with_reducible refine' r_sub ?S ?_); (case S => assumption); intro _ _ _)
  | ((with_reducible refine' r_iadd ?S ?_); (case S => assumption); intro _ _ _)
  | ((with_reducible refine' r_isub ?S ?_); (case S => assumption); intro _ _ _)
  | with_reducible refine eq_int ?_
  | with_reducible refine ne_int ?_
  | with_reducible refine lt_int ?_
  | with_reducible refine gt_int ?_
  | with_reducible refine ge_int ?_
  | ((with_reducible refine' wpAny_is_other ?hp ?hne ?_); (case hp => rfl); (case hne => (intro hh; cases hh; done)))
  | ((with_reducible refine' wpAny_is_self ?hp ?_); (case hp => rfl))
  | ((with_reducible refine' wpAny_isNot_other ?hp ?hne ?_); (case hp => rfl); (case hne => (intro hh; cases hh; done)))
  | ((with_reducible refine' wpAny_isNot_self ?hp ?_); (case hp => rfl))
  | ((with_reducible refine' r_newList ?S ?hz ?_); (case S => assumption); (case hz => first | decide | (simp; done)); intro _ _ _ _ _)
  | ((with_reducible refine' r_newTuple ?S ?hz ?_); (case S => assumption); (case hz => first | decide | (simp; done)); intro _ _ _ _ _)
  | with_reducible refine List_ ?_
  | with_reducible refine Tuple_ ?_
  | ((with_reducible show wpAny _ _ (getMethod (Value.ref _) (Str.ofString "append") _) _ _ _); refine' r_getMethod_list ?S ?e PySem.F.slot_list_append PySem.F.type_list_append ?_; (case S => assumption); (case e => walk_at "H"))
  | dsimp only [LBack, Back, List.cons_append, List.nil_append])
local macro_rules | `(tactic| walk_at "py") => `(tactic| ((with_reducible refine' Imp.go ?i ?_); (case i => assumption)))
set_option hygiene false in
local macro_rules | `(tactic| walk_at "py") => `(tactic| first
  | ((with_reducible refine r_cons ?_); intro Q9 hQ9)
  | ((with_reducible refine Imp.go hQ9 ?_); clear hQ9; (try clear Q9)))

/-! ## The sorter's objects -/
/-- the dict of a TopologicalSorter -/
def sdictO (w : World) (v1 v2 v3 v4 : Value) : OP := fun o => ∃ t1 t2 t3 t4 n, o = dictOf [
  ⟨PyData.keyHash w.params (Str.ofString "_node2info"), .str (Str.ofString "_node2info") t1, v1⟩,
  ⟨PyData.keyHash w.params (Str.ofString "_ready_nodes"), .str (Str.ofString "_ready_nodes") t2, v2⟩,
  ⟨PyData.keyHash w.params (Str.ofString "_npassedout"), .str (Str.ofString "_npassedout") t3, v3⟩,
  ⟨PyData.keyHash w.params (Str.ofString "_nfinished"), .str (Str.ofString "_nfinished") t4, v4⟩] n
/-- a _NodeInfo -/
def infoO (d : Addr) (k np : Int) (l : Addr) : OP := fun o => ∃ t1 t2, o = ⟨.ref 61, some d, .plain, #[some (.int k t1), some (.int np t2), some (.ref l)]⟩

section
variable {prog : Program} {w : World} {A : Around} {E : Value → Shared → Prop} {s : Shared} {h₀ : Heap} {g : Array GenState} {os : OsState} {L : Addr} {m : Loc} {H H' : Led} {x d : Addr} {name : Str} {v v1 v2 v3 v4 : Value}

theorem r_sget {expr : Bool} {Q : Value → Shared → Prop} (B : Bs w h₀) (S : St h₀ g os L m H s) (h1 : H x = some (instO 158 d)) (h2 : H d = some (sdictO w v1 v2 v3 v4))
    (hg : plainGet (KK w) 158 name = true) (ha : findIn (KK w) (.ref 158) name = some none)
    (hl : ∀ t1 t2 t3 t4, getL name [
      ⟨PyData.keyHash w.params (Str.ofString "_node2info"), .str (Str.ofString "_node2info") t1, v1⟩,
      ⟨PyData.keyHash w.params (Str.ofString "_ready_nodes"), .str (Str.ofString "_ready_nodes") t2, v2⟩,
      ⟨PyData.keyHash w.params (Str.ofString "_npassedout"), .str (Str.ofString "_npassedout") t3, v3⟩,
      ⟨PyData.keyHash w.params (Str.ofString "_nfinished"), .str (Str.ofString "_nfinished") t4, v4⟩] = some (some v)) (hv : handedIn v = true)
    (h : ∀ s', St h₀ g os L m H s' → Q v s') : wpAny (model prog w) A (getAttr (.ref x) name expr) Q E s := by
  obtain ⟨_, ho, rfl⟩ := S.inv.own _ _ h1
  obtain ⟨_, hd, t1, t2, t3, t4, n, rfl⟩ := S.inv.own _ _ h2
  exact get_own S.inv.fr B.X ⟨ho, rfl, rfl, hd⟩ hg (by kernel_rfl) ha (by kernel_rfl) (hl t1 t2 t3 t4) hv (h _ ⟨S.inv, S.gens, S.os⟩)
theorem r_smeth {pl : Sem Bool} {f : Addr} {Q : Value × List Value → Shared → Prop} (B : Bs w h₀) (S : St h₀ g os L m H s) (h1 : H x = some (instO 158 d)) (h2 : H d = some (sdictO w v1 v2 v3 v4))
    (hg : plainGet (KK w) 158 name = true) (hf : findIn (KK w) (.ref 158) name = some (some (.ref f))) (ht : isFn (KK w) (.ref f) = true)
    (hl : ∀ t1 t2 t3 t4, getL name [
      ⟨PyData.keyHash w.params (Str.ofString "_node2info"), .str (Str.ofString "_node2info") t1, v1⟩,
      ⟨PyData.keyHash w.params (Str.ofString "_ready_nodes"), .str (Str.ofString "_ready_nodes") t2, v2⟩,
      ⟨PyData.keyHash w.params (Str.ofString "_npassedout"), .str (Str.ofString "_npassedout") t3, v3⟩,
      ⟨PyData.keyHash w.params (Str.ofString "_nfinished"), .str (Str.ofString "_nfinished") t4, v4⟩] = some none)
    (h : Q (.ref f, [.ref x]) s) : wpAny (model prog w) A (getMethod (.ref x) name pl) Q E s := by
  obtain ⟨_, ho, rfl⟩ := S.inv.own _ _ h1
  obtain ⟨_, hd, t1, t2, t3, t4, n, rfl⟩ := S.inv.own _ _ h2
  exact method_inst S.inv.fr B.X ⟨ho, rfl, rfl, hd⟩ hg hf ht (hl t1 t2 t3 t4) h
theorem r_sset {P' : OP} {Q : Unit → Shared → Prop} (B : Bs w h₀) (S : St h₀ g os L m H s) (h1 : H x = some (instO 158 d)) (h2 : H d = some (sdictO w v1 v2 v3 v4))
    (ht : takerIn (KK w) 158 name = some none)
    (hl : ∀ t1 t2 t3 t4 t5 n, (getL name [
      ⟨PyData.keyHash w.params (Str.ofString "_node2info"), .str (Str.ofString "_node2info") t1, v1⟩,
      ⟨PyData.keyHash w.params (Str.ofString "_ready_nodes"), .str (Str.ofString "_ready_nodes") t2, v2⟩,
      ⟨PyData.keyHash w.params (Str.ofString "_npassedout"), .str (Str.ofString "_npassedout") t3, v3⟩,
      ⟨PyData.keyHash w.params (Str.ofString "_nfinished"), .str (Str.ofString "_nfinished") t4, v4⟩]).isSome = true ∧
      ∃ es' n', (putL name (PyData.keyHash w.params name) (.str name t5) v [
      ⟨PyData.keyHash w.params (Str.ofString "_node2info"), .str (Str.ofString "_node2info") t1, v1⟩,
      ⟨PyData.keyHash w.params (Str.ofString "_ready_nodes"), .str (Str.ofString "_ready_nodes") t2, v2⟩,
      ⟨PyData.keyHash w.params (Str.ofString "_npassedout"), .str (Str.ofString "_npassedout") t3, v3⟩,
      ⟨PyData.keyHash w.params (Str.ofString "_nfinished"), .str (Str.ofString "_nfinished") t4, v4⟩], putN name [
      ⟨PyData.keyHash w.params (Str.ofString "_node2info"), .str (Str.ofString "_node2info") t1, v1⟩,
      ⟨PyData.keyHash w.params (Str.ofString "_ready_nodes"), .str (Str.ofString "_ready_nodes") t2, v2⟩,
      ⟨PyData.keyHash w.params (Str.ofString "_npassedout"), .str (Str.ofString "_npassedout") t3, v3⟩,
      ⟨PyData.keyHash w.params (Str.ofString "_nfinished"), .str (Str.ofString "_nfinished") t4, v4⟩] n) = (es', n') ∧ es'.length ≤ 1000 ∧ P' (dictOf es' n'))
    (h : ∀ s', St h₀ g os L m (upd H d P') s' → Q () s') : wpAny (model prog w) A (setAttr (.ref x) name v) Q E s := by
  obtain ⟨_, ho, rfl⟩ := S.inv.own _ _ h1
  obtain ⟨_, hd, t1, t2, t3, t4, n, rfl⟩ := S.inv.own _ _ h2
  obtain ⟨pre, post, hs, a1, a2⟩ := allNews_split hd (S.inv.neL h2) (S.inv.new _ _ h2)
  obtain ⟨hl1, es', n', e, hz, hp⟩ := hl t1 t2 t3 t4 (s.toks + 1) n
  obtain ⟨e1, e2⟩ := Prod.mk.inj e
  have N := allNews_is h₀ L s.heap
  rw [hs] at N
  have X := B.X.keeps S.inv.keep
  have I : InstAt s.heap x (instObj 158 d) 158 (some _) := ⟨ho, rfl, rfl, hd⟩
  refine set_plain X I (by kernel_rfl) (osa_dict (s := { s with toks := s.toks + 1 }) S.inv.fr N X I rfl (by kernel_rfl) ht (by kernel_rfl) hl1 a1 a2 (by rw [putName_dict, e1, e2]) rfl hz fun h' F' N' => ?_)
  exact h _ ⟨S.inv.of_set h2 hs F' N' hp, S.gens, S.os⟩

/-! the slots of a _NodeInfo -/
theorem r_iget_np {expr : Bool} {k np : Int} {l : Addr} {Q : Value → Shared → Prop} (B : Bs w h₀) (S : St h₀ g os L m H s) (h1 : H x = some (infoO d k np l)) (h2 : H d = some noO)
    (h : ∀ t s', St h₀ g os L m H s' → Q (.int np t) s') : wpAny (model prog w) A (getAttr (.ref x) (Str.ofString "npredecessors") expr) Q E s := by
  obtain ⟨_, ho, t1, t2, rfl⟩ := S.inv.own _ _ h1
  obtain ⟨_, hd, rfl⟩ := S.inv.own _ _ h2
  exact get_slot (p := 63) (i := 1) S.inv.fr B.X ⟨ho, rfl, rfl, hd⟩ (by kernel_rfl) (by kernel_rfl) (by kernel_rfl) (by kernel_rfl) (by kernel_rfl) (by kernel_rfl) rfl rfl (h _ _ ⟨S.inv, S.gens, S.os⟩)
theorem r_iget_succ {expr : Bool} {k np : Int} {l : Addr} {Q : Value → Shared → Prop} (B : Bs w h₀) (S : St h₀ g os L m H s) (h1 : H x = some (infoO d k np l)) (h2 : H d = some noO)
    (h : ∀ s', St h₀ g os L m H s' → Q (.ref l) s') : wpAny (model prog w) A (getAttr (.ref x) (Str.ofString "successors") expr) Q E s := by
  obtain ⟨_, ho, t1, t2, rfl⟩ := S.inv.own _ _ h1
  obtain ⟨_, hd, rfl⟩ := S.inv.own _ _ h2
  exact get_slot (p := 64) (i := 2) S.inv.fr B.X ⟨ho, rfl, rfl, hd⟩ (by kernel_rfl) (by kernel_rfl) (by kernel_rfl) (by kernel_rfl) (by kernel_rfl) (by kernel_rfl) rfl rfl (h _ ⟨S.inv, S.gens, S.os⟩)
theorem r_iget_node {expr : Bool} {k np : Int} {l : Addr} {Q : Value → Shared → Prop} (B : Bs w h₀) (S : St h₀ g os L m H s) (h1 : H x = some (infoO d k np l)) (h2 : H d = some noO)
    (h : ∀ t s', St h₀ g os L m H s' → Q (.int k t) s') : wpAny (model prog w) A (getAttr (.ref x) (Str.ofString "node") expr) Q E s := by
  obtain ⟨_, ho, t1, t2, rfl⟩ := S.inv.own _ _ h1
  obtain ⟨_, hd, rfl⟩ := S.inv.own _ _ h2
  exact get_slot (p := 62) (i := 0) S.inv.fr B.X ⟨ho, rfl, rfl, hd⟩ (by kernel_rfl) (by kernel_rfl) (by kernel_rfl) (by kernel_rfl) (by kernel_rfl) (by kernel_rfl) rfl rfl (h _ _ ⟨S.inv, S.gens, S.os⟩)
/-- a slot of it is stored -/
theorem r_iset {p i : Nat} {P P' : OP} {Q : Unit → Shared → Prop} (B : Bs w h₀) (S : St h₀ g os L m H s) (h1 : H x = some P) (hP : ∀ o, P o → ∃ sl, o = ⟨.ref 61, some d, .plain, sl⟩) (h2 : H d = some noO)
    (ht : takerIn (KK w) 61 name = some (some (.ref p))) (hT : typeIn (KK w) (.ref p) = some (.type "member_descriptor")) (hi : slotIn (KK w) p 61 = some i) (hz : i < 1000)
    (hp : ∀ sl, P ⟨.ref 61, some d, .plain, sl⟩ → P' ⟨.ref 61, some d, .plain, (sl ++ Array.replicate (i + 1 - sl.size) none).setIfInBounds i (some v)⟩)
    (h : ∀ s', St h₀ g os L m (upd H x P') s' → Q () s') : wpAny (model prog w) A (setAttr (.ref x) name v) Q E s := by
  obtain ⟨o, ho, hPo⟩ := S.inv.own _ _ h1
  obtain ⟨sl, rfl⟩ := hP o hPo
  obtain ⟨_, hd, rfl⟩ := S.inv.own _ _ h2
  obtain ⟨pre, post, hs, a1, a2⟩ := allNews_split ho (S.inv.neL h1) (S.inv.new _ _ h1)
  have N := allNews_is h₀ L s.heap
  rw [hs] at N
  have X := B.X.keeps S.inv.keep
  have I : InstAt s.heap x ⟨.ref 61, some d, .plain, sl⟩ 61 (some emptyDict) := ⟨ho, rfl, rfl, hd⟩
  refine set_plain X I (by kernel_rfl) (osa_descr (s := { s with toks := s.toks + 1 }) KF.slot_mset X I (by kernel_rfl) ht hT (slot_set (s := { s with toks := s.toks + 1 }) S.inv.fr N X I hi hz a1 a2 rfl rfl fun h' F' N' => ?_))
  exact h _ ⟨S.inv.of_set h1 hs F' N' (hp sl hPo), S.gens, S.os⟩
end

section
variable (w : World)
theorem sm_get : findIn (KK w) (.ref 158) (Str.ofString "_get_nodeinfo") = some (some (.ref 101)) := by kernel_rfl
theorem sm_add : findIn (KK w) (.ref 158) (Str.ofString "add") = some (some (.ref 108)) := by kernel_rfl
theorem sm_prepare : findIn (KK w) (.ref 158) (Str.ofString "prepare") = some (some (.ref 113)) := by kernel_rfl
theorem sm_ready : findIn (KK w) (.ref 158) (Str.ofString "get_ready") = some (some (.ref 120)) := by kernel_rfl
theorem sm_active : findIn (KK w) (.ref 158) (Str.ofString "is_active") = some (some (.ref 127)) := by kernel_rfl
theorem sm_done : findIn (KK w) (.ref 158) (Str.ofString "done") = some (some (.ref 141)) := by kernel_rfl
theorem sm_cycle : findIn (KK w) (.ref 158) (Str.ofString "_find_cycle") = some (some (.ref 148)) := by kernel_rfl
end
local macro_rules | `(tactic| walk_at "py") => `(tactic| first
  | ((with_reducible refine' r_sget ?B ?S ?h1 ?h2 ?hg ?ha ?hl ?hv ?_); (case B => assumption); (case S => assumption); (case h1 => walk_at "H"); (case h2 => walk_at "H"); (case hg => kernel_rfl); (case ha => kernel_rfl); (case hl => (intros; rfl)); (case hv => rfl); intro _ _)
  | ((with_reducible refine' r_smeth ?B ?S ?h1 ?h2 ?hg ?hf ?ht ?hl ?_); (case B => assumption); (case S => assumption); (case h1 => walk_at "H"); (case h2 => walk_at "H"); (case hg => kernel_rfl); (case hf => first | exact sm_get _ | exact sm_add _ | exact sm_prepare _ | exact sm_ready _ | exact sm_active _ | exact sm_done _ | exact sm_cycle _); (case ht => kernel_rfl); (case hl => (intros; rfl)))
  | ((with_reducible refine' r_iget_np ?B ?S ?h1 ?h2 ?_); (case B => assumption); (case S => assumption); (case h1 => walk_at "H"); (case h2 => walk_at "H"); intro _ _ _)
  | ((with_reducible refine' r_iget_node ?B ?S ?h1 ?h2 ?_); (case B => assumption); (case S => assumption); (case h1 => walk_at "H"); (case h2 => walk_at "H"); intro _ _ _)
  | ((with_reducible refine' r_iget_succ ?B ?S ?h1 ?h2 ?_); (case B => assumption); (case S => assumption); (case h1 => walk_at "H"); (case h2 => walk_at "H"); intro _ _))

section
variable {prog : Program} {w : World} {A : Around} {E : Value → Shared → Prop} {s : Shared} {h₀ : Heap} {g : Array GenState} {os : OsState} {L : Addr} {m : Loc} {H H' : Led} {x d : Addr} {name : Str} {v v1 v2 v3 v4 : Value}

def info1 (d : Addr) (k : Int) : OP := fun o => ∃ t1, o = ⟨.ref 61, some d, .plain, #[some (.int k t1)]⟩
def info2 (d : Addr) (k np : Int) : OP := fun o => ∃ t1 t2, o = ⟨.ref 61, some d, .plain, #[some (.int k t1), some (.int np t2)]⟩
set_option maxHeartbeats 1000000 in
theorem init_info {k : Int} {t : Tok} {R : Result → Shared → Prop} (B : Bs w h₀) (S : St h₀ g os L m H s) (hroom : A.depth < recursionLimit) (hx : H x = some (instO 61 d)) (hd : H d = some noO)
    (h : ∀ l s', H l = none → l ≠ L → St h₀ g os L m (upd (upd H x (infoO d k 0 l)) l (intsO [])) s' → R (.ok (.ret .none)) s') :
    codeAny (model prog w) A (.call (.ref 57) ⟨[.ref x, .int k t], []⟩) R s := by
  refine r_callC (binds := [(Str.ofString "self", .ref x), (Str.ofString "node", .int k t)]) B S (by rfl) (by kernel_rfl) hroom (BindsTo.of_eq (by rfl)) (by decide) (locs (by rfl)) rfl rfl rfl ?_
  intro L' oL s₁ hL' hLn S₁ back
  have hLo := S.inv.out
  have hxL := S.inv.neL hx
  have hdL := S.inv.neL hd
  have hxd : x ≠ d := fun e => by subst e; rw [hx] at hd; exact absurd (congrFun (Option.some.inj hd) (instObj 61 x)) (by simp [instO, noO])
  repeat walk_at "py"
  refine r_iset (p := 62) (i := 0) (d := d) (P := instO 61 d) (P' := info1 d k) B (by assumption) (by walk_at "HG") ?_ (by walk_at "HG") (by kernel_rfl) (by kernel_rfl) (by kernel_rfl) (by decide) ?_ ?_
  · rintro o rfl; exact ⟨_, rfl⟩
  · intro sl e; cases e; exact ⟨_, rfl⟩
  intro s₂ S₂
  repeat walk_at "py"
  refine r_iset (p := 63) (i := 1) (d := d) (P := info1 d k) (P' := info2 d k 0) B (by assumption) (by walk_at "HG") ?_ (by walk_at "HG") (by kernel_rfl) (by kernel_rfl) (by kernel_rfl) (by decide) ?_ ?_
  · rintro o ⟨_, rfl⟩; exact ⟨_, rfl⟩
  · rintro sl ⟨_, e⟩; cases e; exact ⟨_, _, rfl⟩
  intro s₃ S₃
  repeat walk_at "py"
  rename_i l s₄ hl1 hl2 S₄
  refine r_iset (p := 64) (i := 2) (d := d) (P := info2 d k 0) (P' := infoO d k 0 l) B (by assumption) (by walk_at "HG") ?_ (by walk_at "HG") (by kernel_rfl) (by kernel_rfl) (by kernel_rfl) (by decide) ?_ ?_
  · rintro o ⟨_, _, rfl⟩; exact ⟨_, rfl⟩
  · rintro sl ⟨_, _, e⟩; cases e; exact ⟨_, _, rfl⟩
  intro s₅ S₅
  repeat walk_at "py"
  have S₆ := S₅.imp (a := l) (P := listO []) (P' := intsO []) (by grind [upd]) (listO.ints .nil)
  exact h l s₅ (by grind [upd]) (by grind [upd]) ((back _ _ _ _ S₆ (by grind [upd])).weaken (by walk_at "sub"))
end

/-! ## The names of the top -/
section
variable (w : World)
theorem gl_NodeInfo : nsIn (KK w) mainGlobals (Str.ofString "_NodeInfo") = some (some (.ref 61)) := by kernel_rfl
theorem gl_CycleError : nsIn (KK w) mainGlobals (Str.ofString "CycleError") = some (some (.ref 76)) := by kernel_rfl
theorem gl_TopologicalSorter : nsIn (KK w) mainGlobals (Str.ofString "TopologicalSorter") = some (some (.ref 158)) := by kernel_rfl
theorem gl_iter_escaped_chars : nsIn (KK w) mainGlobals (Str.ofString "_iter_escaped_chars") = some (some (.ref 28)) := by kernel_rfl
theorem gl_strip_quoted_realnames : nsIn (KK w) mainGlobals (Str.ofString "_strip_quoted_realnames") = some (some (.ref 35)) := by kernel_rfl
theorem gl_check_parenthesis : nsIn (KK w) mainGlobals (Str.ofString "_check_parenthesis") = some (some (.ref 42)) := by kernel_rfl
theorem gl_law_seen : nsIn (KK w) mainGlobals (Str.ofString "_law_seen") = some (some (.ref 169)) := by kernel_rfl
theorem gl_law_needs : nsIn (KK w) mainGlobals (Str.ofString "_law_needs") = some (some (.ref 174)) := by kernel_rfl
theorem gl_law_sorted : nsIn (KK w) mainGlobals (Str.ofString "_law_sorted") = some (some (.ref 181)) := by kernel_rfl
theorem gb_len : nsIn (KK w) mainGlobals (Str.ofString "len") = some none := by kernel_rfl
theorem gb_range : nsIn (KK w) mainGlobals (Str.ofString "range") = some none := by kernel_rfl
theorem gb_enumerate : nsIn (KK w) mainGlobals (Str.ofString "enumerate") = some none := by kernel_rfl
theorem gb_zip : nsIn (KK w) mainGlobals (Str.ofString "zip") = some none := by kernel_rfl
theorem gb_list : nsIn (KK w) mainGlobals (Str.ofString "list") = some none := by kernel_rfl
theorem gb_tuple : nsIn (KK w) mainGlobals (Str.ofString "tuple") = some none := by kernel_rfl
theorem gb_iter : nsIn (KK w) mainGlobals (Str.ofString "iter") = some none := by kernel_rfl
theorem gb_bool : nsIn (KK w) mainGlobals (Str.ofString "bool") = some none := by kernel_rfl
theorem gb_set : nsIn (KK w) mainGlobals (Str.ofString "set") = some none := by kernel_rfl
theorem gb_StopIteration : nsIn (KK w) mainGlobals (Str.ofString "StopIteration") = some none := by kernel_rfl
end
theorem bb_len : bootBuiltins (Str.ofString "len") = some (.builtin "len") := by kernel_rfl
theorem bb_range : bootBuiltins (Str.ofString "range") = some (.type "range") := by kernel_rfl
theorem bb_enumerate : bootBuiltins (Str.ofString "enumerate") = some (.type "enumerate") := by kernel_rfl
theorem bb_zip : bootBuiltins (Str.ofString "zip") = some (.type "zip") := by kernel_rfl
theorem bb_list : bootBuiltins (Str.ofString "list") = some (.type "list") := by kernel_rfl
theorem bb_tuple : bootBuiltins (Str.ofString "tuple") = some (.type "tuple") := by kernel_rfl
theorem bb_iter : bootBuiltins (Str.ofString "iter") = some (.builtin "iter") := by kernel_rfl
theorem bb_bool : bootBuiltins (Str.ofString "bool") = some (.type "bool") := by kernel_rfl
theorem bb_set : bootBuiltins (Str.ofString "set") = some (.type "set") := by kernel_rfl
theorem bb_StopIteration : bootBuiltins (Str.ofString "StopIteration") = some (.type "StopIteration") := by kernel_rfl

theorem r_asub {M : Model} {A : Around} {E : Value → Shared → Prop} {s : Shared} {env : Env} {o i : PySem.Expr} {pos : Pos} {v : Value} {Q : Unit → Shared → Prop}
    (h : wpAny M A (eval o env) (fun ov s₁ => wpAny M A (eval i env) (fun iv s₂ => wpAny M A (setItem ov iv v) Q E s₂) E s₁) E s) : wpAny M A (assign (.Subscript o i pos) env v) Q E s := fun Γ p hΓ => by
  simp only [assign_Subscript, Sem.wp_bind', Sem.wp_holding, Sem.wp_cmd_standAt, Sem.wp_release]
  exact Sem.wp_mono M Γ _ (fun ov p₂ s₂ h₂ => Sem.wp_mono M Γ _ (fun iv _ s₃ h₃ => h₃ Γ _ hΓ) (fun _ _ _ h' => h') _ _ (h₂ Γ p₂ hΓ)) (fun _ _ _ h' => h') _ _ (h Γ p hΓ)
/-! ## dicts keyed by ints -/
section
variable {prog : Program} {w : World} {A : Around} {E : Value → Shared → Prop} {s : Shared} {h₀ : Heap} {g : Array GenState} {os : OsState} {L : Addr} {m : Loc} {H H' : Led} {d : Addr} {kvs : List (Int × Value)} {k : Int} {t : Tok}
theorem r_getMethod_dict {name : Str} {id : String} {pl : Sem Bool} {Q : Value × List Value → Shared → Prop} (S : St h₀ g os L m H s) (e : H d = some (idictO prog w kvs)) (slot : Slot "dict" name id)
    (hty : typeOf (.builtin id) = pure (.type "method_descriptor")) (h : Q (.builtin id, [.ref d]) s) : wpAny (model prog w) A (getMethod (.ref d) name pl) Q E s :=
  getMethod_builtin (S.dict e).typeIs PySem.F.plainAttrs_dict slot hty (S.dict e).mapOf.noDict h
theorem r_dget {Q : Value → Shared → Prop} (B : (d == sysModules) = false) (S : St h₀ g os L m H s) (e : H d = some (idictO prog w kvs)) (h : ∀ s', St h₀ g os L m H s' → Q ((valueAt kvs k).getD .none) s') :
    wpAny (model prog w) A (call (.builtin "dict.get") [.ref d, .int k t]) Q E s :=
  call_meetsIn PySem.F.slot_dict_get (S.dict e).typeIs PySem.F.entry_dict_get (PySem.F.args_dict_get_2 _ _) (meets_dict_get (intKind prog w) d (intKind_is prog w k t) B) ⟨_, (S.dict e).mapOf, h _ ⟨S.inv, S.gens, S.os⟩⟩
theorem r_ditem {value slice : PySem.Expr} {v : Value} {Q : Value → Shared → Prop} (S : St h₀ g os L m H s) (e : H d = some (idictO prog w kvs)) (hv : valueAt kvs k = some v) (h : ∀ s', St h₀ g os L m H s' → Q v s')
    (hs : subscripted slice false (.ref d) (.int k t) = operate [.ref d, .int k t] (getItem (.ref d) (.int k t))) (hg : ∀ r, letTemporaryGo value (.ref d) r = pure ()) :
    wpAny (model prog w) A (subscriptTail value slice (.ref d) (.int k t)) Q E s :=
  subscriptTail_builtin (S.dict e).typeIs slot_dict_getitem.lookup (wpAny_getItem_of (intKind_is prog w k t) (S.dict e).mapOf hv (h _ ⟨S.inv, S.gens, S.os⟩)) hs hg
theorem r_dset {v : Value} {Q : Unit → Shared → Prop} (S : St h₀ g os L m H s) (e : H d = some (idictO prog w kvs)) (hz : kvs.length ≤ 16777216) (h : ∀ s', St h₀ g os L m (upd H d (idictO prog w (stored kvs k v))) s' → Q () s') :
    wpAny (model prog w) A (setItem (.ref d) (.int k t) v) Q E s := by
  refine wpAny_setItem_pairs (hsz := hz) (intKind_is prog w k t) (S.dict e) fun h' hm hs => h _ ⟨S.inv.change e hs.extBut (Heap.dictOf_iff.mp hm), S.gens, S.os⟩
theorem r_din {Q : Value → Shared → Prop} (B : (d == sysModules) = false) (S : St h₀ g os L m H s) (e : H d = some (idictO prog w kvs)) (h : ∀ s', St h₀ g os L m H s' → Q (.bool (valueAt kvs k).isSome) s') :
    wpAny (model prog w) A (compareOp .In (.int k t) (.ref d)) Q E s := wpAny_in_of (intKind_is prog w k t) B (S.dict e).mapOf (h _ ⟨S.inv, S.gens, S.os⟩)
end

/-! ## The graph -/
structure GN where
  k : Int
  np : Int
  sc : List Int
  ia : Addr
  da : Addr
  la : Addr

def pairsOf (G : List GN) : List (Int × Value) := G.map fun n => (n.k, Value.ref n.ia)
structure Gr (prog : Program) (w : World) (H : Led) (D : Addr) (G : List GN) : Prop where
  low : (D == sysModules) = false
  dict : H D = some (idictO prog w (pairsOf G))
  info : ∀ n ∈ G, H n.ia = some (infoO n.da n.k n.np n.la)
  dct : ∀ n ∈ G, H n.da = some noO
  lst : ∀ n ∈ G, H n.la = some (intsO n.sc)
  keys : (G.map (·.k)).Nodup
  sepD : ∀ n ∈ G, n.ia ≠ D ∧ n.da ≠ D ∧ n.la ≠ D
  sep : ∀ n ∈ G, ∀ n' ∈ G, n.ia ≠ n'.da ∧ n.ia ≠ n'.la ∧ n.la ≠ n'.da ∧ (n.ia = n'.ia → n = n') ∧ (n.la = n'.la → n = n')
def Off (D : Addr) (G : List GN) (a : Addr) : Prop := a ≠ D ∧ ∀ n ∈ G, a ≠ n.ia ∧ a ≠ n.da ∧ a ≠ n.la
/-- what a call of the sorter keeps of the rest -/
def Keeps (D : Addr) (G G' : List GN) (H H' : Led) : Prop := ∀ a P, H a = some P → Off D G a → H' a = some P ∧ Off D G' a
theorem Keeps.refl (D : Addr) (G : List GN) (H : Led) : Keeps D G G H H := fun _ _ e o => ⟨e, o⟩
theorem Keeps.trans {D : Addr} {G G' G'' : List GN} {H H' H'' : Led} (x : Keeps D G G' H H') (y : Keeps D G' G'' H' H'') : Keeps D G G'' H H'' := fun a P e o => y a P (x a P e o).1 (x a P e o).2
theorem Off.of_none {prog : Program} {w : World} {H : Led} {D : Addr} {G : List GN} {a : Addr} (Y : Gr prog w H D G) (e : H a = none) : Off D G a :=
  ⟨led_ne' e Y.dict, fun n hn => ⟨led_ne' e (Y.info n hn), led_ne' e (Y.dct n hn), led_ne' e (Y.lst n hn)⟩⟩
theorem Gr.off {prog : Program} {w : World} {H H' : Led} {D : Addr} {G : List GN} (Y : Gr prog w H D G) (k : ∀ a P, H a = some P → ¬ Off D G a → H' a = some P) : Gr prog w H' D G :=
  ⟨Y.low, k _ _ Y.dict fun o => o.1 rfl, fun n hn => k _ _ (Y.info n hn) fun o => (o.2 n hn).1 rfl, fun n hn => k _ _ (Y.dct n hn) fun o => (o.2 n hn).2.1 rfl, fun n hn => k _ _ (Y.lst n hn) fun o => (o.2 n hn).2.2 rfl, Y.keys, Y.sepD, Y.sep⟩
theorem Gr.upd {prog : Program} {w : World} {H : Led} {D : Addr} {G : List GN} {a : Addr} {P : OP} (Y : Gr prog w H D G) (o : Off D G a) : Gr prog w (upd H a P) D G :=
  Y.off fun b Q e n => upd_of (fun q => n (by subst q; exact o)) e
theorem Gr.del {prog : Program} {w : World} {H : Led} {D : Addr} {G : List GN} {a : Addr} (Y : Gr prog w H D G) (o : Off D G a) : Gr prog w (del H a) D G :=
  Y.off fun b Q e n => (del_ne _ (fun q => n (by subst q; exact o))).trans e

theorem find_of_key {G : List GN} (hn : (G.map (·.k)).Nodup) {n : GN} (h : n ∈ G) : G.find? (fun x => x.k = n.k) = some n := by
  induction G with
  | nil => cases h
  | cons x G ih =>
    rw [List.map_cons, List.nodup_cons] at hn
    rw [List.find?_cons]
    rcases List.mem_cons.mp h with rfl | h
    · simp
    · have : x.k ≠ n.k := fun e => hn.1 (e ▸ List.mem_map_of_mem h)
      simp only [this, decide_false]
      exact ih hn.2 h
theorem valueAt_pairs (G : List GN) (k : Int) : valueAt (pairsOf G) k = (G.find? (fun x => x.k = k)).map fun n => Value.ref n.ia := by
  unfold valueAt pairsOf
  rw [List.find?_map, Option.map_map]
  rfl
theorem stored_new {G : List GN} {k : Int} {v : Value} (h : G.find? (fun x => x.k = k) = none) : stored (pairsOf G) k v = pairsOf G ++ [(k, v)] := by
  unfold stored
  rw [if_neg]
  intro e
  obtain ⟨p, hp, e⟩ := List.any_eq_true.mp e
  obtain ⟨n, hn, rfl⟩ := List.mem_map.mp hp
  have := List.find?_eq_none.mp h n hn
  exact this e


theorem Gr.snoc {prog : Program} {w : World} {H H' : Led} {D : Addr} {G : List GN} {n : GN} (Y : Gr prog w H D G) (hf : G.find? (fun x => x.k = n.k) = none) (h1 : H n.ia = none) (h2 : H n.da = none) (h3 : H n.la = none)
    (n1 : n.ia ≠ n.da) (n2 : n.la ≠ n.ia) (n3 : n.la ≠ n.da) (e : ∀ a P, H a = some P → a ≠ D → H' a = some P)
    (eD : H' D = some (idictO prog w (pairsOf G ++ [(n.k, .ref n.ia)]))) (ei : H' n.ia = some (infoO n.da n.k n.np n.la)) (ed : H' n.da = some noO) (el : H' n.la = some (intsO n.sc)) :
    Gr prog w H' D (G ++ [n]) ∧ Keeps D G (G ++ [n]) H H' := by
  have o1 := Off.of_none Y h1
  have o2 := Off.of_none Y h2
  have o3 := Off.of_none Y h3
  refine ⟨⟨Y.low, by rw [eD]; simp [pairsOf], ?_, ?_, ?_, ?_, ?_, ?_⟩, ?_⟩
  · intro x hx
    rcases List.mem_append.mp hx with hx | hx
    · exact e _ _ (Y.info x hx) (Y.sepD x hx).1
    · cases List.mem_singleton.mp hx; exact ei
  · intro x hx
    rcases List.mem_append.mp hx with hx | hx
    · exact e _ _ (Y.dct x hx) (Y.sepD x hx).2.1
    · cases List.mem_singleton.mp hx; exact ed
  · intro x hx
    rcases List.mem_append.mp hx with hx | hx
    · exact e _ _ (Y.lst x hx) (Y.sepD x hx).2.2
    · cases List.mem_singleton.mp hx; exact el
  · rw [List.map_append, List.nodup_append]
    refine ⟨Y.keys, by simp, ?_⟩
    intro a ha b hb
    simp only [List.map_cons, List.map_nil, List.mem_singleton] at hb
    subst hb
    obtain ⟨x, hx, rfl⟩ := List.mem_map.mp ha
    exact fun q => List.find?_eq_none.mp hf x hx (by simp [q])
  · intro x hx
    rcases List.mem_append.mp hx with hx | hx
    · exact Y.sepD x hx
    · cases List.mem_singleton.mp hx; exact ⟨o1.1, o2.1, o3.1⟩
  · intro x hx y hy
    rcases List.mem_append.mp hx with hx | hx <;> rcases List.mem_append.mp hy with hy | hy
    · exact Y.sep x hx y hy
    · cases List.mem_singleton.mp hy
      have a1 := o1.2 x hx
      have a2 := o2.2 x hx
      have a3 := o3.2 x hx
      exact ⟨Ne.symm a2.1, Ne.symm a3.1, Ne.symm a2.2.2, fun q => absurd q.symm a1.1, fun q => absurd q.symm a3.2.2⟩
    · cases List.mem_singleton.mp hx
      have a1 := o1.2 y hy
      have a2 := o2.2 y hy
      have a3 := o3.2 y hy
      exact ⟨a1.2.1, a1.2.2, a3.2.1, fun q => absurd q a1.1, fun q => absurd q a3.2.2⟩
    · cases List.mem_singleton.mp hx; cases List.mem_singleton.mp hy
      exact ⟨n1, Ne.symm n2, n3, fun _ => rfl, fun _ => rfl⟩
  · intro a P ha oa
    refine ⟨e a P ha oa.1, oa.1, fun x hx => ?_⟩
    rcases List.mem_append.mp hx with hx | hx
    · exact oa.2 x hx
    · cases List.mem_singleton.mp hx; exact ⟨led_ne h1 ha, led_ne h2 ha, led_ne h3 ha⟩

theorem Off.snoc {D : Addr} {G : List GN} {n : GN} {a : Addr} (o : Off D G a) (h1 : a ≠ n.ia) (h2 : a ≠ n.da) (h3 : a ≠ n.la) : Off D (G ++ [n]) a := ⟨o.1, fun x hx => by
  rcases List.mem_append.mp hx with hx | hx
  · exact o.2 x hx
  · cases List.mem_singleton.mp hx; exact ⟨h1, h2, h3⟩⟩
local macro_rules | `(tactic| walk_at "py") => `(tactic| first
  | ((with_reducible refine' r_ng ?B ?S ?e ?_ ?hk ?hx ?hd); (case hx => with_unfolding_all rfl); (case B => assumption); (case S => assumption); (case e => first | exact gl_NodeInfo _ | exact gl_CycleError _ | exact gl_TopologicalSorter _ | exact gl_iter_escaped_chars _ | exact gl_strip_quoted_realnames _ | exact gl_check_parenthesis _ | exact gl_law_seen _ | exact gl_law_needs _ | exact gl_law_sorted _); (case hk => rfl); (case hd => decide))
  | ((with_reducible refine' r_nb ?B ?S ?e ?hv ?hn ?_ ?hk ?hx ?hd); (case hx => with_unfolding_all rfl); (case B => assumption); (case S => assumption); (case hv => first | exact bb_len | exact bb_range | exact bb_enumerate | exact bb_zip | exact bb_list | exact bb_tuple | exact bb_iter | exact bb_bool | exact bb_set | exact bb_StopIteration); (case e => first | exact gb_len _ | exact gb_range _ | exact gb_enumerate _ | exact gb_zip _ | exact gb_list _ | exact gb_tuple _ | exact gb_iter _ | exact gb_bool _ | exact gb_set _ | exact gb_StopIteration _); (case hn => decide); (case hk => rfl); (case hd => decide))
  | ((with_reducible show wpAny _ _ (getMethod (Value.ref _) (Str.ofString "get") _) _ _ _); refine' r_getMethod_dict ?S ?e PySem.F.slot_dict_get PySem.F.type_dict_get ?_; (case S => assumption); (case e => walk_at "H"))
  | ((with_reducible show wpAny _ _ (callWith _ (Value.ref _) _ _ _) _ _ _); refine' callWith_K (K := KK _) ?X ?hk ?_ ?he ?hp; (case X => exact Bs.X (by assumption)); (case hk => kernel_rfl); (case he => rfl); (case hp => rfl))
  | ((with_reducible show wpAny _ _ (callWith _ (Value.ref _) _ _ _) _ _ _); refine' callWith_K0 (K := KK _) ?X ?hk ?_; (case X => exact Frag.In.keeps (Bs.X (by assumption)) (Inv.keep (St.inv (by assumption)))); (case hk => kernel_rfl))
  | ((with_reducible refine' And.intro (a := Frag.In (KK _) _) ?X ?_); (case X => exact Frag.In.keeps (Bs.X (by assumption)) (Inv.keep (St.inv (by assumption)))))
  | with_reducible refine r_asub ?_)

section
variable {prog : Program} {w : World} {A : Around} {E : Value → Shared → Prop} {s : Shared} {h₀ : Heap} {g : Array GenState} {os : OsState} {L : Addr} {m : Loc} {H H' : Led} {x d D : Addr} {G : List GN} {name : Str} {v r v3 v4 : Value}

set_option maxHeartbeats 1000000 in
theorem get_info {k : Int} {t : Tok} {R : Result → Shared → Prop} (B : Bs w h₀) (S : St h₀ g os L m H s) (hroom : A.depth + 5 < recursionLimit) (Y : Gr prog w H D G) (hx : H x = some (instO 158 d)) (hd : H d = some (sdictO w (.ref D) r v3 v4)) (ox : Off D G x) (od : Off D G d) (oL : Off D G L)
    (hz : G.length ≤ 1000)
    (h1 : ∀ n s', G.find? (fun x => x.k = k) = some n → St h₀ g os L m H s' → R (.ok (.ret (.ref n.ia))) s')
    (h2 : ∀ n H' s', G.find? (fun x => x.k = k) = none → n.k = k → n.np = 0 → n.sc = [] → Gr prog w H' D (G ++ [n]) → Keeps D G (G ++ [n]) H H' → Off D (G ++ [n]) L → St h₀ g os L m H' s' → R (.ok (.ret (.ref n.ia))) s') :
    codeAny (model prog w) A (.call (.ref 101) ⟨[.ref x, .int k t], []⟩) R s := by
  refine r_callC (binds := [(Str.ofString "self", .ref x), (Str.ofString "node", .int k t)]) B S (by rfl) (by kernel_rfl) (by omega) (BindsTo.of_eq (by rfl)) (by decide) (locs (by rfl)) rfl rfl rfl ?_
  intro L' oL' s₁ hL' hLn S₁ back
  have hLo := S.inv.out
  have hxL := S.inv.neL hx
  have hdL := S.inv.neL hd
  have hDL := S.inv.neL Y.dict
  have hD := Y.dict
  repeat walk_at "py"
  refine r_dget Y.low (by assumption) (by walk_at "HG") ?_
  intro s₂ S₂
  rw [valueAt_pairs]
  cases hf : G.find? (fun x => x.k = k) with
  | some n =>
    simp only [Option.map_some, Option.getD_some]
    repeat walk_at "py"
    rename_i s₃ S₃
    exact h1 n s₃ hf ((back _ _ _ _ S₃ (by walk_at "HG")).weaken (by walk_at "sub"))
  | none =>
    simp only [Option.map_none, Option.getD_none]
    repeat walk_at "py"
    rename_i s₃ S₃
    refine r_make (fI := 57) B S₃ (by kernel_rfl) (by kernel_rfl) (by kernel_rfl) ?_
    intro i di s₄ hi hdi hid hiL hdL₂ S₄
    obtain ⟨hiL₂, hi⟩ := upd_none hi
    obtain ⟨hdL₃, hdi⟩ := upd_none hdi
    refine init_info B S₄ ?_ (by walk_at "HG") (by walk_at "HG") ?_
    · simp only [depth_under_make, depth_deeper]; omega
    intro l s₅ hl hlL S₅
    obtain ⟨hli, hl⟩ := upd_none hl
    obtain ⟨hldi, hl⟩ := upd_none hl
    obtain ⟨hlL₂, hl⟩ := upd_none hl
    refine ⟨rfl, ?_⟩
    repeat walk_at "py"
    refine r_dset (by assumption) (by walk_at "HG") (by simp [pairsOf]; omega) ?_
    rw [stored_new hf]
    intro s₆ S₆
    repeat walk_at "py"
    rename_i s₇ S₇
    have S₈ := back _ _ _ _ S₇ (by grind [upd])
    revert S₈
    generalize hH : del _ L = H8
    intro S₈
    obtain ⟨Y', K'⟩ := Gr.snoc (n := ⟨k, 0, [], i, di, l⟩) (H' := H8) Y hf hi hdi hl hid hli hldi
      (by subst hH; intro aa PP e1 e2; grind [upd, del]) (by subst hH; grind [upd, del]) (by subst hH; grind [upd, del]) (by subst hH; grind [upd, del]) (by subst hH; grind [upd, del])
    exact h2 _ _ _ hf rfl rfl rfl Y' K' (oL.snoc (Ne.symm hiL₂) (Ne.symm hdL₃) (Ne.symm hlL₂)) S₈
end

/-! ## Loops, turn by turn; iterators -/
section
variable {prog : Program} {w : World} {A : Around} {E : Value → Shared → Prop} {s : Shared} {env : Env}
theorem r_For {target iter : PySem.Expr} {body orelse : List Stmt} {pos : Pos} {Q : Flow → Shared → Prop}
    (h : wpAny (model prog w) A (eval iter env) (fun x s₁ => wpAny (model prog w) A (pyIter x) (fun it s₂ => codeAny (model prog w) A (.forLoop target it body orelse env) (LBack (model prog w) A env Q E) s₂) E s₁) E s)
    (hs : ∀ x, foldedSetIterable iter env x = pure x) : wpAny (model prog w) A (exec (.For target iter body orelse pos) env) Q E s := wpAny_For h hs
theorem r_for1 {R : Result → Shared → Prop} {target : PySem.Expr} {it : Value} {body orelse : List Stmt}
    (h : wpAny (model prog w) A (pyNext it) (fun r s₁ => match r with
      | none => wpAny (model prog w) A (execs orelse env) (fun f s₃ => R (.ok f) s₃) (notedBy (model prog w) A env fun e s' => R (.error e) s') s₁
      | some v => wpAny (model prog w) A (letOwnedTupleGo target it v) (fun _ s₂ => wpAny (model prog w) A (assign target env v) (fun _ s₃ => wpAny (model prog w) A (execs body env) (fun f s₄ => match f with
          | .next => codeAny (model prog w) A (.forLoop target it body orelse env) R s₄
          | .cont => codeAny (model prog w) A (.forLoop target it body orelse env) R s₄
          | .brk => R (.ok .next) s₄
          | .ret v => R (.ok (.ret v)) s₄) (notedBy (model prog w) A env fun e s' => R (.error e) s') s₃) (notedBy (model prog w) A env fun e s' => R (.error e) s') s₂) (notedBy (model prog w) A env fun e s' => R (.error e) s') s₁) (notedBy (model prog w) A env fun e s' => R (.error e) s') s) :
    codeAny (model prog w) A (.forLoop target it body orelse env) R s := by
  refine codeAny_of_tree ?_
  show wpAny _ _ ((forTurn target it body orelse env).onRaise (fun x => do noteFrame x env; theTreesLotGoes x)) _ _ s
  refine wpAny_noted ?_
  simp only [forTurn]
  refine wpAny_bind (wpAny_standAt (wpAny_bind (wpAny_onRaise (wpAny_mono h (fun r s₁ h₁ => ?_) fun _ _ h' => wpAny_standAt h'))))
  cases r with
  | none => exact wpAny_pure ⟨rfl, codeAny_block h₁⟩
  | some v =>
    refine wpAny_bind (wpAny_mono h₁ (fun _ s₂ h₂ => wpAny_bind (wpAny_mono h₂ (fun _ s₃ h₃ => wpAny_bind (wpAny_mono h₃ (fun f s₄ h₄ => ?_) fun _ _ h' => h')) fun _ _ h' => h')) fun _ _ h' => h')
    cases f with
    | next => exact wpAny_pure ⟨rfl, h₄⟩
    | cont => exact wpAny_pure ⟨rfl, h₄⟩
    | brk => exact wpAny_pure h₄
    | ret v => exact wpAny_pure h₄
theorem r_owned {x : Str} {px : Pos} {it v : Value} {Q : Unit → Shared → Prop} (h : Q () s) : wpAny (model prog w) A (letOwnedTupleGo (.Name x px) it v) Q E s := wpAny_pure h
theorem r_While {test : PySem.Expr} {body orelse : List Stmt} {pos : Pos} {Q : Flow → Shared → Prop}
    (h : codeAny (model prog w) A (.whileLoop test body orelse env) (LBack (model prog w) A env Q E) s) : wpAny (model prog w) A (exec (.While test body orelse pos) env) Q E s := wpAny_While h
theorem r_while1 {R : Result → Shared → Prop} {test : PySem.Expr} {body orelse : List Stmt}
    (h : wpAny (model prog w) A (isTrue test env (eval test env)) (fun b s₂ =>
        if b then wpAny (model prog w) A (execs body env) (fun f s₃ => match f with
            | .next => codeAny (model prog w) A (.whileLoop test body orelse env) R s₃
            | .cont => codeAny (model prog w) A (.whileLoop test body orelse env) R s₃
            | .brk => R (.ok .next) s₃
            | .ret v => R (.ok (.ret v)) s₃) (notedBy (model prog w) A env fun e s' => R (.error e) s') s₂
        else wpAny (model prog w) A (execs orelse env) (fun f s₃ => R (.ok f) s₃) (notedBy (model prog w) A env fun e s' => R (.error e) s') s₂)
        (notedBy (model prog w) A env fun e s' => R (.error e) s') s) :
    codeAny (model prog w) A (.whileLoop test body orelse env) R s := by
  refine codeAny_of_tree ?_
  show wpAny _ _ ((whileTurn test body orelse env).onRaise (fun x => do noteFrame x env; theTreesLotGoes x)) _ _ s
  refine wpAny_noted ?_
  simp only [whileTurn]
  refine wpAny_bind (wpAny_mono h (fun b s₂ h₂ => ?_) fun _ _ h' => h')
  cases b with
  | false =>
    simp only [Bool.false_eq_true, if_false] at h₂ ⊢
    exact wpAny_bind (wpAny_mono h₂ (fun f s₃ h₃ => wpAny_pure h₃) fun _ _ h' => h')
  | true =>
    simp only [if_true] at h₂ ⊢
    refine wpAny_bind (wpAny_mono h₂ (fun f s₃ h₃ => ?_) fun _ _ h' => h')
    cases f with
    | next => exact wpAny_pure ⟨rfl, h₃⟩
    | cont => exact wpAny_pure ⟨rfl, h₃⟩
    | brk => exact wpAny_pure h₃
    | ret v => exact wpAny_pure h₃
end

def listIterO (a : Addr) (i : Nat) : OP := fun o => o.cls = .type "list_iterator" ∧ o.data = .fields #[.ref a, .int i 0]
def tupIterO (a : Addr) (i : Nat) : OP := fun o => o.cls = .type "tuple_iterator" ∧ o.data = .fields #[.ref a, .int i 0]
section
variable {prog : Program} {w : World} {A : Around} {E : Value → Shared → Prop} {s : Shared} {h₀ : Heap} {g : Array GenState} {os : OsState} {L : Addr} {m : Loc} {H H' : Led} {a it : Addr} {vs : List Value} {v : Value} {i : Nat}
theorem St.isTup (S : St h₀ g os L m H s) (e : H a = some (tupO vs)) : s.heap.IsTuple a vs.toArray := by
  obtain ⟨o, ho, n, rfl⟩ := S.inv.own _ _ e
  exact ⟨_, ho, rfl, n, rfl⟩
theorem r_iter_list {Q : Value → Shared → Prop} (S : St h₀ g os L m H s) (e : H a = some (listO vs)) (h : ∀ it s', H it = none → it ≠ L → St h₀ g os L m (upd H it (listIterO a 0)) s' → Q (.ref it) s') :
    wpAny (model prog w) A (pyIter (.ref a)) Q E s := wpAny_pyIter_list (S.isList e) (h _ _ S.inv.fresh S.inv.freshL ⟨S.inv.push _ ⟨rfl, rfl⟩, S.gens, S.os⟩)
theorem r_next_list {Q : Option Value → Shared → Prop} (S : St h₀ g os L m H s) (e : H it = some (listIterO a i)) (el : H a = some (listO vs)) (hv : vs[i]? = some v) (h : ∀ s', St h₀ g os L m (upd H it (listIterO a (i + 1))) s' → Q (some v) s') :
    wpAny (model prog w) A (pyNext (.ref it)) Q E s :=
  wpAny_pyNext_list_item (S.inv.own _ _ e) (S.isList el) (by rw [List.getElem?_toArray]; exact hv) fun h' hi hs => h _ ⟨S.inv.change e hs.extBut hi, S.gens, S.os⟩
theorem r_end_list {Q : Option Value → Shared → Prop} (hh : A.handled = none) (S : St h₀ g os L m H s) (e : H it = some (listIterO a i)) (el : H a = some (listO vs)) (hv : vs[i]? = none) (h : ∀ s', St h₀ g os L m (del H it) s' → Q none s') :
    wpAny (model prog w) A (pyNext (.ref it)) Q E s :=
  wpAny_pyNext_list_end hh (S.inv.own _ _ e) (S.isList el) (by rw [List.getElem?_toArray]; exact hv) fun h' hs => h _ ⟨S.inv.lose e hs, S.gens, S.os⟩
theorem r_iter_tup {Q : Value → Shared → Prop} (S : St h₀ g os L m H s) (e : H a = some (tupO vs)) (h : ∀ it s', H it = none → it ≠ L → St h₀ g os L m (upd H it (tupIterO a 0)) s' → Q (.ref it) s') :
    wpAny (model prog w) A (pyIter (.ref a)) Q E s := wpAny_pyIter_tuple (S.isTup e) (h _ _ S.inv.fresh S.inv.freshL ⟨S.inv.push _ ⟨rfl, rfl⟩, S.gens, S.os⟩)
theorem r_next_tup {Q : Option Value → Shared → Prop} (S : St h₀ g os L m H s) (e : H it = some (tupIterO a i)) (el : H a = some (tupO vs)) (hv : vs[i]? = some v) (h : ∀ s', St h₀ g os L m (upd H it (tupIterO a (i + 1))) s' → Q (some v) s') :
    wpAny (model prog w) A (pyNext (.ref it)) Q E s :=
  wpAny_pyNext_tuple_item (S.inv.own _ _ e) (S.isTup el) (by rw [List.getElem?_toArray]; exact hv) fun h' hi hs => h _ ⟨S.inv.change e hs.extBut hi, S.gens, S.os⟩
theorem r_end_tup {Q : Option Value → Shared → Prop} (hh : A.handled = none) (S : St h₀ g os L m H s) (e : H it = some (tupIterO a i)) (el : H a = some (tupO vs)) (hv : vs[i]? = none) (h : ∀ s', St h₀ g os L m (del H it) s' → Q none s') :
    wpAny (model prog w) A (pyNext (.ref it)) Q E s :=
  wpAny_pyNext_tuple_end hh (S.inv.own _ _ e) (S.isTup el) (by rw [List.getElem?_toArray]; exact hv) fun h' hs => h _ ⟨S.inv.lose e hs, S.gens, S.os⟩
theorem r_len_tup {Q : Value → Shared → Prop} (S : St h₀ g os L m H s) (e : H a = some (tupO vs)) (hz : vs.length ≤ 16777216) (h : ∀ t s', St h₀ g os L m H s' → Q (.int vs.length t) s') :
    wpAny (model prog w) A (call (.builtin "len") [.ref a]) Q E s := by
  obtain ⟨o, ho, n, rfl⟩ := S.inv.own _ _ e
  refine len_tuple (items := vs.toArray) ⟨_, ho, rfl, n, rfl⟩ (by rw [List.size_toArray]; omega) ?_
  rw [List.size_toArray]
  exact h _ _ ⟨S.inv, S.gens, S.os⟩
theorem r_len_list {Q : Value → Shared → Prop} (S : St h₀ g os L m H s) (e : H a = some (listO vs)) (hz : vs.length ≤ 16777216) (h : ∀ t s', St h₀ g os L m H s' → Q (.int vs.length t) s') :
    wpAny (model prog w) A (call (.builtin "len") [.ref a]) Q E s := by
  refine len_list (S.isList e) (by rw [List.size_toArray]; omega) ?_
  rw [List.size_toArray]
  exact h _ _ ⟨S.inv, S.gens, S.os⟩

/-- a def with a star parameter is called -/
theorem r_callV {R : Result → Shared → Prop} {f : Addr} {oc : Value} {od : Option Addr} {osl : Array (Option Value)} {name qual : Str} {params : Arguments} {body : List Stmt} {scope : Scope} {dV kV doc pm : Value} {an : Option Addr} {cdv ct : Value}
    {args : Args} {rest : List Value} {binds : Value → List (Str × Value)} (B : Bs w h₀) (S : St h₀ g os L m H s)
    (hl : (KK w).lookup f = some ⟨oc, od, .func (fnOf name qual params body scope dV kV doc pm an cdv ct), osl⟩) (hcd : codeIn (KK w) cdv qual = true) (hroom : A.depth < recursionLimit)
    (hbind : bindArgs (fnOf name qual params body scope dV kV doc pm an cdv ct) args = newTuple rest >>= fun t => pure (binds t)) (hz : rest.length ≤ 16777216) (hcell : ∀ x ∈ scope.names, x.2 ≠ .cell) (hloc : ∀ t, ∀ x ∈ binds t, scope.names.lookup x.1 = some .local)
    (hco : scope.isCoroutine = false) (hgen : scope.isGenerator = false) (hk : scope.kind = .function)
    (h : ∀ t L' oL s₁, L' ≠ L → H L' = none → H t = none → t ≠ L → t ≠ L' → St h₀ g os L' (fun y => (binds (.ref t)).reverse.lookup y) (upd (upd H t (tupO rest)) L (frO oL)) s₁ →
      (∀ g' m' H' s', St h₀ g' os L' m' H' s' → H' L = some (frO oL) → St h₀ g' os L m (del H' L) s') →
      wpAny (model prog w) (A.deeper (envX qual scope L' f cdv [])) (execs body (envX qual scope L' f cdv [])) (fun fl s' => R (.ok (.ret (match fl with | .ret v => v | _ => .none))) s')
        (fun e s' => wpAny (model prog w) (A.deeper (envX qual scope L' f cdv [])) (leaving (envX qual scope L' f cdv []) e) (fun _ s'' => R (.error e) s'') (fun e' s'' => R (.error e') s'') s') s₁) :
    codeAny (model prog w) A (.call (.ref f) args) R s := by
  obtain ⟨p, loose, mg, mb, T⟩ := B.T
  have X := B.X.keeps S.inv.keep
  refine codeAny_call_function (body := body) hroom (X _ _ hl) rfl hco hgen rfl (codeRec_of X hcd) ?_
  rw [hbind]
  refine wpAny_bind (r_newTuple S hz fun t s₁ ht htL S₁ => wpAny_pure ?_)
  refine wpAny_newFunctionEnv hcell (hloc _) (fun h₁ hns hsb => ⟨(T.nolimit.keeps S₁.inv.keep).fresh _ hsb, codeAny_func ?_⟩) hk
  obtain ⟨oL, es, ep, hL, hr⟩ := S₁.inv.ns
  have k₁ : ∀ b o, s₁.heap.get? b = some o → h₁.get? b = some o := fun b o e => hsb.extBut b o (Nat.ne_of_lt (Heap.lt_size e)) (Heap.get?_push_of_some _ e)
  have f1 := upd_none S₁.inv.fresh
  exact h t s₁.heap.objs.size oL _ S₁.inv.freshL f1.2 ht htL (Ne.symm f1.1) ⟨S₁.inv.enter hL hns k₁ rfl, S₁.gens, S₁.os⟩
    fun g' m' H' s' S' e => ⟨S'.inv.back e hL ⟨oL, es, ep, hL, hr⟩ S₁.inv.above, S'.gens, S'.os⟩
end

/-! lists of ints -/
theorem ints_snoc {vs : List Value} {ns : List Int} (h : IntsAre vs ns) (k : Int) (t : Tok) : IntsAre (vs ++ [.int k t]) (ns ++ [k]) := by
  induction h with
  | nil => exact .cons k t .nil
  | cons n u _ ih => exact .cons n u ih
theorem ints_len {vs : List Value} {ns : List Int} (h : IntsAre vs ns) : vs.length = ns.length := by
  induction h with
  | nil => rfl
  | cons n u _ ih => simp [ih]
theorem ints_at {vs : List Value} {ns : List Int} (h : IntsAre vs ns) : ∀ i : Nat, (∃ n t, ns[i]? = some n ∧ vs[i]? = some (.int n t)) ∨ (ns[i]? = none ∧ vs[i]? = none) := by
  induction h with
  | nil => intro i; exact .inr ⟨by simp, by simp⟩
  | cons n u _ ih =>
    intro i
    cases i with
    | zero => exact .inl ⟨n, u, rfl, rfl⟩
    | succ i => simpa using ih i
section
variable {prog : Program} {w : World} {A : Around} {E : Value → Shared → Prop} {s : Shared} {h₀ : Heap} {g : Array GenState} {os : OsState} {L : Addr} {m : Loc} {H H' : Led} {a it x d : Addr} {ns : List Int} {k np : Int} {t : Tok} {i : Nat}
/-- a list of ints, opened: some values, in the ledger itself -/
theorem St.ints (S : St h₀ g os L m H s) (e : H a = some (intsO ns)) : ∃ vs, IntsAre vs ns ∧ St h₀ g os L m (upd H a (listO vs)) s := by
  obtain ⟨o, ho, vs, n, hv, rfl⟩ := S.inv.own _ _ e
  exact ⟨vs, hv, S.inv.change e (Heap.ExtBut.refl _ _) ⟨_, ho, n, rfl⟩, S.gens, S.os⟩
theorem upd_upd (H : Led) (a : Addr) (P P' : OP) : upd (upd H a P) a P' = upd H a P' := by
  funext b
  unfold upd
  split <;> simp_all
theorem upd_eq {H : Led} {a : Addr} {P : OP} (e : H a = some P) : upd H a P = H := by
  funext b
  unfold upd
  split
  · subst b; exact e.symm
  · rfl
theorem r_append_ints {Q : Value → Shared → Prop} (S : St h₀ g os L m H s) (e : H a = some (intsO ns)) (hz : ns.length ≤ 16777216)
    (h : ∀ s', St h₀ g os L m (upd H a (intsO (ns ++ [k]))) s' → Q .none s') : wpAny (model prog w) A (call (.builtin "list.append") [.ref a, .int k t]) Q E s := by
  obtain ⟨vs, hv, S'⟩ := S.ints e
  refine r_append S' (upd_same _ _ _) (by rw [ints_len hv]; exact hz) fun s' S'' => h s' ?_
  rw [upd_upd] at S''
  have := S''.imp (upd_same _ _ _) (listO.ints (ints_snoc hv k t))
  rwa [upd_upd] at this
theorem r_getMethod_ints {name : Str} {id : String} {pl : Sem Bool} {Q : Value × List Value → Shared → Prop} (S : St h₀ g os L m H s) (e : H a = some (intsO ns)) (slot : Slot "list" name id)
    (hty : typeOf (.builtin id) = pure (.type "method_descriptor")) (h : Q (.builtin id, [.ref a]) s) : wpAny (model prog w) A (getMethod (.ref a) name pl) Q E s := by
  obtain ⟨vs, hv, S'⟩ := S.ints e
  exact r_getMethod_list S' (upd_same _ _ _) slot hty h
theorem r_iter_ints {Q : Value → Shared → Prop} (S : St h₀ g os L m H s) (e : H a = some (intsO ns)) (h : ∀ it s', H it = none → it ≠ L → St h₀ g os L m (upd H it (listIterO a 0)) s' → Q (.ref it) s') :
    wpAny (model prog w) A (pyIter (.ref a)) Q E s := by
  obtain ⟨o, ho, vs, n, hv, rfl⟩ := S.inv.own _ _ e
  exact wpAny_pyIter_list ⟨_, ho, rfl, n, rfl⟩ (h _ _ S.inv.fresh S.inv.freshL ⟨S.inv.push _ ⟨rfl, rfl⟩, S.gens, S.os⟩)
theorem r_next_ints {Q : Option Value → Shared → Prop} (S : St h₀ g os L m H s) (e : H it = some (listIterO a i)) (el : H a = some (intsO ns)) (hv : ns[i]? = some k) (h : ∀ t s', St h₀ g os L m (upd H it (listIterO a (i + 1))) s' → Q (some (.int k t)) s') :
    wpAny (model prog w) A (pyNext (.ref it)) Q E s := by
  obtain ⟨o, ho, vs, n, hi, rfl⟩ := S.inv.own _ _ el
  rcases ints_at hi i with ⟨n', t, e1, e2⟩ | ⟨e1, _⟩
  · rw [hv] at e1; cases e1
    exact wpAny_pyNext_list_item (items := vs.toArray) (S.inv.own _ _ e) ⟨_, ho, rfl, n, rfl⟩ (by rw [List.getElem?_toArray]; exact e2) fun h' hi hs => h _ _ ⟨S.inv.change e hs.extBut hi, S.gens, S.os⟩
  · rw [hv] at e1; cases e1
theorem r_end_ints {Q : Option Value → Shared → Prop} (hh : A.handled = none) (S : St h₀ g os L m H s) (e : H it = some (listIterO a i)) (el : H a = some (intsO ns)) (hv : ns[i]? = none) (h : ∀ s', St h₀ g os L m (del H it) s' → Q none s') :
    wpAny (model prog w) A (pyNext (.ref it)) Q E s := by
  obtain ⟨o, ho, vs, n, hi, rfl⟩ := S.inv.own _ _ el
  rcases ints_at hi i with ⟨n', t, e1, e2⟩ | ⟨_, e2⟩
  · rw [hv] at e1; cases e1
  · exact wpAny_pyNext_list_end hh (items := vs.toArray) (S.inv.own _ _ e) ⟨_, ho, rfl, n, rfl⟩ (by rw [List.getElem?_toArray]; exact e2) fun h' hs => h _ ⟨S.inv.lose e hs, S.gens, S.os⟩
theorem r_iset_np {l : Addr} {np' : Int} {Q : Unit → Shared → Prop} (B : Bs w h₀) (S : St h₀ g os L m H s) (h1 : H x = some (infoO d k np l)) (h2 : H d = some noO)
    (h : ∀ s', St h₀ g os L m (upd H x (infoO d k np' l)) s' → Q () s') : wpAny (model prog w) A (setAttr (.ref x) (Str.ofString "npredecessors") (.int np' t)) Q E s := by
  refine r_iset (p := 63) (i := 1) (d := d) (P := infoO d k np l) (P' := infoO d k np' l) B S h1 ?_ h2 (by kernel_rfl) (by kernel_rfl) (by kernel_rfl) (by decide) ?_ h
  · rintro o ⟨_, _, rfl⟩; exact ⟨_, rfl⟩
  · rintro sl ⟨_, _, e⟩; cases e; exact ⟨_, _, rfl⟩
end
local macro_rules | `(tactic| walk_at "py") => `(tactic| first
  | ((with_reducible refine' r_For ?_ ?hs); (case hs => (intro _; rfl)))
  | with_reducible refine r_While ?_
  | with_reducible refine r_owned ?_
  | ((with_reducible refine' r_iter_list ?S ?e ?_); (case S => assumption); (case e => walk_at "H"); intro _ _ _ _ _)
  | ((with_reducible refine' r_iter_tup ?S ?e ?_); (case S => assumption); (case e => walk_at "H"); intro _ _ _ _ _)
  | ((with_reducible refine' r_len_tup ?S ?e ?hz ?_); (case S => assumption); (case e => walk_at "H"); (case hz => (simp; done)); intro _ _ _)
  | with_reducible refine wpAny_Break ?_
  | with_reducible refine wpAny_Continue ?_
  | ((with_reducible refine' r_iset_np ?B ?S ?h1 ?h2 ?_); (case B => assumption); (case S => assumption); (case h1 => walk_at "H"); (case h2 => walk_at "H"); intro _ _)
  | ((with_reducible show wpAny _ _ (getMethod (Value.ref _) (Str.ofString "append") _) _ _ _); refine' r_getMethod_ints ?S ?e PySem.F.slot_list_append PySem.F.type_list_append ?_; (case S => assumption); (case e => walk_at "H"))
  | ((with_reducible refine' r_iter_ints ?S ?e ?_); (case S => assumption); (case e => walk_at "H"); intro _ _ _ _ _))

/-! ## The graph as plain data -/
structure PN where
  k : Int
  np : Int
  sc : List Int
  deriving DecidableEq
def GN.pn (n : GN) : PN := ⟨n.k, n.np, n.sc⟩
def getP (g : List PN) (k : Int) : List PN := if g.any (fun n => n.k == k) then g else g ++ [⟨k, 0, []⟩]
def setP (g : List PN) (k : Int) (f : PN → PN) : List PN := g.map fun n => if n.k = k then f n else n
def addP (g : List PN) (k p : Int) : List PN := setP (getP (setP (getP g k) k fun n => { n with np := n.np + 1 }) p) p fun n => { n with sc := n.sc ++ [k] }

/-- no list of successors is longer than N -/
def ScLe (N : Nat) (g : List PN) : Prop := ∀ n ∈ g, n.sc.length ≤ N
theorem ScLe.getP {N : Nat} {g : List PN} (h : ScLe N g) (k : Int) : ScLe N (getP g k) := by
  unfold Mine.getP
  split
  · exact h
  · intro n hn
    rcases List.mem_append.mp hn with hn | hn
    · exact h n hn
    · cases List.mem_singleton.mp hn; exact Nat.zero_le _
theorem ScLe.setP {N M : Nat} {g : List PN} (h : ScLe N g) (k : Int) (f : PN → PN) (hf : ∀ n, n.sc.length ≤ N → (f n).sc.length ≤ M) (hNM : N ≤ M) : ScLe M (setP g k f) := by
  intro n hn
  obtain ⟨n', hn', rfl⟩ := List.mem_map.mp hn
  split
  · exact hf n' (h n' hn')
  · exact Nat.le_trans (h n' hn') hNM
theorem ScLe.addP {N : Nat} {g : List PN} (h : ScLe N g) (k p : Int) : ScLe (N + 1) (addP g k p) := by
  unfold Mine.addP
  refine ScLe.setP (N := N) (ScLe.getP (ScLe.setP (N := N) (M := N) (h.getP k) k (fun n => { n with np := n.np + 1 }) (fun n hn => hn) (Nat.le_refl _)) p) p (fun n => { n with sc := n.sc ++ [k] }) (fun n hn => ?_) (Nat.le_succ _)
  simpa using hn
theorem any_pn (G : List GN) (k : Int) : (G.map GN.pn).any (fun n => n.k == k) = (G.find? (fun x => x.k = k)).isSome := by
  induction G with
  | nil => rfl
  | cons x G ih =>
    rw [List.map_cons, List.any_cons, List.find?_cons, ih]
    by_cases h : x.k = k <;> simp [GN.pn, h]
theorem getP_some {G : List GN} {k : Int} {n : GN} (h : G.find? (fun x => x.k = k) = some n) : getP (G.map GN.pn) k = G.map GN.pn := by
  unfold getP; rw [any_pn, h]; rfl
theorem getP_none {G : List GN} {k : Int} {n : GN} (h : G.find? (fun x => x.k = k) = none) (hk : n.k = k) (hn : n.np = 0) (hs : n.sc = []) : (G ++ [n]).map GN.pn = getP (G.map GN.pn) k := by
  unfold getP; rw [any_pn, h, List.map_append]
  simp [GN.pn, hk, hn, hs]
def setG (G : List GN) (k : Int) (f : GN → GN) : List GN := G.map fun n => if n.k = k then f n else n
theorem setG_pn (G : List GN) (k : Int) (f : GN → GN) (f' : PN → PN) (h : ∀ n ∈ G, n.k = k → (f n).pn = f' n.pn) : (setG G k f).map GN.pn = setP (G.map GN.pn) k f' := by
  unfold setG setP
  rw [List.map_map, List.map_map]
  refine List.map_congr_left fun n hn => ?_
  simp only [Function.comp]
  by_cases q : n.k = k
  · rw [if_pos q, if_pos (show n.pn.k = k from q), h n hn q]
  · rw [if_neg q, if_neg (show ¬ n.pn.k = k from q)]
theorem setG_mem {G : List GN} {k : Int} {f : GN → GN} {x : GN} (hx : x ∈ setG G k f) : ∃ n ∈ G, x = if n.k = k then f n else n := by
  obtain ⟨n, hn, e⟩ := List.mem_map.mp hx
  exact ⟨n, hn, e.symm⟩
/-- the node's place, whatever else is told of it -/
structure SamePlace (f : GN → GN) : Prop where
  k : ∀ n, (f n).k = n.k
  ia : ∀ n, (f n).ia = n.ia
  da : ∀ n, (f n).da = n.da
  la : ∀ n, (f n).la = n.la
theorem setG_place {G : List GN} {k : Int} {f : GN → GN} (hf : SamePlace f) (n : GN) : (if n.k = k then f n else n).k = n.k ∧ (if n.k = k then f n else n).ia = n.ia ∧ (if n.k = k then f n else n).da = n.da ∧ (if n.k = k then f n else n).la = n.la := by
  split
  · exact ⟨hf.k n, hf.ia n, hf.da n, hf.la n⟩
  · exact ⟨rfl, rfl, rfl, rfl⟩
theorem key_mem {G : List GN} (hn : (G.map (·.k)).Nodup) {n n' : GN} (h : n ∈ G) (h' : n' ∈ G) (e : n.k = n'.k) : n = n' := by
  have a := find_of_key hn h
  have b := find_of_key hn h'
  rw [e] at a
  exact Option.some.inj (a.symm.trans b)

theorem Gr.set {prog : Program} {w : World} {H H' : Led} {D : Addr} {G : List GN} {n : GN} {f : GN → GN} (Y : Gr prog w H D G) (hn : n ∈ G) (hf : SamePlace f)
    (ei : H' n.ia = some (infoO n.da n.k (f n).np n.la)) (el : H' n.la = some (intsO (f n).sc)) (e : ∀ a, a ≠ n.ia → a ≠ n.la → H' a = H a) :
    Gr prog w H' D (setG G n.k f) ∧ Keeps D G (setG G n.k f) H H' := by
  have pl := fun x => setG_place (G := G) (k := n.k) hf x
  have two : ∀ x ∈ G, x.k = n.k → x = n := fun x hx q => key_mem Y.keys hx hn q
  refine ⟨⟨Y.low, ?_, ?_, ?_, ?_, ?_, ?_, ?_⟩, ?_⟩
  · rw [e _ (Ne.symm (Y.sepD n hn).1) (Ne.symm (Y.sepD n hn).2.2), Y.dict]
    have : pairsOf (setG G n.k f) = pairsOf G := by
      unfold pairsOf setG
      rw [List.map_map]
      refine List.map_congr_left fun x _ => ?_
      simp only [Function.comp, (pl x).1, (pl x).2.1]
    rw [this]
  · intro x hx
    obtain ⟨y, hy, rfl⟩ := setG_mem hx
    rw [(pl y).1, (pl y).2.1, (pl y).2.2.1, (pl y).2.2.2]
    by_cases q : y.k = n.k
    · cases two y hy q
      rw [if_pos rfl]; exact ei
    · rw [if_neg q, e _ (fun z => q (by rw [(Y.sep y hy n hn).2.2.2.1 z])) (Y.sep y hy n hn).2.1, Y.info y hy]
  · intro x hx
    obtain ⟨y, hy, rfl⟩ := setG_mem hx
    rw [(pl y).2.2.1, e _ (Ne.symm (Y.sep n hn y hy).1) (Ne.symm (Y.sep n hn y hy).2.2.1), Y.dct y hy]
  · intro x hx
    obtain ⟨y, hy, rfl⟩ := setG_mem hx
    rw [(pl y).2.2.2]
    by_cases q : y.k = n.k
    · cases two y hy q
      rw [if_pos rfl]; exact el
    · rw [if_neg q, e _ (Ne.symm (Y.sep n hn y hy).2.1) (fun z => q (by rw [(Y.sep y hy n hn).2.2.2.2 z])), Y.lst y hy]
  · have : (setG G n.k f).map (·.k) = G.map (·.k) := by
      unfold setG
      rw [List.map_map]
      refine List.map_congr_left fun x _ => ?_
      simp only [Function.comp, (pl x).1]
    rw [this]; exact Y.keys
  · intro x hx
    obtain ⟨y, hy, rfl⟩ := setG_mem hx
    rw [(pl y).2.1, (pl y).2.2.1, (pl y).2.2.2]
    exact Y.sepD y hy
  · intro x hx x' hx'
    obtain ⟨y, hy, rfl⟩ := setG_mem hx
    obtain ⟨y', hy', rfl⟩ := setG_mem hx'
    rw [(pl y).2.1, (pl y).2.2.2, (pl y').2.1, (pl y').2.2.1, (pl y').2.2.2]
    obtain ⟨a1, a2, a3, a4, a5⟩ := Y.sep y hy y' hy'
    exact ⟨a1, a2, a3, fun q => by rw [a4 q], fun q => by rw [a5 q]⟩
  · intro a P ha oa
    refine ⟨(e a (oa.2 n hn).1 (oa.2 n hn).2.2).trans ha, oa.1, fun x hx => ?_⟩
    obtain ⟨y, hy, rfl⟩ := setG_mem hx
    rw [(pl y).2.1, (pl y).2.2.1, (pl y).2.2.2]
    exact oa.2 y hy
theorem Off.setG {D : Addr} {G : List GN} {k : Int} {f : GN → GN} {a : Addr} (hf : SamePlace f) (o : Off D G a) : Off D (setG G k f) a := ⟨o.1, fun x hx => by
  obtain ⟨y, hy, rfl⟩ := setG_mem hx
  have pl := setG_place (G := G) (k := k) hf y
  rw [pl.2.1, pl.2.2.1, pl.2.2.2]
  exact o.2 y hy⟩

section
variable {prog : Program} {w : World} {A : Around} {E : Value → Shared → Prop} {s : Shared} {h₀ : Heap} {g : Array GenState} {os : OsState} {L : Addr} {m : Loc} {H H' : Led} {x d D : Addr} {G : List GN} {r v3 v4 : Value}
/-- `_get_nodeinfo`, both ways in one -/
theorem get_info' {k : Int} {t : Tok} {R : Result → Shared → Prop} (B : Bs w h₀) (S : St h₀ g os L m H s) (hroom : A.depth + 5 < recursionLimit) (Y : Gr prog w H D G) (hx : H x = some (instO 158 d)) (hd : H d = some (sdictO w (.ref D) r v3 v4)) (ox : Off D G x) (od : Off D G d) (oL : Off D G L)
    (hz : G.length ≤ 1000)
    (h : ∀ n G' H' s', n ∈ G' → n.k = k → G'.map GN.pn = getP (G.map GN.pn) k → G'.length ≤ G.length + 1 → Gr prog w H' D G' → Keeps D G G' H H' → Off D G' L → St h₀ g os L m H' s' → R (.ok (.ret (.ref n.ia))) s') :
    codeAny (model prog w) A (.call (.ref 101) ⟨[.ref x, .int k t], []⟩) R s :=
  get_info B S hroom Y hx hd ox od oL hz
    (fun n s' hf S' => h n G H s' (List.mem_of_find?_eq_some hf) (by simpa using List.find?_some hf) (getP_some hf).symm (Nat.le_succ _) Y (Keeps.refl _ _ _) oL S')
    (fun n H' s' hf hk hn hs Y' K' oL' S' => h n (G ++ [n]) H' s' (by simp) hk (getP_none hf hk hn hs) (by simp) Y' K' oL' S')
end

section
variable {prog : Program} {w : World} {A : Around} {E : Value → Shared → Prop} {s : Shared} {h₀ : Heap} {g : Array GenState} {os : OsState} {L : Addr} {m : Loc} {H H' : Led} {x d D : Addr} {G : List GN} {v3 v4 : Value}

set_option maxHeartbeats 2000000 in
theorem add_one {k q : Int} {t u : Tok} {R : Result → Shared → Prop} (B : Bs w h₀) (S : St h₀ g os L m H s) (hroom : A.depth + 10 < recursionLimit) (hh : A.handled = none) (Y : Gr prog w H D G) (hx : H x = some (instO 158 d)) (hd : H d = some (sdictO w (.ref D) .none v3 v4)) (ox : Off D G x) (od : Off D G d) (oL : Off D G L)
    (hz : G.length ≤ 900) (hsc : ScLe 900 (G.map GN.pn))
    (h : ∀ G' H' s', G'.map GN.pn = addP (G.map GN.pn) k q → G'.length ≤ G.length + 2 → Gr prog w H' D G' → Keeps D G G' H H' → Off D G' L → St h₀ g os L m H' s' → R (.ok (.ret .none)) s') :
    codeAny (model prog w) A (.call (.ref 108) ⟨[.ref x, .int k t, .int q u], []⟩) R s := by
  refine r_callV (rest := [.int q u]) (binds := fun tt => [(Str.ofString "self", .ref x), (Str.ofString "node", .int k t), (Str.ofString "predecessors", tt)]) B S (by rfl) (by kernel_rfl) (by omega) (by rfl) (by simp) (by decide) (fun _ => locs (by rfl)) rfl rfl rfl ?_
  intro tt L' oL' s₁ hL' hLn htn htL htL' S₁ back
  have hLo := S.inv.out
  have hxL := S.inv.neL hx
  have hdL := S.inv.neL hd
  have hDL := S.inv.neL Y.dict
  have hD := Y.dict
  have ot := Off.of_none Y htn
  have Y₁ := (Y.upd (P := tupO [.int q u]) ot).upd (P := frO oL') oL
  repeat walk_at "py"
  rename_i s₂ S₂
  refine r_call (get_info' (G := G) B S₂ (by simp only [depth_deeper]; omega) Y₁ (by walk_at "HG") (by walk_at "HG") ox od (Off.of_none Y hLn) (by omega) ?_)
  intro n G₁ H₁ s₃ hn hnk hp hlen Y₂ K₂ oL₂ S₃
  show wpAny _ _ _ _ _ _
  obtain ⟨hx₂, ox₂⟩ := K₂ _ _ (by walk_at "HG" : upd (upd H tt (tupO [.int q u])) L (frO oL') x = some (instO 158 d)) ox
  obtain ⟨hd₂, od₂⟩ := K₂ _ _ (by walk_at "HG" : upd (upd H tt (tupO [.int q u])) L (frO oL') d = some (sdictO w (.ref D) .none v3 v4)) od
  obtain ⟨ht₂, ot₂⟩ := K₂ tt (tupO [.int q u]) (by grind [upd]) ot
  obtain ⟨hl₂, ol₂⟩ := K₂ L (frO oL') (by grind [upd]) oL
  have hni := Y₂.info n hn
  have hnd := Y₂.dct n hn
  repeat walk_at "py"
  rename_i s₄ S₄
  obtain ⟨Y₃, K₃⟩ := Y₂.set (f := fun z => { z with np := z.np + 1 }) (H' := upd H₁ n.ia (infoO n.da n.k (n.np + 1) n.la)) hn ⟨fun _ => rfl, fun _ => rfl, fun _ => rfl, fun _ => rfl⟩ (upd_same _ _ _)
    (upd_of (Ne.symm (Y₂.sep n hn n hn).2.1) (Y₂.lst n hn)) (fun a h1 _ => upd_ne _ _ h1)
  have S₄ : St h₀ g os L' _ (upd H₁ n.ia (infoO n.da n.k (n.np + 1) n.la)) s₄ := S₄
  generalize upd H₁ n.ia (infoO n.da n.k (n.np + 1) n.la) = H₂ at *
  obtain ⟨hx₃, ox₃⟩ := K₃ _ _ hx₂ ox₂
  obtain ⟨hd₃, od₃⟩ := K₃ _ _ hd₂ od₂
  obtain ⟨ht₃, ot₃⟩ := K₃ _ _ ht₂ ot₂
  obtain ⟨hl₃, ol₃⟩ := K₃ _ _ hl₂ ol₂
  have hp₃ : (setG G₁ n.k fun z => { z with np := z.np + 1 }).map GN.pn = setP (getP (G.map GN.pn) k) k fun n => { n with np := n.np + 1 } := by
    rw [← hp, hnk]; exact setG_pn _ _ _ _ fun _ _ _ => rfl
  have hlen₃ : (setG G₁ n.k fun z => { z with np := z.np + 1 }).length ≤ G.length + 1 := by unfold setG; rw [List.length_map]; exact hlen
  have oL₃ : Off D (setG G₁ n.k fun z => { z with np := z.np + 1 }) L' := oL₂.setG ⟨fun _ => rfl, fun _ => rfl, fun _ => rfl, fun _ => rfl⟩
  generalize (setG G₁ n.k fun z => { z with np := z.np + 1 }) = G₂ at *
  repeat walk_at "py"
  rename_i it s₅ hit hitL S₅
  have oit := Off.of_none Y₃ hit
  refine r_for1 ?_
  refine r_next_tup S₅ (upd_same _ _ _) (by walk_at "HG") (i := 0) (by rfl) ?_
  intro s₆ S₆
  rw [upd_upd] at S₆
  repeat walk_at "py"
  rename_i s₇ S₇
  have Y₄ := Y₃.upd (P := tupIterO tt (0 + 1)) oit
  refine r_call (get_info' (G := G₂) B S₇ (by simp only [depth_deeper]; omega) Y₄ (by walk_at "HG") (by walk_at "HG") ox₃ od₃ oL₃ (by omega) ?_)
  intro n' G₃ H₃ s₈ hn' hnk' hp' hlen' Y₅ K₅ oL₅ S₈
  show wpAny _ _ _ _ _ _
  obtain ⟨hx₅, ox₅⟩ := K₅ x (instO 158 d) (by walk_at "HG") ox₃
  obtain ⟨hd₅, od₅⟩ := K₅ d (sdictO w (.ref D) .none v3 v4) (by walk_at "HG") od₃
  obtain ⟨ht₅, ot₅⟩ := K₅ tt (tupO [.int q u]) (by walk_at "HG") ot₃
  obtain ⟨hl₅, ol₅⟩ := K₅ L (frO oL') (by walk_at "HG") ol₃
  obtain ⟨hi₅, oi₅⟩ := K₅ it (tupIterO tt (0 + 1)) (by walk_at "HG") oit
  have hni' := Y₅.info n' hn'
  have hnd' := Y₅.dct n' hn'
  have hnl' := Y₅.lst n' hn'
  have hscn : n'.sc.length ≤ 900 := by
    have q1 : ScLe 900 (G₃.map GN.pn) := by
      rw [hp', hp₃]
      exact ScLe.getP (ScLe.setP (N := 900) (M := 900) (hsc.getP k) k (fun n => { n with np := n.np + 1 }) (fun n hn => hn) (Nat.le_refl _)) q
    exact q1 n'.pn (List.mem_map_of_mem hn')
  repeat walk_at "py"
  refine r_append_ints (by assumption) hnl' (by omega) ?_
  intro s₉ S₉
  obtain ⟨Y₆, K₆⟩ := Y₅.set (f := fun z => { z with sc := z.sc ++ [k] }) (H' := upd H₃ n'.la (intsO (n'.sc ++ [k]))) hn' ⟨fun _ => rfl, fun _ => rfl, fun _ => rfl, fun _ => rfl⟩
    (upd_of (Y₅.sep n' hn' n' hn').2.1 (Y₅.info n' hn')) (upd_same _ _ _) (fun a _ h1 => upd_ne _ _ h1)
  generalize upd H₃ n'.la (intsO (n'.sc ++ [k])) = H₄ at *
  obtain ⟨hx₆, ox₆⟩ := K₆ _ _ hx₅ ox₅
  obtain ⟨hd₆, od₆⟩ := K₆ _ _ hd₅ od₅
  obtain ⟨ht₆, ot₆⟩ := K₆ _ _ ht₅ ot₅
  obtain ⟨hl₆, ol₆⟩ := K₆ _ _ hl₅ ol₅
  obtain ⟨hi₆, oi₆⟩ := K₆ _ _ hi₅ oi₅
  repeat walk_at "py"
  refine r_for1 ?_
  refine r_end_tup hh S₉ hi₆ ht₆ (by rfl) ?_
  intro s₁₀ S₁₀
  repeat walk_at "py"
  have hitL₂ : it ≠ L := fun e => by subst e; rw [hit] at hl₃; cases hl₃
  have S₁₁ := back _ _ _ _ S₁₀ ((del_ne _ (Ne.symm hitL₂)).trans hl₆)
  have hp₆ : (setG G₃ n'.k fun z => { z with sc := z.sc ++ [k] }).map GN.pn = addP (G.map GN.pn) k q := by
    rw [hnk', setG_pn G₃ q _ (fun n => { n with sc := n.sc ++ [k] }) (fun _ _ _ => rfl), hp', hp₃]; rfl
  refine h _ _ _ hp₆ (by unfold setG; rw [List.length_map]; omega) ((Y₆.del oi₆).del ol₆) ?_ ol₆ S₁₁
  intro a P ha oa
  have e1 : upd (upd H tt (tupO [.int q u])) L (frO oL') a = some P := by walk_at "HG"
  obtain ⟨e2, o2⟩ := K₂ a P e1 oa
  obtain ⟨e3, o3⟩ := K₃ a P e2 o2
  obtain ⟨e5, o5⟩ := K₅ a P (upd_of (led_ne hit e3) e3) o3
  obtain ⟨e6, o6⟩ := K₆ a P e5 o5
  exact ⟨(del_ne _ (fun e => by subst e; rw [hLo] at ha; cases ha)).trans ((del_ne _ (led_ne hit e3)).trans e6), o6⟩
end

section
variable {prog : Program} {w : World} {A : Around} {E : Value → Shared → Prop} {s : Shared} {h₀ : Heap} {g : Array GenState} {os : OsState} {L : Addr} {m : Loc} {H H' : Led} {x d D : Addr} {G : List GN} {v3 v4 : Value}

def addP0 (g : List PN) (k : Int) : List PN := setP (getP g k) k fun n => { n with np := n.np + 0 }
set_option maxHeartbeats 2000000 in
theorem add_zero {k : Int} {t : Tok} {R : Result → Shared → Prop} (B : Bs w h₀) (S : St h₀ g os L m H s) (hroom : A.depth + 10 < recursionLimit) (hh : A.handled = none) (Y : Gr prog w H D G) (hx : H x = some (instO 158 d)) (hd : H d = some (sdictO w (.ref D) .none v3 v4)) (ox : Off D G x) (od : Off D G d) (oL : Off D G L)
    (hz : G.length ≤ 900)
    (h : ∀ G' H' s', G'.map GN.pn = addP0 (G.map GN.pn) k → G'.length ≤ G.length + 2 → Gr prog w H' D G' → Keeps D G G' H H' → Off D G' L → St h₀ g os L m H' s' → R (.ok (.ret .none)) s') :
    codeAny (model prog w) A (.call (.ref 108) ⟨[.ref x, .int k t], []⟩) R s := by
  refine r_callV (rest := []) (binds := fun tt => [(Str.ofString "self", .ref x), (Str.ofString "node", .int k t), (Str.ofString "predecessors", tt)]) B S (by rfl) (by kernel_rfl) (by omega) (by rfl) (by simp) (by decide) (fun _ => locs (by rfl)) rfl rfl rfl ?_
  intro tt L' oL' s₁ hL' hLn htn htL htL' S₁ back
  have hLo := S.inv.out
  have hxL := S.inv.neL hx
  have hdL := S.inv.neL hd
  have hDL := S.inv.neL Y.dict
  have hD := Y.dict
  have ot := Off.of_none Y htn
  have Y₁ := (Y.upd (P := tupO []) ot).upd (P := frO oL') oL
  repeat walk_at "py"
  rename_i s₂ S₂
  refine r_call (get_info' (G := G) B S₂ (by simp only [depth_deeper]; omega) Y₁ (by walk_at "HG") (by walk_at "HG") ox od (Off.of_none Y hLn) (by omega) ?_)
  intro n G₁ H₁ s₃ hn hnk hp hlen Y₂ K₂ oL₂ S₃
  show wpAny _ _ _ _ _ _
  obtain ⟨hx₂, ox₂⟩ := K₂ x (instO 158 d) (by walk_at "HG") ox
  obtain ⟨hd₂, od₂⟩ := K₂ d (sdictO w (.ref D) .none v3 v4) (by walk_at "HG") od
  obtain ⟨ht₂, ot₂⟩ := K₂ tt (tupO []) (by grind [upd]) ot
  obtain ⟨hl₂, ol₂⟩ := K₂ L (frO oL') (by grind [upd]) oL
  have hni := Y₂.info n hn
  have hnd := Y₂.dct n hn
  repeat walk_at "py"
  rename_i s₄ S₄
  obtain ⟨Y₃, K₃⟩ := Y₂.set (f := fun z => { z with np := z.np + 0 }) (H' := upd H₁ n.ia (infoO n.da n.k (n.np + 0) n.la)) hn ⟨fun _ => rfl, fun _ => rfl, fun _ => rfl, fun _ => rfl⟩ (upd_same _ _ _)
    (upd_of (Ne.symm (Y₂.sep n hn n hn).2.1) (Y₂.lst n hn)) (fun a h1 _ => upd_ne _ _ h1)
  have S₄ : St h₀ g os L' _ (upd H₁ n.ia (infoO n.da n.k (n.np + 0) n.la)) s₄ := S₄
  generalize upd H₁ n.ia (infoO n.da n.k (n.np + 0) n.la) = H₂ at *
  obtain ⟨hx₃, ox₃⟩ := K₃ _ _ hx₂ ox₂
  obtain ⟨hd₃, od₃⟩ := K₃ _ _ hd₂ od₂
  obtain ⟨ht₃, ot₃⟩ := K₃ _ _ ht₂ ot₂
  obtain ⟨hl₃, ol₃⟩ := K₃ _ _ hl₂ ol₂
  have hp₃ : (setG G₁ n.k fun z => { z with np := z.np + 0 }).map GN.pn = addP0 (G.map GN.pn) k := by
    unfold addP0
    rw [← hp, hnk]; exact setG_pn _ _ _ _ fun _ _ _ => rfl
  have hlen₃ : (setG G₁ n.k fun z => { z with np := z.np + 0 }).length ≤ G.length + 1 := by unfold setG; rw [List.length_map]; exact hlen
  generalize (setG G₁ n.k fun z => { z with np := z.np + 0 }) = G₂ at *
  repeat walk_at "py"
  rename_i it s₅ hit hitL S₅
  refine r_for1 ?_
  refine r_end_tup hh S₅ (upd_same _ _ _) (by walk_at "HG") (by rfl) ?_
  intro s₆ S₆
  repeat walk_at "py"
  have hitL₂ : it ≠ L := fun e => by subst e; rw [hit] at hl₃; cases hl₃
  have oit := Off.of_none Y₃ hit
  have S₇ := back _ _ _ _ S₆ ((del_ne _ (Ne.symm hitL₂)).trans (upd_of (Ne.symm hitL₂) hl₃))
  refine h _ _ _ hp₃ (by omega) (((Y₃.upd oit).del oit).del ol₃) ?_ ol₃ S₇
  intro a P ha oa
  have e1 : upd (upd H tt (tupO [])) L (frO oL') a = some P := by walk_at "HG"
  obtain ⟨e2, o2⟩ := K₂ a P e1 oa
  obtain ⟨e3, o3⟩ := K₃ a P e2 o2
  exact ⟨(del_ne _ (fun e => by subst e; rw [hLo] at ha; cases ha)).trans ((del_ne _ (led_ne hit e3)).trans (upd_of (led_ne hit e3) e3)), o3⟩
end

section
variable {prog : Program} {w : World} {A : Around} {E : Value → Shared → Prop} {s : Shared} {h₀ : Heap} {g : Array GenState} {os : OsState} {L : Addr} {m : Loc} {H H' : Led} {x d D : Addr} {G : List GN} {v : Value} {env : Env}

/-- a field of a sorter is stored, whatever its dict holds so far -/
theorem r_sset0 {name : Str} {P P' : OP} {Q : Unit → Shared → Prop} (B : Bs w h₀) (S : St h₀ g os L m H s) (h1 : H x = some (instO 158 d)) (h2 : H d = some P) (ht : takerIn (KK w) 158 name = some none)
    (hP : ∀ o, P o → ∃ es n, o = dictOf es n ∧ ∀ t, (getL name es).isSome = true ∧ (putL name (PyData.keyHash w.params name) (.str name t) v es).length ≤ 1000 ∧ P' (dictOf (putL name (PyData.keyHash w.params name) (.str name t) v es) (putN name es n)))
    (h : ∀ s', St h₀ g os L m (upd H d P') s' → Q () s') : wpAny (model prog w) A (setAttr (.ref x) name v) Q E s := by
  obtain ⟨_, ho, rfl⟩ := S.inv.own _ _ h1
  obtain ⟨o, hd, hp⟩ := S.inv.own _ _ h2
  obtain ⟨es, n, rfl, hq⟩ := hP o hp
  obtain ⟨hl1, hz, hp'⟩ := hq (s.toks + 1)
  obtain ⟨pre, post, hs, a1, a2⟩ := allNews_split hd (S.inv.neL h2) (S.inv.new _ _ h2)
  have N := allNews_is h₀ L s.heap
  rw [hs] at N
  have X := B.X.keeps S.inv.keep
  have I : InstAt s.heap x (instObj 158 d) 158 (some _) := ⟨ho, rfl, rfl, hd⟩
  refine set_plain X I (by kernel_rfl) (osa_dict (s := { s with toks := s.toks + 1 }) S.inv.fr N X I rfl (by kernel_rfl) ht (by kernel_rfl) hl1 a1 a2 (by rw [putName_dict]) rfl hz fun h' F' N' => ?_)
  exact h _ ⟨S.inv.of_set h2 hs F' N' hp', S.gens, S.os⟩
theorem r_dict0 {pos : Pos} {Q : Value → Shared → Prop} (B : Bs w h₀) (S : St h₀ g os L m H s) (h : ∀ a s', (a == sysModules) = false → H a = none → a ≠ L → St h₀ g os L m (upd H a (idictO prog w [])) s' → Q (.ref a) s') :
    wpAny (model prog w) A (eval (.Dict [] [] pos) env) Q E s :=
  wpAny_Dict_empty (h _ _ (B.fresh S.inv) S.inv.fresh S.inv.freshL ⟨S.inv.push _ ⟨#[], 0, ⟨rfl, rfl, rfl⟩, rfl, fun e he => by simp at he, .nil, List.nodup_nil⟩, S.gens, S.os⟩)

def sd1 (w : World) (v1 : Value) : OP := fun o => ∃ t1 n, o = dictOf [⟨PyData.keyHash w.params (Str.ofString "_node2info"), .str (Str.ofString "_node2info") t1, v1⟩] n
def sd2 (w : World) (v1 v2 : Value) : OP := fun o => ∃ t1 t2 n, o = dictOf [
  ⟨PyData.keyHash w.params (Str.ofString "_node2info"), .str (Str.ofString "_node2info") t1, v1⟩,
  ⟨PyData.keyHash w.params (Str.ofString "_ready_nodes"), .str (Str.ofString "_ready_nodes") t2, v2⟩] n
def sd3 (w : World) (v1 v2 v3 : Value) : OP := fun o => ∃ t1 t2 t3 n, o = dictOf [
  ⟨PyData.keyHash w.params (Str.ofString "_node2info"), .str (Str.ofString "_node2info") t1, v1⟩,
  ⟨PyData.keyHash w.params (Str.ofString "_ready_nodes"), .str (Str.ofString "_ready_nodes") t2, v2⟩,
  ⟨PyData.keyHash w.params (Str.ofString "_npassedout"), .str (Str.ofString "_npassedout") t3, v3⟩] n

set_option maxHeartbeats 2000000 in
theorem init_sorter {R : Result → Shared → Prop} (B : Bs w h₀) (S : St h₀ g os L m H s) (hroom : A.depth + 5 < recursionLimit) (hx : H x = some (instO 158 d)) (hd : H d = some noO)
    (h : ∀ D t3 t4 s', (D == sysModules) = false → H D = none → D ≠ L → St h₀ g os L m (upd (upd H d (sdictO w (.ref D) .none (.int 0 t3) (.int 0 t4))) D (idictO prog w [])) s' → R (.ok (.ret .none)) s') :
    codeAny (model prog w) A (.call (.ref 94) ⟨[.ref x], []⟩) R s := by
  have XX := B.X.keeps S.inv.keep
  refine r_callC (binds := [(Str.ofString "self", .ref x), (Str.ofString "graph", .none)]) B S (by rfl) (by kernel_rfl) (by omega)
    (BindsTo.of_defaults (T := 87) (items := #[.none]) (n := 0) rfl (XX _ _ (by rfl)) rfl (by rfl) (by rfl)) (by decide) (locs (by rfl)) rfl rfl rfl ?_
  intro L' oL' s₁ hL' hLn S₁ back
  have hLo := S.inv.out
  have hxL := S.inv.neL hx
  have hdL := S.inv.neL hd
  have hxd : x ≠ d := fun e => by subst e; rw [hx] at hd; exact absurd (congrFun (Option.some.inj hd) (instObj 158 x)) (by simp [instO, noO])
  repeat walk_at "py"
  refine r_dict0 B S₁ ?_
  intro D s₂ hlow hD hDL' S₂
  obtain ⟨hDL, hD⟩ := upd_none hD
  repeat walk_at "py"
  refine r_sset0 (P := noO) (P' := sd1 w (.ref D)) B (by assumption) (by walk_at "HG") (by walk_at "HG") (by kernel_rfl) ?_ ?_
  · rintro o rfl; exact ⟨[], 0, rfl, fun t => ⟨rfl, Nat.le_of_ble_eq_true rfl, t, 1, rfl⟩⟩
  intro s₃ S₃
  repeat walk_at "py"
  refine r_sset0 (P := sd1 w (.ref D)) (P' := sd2 w (.ref D) .none) B (by assumption) (by walk_at "HG") (by walk_at "HG") (by kernel_rfl) ?_ ?_
  · rintro o ⟨t1, n, rfl⟩; exact ⟨_, n, rfl, fun t => ⟨rfl, Nat.le_of_ble_eq_true rfl, t1, t, n + 1, rfl⟩⟩
  intro s₄ S₄
  repeat walk_at "py"
  rename_i t3 s₅ S₅
  refine r_sset0 (P := sd2 w (.ref D) .none) (P' := sd3 w (.ref D) .none (.int 0 t3)) B (by assumption) (by walk_at "HG") (by walk_at "HG") (by kernel_rfl) ?_ ?_
  · rintro o ⟨t1, t2, n, rfl⟩; exact ⟨_, n, rfl, fun t => ⟨rfl, Nat.le_of_ble_eq_true rfl, t1, t2, t, n + 1, rfl⟩⟩
  intro s₆ S₆
  repeat walk_at "py"
  rename_i t4 s₇ S₇
  refine r_sset0 (P := sd3 w (.ref D) .none (.int 0 t3)) (P' := sdictO w (.ref D) .none (.int 0 t3) (.int 0 t4)) B (by assumption) (by walk_at "HG") (by walk_at "HG") (by kernel_rfl) ?_ ?_
  · rintro o ⟨t1, t2, t3, n, rfl⟩; exact ⟨_, n, rfl, fun t => ⟨rfl, Nat.le_of_ble_eq_true rfl, t1, t2, t3, t, n + 1, rfl⟩⟩
  intro s₈ S₈
  repeat walk_at "py"
  exact h D t3 t4 s₈ hlow hD hDL ((back _ _ _ _ S₈ (by grind [upd])).weaken (by walk_at "sub"))
end

/-! ## `iter(xs).__next__` as a value, and its call -/
abbrev wrapObj (it : Addr) : Obj := { cls := .type "method-wrapper", data := .fields #[.builtin "list_iterator.__next__", .ref it] }
theorem w_ga : Slot "list_iterator" "__getattribute__" "object.__getattribute__" :=
  .of (owner := "object") (n := "__getattribute__") (by rw [typeLookup_type, builtinLookup_eq_fast]; kernel_rfl) (by decide +kernel) (by decide +kernel) (by decide +kernel)
    (by first | exact .inl (by decide +kernel) | exact .inr (by decide +kernel)) (by rw [isSubtype_type]; kernel_rfl)
theorem w_get : Slot "wrapper_descriptor" "__get__" "wrapper_descriptor.__get__" :=
  .of (owner := "wrapper_descriptor") (n := "__get__") (by rw [typeLookup_type, builtinLookup_eq_fast]; kernel_rfl) (by decide +kernel) (by decide +kernel) (by decide +kernel)
    (by first | exact .inl (by decide +kernel) | exact .inr (by decide +kernel)) (by rw [isSubtype_type]; kernel_rfl)
theorem w_entry : entryFor table "wrapper_descriptor.__get__" = some Builtin.«wrapper_descriptor.__get__» := entryFor_of_tree (by kernel_rfl)
theorem w_args (a b c : Value) : argsOk "wrapper_descriptor.__get__" ⟨[a, b, c], []⟩ := by unfold argsOk; kernel_rfl
theorem w_type : typeOf (.builtin "list_iterator.__next__") = pure (.type "wrapper_descriptor") := by show builtinType _ = _; rw [builtinType_eq_fast]; kernel_rfl
theorem w_noset : typeLookup (.type "wrapper_descriptor") "__set__" = pure none := by rw [typeLookup_type, builtinLookup_eq_fast]; kernel_rfl
theorem w_nodel : typeLookup (.type "wrapper_descriptor") "__delete__" = pure none := by rw [typeLookup_type, builtinLookup_eq_fast]; kernel_rfl
theorem w_next : typeLookup (.type "list_iterator") "__next__" = pure (some (.builtin "list_iterator.__next__")) := by rw [typeLookup_type, builtinLookup_eq_fast]; kernel_rfl
theorem w_owner : (".".intercalate ("list_iterator.__next__".cutAt '.').dropLast) = "list_iterator" := by
  have e0 : "list_iterator.__next__".cutAt '.' = ["list_iterator", "__next__"] := by first | rfl | decide +kernel
  rw [e0]; decide +kernel
theorem w_sub : isSubtype (.type "list_iterator") (.type "list_iterator") = pure true := by rw [isSubtype_type]; kernel_rfl
section
variable {prog : Program} {w : World} {A : Around} {E : Value → Shared → Prop} {h : Heap} {g : Array GenState} {d : Drawn} {t : Nat} {os : OsState} {a : Addr} {o : Obj}
theorem wrap_get {R : Result → Shared → Prop} (hx : h.get? a = some o) (hc : o.cls = .type "list_iterator") (hq : R (.ok (.ret (.ref h.objs.size))) ⟨h.push (wrapObj a), g, d, t, os⟩) :
    codeAny (model prog w) A (.call (.builtin "wrapper_descriptor.__get__") ⟨[.builtin "list_iterator.__next__", .ref a, .type "list_iterator"], []⟩) R ⟨h, g, d, t, os⟩ := by
  have hT : (⟨h, g, d, t, os⟩ : Shared).TypeIs (.ref a) "list_iterator" := ⟨_, hx, hc⟩
  have hT5 : (⟨h, g, d, t, os⟩ : Shared).TypeIs (.builtin "list_iterator.__next__") "wrapper_descriptor" := w_type
  have f8 : isSubtype (.type "list_iterator") (.type (".".intercalate ("list_iterator.__next__".cutAt '.').dropLast)) = pure true := by rw [w_owner]; exact w_sub
  refine codeAny_call_builtin w_get.plain w_entry (w_get.check _ _ _ _ _ _ _ _ hT5 (w_args _ _ _) ?_)
  unfold Builtin.«wrapper_descriptor.__get__»
  repeat (any_goals (first | assumption | wp_step))
abbrev liObj (l : Addr) (i : Nat) : Obj := { cls := .type "list_iterator", data := .fields #[.ref l, .int i 0] }
theorem wrap_entry {l : Addr} {i : Nat} {tk : Tok} {Q : Fin → Shared → Prop} (hx : h.get? a = some (liObj l i)) (hq : Q (.done (.ret (.ref h.objs.size))) ⟨h.push (wrapObj a), g, d, t, os⟩) :
    wpAny (model prog w) A (Builtin.«object.__getattribute__» ⟨[.ref a, .str "__next__" tk], []⟩) Q E ⟨h, g, d, t, os⟩ := by
  have hT : (⟨h, g, d, t, os⟩ : Shared).TypeIs (.ref a) "list_iterator" := ⟨_, hx, rfl⟩
  have hT5 : (⟨h, g, d, t, os⟩ : Shared).TypeIs (.builtin "list_iterator.__next__") "wrapper_descriptor" := w_type
  have f4 := w_next
  have f5 := w_type
  have f6 := w_get.lookup
  have f7 := w_noset
  have f8 := w_nodel
  repeat (any_goals (first | assumption | wp_step))
  refine wrap_get hx rfl ?_
  repeat (any_goals (first | assumption | wp_step))
theorem wrap_attr {l : Addr} {i : Nat} {expr : Bool} {Q : Value → Shared → Prop} (hx : h.get? a = some (liObj l i)) (hq : Q (.ref h.objs.size) ⟨h.push (wrapObj a), g, d, t + 1, os⟩) :
    wpAny (model prog w) A (getAttr (.ref a) (Str.ofString "__next__") expr) Q E ⟨h, g, d, t, os⟩ := by
  have hT : ∀ t', (⟨h, g, d, t', os⟩ : Shared).TypeIs (.ref a) "list_iterator" := fun _ => ⟨_, hx, rfl⟩
  have hT' := hT (t + 1)
  have f2 := w_ga.lookup
  have f3 := w_ga.bind (.ref a)
  have hx0 : (expr && onTheHeap (Value.builtin "object.__getattribute__")) = false := by cases expr <;> rfl
  unfold getAttr
  repeat (any_goals (first | assumption | wp_step))
  refine codeAny_call_builtin w_ga.plain PySem.F.entry_object_getattribute (w_ga.check _ _ _ _ _ _ _ _ hT' (PySem.F.args_object_getattribute_2 _ _) (wrap_entry hx ?_))
  repeat (any_goals (first | assumption | wp_step))
end

section
variable {prog : Program} {w : World} {A : Around} {E : Value → Shared → Prop} {s : Shared} {h₀ : Heap} {g : Array GenState} {os : OsState} {L : Addr} {m : Loc} {H H' : Led} {a it mw l : Addr} {ns : List Int} {k : Int} {i : Nat} {env : Env}
def liO (l : Addr) : OP := fun o => o = liObj l 0
def wrapO (it : Addr) : OP := fun o => o = wrapObj it
theorem r_iter_call {Q : Value → Shared → Prop} (S : St h₀ g os L m H s) (e : H a = some (intsO ns)) (h : ∀ it s', H it = none → it ≠ L → St h₀ g os L m (upd H it (liO a)) s' → Q (.ref it) s') :
    wpAny (model prog w) A (call (.builtin "iter") [.ref a]) Q E s := by
  obtain ⟨o, ho, vs, n, hv, rfl⟩ := S.inv.own _ _ e
  refine call_function_entry (by decide +kernel) (by decide +kernel) kdk_entry_iter (kdk_args_iter _) ?_
  unfold Builtin.«iter»
  refine wpAny_bind (m := someArgs "iter" 1 2 _) (wpAny_of_eq (a := [Value.ref a]) (by first | rfl | kernel_rfl!) ?_)
  show wpAny _ _ (pyIter (.ref a) >>= _) _ _ _
  refine wpAny_bind (wpAny_pyIter_list ⟨_, ho, rfl, n, rfl⟩ ?_)
  exact wpAny_pure ⟨_, rfl, h _ _ S.inv.fresh S.inv.freshL ⟨S.inv.push _ rfl, S.gens, S.os⟩⟩
theorem r_next_attr {expr : Bool} {Q : Value → Shared → Prop} (S : St h₀ g os L m H s) (e : H it = some (liO l)) (h : ∀ mw s', H mw = none → mw ≠ L → St h₀ g os L m (upd (upd H it (listIterO l 0)) mw (wrapO it)) s' → Q (.ref mw) s') :
    wpAny (model prog w) A (getAttr (.ref it) (Str.ofString "__next__") expr) Q E s := by
  obtain ⟨_, ho, rfl⟩ := S.inv.own _ _ e
  have S1 := S.imp e (P' := listIterO l 0) (fun o x => by cases x; exact ⟨rfl, rfl⟩)
  have f1 := S1.inv.fresh
  have I2 := S1.inv.push (wrapObj it) (P := wrapO it) rfl
  obtain ⟨hh, gg, d, t, oo⟩ := s
  exact wrap_attr ho (h _ ⟨_, gg, d, t + 1, oo⟩ (upd_none f1).2 S1.inv.freshL ⟨I2, S1.gens, S1.os⟩)
theorem w_check (x : Value) : checkBoundCall "list_iterator.__next__" ⟨[x], []⟩ = pure () := by kernel_rfl
theorem r_wcall {pos : Pos} {Q : Value → Shared → Prop} (S : St h₀ g os L m H s) (e : H mw = some (wrapO it))
    (h : codeAny (model prog w) A (.builtin "list_iterator.__next__" ⟨[.ref it], []⟩) (Back Q E) s) :
    wpAny (model prog w) A (callWith pos (.ref mw) [] (backTo pos (starEach [] env)) []) Q E s := by
  obtain ⟨_, ho, rfl⟩ := S.inv.own _ _ e
  refine callWith_of (P := fun hp => hp.get? mw = some (wrapObj it)) rfl (fun hp hx => ⟨.machine, .inr (.inl rfl), (Looks.ld (part := none) hx).andThen (Looks.of_pure (by rfl))⟩) (evalArgs_nil3 ⟨ho, ?_⟩)
  refine wpAny_call (codeAny_of_tree ?_)
  show wpAny _ _ (callAny (.ref mw) ⟨[], []⟩) _ _ _
  refine nd_load ho ?_
  show wpAny _ _ (checkBoundCall "list_iterator.__next__" ⟨[.ref it], []⟩ >>= fun _ => again (.builtin "list_iterator.__next__" ⟨[.ref it], []⟩)) _ _ _
  rw [w_check]
  exact wpAny_bind (wpAny_pure (wpAny_pure ⟨Code.quiet_builtin _ (by decide +kernel), h⟩))
/-- an exception as it is made: its class, its args -/
def excO (cls : Value) (a0 : Value) : OP := fun o => o.cls = cls ∧ ∃ vs, o.data = .fields vs ∧ vs[0]? = some a0 ∧ vs[1]? = some .none
theorem r_li_item {Q : Value → Shared → Prop} (S : St h₀ g os L m H s) (e : H it = some (listIterO a i)) (el : H a = some (intsO ns)) (hv : ns[i]? = some k) (h : ∀ t s', St h₀ g os L m (upd H it (listIterO a (i + 1))) s' → Q (.int k t) s') :
    codeAny (model prog w) A (.builtin "list_iterator.__next__" ⟨[.ref it], []⟩) (Back Q E) s := by
  obtain ⟨ol, hol, vs, n, hi, rfl⟩ := S.inv.own _ _ el
  obtain ⟨o, ho, hc, hd⟩ := S.inv.own _ _ e
  rcases ints_at hi i with ⟨n', t, e1, e2⟩ | ⟨e1, _⟩
  · rw [hv] at e1; cases e1
    refine codeAny_builtin entry_listiter_next ?_
    show wpAny _ _ (field (.ref it) 0 >>= _) _ _ s
    refine wpAny_bind (wpAny_field ho hd (x := .ref a) rfl ?_)
    show wpAny _ _ (if (Value.ref a == Value.none) = true then _ else _) _ _ s
    rw [if_neg (show ¬ ((Value.ref a == Value.none) = true) from Bool.false_ne_true)]
    show wpAny _ _ (field (.ref it) 1 >>= _) _ _ s
    refine wpAny_bind (wpAny_field ho hd (x := .int i 0) rfl ?_)
    show wpAny _ _ (seqItems? (.ref a) >>= _) _ _ s
    refine wpAny_bind (wpAny_seqItems hol (show _ = Data.seq vs.toArray n from rfl) ?_)
    have e3 : vs.toArray[i]? = some (.int k t) := by rw [List.getElem?_toArray]; exact e2
    simp only [Int.toNat_natCast, e3]
    refine wpAny_bind (wpAny_setField ho hd (by simp) (wpAny_pure (h t _ ⟨S.inv.change e (Heap.SameBut.update ..).extBut ?_, S.gens, S.os⟩)))
    exact ⟨_, Heap.get?_update_self _ ho (Obj.isFreed_of_fields (Obj.data_mapFields hd _)), (Obj.cls_mapFields ..).trans hc, by
      rw [Obj.data_mapFields hd]; simp [rawInt]⟩
  · rw [hv] at e1; cases e1
theorem r_li_stop {Q : Value → Shared → Prop} (hh : A.handled = none) (S : St h₀ g os L m H s) (e : H it = some (listIterO a i)) (el : H a = some (intsO ns)) (hv : ns[i]? = none)
    (h : ∀ x t s', H x = none → x ≠ L → St h₀ g os L m (upd (del H it) x (excO (.type "StopIteration") t)) s' → E (.ref x) s') :
    codeAny (model prog w) A (.builtin "list_iterator.__next__" ⟨[.ref it], []⟩) (Back Q E) s := by
  obtain ⟨ol, hol, vs, n, hi, rfl⟩ := S.inv.own _ _ el
  obtain ⟨o, ho, hc, hd⟩ := S.inv.own _ _ e
  rcases ints_at hi i with ⟨n', t, e1, e2⟩ | ⟨_, e2⟩
  · rw [hv] at e1; cases e1
  · refine codeAny_builtin entry_listiter_next ?_
    show wpAny _ _ (field (.ref it) 0 >>= _) _ _ s
    refine wpAny_bind (wpAny_field ho hd (x := .ref a) rfl ?_)
    show wpAny _ _ (if (Value.ref a == Value.none) = true then _ else _) _ _ s
    rw [if_neg (show ¬ ((Value.ref a == Value.none) = true) from Bool.false_ne_true)]
    show wpAny _ _ (field (.ref it) 1 >>= _) _ _ s
    refine wpAny_bind (wpAny_field ho hd (x := .int i 0) rfl ?_)
    show wpAny _ _ (seqItems? (.ref a) >>= _) _ _ s
    refine wpAny_bind (wpAny_seqItems hol (show _ = Data.seq vs.toArray n from rfl) ?_)
    have e3 : vs.toArray[i]? = none := by rw [List.getElem?_toArray]; exact e2
    simp only [Int.toNat_natCast, e3]
    refine wpAny_bind (wpAny_rule (wpAny_bind (wpAny_setField ho hd (by simp) ?_)))
    show wpAny _ _ (newExc (.type "StopIteration") [] >>= _) _ _ _
    refine wpAny_bind ?_
    simp only [newExc, newTuple]
    refine wpAny_bind (wpAny_newObj_type ?_ (by size_fits))
    refine wpAny_bind (m := firstArgMember _ _) (wpAny_of_eq (a := Value.none) (by first | rfl | (simp only [firstArgMember]; rfl)) ?_)
    refine wpAny_newObj_type ?_ (by size_fits)
    simp only [raiseNew]
    refine wpAny_bind (wpAny_handled ?_)
    rw [show (A.under (Code.builtin "list_iterator.__next__" ⟨[.ref it], []⟩)).handled = none from hh]
    refine wpAny_bind (wpAny_pure (wpAny_throw ?_))
    have I1 := S.inv.lose e (Heap.SameBut.update s.heap it (Obj.mapFields (·.setIfInBounds 0 Value.none))).extBut
    have I2 : Inv h₀ L m (del H it) ((s.heap.update it (Obj.mapFields (·.setIfInBounds 0 Value.none))).push { cls := .type "tuple", data := .seq #[] }) := I1.grow fun _ _ q => Heap.get?_push_of_some _ q
    have hlt : it < ((s.heap.update it (Obj.mapFields (·.setIfInBounds 0 Value.none))).push { cls := .type "tuple", data := .seq #[] }).objs.size := by
      rw [Heap.size_push, (Heap.SameBut.update s.heap it (Obj.mapFields (·.setIfInBounds 0 Value.none))).1]
      exact Nat.lt_succ_of_lt (Heap.lt_size ho)
    refine h _ _ _ ?_ I2.freshL ⟨I2.push _ ⟨rfl, _, rfl, rfl, rfl⟩, S.gens, S.os⟩
    have := I2.fresh
    rwa [del_ne _ (Nat.ne_of_gt hlt)] at this
end

/-! ## An exception is noted by the frame that it is in -/
/-- every frame on the stack is the one at hand or lies in the ledger -/
def FmL (l : List Env) (L : Addr) (H : Led) : Prop := ∀ env ∈ l, env.scope.kind ≠ .module ∧ ∃ L', env.frame = some L' ∧ (L' = L ∨ ∃ oL, H L' = some (frO oL) ∧ ∀ vs, oL.data ≠ .fields vs)
/-- an exception that bears a traceback entry -/
def excT (cls a0 : Value) (T : Addr) : OP := fun o => o.cls = cls ∧ ∃ vs, o.data = .fields vs ∧ vs[0]? = some a0 ∧ vs[1]? = some (.ref T)
def tbO (fl : Value) : OP := fun o => ∃ ts, o.data = .fields ts ∧ ts[3]? = some fl
section
variable {prog : Program} {w : World} {A : Around} {E : Value → Shared → Prop} {s : Shared} {h₀ : Heap} {g : Array GenState} {os : OsState} {L x T : Addr} {m : Loc} {H H' : Led} {env : Env} {outer l : List Env} {cls a0 fl : Value}
theorem FmL.mono (F : FmL l L H) (k : ∀ a oL, H a = some (frO oL) → H' a = some (frO oL)) : FmL l L H' := fun env he => by
  obtain ⟨h1, L', hf, h2⟩ := F env he
  exact ⟨h1, L', hf, h2.imp id fun ⟨oL, e, q⟩ => ⟨oL, k _ _ e, q⟩⟩
theorem FmL.frames (F : FmL l L H) (S : St h₀ g os L m H s) {B : Heap} (hB : ∀ env ∈ l, ∀ b, env.frame = some b → B.get? b = none) : s.heap.FunFrames B l := by
  induction l with
  | nil => trivial
  | cons env l ih =>
    obtain ⟨h1, L', hf, h2⟩ := F env (.head _)
    refine ⟨h1, ?_, ih (fun e he => F e (.tail _ he)) fun e he => hB e (.tail _ he)⟩
    rcases h2 with rfl | ⟨oL, e, q⟩
    · obtain ⟨o, es, ep, ho, hd, _⟩ := S.inv.ns
      exact ⟨_, o, hf, hB env (.head _) _ hf, ho, fun vs z => by rw [hd] at z; cases z⟩
    · obtain ⟨o, ho, hd⟩ := S.inv.own _ _ e
      exact ⟨L', o, hf, hB env (.head _) _ hf, ho, fun vs z => q vs (hd ▸ z)⟩
theorem Inv.slots {h h' : Heap} {S : List Addr} (I : Inv h₀ L m H h) (x : Heap.SlotsOnly S h h') (hS : ∀ a ∈ S, a = L ∨ ∃ oL, H a = some (frO oL)) : Inv h₀ L m H h' := by
  refine ⟨?_, fun b o hb => ?_, fun a P q => ?_, I.low, I.above, I.out⟩
  · obtain ⟨o, es, ep, ho, hd, r⟩ := I.ns
    obtain ⟨sl, hs⟩ := x.2.2 L o ho
    exact ⟨_, es, ep, hs, hd, r⟩
  · rw [x.2.1 b fun hm => ?_]
    · exact I.keep b o hb
    · rcases hS b hm with rfl | ⟨oL, e⟩
      · rw [I.Lnone] at hb; cases hb
      · rw [I.new _ _ e] at hb; cases hb
  · obtain ⟨o, ho, hp⟩ := I.own _ _ q
    by_cases hm : a ∈ S
    · rcases hS a hm with rfl | ⟨oL, e⟩
      · rw [I.out] at q; cases q
      · rw [e] at q; cases q
        obtain ⟨sl, hs⟩ := x.2.2 a o ho
        exact ⟨_, hs, hp⟩
    · exact ⟨o, (x.2.1 a hm).trans ho, hp⟩
theorem FmL.mem (F : FmL l L H) : ∀ a ∈ l.filterMap (·.frame), a = L ∨ ∃ oL, H a = some (frO oL) := fun a ha => by
  obtain ⟨env, he, hb⟩ := List.mem_filterMap.mp ha
  obtain ⟨_, L', hf, h2⟩ := F env he
  rw [hf] at hb; cases hb
  exact h2.imp id fun ⟨oL, e, _⟩ => ⟨oL, e⟩
theorem r_frameOf {Q : Value → Shared → Prop} (S : St h₀ g os L m H s) (hfr : A.frames = some (env :: outer)) (hf : env.frame = some L) (F : FmL (env :: outer) L H) (h : ∀ s', St h₀ g os L m H s' → Q (.ref L) s') :
    wpAny (model prog w) A (frameOf env) Q E s := by
  have FF := F.frames S (B := hideAll s.heap ((env :: outer).filterMap (·.frame))) (fun env' he b hb => hideAll_none _ (List.mem_filterMap.mpr ⟨env', he, hb⟩))
  exact wpAny_frameOf_fun hfr FF hf fun h' x => h _ ⟨S.inv.slots x F.mem, S.gens, S.os⟩
/-- a new entry for the frame at hand, whatever entry the exception bore -/
theorem r_entry {P : OP} {head : Value} {b : Bool} {Q : Unit → Shared → Prop} (S : St h₀ g os L m H s) (e : H x = some P) (hP : ∀ o, P o → o.cls = cls ∧ ∃ vs, o.data = .fields vs ∧ vs[0]? = some a0 ∧ 1 < vs.size) (hfr : A.frames = some (env :: outer)) (hf : env.frame = some L) (F : FmL (env :: outer) L H)
    (h : ∀ T s', H T = none → T ≠ L → T ≠ x → St h₀ g os L m (upd (upd H T (tbO (rawInt L))) x (excT cls a0 T)) s' → Q () s') :
    wpAny (model prog w) A (do let a ← frameOf env; let pl ← entryPlaceOf L b; let y ← EntryCells.newEntry head a .none (rawInt L) .none pl; setField (.ref x) 1 y) Q E s := by
  refine wpAny_bind (r_frameOf S hfr hf F fun s₁ S₁ => wpAny_bind (wpAny_entryPlaceOf fun pl hpl => ?_))
  unfold EntryCells.newEntry newFields
  refine wpAny_bind (wpAny_newObj_type ?_ (hpl.sizeOk5 _ _ _ _ _))
  have I₂ := S₁.inv.push { cls := .type "traceback", data := .fields ([head, .ref L, .none, rawInt L, .none] ++ (if pl.isEmpty then List.replicate 6 Value.none else pl)).toArray } (P := tbO (rawInt L)) ⟨_, rfl, by first | (simp; done) | (rcases hpl with rfl | ⟨_, _, _, _, _, _, _, rfl⟩ <;> simp)⟩
  have hxT : s₁.heap.objs.size ≠ x := fun q => by have := S₁.inv.fresh; rw [q, e] at this; cases this
  have e₂ : upd H s₁.heap.objs.size (tbO (rawInt L)) x = some P := upd_of (Ne.symm hxT) e
  obtain ⟨ox, hx, hp⟩ := I₂.own _ _ e₂
  obtain ⟨hc, vs, hd, h0, hsz⟩ := hP ox hp
  refine wpAny_setField hx hd hsz (h _ _ S₁.inv.fresh S₁.inv.freshL hxT ⟨I₂.change e₂ (Heap.SameBut.update ..).extBut ?_, S₁.gens, S₁.os⟩)
  have hd₃ := Obj.data_mapFields hd (·.setIfInBounds 1 (Value.ref s₁.heap.objs.size))
  exact ⟨_, Heap.get?_update_self _ hx (Obj.isFreed_of_fields hd₃), (Obj.cls_mapFields _ _).trans hc, _, hd₃, by rw [Array.getElem?_setIfInBounds_ne (by decide)]; exact h0, by simp [hsz]⟩
theorem r_note {Q : Unit → Shared → Prop} (S : St h₀ g os L m H s) (e : H x = some (excO cls a0)) (hfr : A.frames = some (env :: outer)) (hf : env.frame = some L) (F : FmL (env :: outer) L H)
    (h : ∀ T s', H T = none → T ≠ L → T ≠ x → St h₀ g os L m (upd (upd H T (tbO (rawInt L))) x (excT cls a0 T)) s' → Q () s') : wpAny (model prog w) A (noteFrame (.ref x) env) Q E s := by
  obtain ⟨ox, hx, hc, vs, hd, hv0, hv1⟩ := S.inv.own _ _ e
  unfold noteFrame
  simp only [hf]
  refine wpAny_bind (wpAny_field hx hd hv1 ?_)
  rw [if_neg (by decide)]
  refine r_entry S e ?_ hfr hf F h
  rintro o ⟨h1, vs, h2, h3, h4⟩
  exact ⟨h1, vs, h2, h3, (Array.getElem?_eq_some_iff.mp h4).1⟩
/-- noted again, in an outer frame -/
theorem r_note2 {Q : Unit → Shared → Prop} (S : St h₀ g os L m H s) (e : H x = some (excT cls a0 T)) (eT : H T = some (tbO .none)) (hTx : T ≠ x) (hfr : A.frames = some (env :: outer)) (hf : env.frame = some L) (F : FmL (env :: outer) L H)
    (h : ∀ T' s', H T' = none → T' ≠ L → T' ≠ x → St h₀ g os L m (upd (upd H T' (tbO (rawInt L))) x (excT cls a0 T')) s' → Q () s') : wpAny (model prog w) A (noteFrame (.ref x) env) Q E s := by
  obtain ⟨ox, hx, hc, vs, hd, hv0, hv1⟩ := S.inv.own _ _ e
  obtain ⟨oT, hT, ts, hdT, h3⟩ := S.inv.own _ _ eT
  unfold noteFrame
  simp only [hf]
  refine wpAny_bind (wpAny_field hx hd hv1 ?_)
  rw [if_pos (show (Value.ref T != Value.none) = true from by simp)]
  refine wpAny_bind (wpAny_field hT hdT h3 ?_)
  rw [if_neg (show ¬ ((Value.none == rawInt L) = true) from by simp [rawInt])]
  refine wpAny_bind (wpAny_setField hT hdT (Array.getElem?_eq_some_iff.mp h3).1 ?_)
  have hd₃ := Obj.data_mapFields hdT (·.setIfInBounds 3 Value.none)
  have I₁ := S.inv.change (P' := tbO .none) eT (Heap.SameBut.update s.heap T (Obj.mapFields (·.setIfInBounds 3 Value.none))).extBut ⟨_, Heap.get?_update_self _ hT (Obj.isFreed_of_fields hd₃), _, hd₃, by simp [(Array.getElem?_eq_some_iff.mp h3).1]⟩
  rw [upd_eq eT] at I₁
  refine r_entry (s := { s with heap := _ }) ⟨I₁, S.gens, S.os⟩ e ?_ hfr hf F h
  rintro o ⟨h1, vs, h2, h3, h4⟩
  exact ⟨h1, vs, h2, h3, (Array.getElem?_eq_some_iff.mp h4).1⟩
theorem r_flight {Q : Unit → Shared → Prop} (S : St h₀ g os L m H s) (e : H x = some (excT cls a0 T)) (eT : H T = some (tbO fl)) (h : ∀ s', St h₀ g os L m (upd H T (tbO .none)) s' → Q () s') : wpAny (model prog w) A (setFlight (.ref x) none) Q E s := by
  obtain ⟨ox, hx, hc, vs, hd, hv0, hv1⟩ := S.inv.own _ _ e
  obtain ⟨oT, hT, ts, hdT, h3⟩ := S.inv.own _ _ eT
  have hd₃ := Obj.data_mapFields hdT (·.setIfInBounds 3 Value.none)
  have hs3 := (Array.getElem?_eq_some_iff.mp h3).1
  exact wpAny_setFlight_none hx hd hv1 hT hdT hs3 (h _ ⟨S.inv.change eT (Heap.SameBut.update ..).extBut ⟨_, Heap.get?_update_self _ hT (Obj.isFreed_of_fields hd₃), _, hd₃, by simp [hs3]⟩, S.gens, S.os⟩)
end

/-! ## More of lists, dicts and sets -/
theorem upd_app {D : Addr} {o o' : Obj} : ∀ {pre post : List (Addr × Obj)}, (∀ p ∈ pre, p.1 ≠ D) → (∀ p ∈ post, p.1 ≠ D) → Upd D o o' (pre ++ (D, o) :: post) (pre ++ (D, o') :: post)
  | [], _, _, h2 => .head h2
  | p :: pre, post, h1, h2 => .tail (h1 p (.head _)) (upd_app (fun q hq => h1 q (.tail _ hq)) h2)
def idictE (prog : Program) (w : World) (kvs : List (Int × Value)) (ep : Nat) : OP := fun o => KdkAt (intKind prog w) o kvs ep
def keyIterO (d : Addr) (i n ep : Nat) : OP := fun o => o.cls = .type "dict_keyiterator" ∧ o.data = .fields #[.ref d, .int i 0, .int n 0, .int ep 0]
def isetO (prog : Program) (w : World) (S : Int → Bool) (n : Nat) : OP := fun o => ∃ es ep t, o.ExactSet ∧ o.data = .set es ep t ∧ ElemsOf (intKind prog w) es.toList ∧ (∀ k, S k = true ↔ ∃ e ∈ es.toList, (intKind prog w).is k e.2 = true)
    ∧ es.size < scanBound ∧ t.fits es.size = true ∧ es.size = n
section
variable {prog : Program} {w : World} {A : Around} {E : Value → Shared → Prop} {s : Shared} {h₀ : Heap} {g : Array GenState} {os : OsState} {L : Addr} {m : Loc} {H H' : Led} {a b d it : Addr} {vs ws : List Value} {v : Value} {ns : List Int} {k : Int} {t : Tok} {i : Nat} {kvs : List (Int × Value)} {ep : Nat}

/-! the last item, taken out -/
theorem r_pop {Q : Value → Shared → Prop} (S : St h₀ g os L m H s) (e : H a = some (listO (vs ++ [v]))) (hz : vs.length < 16777216) (h : ∀ s', St h₀ g os L m (upd H a (listO vs)) s' → Q v s') :
    wpAny (model prog w) A (call (.builtin "list.pop") [.ref a]) Q E s := by
  obtain ⟨o, ho, n, rfl⟩ := S.inv.own _ _ e
  obtain ⟨pre, post, hs, a1, a2⟩ := allNews_split ho (S.inv.neL e) (S.inv.new _ _ e)
  have N := allNews_is h₀ L s.heap
  rw [hs] at N
  exact kl_pop S.inv.fr N (kpa_last v vs) (upd_app a1 a2) (by simp; rw [sizeLine_eq]; omega) fun h' F' N' => h _ ⟨S.inv.of_set e hs F' N' ⟨_, rfl⟩, S.gens, S.os⟩
theorem ints_split {vs : List Value} {ns : List Int} {k : Int} (h : IntsAre vs (ns ++ [k])) : ∃ us t, vs = us ++ [.int k t] ∧ IntsAre us ns := by
  induction ns generalizing vs with
  | nil =>
    cases h with
    | cons n t h => cases h; exact ⟨[], t, rfl, .nil⟩
  | cons n ns ih =>
    cases h with
    | cons n' t h =>
      obtain ⟨us, t', rfl, hu⟩ := ih h
      exact ⟨.int n t :: us, t', rfl, .cons n t hu⟩
theorem r_pop_ints {Q : Value → Shared → Prop} (S : St h₀ g os L m H s) (e : H a = some (intsO (ns ++ [k]))) (hz : ns.length < 16777216) (h : ∀ t s', St h₀ g os L m (upd H a (intsO ns)) s' → Q (.int k t) s') :
    wpAny (model prog w) A (call (.builtin "list.pop") [.ref a]) Q E s := by
  obtain ⟨vs, hv, S'⟩ := S.ints e
  obtain ⟨us, t, rfl, hu⟩ := ints_split hv
  refine r_pop S' (upd_same _ _ _) (by rw [ints_len hu]; exact hz) fun s' S'' => h t s' ?_
  rw [upd_upd] at S''
  have := S''.imp (upd_same _ _ _) (listO.ints hu)
  rwa [upd_upd] at this
theorem r_last {value slice : PySem.Expr} {Q : Value → Shared → Prop} (S : St h₀ g os L m H s) (e : H a = some (listO (vs ++ [v]))) (hz : vs.length < 16777216) (h : Q v s)
    (hs : subscripted slice false (.ref a) (.int (-1) t) = operate [.ref a, .int (-1) t] (getItem (.ref a) (.int (-1) t))) : wpAny (model prog w) A (subscriptTail value slice (.ref a) (.int (-1) t)) Q E s := by
  have hl := S.isList e
  refine tail_any hl.typeIs slot_list_getitem.lookup (wpAny_getItem_list_neg hl (by decide) (by simp; omega) (by decide) ?_ h) hs
  have e1 : (-1 + ((vs ++ [v]).toArray.size : Int)).toNat = vs.length := by simp; omega
  rw [e1]
  simp
theorem r_truthy_ints {Q : Bool → Shared → Prop} (S : St h₀ g os L m H s) (e : H a = some (intsO ns)) (hz : ns.length ≤ 16777216) (h : ∀ s', St h₀ g os L m H s' → Q (!ns.isEmpty) s') : wpAny (model prog w) A (truthy (.ref a)) Q E s := by
  obtain ⟨o, ho, vs, n, hv, rfl⟩ := S.inv.own _ _ e
  have hl := ints_len hv
  refine wpAny_truthy_list (items := vs.toArray) ⟨_, ho, rfl, n, rfl⟩ (by rw [List.size_toArray]; omega) ?_
  have : (!vs.toArray.isEmpty) = !ns.isEmpty := by cases hv <;> rfl
  rw [this]
  exact h _ ⟨S.inv, S.gens, S.os⟩
theorem r_len_ints {Q : Value → Shared → Prop} (S : St h₀ g os L m H s) (e : H a = some (intsO ns)) (hz : ns.length ≤ 16777216) (h : ∀ t s', St h₀ g os L m H s' → Q (.int ns.length t) s') :
    wpAny (model prog w) A (call (.builtin "len") [.ref a]) Q E s := by
  obtain ⟨o, ho, vs, n, hv, rfl⟩ := S.inv.own _ _ e
  have hl := ints_len hv
  refine len_list (items := vs.toArray) ⟨_, ho, rfl, n, rfl⟩ (by rw [List.size_toArray]; omega) ?_
  rw [List.size_toArray, hl]
  exact h _ _ ⟨S.inv, S.gens, S.os⟩
theorem r_cat {Q : Value → Shared → Prop} (S : St h₀ g os L m H s) (ea : H a = some (listO vs)) (eb : H b = some (listO ws)) (hz : vs.length + ws.length ≤ 16777216) (h : ∀ c s', H c = none → c ≠ L → St h₀ g os L m (upd H c (listO (vs ++ ws))) s' → Q (.ref c) s') :
    wpAny (model prog w) A (binaryOp .Add (.ref a) (.ref b)) Q E s :=
  add_lists S.inv.fr (allNews_is h₀ L s.heap) (S.isList ea) (S.isList eb) (fun h' F' N' => h _ _ S.inv.fresh S.inv.freshL
    ⟨(S.inv.of_all F' fun p hp => N' p (.tail _ hp)).add S.inv.fresh S.inv.freshN S.inv.freshL ⟨_, (N' _ (.head _)).1, 0, rfl⟩, S.gens, S.os⟩) hz

/-! dicts -/
theorem r_ddel {Q : Unit → Shared → Prop} (S : St h₀ g os L m H s) (e : H d = some (idictO prog w kvs)) (hv : (valueAt kvs k).isSome = true) (hz : kvs.length ≤ 16777216) (h : ∀ s', St h₀ g os L m (upd H d (idictO prog w (without kvs k))) s' → Q () s') :
    wpAny (model prog w) A (delItem (.ref d) (.int k t)) Q E s := by
  refine wpAny_delItem_slot (S.dict e).typeIs (by decide) PySem.F.slot_dict_delitem (call_meetsIn PySem.F.slot_dict_delitem (S.dict e).typeIs PySem.F.entry_dict_delitem (PySem.F.args_dict_delitem_2 _ _) (meets_dict_delitem_pairs (intKind prog w) d (intKind_is prog w k t)) ⟨kvs, S.dict e, hz, hv, fun h' hm hs => ?_⟩)
  exact h _ ⟨S.inv.change e hs.extBut (Heap.dictOf_iff.mp hm), S.gens, S.os⟩
theorem St.dictEp (S : St h₀ g os L m H s) (e : H d = some (idictO prog w kvs)) : ∃ ep, St h₀ g os L m (upd H d (idictE prog w kvs ep)) s := by
  obtain ⟨o, ho, hd⟩ := S.inv.own _ _ e
  obtain ⟨ep, ha⟩ := KdkAt.of hd
  exact ⟨ep, S.inv.change e (Heap.ExtBut.refl _ _) ⟨o, ho, ha⟩, S.gens, S.os⟩
theorem idictE.o {o : Obj} (x : idictE prog w kvs ep o) : idictO prog w kvs o := let ⟨es, r⟩ := x; ⟨es, ep, r⟩
theorem St.dictAt (S : St h₀ g os L m H s) (e : H d = some (idictE prog w kvs ep)) : s.heap.DictAt (intKind prog w) d kvs ep := by
  obtain ⟨o, ho, hd⟩ := S.inv.own _ _ e
  exact hd.dictAt ho
theorem r_iter_dict {Q : Value → Shared → Prop} (B : (d == sysModules) = false) (S : St h₀ g os L m H s) (e : H d = some (idictE prog w kvs ep)) (h : ∀ it s', H it = none → it ≠ L → St h₀ g os L m (upd H it (keyIterO d 0 kvs.length ep)) s' → Q (.ref it) s') :
    wpAny (model prog w) A (pyIter (.ref d)) Q E s := wpAny_pyIter_dict B (S.dictAt e) (h _ _ S.inv.fresh S.inv.freshL ⟨S.inv.push _ ⟨rfl, rfl⟩, S.gens, S.os⟩)
theorem r_next_dict {Q : Option Value → Shared → Prop} (S : St h₀ g os L m H s) (e : H it = some (keyIterO d i kvs.length ep)) (ed : H d = some (idictE prog w kvs ep)) (hv : kvs[i]? = some (k, v)) (h : ∀ t s', St h₀ g os L m (upd H it (keyIterO d (i + 1) kvs.length ep)) s' → Q (some (.int k t)) s') :
    wpAny (model prog w) A (pyNext (.ref it)) Q E s := by
  refine wpAny_pyNext_dict_item (S.inv.own _ _ e) (S.dictAt ed) hv fun key h' hk hi hs => ?_
  obtain ⟨t, rfl⟩ := Value.isInt_shape hk
  exact h _ _ ⟨S.inv.change e hs.extBut hi, S.gens, S.os⟩
theorem r_end_dict {Q : Option Value → Shared → Prop} (hh : A.handled = none) (S : St h₀ g os L m H s) (e : H it = some (keyIterO d i kvs.length ep)) (ed : H d = some (idictE prog w kvs ep)) (hv : kvs[i]? = none) (h : ∀ s', St h₀ g os L m (del H it) s' → Q none s') :
    wpAny (model prog w) A (pyNext (.ref it)) Q E s :=
  wpAny_pyNext_dict_end hh (S.inv.own _ _ e) (S.dictAt ed) hv fun h' hs => h _ ⟨S.inv.lose e hs, S.gens, S.os⟩
theorem r_ditemE {value slice : PySem.Expr} {Q : Value → Shared → Prop} (S : St h₀ g os L m H s) (e : H d = some (idictE prog w kvs ep)) (hv : valueAt kvs k = some v) (h : ∀ s', St h₀ g os L m H s' → Q v s')
    (hs : subscripted slice false (.ref d) (.int k t) = operate [.ref d, .int k t] (getItem (.ref d) (.int k t))) : wpAny (model prog w) A (subscriptTail value slice (.ref d) (.int k t)) Q E s := by
  have hD : s.heap.DictOf (intKind prog w) d kvs := (S.dictAt e).dictOf
  exact tail_any hD.typeIs slot_dict_getitem.lookup (wpAny_getItem_of (intKind_is prog w k t) hD.mapOf hv (h _ ⟨S.inv, S.gens, S.os⟩)) hs
theorem r_ditemO {value slice : PySem.Expr} {Q : Value → Shared → Prop} (S : St h₀ g os L m H s) (e : H d = some (idictO prog w kvs)) (hv : valueAt kvs k = some v) (h : ∀ s', St h₀ g os L m H s' → Q v s')
    (hs : subscripted slice false (.ref d) (.int k t) = operate [.ref d, .int k t] (getItem (.ref d) (.int k t))) : wpAny (model prog w) A (subscriptTail value slice (.ref d) (.int k t)) Q E s :=
  tail_any (S.dict e).typeIs slot_dict_getitem.lookup (wpAny_getItem_of (intKind_is prog w k t) (S.dict e).mapOf hv (h _ ⟨S.inv, S.gens, S.os⟩)) hs

/-! sets of ints -/
theorem isetO.at {S : Int → Bool} {n : Nat} {h : Heap} (x : ∃ o, h.get? a = some o ∧ isetO prog w S n o) : h.SetOf (intKind prog w) a S n := let ⟨o, ho, es, ep, t, r⟩ := x; ⟨o, es, ep, t, ho, r⟩
theorem isetO.of {S : Int → Bool} {n : Nat} {h : Heap} (x : h.SetOf (intKind prog w) a S n) : ∃ o, h.get? a = some o ∧ isetO prog w S n o := let ⟨o, es, ep, t, ho, r⟩ := x; ⟨o, ho, es, ep, t, r⟩
theorem r_set0 {Q : Value → Shared → Prop} (S : St h₀ g os L m H s) (h : ∀ c s', H c = none → c ≠ L → St h₀ g os L m (upd H c (isetO prog w (fun _ => false) 0)) s' → Q (.ref c) s') : wpAny (model prog w) A (call (.type "set") []) Q E s :=
  call_set_0 fun led => h _ _ S.inv.fresh S.inv.freshL ⟨S.inv.push _ ⟨#[], 0, _, ⟨rfl, rfl, rfl⟩, rfl, fun e he => by simp at he, fun k => by simp, by decide, by rfl, rfl⟩, S.gens, S.os⟩
theorem r_sadd {F : Int → Bool} {n : Nat} {Q : Value → Shared → Prop} (S : St h₀ g os L m H s) (e : H a = some (isetO prog w F n)) (hz : n + 1 < 4096) (h : ∀ s', St h₀ g os L m (upd H a (isetO prog w (fun k' => F k' || decide (k' = k)) (if F k then n else n + 1))) s' → Q .none s') :
    wpAny (model prog w) A (call (.builtin "set.add") [.ref a, .int k t]) Q E s :=
  call_set_add (intKind_is prog w k t) rfl (isetO.at (S.inv.own _ _ e)) hz fun h' hs hS => h _ ⟨S.inv.change e hs.extBut (isetO.of hS), S.gens, S.os⟩
theorem r_sin {F : Int → Bool} {n : Nat} {Q : Value → Shared → Prop} (S : St h₀ g os L m H s) (e : H a = some (isetO prog w F n)) (h : ∀ s', St h₀ g os L m H s' → Q (.bool (F k)) s') :
    wpAny (model prog w) A (compareOp .In (.int k t) (.ref a)) Q E s := wpAny_inSet_of (intKind_is prog w k t) rfl (isetO.at (S.inv.own _ _ e)) (h _ ⟨S.inv, S.gens, S.os⟩)
theorem r_getMethod_set {F : Int → Bool} {n : Nat} {pl : Sem Bool} {Q : Value × List Value → Shared → Prop} (S : St h₀ g os L m H s) (e : H a = some (isetO prog w F n)) (h : Q (.builtin "set.add", [.ref a]) s) : wpAny (model prog w) A (getMethod (.ref a) (Str.ofString "add") pl) Q E s :=
  getMethod_set_add (isetO.at (S.inv.own _ _ e)) h
end

/-! ## `_find_cycle` as a plain function -/
def sucOf (g : List PN) (k : Int) : List Int := match g.find? (fun n => n.k = k) with | some n => n.sc | none => []
/-- back to the topmost frame that has a successor left; the stack's top comes first -/
def popF (g : List PN) : List (Int × Nat) → Option (Int × List (Int × Nat))
  | [] => none
  | (k, i) :: r => match (sucOf g k)[i]? with
    | some v => some (v, (k, i + 1) :: r)
    | none => popF g r
inductive Dfs where
  | ring (r : List Int)
  | done (seen : List Int)
/-- the ring that is told: the stack from the node's place on, and the node -/
def ringF (rst : List (Int × Nat)) (node : Int) : List Int := (rst.reverse.map (·.1)).drop ((rst.reverse.map (·.1)).findIdx (fun k => k == node)) ++ [node]
def dfsF (g : List PN) : Nat → List Int → List (Int × Nat) → Int → Option Dfs
  | 0, _, _, _ => none
  | f + 1, seen, rst, node =>
    if seen.contains node then
      if (rst.map (·.1)).contains node then some (.ring (ringF rst node))
      else match popF g rst with
        | some (v, rst') => dfsF g f seen rst' v
        | none => some (.done seen)
    else match popF g ((node, 0) :: rst) with
      | some (v, rst') => dfsF g f (node :: seen) rst' v
      | none => some (.done (node :: seen))
def findF (g : List PN) (fuel : Nat) : List Int → List Int → Option (Option (List Int))
  | [], _ => some none
  | k :: ks, seen => if seen.contains k then findF g fuel ks seen else match dfsF g fuel seen [] k with
    | some (.ring r) => some (some r)
    | some (.done seen') => findF g fuel ks seen'
    | none => none

/-! the stack's entries in the ledger -/
structure FR where
  k : Int
  i : Nat
  mw : Addr
  it : Addr
def FR.p (f : FR) : Int × Nat := (f.k, f.i)
def FsOK (H H₀ : Led) (G : List GN) (core : List Addr) : List FR → Prop
  | [] => True
  | f :: r => H f.mw = some (wrapO f.it) ∧ (∃ n ∈ G, n.k = f.k ∧ H f.it = some (listIterO n.la f.i)) ∧ H₀ f.mw = none ∧ H₀ f.it = none ∧ f.mw ∉ core ∧ f.it ∉ core ∧ f.mw ≠ f.it ∧
      (∀ f' ∈ r, f'.it ≠ f.it ∧ f'.mw ≠ f.it ∧ f'.it ≠ f.mw ∧ f'.mw ≠ f.mw) ∧ FsOK H H₀ G core r
section
variable {H H' H₀ : Led} {G : List GN} {core : List Addr} {fs : List FR} {b : Addr} {P : OP}
theorem FsOK.of (h : FsOK H H₀ G core fs) (k : ∀ f ∈ fs, H' f.mw = H f.mw ∧ H' f.it = H f.it) : FsOK H' H₀ G core fs := by
  induction fs with
  | nil => trivial
  | cons f r ih =>
    obtain ⟨a1, ⟨n, hn, hk, a2⟩, a3⟩ := h
    exact ⟨(k f (.head _)).1.trans a1, ⟨n, hn, hk, (k f (.head _)).2.trans a2⟩, a3.1, a3.2.1, a3.2.2.1, a3.2.2.2.1, a3.2.2.2.2.1, a3.2.2.2.2.2.1, ih a3.2.2.2.2.2.2 fun f' hf' => k f' (.tail _ hf')⟩
theorem FsOK.there (h : FsOK H H₀ G core fs) : ∀ f ∈ fs, H₀ f.mw = none ∧ H₀ f.it = none ∧ f.mw ∉ core ∧ f.it ∉ core ∧ (H f.mw).isSome = true ∧ (H f.it).isSome = true := by
  induction fs with
  | nil => intro f hf; cases hf
  | cons f r ih =>
    obtain ⟨a1, ⟨n, hn, hk, a2⟩, a3⟩ := h
    intro f' hf'
    rcases List.mem_cons.mp hf' with rfl | hf'
    · exact ⟨a3.1, a3.2.1, a3.2.2.1, a3.2.2.2.1, by rw [a1]; rfl, by rw [a2]; rfl⟩
    · exact ih a3.2.2.2.2.2.2 f' hf'
theorem FsOK.updCore (h : FsOK H H₀ G core fs) (hb : b ∈ core) : FsOK (upd H b P) H₀ G core fs := h.of fun f hf => by
  obtain ⟨_, _, h1, h2, _⟩ := h.there f hf
  exact ⟨upd_ne _ _ (fun e => h1 (e ▸ hb)), upd_ne _ _ (fun e => h2 (e ▸ hb))⟩
theorem FsOK.updNew (h : FsOK H H₀ G core fs) (hb : H b = none) : FsOK (upd H b P) H₀ G core fs := h.of fun f hf => by
  obtain ⟨_, _, _, _, h1, h2⟩ := h.there f hf
  exact ⟨upd_ne _ _ (fun e => by rw [e, hb] at h1; cases h1), upd_ne _ _ (fun e => by rw [e, hb] at h2; cases h2)⟩
end

/-! the places on the stack, as `node2stacki` tells them -/
def N2 (ks : List Int) (kvs : List (Int × Value)) : Prop := kvs.map (·.1) = ks ∧ ∀ (i : Nat) (k : Int) (v : Value), kvs[i]? = some (k, v) → ∃ t, v = Value.int i t
theorem N2.nil : N2 [] [] := ⟨rfl, fun i k v e => by simp at e⟩
theorem N2.snoc {ks : List Int} {kvs : List (Int × Value)} {k : Int} {t : Tok} (h : N2 ks kvs) : N2 (ks ++ [k]) (kvs ++ [(k, .int ks.length t)]) := by
  refine ⟨by rw [List.map_append, h.1]; rfl, fun i k' v e => ?_⟩
  have hl : kvs.length = ks.length := by rw [← h.1, List.length_map]
  rcases Nat.lt_trichotomy i kvs.length with q | q | q
  · rw [List.getElem?_append_left q] at e; exact h.2 i k' v e
  · subst q
    rw [List.getElem?_append_right (Nat.le_refl _), Nat.sub_self] at e
    cases e
    exact ⟨t, by rw [hl]⟩
  · rw [List.getElem?_append_right (Nat.le_of_lt q)] at e
    have : i - kvs.length ≠ 0 := by omega
    obtain ⟨j, hj⟩ := Nat.exists_eq_succ_of_ne_zero this
    rw [hj] at e
    simp at e
theorem N2.init {ks : List Int} {kvs : List (Int × Value)} {k : Int} (h : N2 (ks ++ [k]) kvs) (hk : k ∉ ks) : N2 ks (without kvs k) ∧ (valueAt kvs k).isSome = true := by
  have hne : kvs ≠ [] := fun e => by subst e; have := congrArg List.length h.1; simp at this
  obtain ⟨kv, p, rfl⟩ : ∃ kv p, kvs = kv ++ [p] := ⟨kvs.dropLast, kvs.getLast hne, (List.dropLast_concat_getLast hne).symm⟩
  obtain ⟨k', v⟩ := p
  have e := h.1
  rw [List.map_append] at e
  obtain ⟨e1, e2⟩ := List.append_inj' e rfl
  simp only [List.map_cons, List.map_nil, List.cons.injEq, and_true] at e2
  subst e2
  have w1 : without (kv ++ [(k', v)]) k' = kv := by
    unfold without
    rw [List.filter_append]
    have : kv.filter (fun kv => decide (kv.1 ≠ k')) = kv := List.filter_eq_self.mpr fun x hx => by
      have : x.1 ∈ ks := e1 ▸ List.mem_map_of_mem hx
      simp only [ne_eq, decide_not, Bool.not_eq_eq_eq_not, Bool.not_true, decide_eq_false_iff_not]
      exact fun q => hk (q ▸ this)
    rw [this]; simp
  refine ⟨?_, ?_⟩
  · rw [w1]
    refine ⟨e1, fun i k'' v' q => h.2 i k'' v' ?_⟩
    rw [List.getElem?_append_left (by have := List.getElem?_eq_some_iff.mp q; exact this.1)]; exact q
  · unfold valueAt
    rw [Option.isSome_map, List.find?_isSome]
    exact ⟨(k', v), by simp, by simp⟩
theorem N2.none {ks : List Int} {kvs : List (Int × Value)} {k : Int} (h : N2 ks kvs) (hk : ks.contains k = false) : valueAt kvs k = none := by
  unfold valueAt
  rw [Option.map_eq_none_iff, List.find?_eq_none]
  intro x hx
  have : x.1 ∈ ks := h.1 ▸ List.mem_map_of_mem hx
  simp only [decide_eq_true_eq]
  intro q
  rw [← q, List.contains_iff_mem.mpr this] at hk; cases hk
theorem N2.some {ks : List Int} {kvs : List (Int × Value)} {k : Int} (h : N2 ks kvs) (hk : ks.contains k = true) : ∃ t, valueAt kvs k = some (.int (ks.findIdx (fun x => x == k)) t) := by
  unfold valueAt
  have hl : kvs.length = ks.length := by rw [← h.1, List.length_map]
  have hf : kvs.findIdx (fun x => decide (x.1 = k)) = ks.findIdx (fun x => x == k) := by
    rw [← h.1, List.findIdx_map]; rfl
  have hlt : kvs.findIdx (fun x => decide (x.1 = k)) < kvs.length := by
    rw [List.findIdx_lt_length]
    have := List.contains_iff_mem.mp hk
    rw [← h.1] at this
    obtain ⟨x, hx, e⟩ := List.mem_map.mp this
    exact ⟨x, hx, by simp [e]⟩
  have e1 : kvs.find? (fun x => decide (x.1 = k)) = Option.some kvs[kvs.findIdx (fun x => decide (x.1 = k))] := by
    rw [List.find?_eq_getElem?_findIdx, List.getElem?_eq_getElem hlt]
  rw [e1]
  obtain ⟨t, ht⟩ := h.2 _ _ _ (List.getElem?_eq_getElem hlt)
  exact ⟨t, congrArg Option.some (ht.trans (by rw [hf]))⟩
theorem N2.new {ks : List Int} {kvs : List (Int × Value)} {k : Int} {v : Value} (h : N2 ks kvs) (hk : ks.contains k = false) : stored kvs k v = kvs ++ [(k, v)] := by
  unfold stored
  rw [if_neg]
  intro e
  obtain ⟨x, hx, e⟩ := List.any_eq_true.mp e
  have : x.1 ∈ ks := h.1 ▸ List.mem_map_of_mem hx
  simp only [decide_eq_true_eq] at e
  rw [← e, List.contains_iff_mem.mpr this] at hk; cases hk

theorem len_le_of_sub {l k : List Int} (h : l.Nodup) (hs : ∀ x ∈ l, x ∈ k) : l.length ≤ k.length := by
  induction l generalizing k with
  | nil => simp
  | cons a l ih =>
    rw [List.nodup_cons] at h
    have ha := hs a (.head _)
    have := ih (k := k.erase a) h.2 fun x hx => by
      have hne : x ≠ a := fun e => h.1 (e ▸ hx)
      exact (List.mem_erase_of_ne hne).mpr (hs x (.tail _ hx))
    rw [List.length_erase_of_mem ha] at this
    have : 0 < k.length := List.length_pos_of_mem ha
    simp only [List.length_cons]
    omega

theorem FmL.enter {l : List Env} {L L' : Addr} {H : Led} {env : Env} {oL : Obj} (F : FmL l L H) (hk : env.scope.kind ≠ .module) (hf : env.frame = some L') (hd : ∀ vs, oL.data ≠ .fields vs) : FmL (env :: l) L' (upd H L (frO oL)) := by
  intro e he
  rcases List.mem_cons.mp he with rfl | he
  · exact ⟨hk, L', hf, .inl rfl⟩
  · obtain ⟨h1, b, hb, h2⟩ := F e he
    refine ⟨h1, b, hb, .inr ?_⟩
    rcases h2 with rfl | ⟨o, ho, hq⟩
    · exact ⟨oL, upd_same _ _ _, hd⟩
    · by_cases q : b = L
      · subst q; exact ⟨oL, upd_same _ _ _, hd⟩
      · exact ⟨o, upd_of q ho, hq⟩

section
variable {prog : Program} {w : World} {A : Around} {E : Value → Shared → Prop} {s : Shared} {h₀ : Heap} {g : Array GenState} {os : OsState} {L : Addr} {m : Loc} {H H' : Led}
/-- a def is called; the frame's object is told -/
theorem r_callF {R : Result → Shared → Prop} {f : Addr} {oc : Value} {od : Option Addr} {osl : Array (Option Value)} {name qual : Str} {params : Arguments} {body : List Stmt} {scope : Scope} {dV kV doc pm : Value} {an : Option Addr} {cdv ct : Value}
    {args : Args} {binds : List (Str × Value)} (B : Bs w h₀) (S : St h₀ g os L m H s)
    (hl : (KK w).lookup f = some ⟨oc, od, .func (fnOf name qual params body scope dV kV doc pm an cdv ct), osl⟩) (hcd : codeIn (KK w) cdv qual = true) (hroom : A.depth < recursionLimit)
    (hbind : BindsTo s (fnOf name qual params body scope dV kV doc pm an cdv ct) args binds) (hcell : ∀ x ∈ scope.names, x.2 ≠ .cell) (hloc : ∀ x ∈ binds, scope.names.lookup x.1 = some .local)
    (hco : scope.isCoroutine = false) (hgen : scope.isGenerator = false) (hk : scope.kind = .function)
    (h : ∀ L' oL s₁, L' ≠ L → H L' = none → (∀ outer, A.frames = some outer → FmL outer L H → (A.deeper (envX qual scope L' f cdv [])).frames = some (envX qual scope L' f cdv [] :: outer) ∧ FmL (envX qual scope L' f cdv [] :: outer) L' (upd H L (frO oL))) → St h₀ g os L' (fun y => binds.reverse.lookup y) (upd H L (frO oL)) s₁ →
      (∀ g' m' H' s', St h₀ g' os L' m' H' s' → H' L = some (frO oL) → St h₀ g' os L m (del H' L) s') →
      wpAny (model prog w) (A.deeper (envX qual scope L' f cdv [])) (execs body (envX qual scope L' f cdv [])) (fun fl s' => R (.ok (.ret (match fl with | .ret v => v | _ => .none))) s')
        (fun e s' => wpAny (model prog w) (A.deeper (envX qual scope L' f cdv [])) (leaving (envX qual scope L' f cdv []) e) (fun _ s'' => R (.error e) s'') (fun e' s'' => R (.error e') s'') s') s₁) :
    codeAny (model prog w) A (.call (.ref f) args) R s := by
  obtain ⟨p, loose, mg, mb, T⟩ := B.T
  have X := B.X.keeps S.inv.keep
  refine codeAny_call_def (fd := fnOf name qual params body scope dV kV doc pm an cdv ct) (body := body) (binds := binds) hroom (X _ _ hl) rfl (T.nolimit.keeps S.inv.keep) (codeRec_of X hcd) rfl hbind hcell hloc (fun h₁ hns hk₁ => ?_) hco hgen hk
  obtain ⟨oL, es, ep, hL, hd, hr⟩ := S.inv.ns
  exact h s.heap.objs.size oL _ S.inv.freshL S.inv.fresh (fun outer hfr F => ⟨Around.frames_deeper hfr, F.enter (fun q => by rw [show (envX qual scope s.heap.objs.size f cdv []).scope.kind = scope.kind from rfl, hk] at q; cases q) rfl fun vs e => by rw [hd] at e; cases e⟩) ⟨S.inv.enter hL hns hk₁ rfl, S.gens, S.os⟩ fun g' m' H' s' S' e => ⟨S'.inv.back e hL ⟨oL, es, ep, hL, hd, hr⟩ S.inv.above, S'.gens, S'.os⟩
end

/-! ## The working objects of `_find_cycle` -/
structure Wk (prog : Program) (w : World) (H₀ : Led) (G : List GN) (D st its sn nd ki : Addr) (i ep : Nat) (fs : List FR) (seen : List Int) (H : Led) : Prop where
  stack : H st = some (intsO (fs.reverse.map (·.k)))
  itsE : H its = some (listO (fs.reverse.map fun f => .ref f.mw))
  seenE : ∃ F n, H sn = some (isetO prog w F n) ∧ (∀ k, F k = seen.contains k) ∧ n = seen.length
  ndE : ∃ kvs, H nd = some (idictO prog w kvs) ∧ N2 (fs.reverse.map (·.k)) kvs
  kiE : H ki = some (keyIterO D i (pairsOf G).length ep)
  fsE : FsOK H H₀ G [st, its, sn, nd, ki] fs
  keep : Sub H₀ H
  keys : (fs.map (·.k)).Nodup
  core : [st, its, sn, nd, ki].Nodup
  off : ∀ c ∈ [st, its, sn, nd, ki], H₀ c = none
  snd : seen.Nodup
  sin : ∀ k ∈ seen, k ∈ G.map (·.k)
  fin : ∀ f ∈ fs, f.k ∈ seen
section
variable {prog : Program} {w : World} {H₀ H H' : Led} {G : List GN} {D st its sn nd ki : Addr} {i ep : Nat} {fs : List FR} {seen : List Int} {f : FR} {n : GN} {k : Int} {mw it x T : Addr} {kvs : List (Int × Value)}
theorem Wk.slen (W : Wk prog w H₀ G D st its sn nd ki i ep fs seen H) : seen.length ≤ G.length := by
  have := len_le_of_sub W.snd W.sin
  rwa [List.length_map] at this
theorem Wk.flen (W : Wk prog w H₀ G D st its sn nd ki i ep fs seen H) : fs.length ≤ G.length := by
  have := len_le_of_sub W.keys (k := G.map (·.k)) fun x hx => by
    obtain ⟨f, hf, rfl⟩ := List.mem_map.mp hx
    exact W.sin _ (W.fin f hf)
  rwa [List.length_map, List.length_map] at this
theorem Wk.has (W : Wk prog w H₀ G D st its sn nd ki i ep fs seen H) : ∀ c ∈ [st, its, sn, nd, ki], ∃ P, H c = some P := by
  obtain ⟨F, q, hs, _⟩ := W.seenE
  obtain ⟨kvs, hn, _⟩ := W.ndE
  intro c hc
  simp only [List.mem_cons, List.not_mem_nil, or_false] at hc
  rcases hc with rfl | rfl | rfl | rfl | rfl
  · exact ⟨_, W.stack⟩
  · exact ⟨_, W.itsE⟩
  · exact ⟨_, hs⟩
  · exact ⟨_, hn⟩
  · exact ⟨_, W.kiE⟩
/-- a successor is taken -/
theorem Wk.next (W : Wk prog w H₀ G D st its sn nd ki i ep (f :: fs) seen H) (hn : n ∈ G) (hk : n.k = f.k) (e : H' f.it = some (listIterO n.la (f.i + 1))) (o : ∀ a, a ≠ f.it → H' a = H a) :
    Wk prog w H₀ G D st its sn nd ki i ep ({ f with i := f.i + 1 } :: fs) seen H' := by
  obtain ⟨a1, ⟨n', hn', hk', a2⟩, a3, a4, a5, a6, a7, a8, a9⟩ := W.fsE
  have oc : ∀ c ∈ [st, its, sn, nd, ki], H' c = H c := fun c hc => o c fun q => a6 (q ▸ hc)
  obtain ⟨F, q, hs, hF, hq⟩ := W.seenE
  obtain ⟨kvs, hd, hN⟩ := W.ndE
  refine ⟨(oc st (by simp)).trans (by simpa using W.stack), (oc its (by simp)).trans (by simpa using W.itsE), ⟨F, q, (oc sn (by simp)).trans hs, hF, hq⟩, ⟨kvs, (oc nd (by simp)).trans hd, by simpa using hN⟩, (oc ki (by simp)).trans W.kiE, ?_, ?_, by simpa using W.keys, W.core, W.off, W.snd, W.sin, ?_⟩
  · refine ⟨(o _ a7).trans a1, ⟨n, hn, hk, e⟩, a3, a4, a5, a6, a7, a8, a9.of fun f' hf' => ⟨o _ (a8 f' hf').2.1, o _ (a8 f' hf').1⟩⟩
  · intro a P ha
    rw [o a (fun q => by rw [q, a4] at ha; cases ha)]
    exact W.keep a P ha
  · intro f' hf'
    rcases List.mem_cons.mp hf' with rfl | hf'
    · exact W.fin f (.head _)
    · exact W.fin f' (.tail _ hf')
/-- the next key -/
theorem Wk.tick {j : Nat} (W : Wk prog w H₀ G D st its sn nd ki i ep fs seen H) : Wk prog w H₀ G D st its sn nd ki j ep fs seen (upd H ki (keyIterO D j (pairsOf G).length ep)) := by
  obtain ⟨F, q, hs', hF, hq⟩ := W.seenE
  obtain ⟨kvs, hd, hN⟩ := W.ndE
  have C := W.core
  simp only [List.nodup_cons, List.mem_cons, List.not_mem_nil, or_false, not_or, not_false_eq_true, and_true, List.nodup_nil] at C
  obtain ⟨⟨c1, c2, c3, c4⟩, ⟨c5, c6, c7⟩, ⟨c8, c9⟩, c10⟩ := C
  refine ⟨upd_of c4 W.stack, upd_of c7 W.itsE, ⟨F, q, upd_of c9 hs', hF, hq⟩, ⟨kvs, upd_of c10 hd, hN⟩, upd_same _ _ _, W.fsE.updCore (by simp), fun a P ha => upd_of ?_ (W.keep a P ha), W.keys, W.core, W.off, W.snd, W.sin, W.fin⟩
  rintro rfl; rw [W.off a (by simp)] at ha; cases ha
/-- the topmost one is popped -/
theorem Wk.pop (W : Wk prog w H₀ G D st its sn nd ki i ep (f :: fs) seen H) (hs : H' st = some (intsO (fs.reverse.map (·.k)))) (hi : H' its = some (listO (fs.reverse.map fun f => .ref f.mw)))
    (hd : H' nd = some (idictO prog w (without kvs f.k))) (ed : H nd = some (idictO prog w kvs)) (hN : N2 ((f :: fs).reverse.map (·.k)) kvs)
    (o : ∀ a P, a ≠ st → a ≠ its → a ≠ nd → a ≠ f.it → H a = some P → H' a = some P) :
    Wk prog w H₀ G D st its sn nd ki i ep fs seen H' := by
  obtain ⟨a1, ⟨n', hn', hk', a2⟩, a3, a4, a5, a6, a7, a8, a9⟩ := W.fsE
  obtain ⟨F, q, hs', hF, hq⟩ := W.seenE
  have C := W.core
  have O := W.off
  simp only [List.nodup_cons, List.mem_cons, List.not_mem_nil, or_false, not_or, not_false_eq_true, and_true, List.nodup_nil] at C
  obtain ⟨⟨c1, c2, c3, c4⟩, ⟨c5, c6, c7⟩, ⟨c8, c9⟩, c10⟩ := C
  have hk := W.keys
  rw [List.map_cons, List.nodup_cons] at hk
  rw [List.reverse_cons, List.map_append] at hN
  refine ⟨hs, hi, ⟨F, q, o sn _ (Ne.symm c2) (Ne.symm c5) c8 (fun q => a6 (q ▸ by simp)) hs', hF, hq⟩, ⟨_, hd, (hN.init (by simpa using hk.1)).1⟩, o ki _ (Ne.symm c4) (Ne.symm c7) (Ne.symm c10) (fun q => a6 (q ▸ by simp)) W.kiE, ?_, ?_, hk.2, W.core, W.off, W.snd, W.sin, fun f' hf' => W.fin f' (.tail _ hf')⟩
  · refine a9.of fun f' hf' => ?_
    obtain ⟨b1, b2, b3, b4, b5, b6⟩ := a9.there f' hf'
    simp only [List.mem_cons, List.not_mem_nil, or_false, not_or] at b3 b4
    obtain ⟨P, hP⟩ := Option.isSome_iff_exists.mp b5
    obtain ⟨P', hP'⟩ := Option.isSome_iff_exists.mp b6
    exact ⟨(o _ _ b3.1 b3.2.1 b3.2.2.2.1 (a8 f' hf').2.1 hP).trans hP.symm, (o _ _ b4.1 b4.2.1 b4.2.2.2.1 (a8 f' hf').1 hP').trans hP'.symm⟩
  · intro a P ha
    refine o a P ?_ ?_ ?_ ?_ (W.keep a P ha)
    · rintro rfl; rw [O a (by simp)] at ha; cases ha
    · rintro rfl; rw [O a (by simp)] at ha; cases ha
    · rintro rfl; rw [O a (by simp)] at ha; cases ha
    · rintro rfl; rw [a4] at ha; cases ha
/-- a new node is put on the stack -/
theorem Wk.push {F : Int → Bool} {q : Nat} {t : Tok} (W : Wk prog w H₀ G D st its sn nd ki i ep fs seen H) (hn : n ∈ G) (hkn : n.k = k) (hns : seen.contains k = false) (hit : H it = none) (hmw : H mw = none) (him : mw ≠ it)
    (hF : ∀ k', F k' = seen.contains k') (hs : H' sn = some (isetO prog w (fun k' => F k' || decide (k' = k)) (if F k then q else q + 1))) (hq : q = seen.length)
    (e1 : H' it = some (listIterO n.la 0)) (e2 : H' mw = some (wrapO it)) (e3 : H' its = some (listO ((fs.reverse.map fun f => .ref f.mw) ++ [.ref mw])))
    (e4 : H' nd = some (idictO prog w (stored kvs k (.int fs.length t)))) (hN : N2 (fs.reverse.map (·.k)) kvs) (e5 : H' st = some (intsO (fs.reverse.map (·.k) ++ [k])))
    (o : ∀ a P, a ≠ st → a ≠ its → a ≠ sn → a ≠ nd → H a = some P → H' a = some P) :
    Wk prog w H₀ G D st its sn nd ki i ep (⟨k, 0, mw, it⟩ :: fs) (k :: seen) H' := by
  have C := W.core
  have O := W.off
  have hnm : ∀ c ∈ [st, its, sn, nd, ki], mw ≠ c := fun c hc e => by obtain ⟨P, hP⟩ := W.has c hc; rw [← e, hmw] at hP; cases hP
  have hni : ∀ c ∈ [st, its, sn, nd, ki], it ≠ c := fun c hc e => by obtain ⟨P, hP⟩ := W.has c hc; rw [← e, hit] at hP; cases hP
  simp only [List.nodup_cons, List.mem_cons, List.not_mem_nil, or_false, not_or, not_false_eq_true, and_true, List.nodup_nil] at C
  obtain ⟨⟨c1, c2, c3, c4⟩, ⟨c5, c6, c7⟩, ⟨c8, c9⟩, c10⟩ := C
  have hfs : ∀ f ∈ fs, f.k ≠ k := fun f hf e => by
    have := W.fin f hf
    rw [e, ← List.contains_iff_mem, hns] at this; cases this
  have hc : (fs.reverse.map (·.k)).contains k = false := by
    cases hc : (fs.reverse.map (·.k)).contains k with
    | false => rfl
    | true =>
      obtain ⟨f, hf, e⟩ := List.mem_map.mp (List.contains_iff_mem.mp hc)
      exact absurd e (hfs f (List.mem_reverse.mp hf))
  have hFk : F k = false := (hF k).trans hns
  refine ⟨by rw [e5]; simp, by rw [e3]; simp, ⟨_, _, hs, fun k' => ?_, by rw [hFk, hq]; rfl⟩, ⟨_, e4, ?_⟩, o _ _ (Ne.symm c4) (Ne.symm c7) (Ne.symm c9) (Ne.symm c10) W.kiE, ?_, ?_, ?_, W.core, W.off, ?_, ?_, ?_⟩
  · rw [hF k', List.contains_cons]
    by_cases e : k' = k
    · subst e; simp
    · have : (k' == k) = false := by simpa using e
      simp [e, this]
  · rw [hN.new hc]
    have := hN.snoc (k := k) (t := t)
    rw [List.length_map, List.length_reverse] at this
    simpa using this
  · refine ⟨e2, ⟨n, hn, hkn, e1⟩, ?_, ?_, fun hc => hnm _ hc rfl, fun hc => hni _ hc rfl, him, ?_, ?_⟩
    · cases e : H₀ mw with
      | none => rfl
      | some P => rw [W.keep _ _ e] at hmw; cases hmw
    · cases e : H₀ it with
      | none => rfl
      | some P => rw [W.keep _ _ e] at hit; cases hit
    · intro f' hf'
      obtain ⟨b1, b2, b3, b4, b5, b6⟩ := W.fsE.there f' hf'
      exact ⟨fun e => (by rw [e, hit] at b6; cases b6), fun e => (by rw [e, hit] at b5; cases b5), fun e => (by rw [e, hmw] at b6; cases b6), fun e => (by rw [e, hmw] at b5; cases b5)⟩
    · refine W.fsE.of fun f' hf' => ?_
      obtain ⟨b1, b2, b3, b4, b5, b6⟩ := W.fsE.there f' hf'
      simp only [List.mem_cons, List.not_mem_nil, or_false, not_or] at b3 b4
      obtain ⟨P, hP⟩ := Option.isSome_iff_exists.mp b5
      obtain ⟨P', hP'⟩ := Option.isSome_iff_exists.mp b6
      exact ⟨(o _ _ b3.1 b3.2.1 b3.2.2.1 b3.2.2.2.1 hP).trans hP.symm, (o _ _ b4.1 b4.2.1 b4.2.2.1 b4.2.2.2.1 hP').trans hP'.symm⟩
  · intro a P ha
    refine o a P ?_ ?_ ?_ ?_ (W.keep a P ha)
    · rintro rfl; rw [O a (by simp)] at ha; cases ha
    · rintro rfl; rw [O a (by simp)] at ha; cases ha
    · rintro rfl; rw [O a (by simp)] at ha; cases ha
    · rintro rfl; rw [O a (by simp)] at ha; cases ha
  · rw [List.map_cons, List.nodup_cons]
    refine ⟨fun hm => ?_, W.keys⟩
    obtain ⟨f, hf, e⟩ := List.mem_map.mp hm
    exact hfs f hf e
  · rw [List.nodup_cons]
    exact ⟨fun hm => (by rw [List.contains_iff_mem.mpr hm] at hns; cases hns), W.snd⟩
  · intro k' hk'
    rcases List.mem_cons.mp hk' with rfl | hk'
    · exact hkn ▸ List.mem_map_of_mem hn
    · exact W.sin k' hk'
  · intro f' hf'
    rcases List.mem_cons.mp hf' with rfl | hf'
    · exact .head _
    · exact .tail _ (W.fin f' hf')
end
theorem sucOf_of {G : List GN} (hn : (G.map (·.k)).Nodup) {n : GN} (h : n ∈ G) : sucOf (G.map GN.pn) n.k = n.sc := by
  unfold sucOf
  rw [List.find?_map]
  have := find_of_key hn h
  have e : List.find? ((fun x => decide (x.k = n.k)) ∘ GN.pn) G = some n := this
  rw [e]; rfl

/-! slices of lists -/
section
variable {prog : Program} {w : World} {A : Around} {E : Value → Shared → Prop} {s : Shared} {h₀ : Heap} {g : Array GenState} {os : OsState} {L : Addr} {m : Loc} {H : Led} {a : Addr} {vs : List Value} {env : Env}
def SliceGo (Q : Value → Shared → Prop) (o vl vu : Value) (s₃ : Shared) : Prop := ∃ l items lo hi, o = .ref l ∧ s₃.heap.IsList l items ∧ items.size ≤ sizeLine ∧ IsPart vl lo ∧ IsPart vu hi ∧
        Q (.ref (s₃.heap.objs.size + 1)) { s₃ with heap := (s₃.heap.push { cls := .type "slice", data := .fields #[vl, vu, .none] }).push { cls := .type "list", data := .seq (slicePick items lo hi none) } }
theorem r_slice {x : Str} {px : Pos} {lower upper : Option PySem.Expr} {p pos : Pos} {Q : Value → Shared → Prop}
    (h : wpAny (model prog w) A (eval (.Name x px) env) (fun o s₁ => wpAny (model prog w) A (evalPart lower env) (fun vl s₂ => wpAny (model prog w) A (evalPart upper env) (fun vu s₃ => SliceGo Q o vl vu s₃) E s₂) E s₁) E s) :
    wpAny (model prog w) A (eval (.Subscript (.Name x px) (.Slice lower upper none p) pos) env) Q E s := wpAny_Subscript_list_slice h (fun _ _ => rfl)
theorem r_neg {i : Int} {t : Tok} {Q : Value → Shared → Prop} (S : St h₀ g os L m H s) (h : ∀ t s', St h₀ g os L m H s' → Q (.int (-i) t) s') : wpAny (model prog w) A (unaryOp .USub (.int i t)) Q E s := neg_int (h _ _ ⟨S.inv, S.gens, S.os⟩)
theorem r_part_none {Q : Value → Shared → Prop} (h : Q .none s) : wpAny (model prog w) A (evalPart none env) Q E s := wpAny_pure h
theorem r_part_some {e : PySem.Expr} {Q : Value → Shared → Prop} (h : wpAny (model prog w) A (eval e env) Q E s) : wpAny (model prog w) A (evalPart (some e) env) Q E s := h
theorem r_slice_done {vl vu : Value} {lo hi : Option Int} {Q : Value → Shared → Prop} (S : St h₀ g os L m H s) (e : H a = some (listO vs)) (hz : vs.length ≤ 16777216) (pl : IsPart vl lo) (pu : IsPart vu hi)
    (h : ∀ c s', H c = none → c ≠ L → St h₀ g os L m (upd H c (listO (slicePick vs.toArray lo hi none).toList)) s' → Q (.ref c) s') : SliceGo Q (.ref a) vl vu s := by
  refine ⟨a, vs.toArray, lo, hi, rfl, S.isList e, by rw [List.size_toArray, sizeLine_eq]; exact hz, pl, pu, ?_⟩
  have I1 : Inv h₀ L m H (s.heap.push { cls := .type "slice", data := .fields #[vl, vu, .none] }) := S.inv.grow fun _ _ q => Heap.get?_push_of_some _ q
  have I2 := I1.push { cls := .type "list", data := .seq (slicePick vs.toArray lo hi none) } (P := listO (slicePick vs.toArray lo hi none).toList) ⟨0, by simp [W.listOf]⟩
  have f2 := I1.fresh
  have fL := I1.freshL
  rw [Heap.size_push] at I2 f2 fL
  exact h _ _ f2 fL ⟨I2, S.gens, S.os⟩
end

theorem upd_none_iff {H : Led} {a b : Addr} {P : OP} : upd H a P b = none ↔ b ≠ a ∧ H b = none := ⟨upd_none, fun h => upd_of h.1 h.2⟩
theorem frO_ne {prog : Program} {w : World} {kvs : List (Int × Value)} {o oX : Obj} (h : idictO prog w kvs o) (e : idictO prog w kvs = frO oX) : False := by
  have h1 : frO oX o := e ▸ h
  have h2 : idictO prog w kvs { o with cls := .none } := e ▸ (show frO oX { o with cls := .none } from h1)
  obtain ⟨es, ep, hx, _⟩ := h2
  exact absurd hx.1 (by simp)

theorem sub_stop1 : isSubtype (.type "StopIteration") (.type "BaseException") = pure true := by rw [isSubtype_type]; kernel_rfl
theorem sub_stop2 : isSubtype (.type ((Manifest.find? "StopIteration").elim "type" fun x => x.metatype)) (.type "tuple") = pure false := by rw [isSubtype_type]; kernel_rfl
local macro_rules | `(tactic| walk_at "py") => `(tactic| first
  | with_reducible refine wpAny_Try_except ?_
  | with_reducible refine wpAny_Delete ?_
  | with_reducible refine wpAny_deleteEach_cons ?_
  | with_reducible refine wpAny_deleteEach_nil ?_
  | with_reducible refine wpAny_delete_Subscript ?_
  | with_reducible refine UnaryOp_ ?_
  | ((with_reducible refine' r_neg ?S ?_); (case S => assumption); intro _ _ _)
  | ((with_reducible refine' r_truthy_ints ?S ?e ?hz ?_); (case S => assumption); (case e => walk_at "H"); (case hz => first | (simp; done) | omega | (simp; omega)); intro _ _)
  | ((with_reducible refine' r_len_ints ?S ?e ?hz ?_); (case S => assumption); (case e => walk_at "H"); (case hz => first | (simp; done) | omega | (simp; omega)); intro _ _ _)
  | with_reducible refine isTrue_and ?_
  | with_reducible refine isTrue_and_nil ?_
  | with_reducible refine isTrue_or ?_
  | with_reducible refine isTrue_or_nil ?_
  | with_reducible refine isTrue_not ?_
  | ((with_reducible refine' isTrue_plain ?_ ?he); (case he => rfl))
  | with_reducible refine r_slice ?_
  | ((with_reducible refine' r_slice_done ?S ?e ?hz ?pl ?pu ?_); (case S => assumption); (case e => walk_at "H"); (case hz => first | (simp; done) | omega | (simp; omega)); (case pl => constructor); (case pu => constructor); intro _ _ _ _ _)
  | with_reducible refine r_part_none ?_
  | with_reducible refine r_part_some ?_
  | with_reducible refine callWith_type0 ?_
  | ((with_reducible refine' callWith_type1 ?_ ?he ?hp); (case he => rfl); (case hp => rfl))
  | ((with_reducible refine' wpAny_Expr_any ?_ ?hi ?hs); (case hi => rfl); (case hs => rfl))
  | ((with_reducible refine' r_set0 ?S ?_); (case S => assumption); intro _ _ _ _ _)
  | ((with_reducible refine' r_dict0 ?B ?S ?_); (case B => assumption); (case S => assumption); intro _ _ _ _ _ _)
  | ((with_reducible refine' r_sin ?S ?e ?_); (case S => assumption); (case e => walk_at "H"); intro _ _)
  | ((with_reducible refine' r_din ?B ?S ?e ?_); (case B => assumption); (case S => assumption); (case e => walk_at "H"); intro _ _)
  | ((with_reducible refine' r_getMethod_set ?S ?e ?_); (case S => assumption); (case e => walk_at "H"))
  | ((with_reducible show wpAny _ _ (getMethod (Value.ref _) (Str.ofString "pop") _) _ _ _); refine' r_getMethod_list ?S ?e PySem.F.slot_list_pop PySem.F.type_list_pop ?_; (case S => assumption); (case e => walk_at "H"))
  | ((with_reducible show wpAny _ _ (getMethod (Value.ref _) (Str.ofString "pop") _) _ _ _); refine' r_getMethod_ints ?S ?e PySem.F.slot_list_pop PySem.F.type_list_pop ?_; (case S => assumption); (case e => walk_at "H")))

/-! ## `_find_cycle` -/
structure Nm (D st its sn nd : Addr) (m : Loc) : Prop where
  n1 : m (Str.ofString "n2i") = some (.ref D)
  n2 : m (Str.ofString "stack") = some (.ref st)
  n3 : m (Str.ofString "itstack") = some (.ref its)
  n4 : m (Str.ofString "seen") = some (.ref sn)
  n5 : m (Str.ofString "node2stacki") = some (.ref nd)
theorem Nm.put {D st its sn nd : Addr} {m : Loc} {v : Value} (N : Nm D st its sn nd m) : Nm D st its sn nd (Mine.put m (Str.ofString "node") v) :=
  ⟨put_ne (by decide) N.n1, put_ne (by decide) N.n2, put_ne (by decide) N.n3, put_ne (by decide) N.n4, put_ne (by decide) N.n5⟩
section
variable {prog : Program} {w : World} {A : Around} {E : Value → Shared → Prop} {s : Shared} {h₀ : Heap} {g : Array GenState} {os : OsState} {L : Addr} {m : Loc} {H H' : Led} {x d D : Addr} {G : List GN} {v2 v3 v4 : Value}

set_option maxHeartbeats 4000000 in
theorem find_cycle {R : Result → Shared → Prop} {outer : List Env} {r : Option (List Int)} {fuel : Nat} (B : Bs w h₀) (S : St h₀ g os L m H s) (hroom : A.depth + 10 < recursionLimit) (hh : A.handled = none) (hfr : A.frames = some outer) (F : FmL outer L H)
    (Y : Gr prog w H D G) (hx : H x = some (instO 158 d)) (hd : H d = some (sdictO w (.ref D) v2 v3 v4)) (ox : Off D G x) (od : Off D G d) (oL : Off D G L)
    (hz : G.length ≤ 900) (hcl : ∀ n ∈ G, ∀ v ∈ n.sc, v ∈ G.map (·.k)) (hf : findF (G.map GN.pn) fuel (G.map (·.k)) [] = some r)
    (h1 : r = none → ∀ s', St h₀ g os L m H s' → R (.ok (.ret .none)) s')
    (h2 : ∀ ring, r = some ring → ∀ c s', H c = none → c ≠ L → St h₀ g os L m (upd H c (intsO ring)) s' → R (.ok (.ret (.ref c))) s') :
    codeAny (model prog w) A (.call (.ref 148) ⟨[.ref x], []⟩) R s := by
  refine r_callF (binds := [(Str.ofString "self", .ref x)]) B S (by rfl) (by kernel_rfl) (by omega) (BindsTo.of_eq (by rfl)) (by decide) (locs (by rfl)) rfl rfl rfl ?_
  intro L' oL' s₁ hL' hLn ff S₁ back
  have hLo := S.inv.out
  obtain ⟨hfr₁, F₁⟩ := ff _ hfr F
  clear ff
  have hxL := S.inv.neL hx
  have hdL := S.inv.neL hd
  have hDL := S.inv.neL Y.dict
  have hD := Y.dict
  repeat walk_at "py"
  rename_i st s₂ hst hstL S₂ s₃ S₃ its s₄ hits hitsL S₄ s₅ S₅ sn s₆ hsn hsnL S₆ s₇ S₇ nd s₈ hndlow hnd hndL S₈ s₉ S₉
  simp only [upd_none_iff] at hst hits hsn hnd
  obtain ⟨q1, hst⟩ := hst
  obtain ⟨q2, q3, hits⟩ := hits
  obtain ⟨q4, q5, q6, hsn⟩ := hsn
  obtain ⟨q7, q8, q9, q10, hnd⟩ := hnd
  have q11 := led_ne hst hD
  have q12 := led_ne hits hD
  have q13 := led_ne hsn hD
  have q14 := led_ne hnd hD
  obtain ⟨ep, S₁₀⟩ := S₉.dictEp (d := D) (kvs := pairsOf G) (by walk_at "H")
  refine r_iter_dict Y.low S₁₀ (upd_same _ _ _) ?_
  intro ki s₁₁ hki hkiL S₁₁
  simp only [upd_none_iff] at hki
  obtain ⟨q15, q16, q17, q18, q19, q20, hki⟩ := hki
  have S₁₂ := S₁₁.imp (a := st) (P := listO []) (P' := intsO []) (by walk_at "H") (listO.ints .nil)
  have hD₀ : upd (upd H L (frO oL')) D (idictE prog w (pairsOf G) ep) D = some (idictE prog w (pairsOf G) ep) := upd_same _ _ _
  have hG₀ : ∀ n ∈ G, upd (upd H L (frO oL')) D (idictE prog w (pairsOf G) ep) n.ia = some (infoO n.da n.k n.np n.la) ∧ upd (upd H L (frO oL')) D (idictE prog w (pairsOf G) ep) n.da = some noO ∧ upd (upd H L (frO oL')) D (idictE prog w (pairsOf G) ep) n.la = some (intsO n.sc) := fun n hn =>
    ⟨upd_of (Y.sepD n hn).1 (upd_of (Ne.symm (oL.2 n hn).1) (Y.info n hn)), upd_of (Y.sepD n hn).2.1 (upd_of (Ne.symm (oL.2 n hn).2.1) (Y.dct n hn)), upd_of (Y.sepD n hn).2.2 (upd_of (Ne.symm (oL.2 n hn).2.2) (Y.lst n hn))⟩
  have leave : ∀ H' m' s', Sub (upd (upd H L (frO oL')) D (idictE prog w (pairsOf G) ep)) H' → St h₀ g os L' m' H' s' → ∃ H'', Sub H H'' ∧ St h₀ g os L m H'' s' ∧ ∀ c P, H' c = some P → c ≠ L → c ≠ D → H'' c = some P := by
    intro H' m' s' hs S'
    have S1 := S'.imp (hs _ _ hD₀) (fun o => idictE.o)
    have S2 := back _ _ _ _ S1 (upd_of (Ne.symm hDL) (hs _ _ (upd_of (Ne.symm hDL) (upd_same _ _ _))))
    refine ⟨_, ?_, S2, fun c P hc h1 h2 => (del_ne _ h1).trans (upd_of h2 hc)⟩
    intro a P ha
    rw [del_ne _ (fun q => by rw [q, hLo] at ha; cases ha)]
    by_cases q : a = D
    · rw [q, hD] at ha; cases ha; rw [q]; exact upd_same _ _ _
    · exact upd_of q (hs _ _ (upd_of q (upd_of (fun q => by rw [q, hLo] at ha; cases ha) ha)))
  have FF : ∀ H', Sub (upd (upd H L (frO oL')) D (idictE prog w (pairsOf G) ep)) H' → FmL _ L' H' := fun H' hs => F₁.mono fun a o ha => hs _ _ (upd_of (fun q => by rw [q, upd_ne _ _ hDL, hD] at ha; obtain ⟨oo, _, hoo⟩ := S.inv.own _ _ hD; exact frO_ne hoo (Option.some.inj ha)) ha)
  obtain ⟨H₁, m₁, W0, N, S⟩ : ∃ H₁ m₁, Wk prog w (upd (upd H L (frO oL')) D (idictE prog w (pairsOf G) ep)) G D st its sn nd ki 0 ep [] [] H₁ ∧ Nm D st its sn nd m₁ ∧ St h₀ g os L' m₁ H₁ s₁₁ := by
    refine ⟨_, _, ⟨upd_same _ _ _, ?_, ⟨_, _, ?_, fun k => rfl, rfl⟩, ⟨_, ?_, N2.nil⟩, ?_, trivial, ?_, List.nodup_nil, ?_, ?_, List.nodup_nil, (fun k hk => by cases hk), fun f hf => by cases hf⟩, ⟨?_, ?_, ?_, ?_, ?_⟩, S₁₂⟩
    case refine_5 =>
      intro a P ha
      have z : ∀ c, c ≠ D → c ≠ L → H c = none → a ≠ c := fun c h1 h2 h3 q => by rw [q, upd_ne _ _ h1, upd_ne _ _ h2, h3] at ha; cases ha
      rw [upd_ne _ _ (z st (Ne.symm q11) q1 hst), upd_ne _ _ (z ki q15 q20 hki)]
      by_cases q : a = D
      · rw [q, upd_same] at ha; rw [q, upd_same]; exact ha
      · rw [upd_ne _ _ q] at ha ⊢
        rw [upd_ne _ _ (z nd (Ne.symm q14) q10 hnd), upd_ne _ _ (z sn (Ne.symm q13) q6 hsn), upd_ne _ _ (z its (Ne.symm q12) q3 hits), upd_ne _ _ (z st (Ne.symm q11) q1 hst)]; exact ha
    all_goals first | (walk_at "H"; done) | (walk_at "lk"; done) | (grind [upd]; done)
  clear S₁₂ S₁₁
  obtain ⟨i, seen, ks, W, hks, hf'⟩ : ∃ i seen ks, Wk prog w (upd (upd H L (frO oL')) D (idictE prog w (pairsOf G) ep)) G D st its sn nd ki i ep [] seen H₁ ∧ (G.drop i).map (·.k) = ks ∧ findF (G.map GN.pn) fuel ks seen = some r := ⟨_, _, _, W0, rfl, hf⟩
  clear W0
  have hH₀ : ∀ c, upd (upd H L (frO oL')) D (idictE prog w (pairsOf G) ep) c = none → H c = none ∧ c ≠ L ∧ c ≠ D := fun c hc => by
    simp only [upd_none_iff] at hc
    exact ⟨hc.2.2, hc.2.1, hc.1⟩
  generalize upd (upd H L (frO oL')) D (idictE prog w (pairsOf G) ep) = H₀ at *
  clear S₁ S₂ S₃ S₄ S₅ S₆ S₇ S₈ S₉ S₁₀
  have hkeys := Y.keys
  induction ks generalizing i seen H₁ m₁ s₁₁ with
  | nil =>
    refine r_for1 ?_
    have hi : (pairsOf G)[i]? = none := by
      have := congrArg List.length hks
      simp at this
      exact List.getElem?_eq_none (by unfold pairsOf; rw [List.length_map]; omega)
    refine r_end_dict hh S W.kiE (W.keep _ _ hD₀) hi ?_
    intro s' S'
    repeat walk_at "py"
    cases hf'
    obtain ⟨H'', a1, a2, _⟩ := leave _ _ _ (fun a P ha => (del_ne _ (fun q => by rw [q, W.off ki (by simp)] at ha; cases ha)).trans (W.keep _ _ ha)) S'
    exact h1 rfl _ (a2.weaken a1)
  | cons k ks ihk =>
    refine r_for1 ?_
    obtain ⟨v, hi, hks'⟩ : ∃ v, (pairsOf G)[i]? = some (k, v) ∧ (G.drop (i + 1)).map (·.k) = ks := by
      cases e : G[i]? with
      | none => rw [List.drop_eq_nil_of_le (List.getElem?_eq_none_iff.mp e)] at hks; cases hks
      | some n =>
        rw [List.drop_eq_getElem?_toList_append, e] at hks
        simp at hks
        exact ⟨.ref n.ia, by unfold pairsOf; rw [List.getElem?_map, e]; simp [hks.1], by simp [hks.2]⟩
    refine r_next_dict S W.kiE (W.keep _ _ hD₀) hi ?_
    intro t s' S'
    have W' := W.tick (j := i + 1)
    generalize upd H₁ ki (keyIterO D (i + 1) (pairsOf G).length ep) = H₂ at *
    obtain ⟨n1, n2, n3, n4, n5⟩ := N
    obtain ⟨Fs, q, hs', hF, hq⟩ := W'.seenE
    repeat walk_at "py"
    rename_i sA SA s'' S''
    clear SA
    rw [hF k]
    unfold findF at hf'
    have N' : Nm D st its sn nd (put m₁ (Str.ofString "node") (.int k t)) := Nm.put ⟨n1, n2, n3, n4, n5⟩
    cases hsk : seen.contains k with
    | true =>
      rw [hsk] at hf'
      repeat walk_at "py"
      exact ihk (S := S'') (W := W') (N := N') (hks := hks') (hf' := hf')
    | false =>
      rw [hsk] at hf'
      repeat walk_at "py"
      obtain ⟨res, hres⟩ : ∃ res, dfsF (G.map GN.pn) fuel seen [] k = some res := by
        cases e : dfsF (G.map GN.pn) fuel seen [] k with
        | none => simp [e] at hf'
        | some res => exact ⟨res, rfl⟩
      simp only [Bool.false_eq_true, if_false, hres] at hf'
      obtain ⟨f, fs, H₃, m₃, W₃, N₃, hnode, hdf, S₃⟩ : ∃ f fs H₃ m₃, Wk prog w H₀ G D st its sn nd ki (i + 1) ep fs seen H₃ ∧ Nm D st its sn nd m₃ ∧ m₃ (Str.ofString "node") = some (.int k t) ∧ dfsF (G.map GN.pn) f seen (fs.map FR.p) k = some res ∧ St h₀ g os L' m₃ H₃ s'' := ⟨fuel, [], _, _, W', N', put_same _ _ _, hres, S''⟩
      have hkG : k ∈ G.map (·.k) := by
        obtain ⟨n, hn⟩ := List.getElem?_eq_some_iff.mp hi
        have := List.mem_map_of_mem (f := (·.1)) (List.mem_of_getElem? hi)
        rw [show (pairsOf G).map (·.1) = G.map (·.k) from by unfold pairsOf; rw [List.map_map]; rfl] at this
        exact this
      clear hres hsk S'' W' N' hs' hF hq S' n1 n2 n3 n4 n5 W S hi hks
      induction f generalizing k t seen fs H₃ m₃ s'' with
      | zero => cases hdf
      | succ f ihf =>
        obtain ⟨n1, n2, n3, n4, n5⟩ := N₃
        obtain ⟨Fs, q, hs', hF, hq⟩ := W₃.seenE
        obtain ⟨kvs, hkv, hN⟩ := W₃.ndE
        have hfl := W₃.flen
        refine r_while1 ?_
        walk_at "py"
        walk_at "py"
        walk_at "py"
        walk_at "py"
        walk_at "py"
        refine wpAny_mono (Q := fun fl s' => (fl = .next ∧ ∃ fs seen H m, Wk prog w H₀ G D st its sn nd ki (i + 1) ep fs seen H ∧ Nm D st its sn nd m ∧ (match popF (G.map GN.pn) (fs.map FR.p) with | some (v, rst') => dfsF (G.map GN.pn) f seen rst' v | none => some (.done seen)) = some res ∧ St h₀ g os L' m H s') ∨
          ∃ c ring, fl = .ret (.ref c) ∧ res = .ring ring ∧ ∃ H' m', Sub H₀ H' ∧ St h₀ g os L' m' H' s' ∧ H' c = some (intsO ring) ∧ H₀ c = none) ?_ ?_ (fun _ _ h => h)
        · have C := W₃.core
          simp only [List.nodup_cons, List.mem_cons, List.not_mem_nil, or_false, not_or, not_false_eq_true, and_true, List.nodup_nil] at C
          obtain ⟨⟨c1, c2, c3, c4⟩, ⟨c5, c6, c7⟩, ⟨c8, c9⟩, c10⟩ := C
          have hcs : ((fs.map FR.p).map (·.1)).contains k = (fs.reverse.map (·.k)).contains k := by
            rw [Bool.eq_iff_iff, List.contains_iff_mem, List.contains_iff_mem]
            simp [FR.p]
          repeat walk_at "py"
          rename_i s₄ S₄
          rw [hF k]
          unfold dfsF at hdf
          rw [hcs] at hdf
          cases hsk : seen.contains k with
          | true =>
            rw [hsk, if_pos rfl] at hdf
            repeat walk_at "py"
            rename_i s₅ S₅
            cases hc : (fs.reverse.map (·.k)).contains k with
            | true =>
              obtain ⟨tv, hv⟩ := hN.some hc
              rw [hv]
              rw [hc, if_pos rfl] at hdf
              obtain ⟨us, hu, S₆⟩ := S₅.ints W₃.stack
              have hul : us.length ≤ 900 := by rw [ints_len hu]; simp; omega
              clear S₅ S₄
              rw [show (some (Value.int (↑(List.findIdx (fun x => x == k) (List.map (fun x => x.k) fs.reverse))) tv)).isSome = true from rfl]
              repeat walk_at "py"
              refine r_ditemO (by assumption) (kvs := kvs) (by walk_at "H") hv ?_ (by rfl)
              intro s₇ S₇
              repeat walk_at "py"
              rename_i sc s₈ hsc hscL S₈ lc s₉ hlc hlcL S₉
              simp only [upd_none_iff] at hsc hlc
              obtain ⟨hsc1, hsc⟩ := hsc
              obtain ⟨hlc1, hlc2, hlc⟩ := hlc
              have hpk := slice_ints_fromW hu (x := (List.findIdx (fun x => x == k) (List.map (fun x => x.k) fs.reverse) : Int)) (by omega)
              generalize (slicePick us.toArray (some (List.findIdx (fun x => x == k) (List.map (fun x => x.k) fs.reverse) : Int)) none none).toList = ps at *
              have hpl : ps.length ≤ 900 := by rw [ints_len hpk, List.length_drop]; simp; omega
              refine r_cat S₉ (vs := ps) (ws := [.int k t]) (upd_of (Ne.symm hlc1) (upd_same _ _ _)) (upd_same _ _ _) (by simp only [List.length_cons, List.length_nil]; omega) ?_
              intro c s₁₀ hcc hccL S₁₀
              simp only [upd_none_iff] at hcc
              obtain ⟨hcc1, hcc2, hcc3, hcc⟩ := hcc
              have S₁₁ := (S₁₀.imp (upd_same _ _ _) (listO.ints (ints_snoc hpk k t))).imp (a := st) (P := listO us) (P' := intsO (fs.reverse.map (·.k))) (by walk_at "H") (listO.ints hu)
              repeat walk_at "py"
              refine .inr ⟨c, _, rfl, (Option.some.inj hdf).symm, _, _, ?_, S₁₁, ?_, ?_⟩
              · intro a P ha
                have hk' := W₃.keep a P ha
                have z := led_ne (W₃.off st (by simp)) ha
                exact upd_of z (upd_of (led_ne hcc hk') (upd_of (led_ne hcc hk') (upd_of (led_ne hlc hk') (upd_of (led_ne hsc hk') (upd_of z hk')))))
              · refine upd_of hcc3 ((upd_same _ _ _).trans ?_)
                congr 2
                unfold ringF
                rw [show ((fs.map FR.p).reverse.map (·.1)) = fs.reverse.map (·.k) from by rw [← List.map_reverse, List.map_map]; rfl]
                simp
              · cases e : H₀ c with
                | none => rfl
                | some P => rw [W₃.keep _ _ e] at hcc; cases hcc
            | false =>
              rw [hN.none hc]
              rw [hc] at hdf
              simp only [Option.isSome_none]
              repeat walk_at "py"
              exact .inl ⟨rfl, fs, seen, H₃, m₃, W₃, ⟨n1, n2, n3, n4, n5⟩, hdf, S₅⟩
          | false =>
            rw [hsk] at hdf
            obtain ⟨n, hnG, hnk⟩ := List.mem_map.mp hkG
            obtain ⟨hn1, hn2, hn3⟩ := hG₀ n hnG
            have off : ∀ a P, H₀ a = some P → a ≠ st ∧ a ≠ its ∧ a ≠ sn ∧ a ≠ nd := fun a P ha =>
              ⟨led_ne (W₃.off st (by simp)) ha, led_ne (W₃.off its (by simp)) ha, led_ne (W₃.off sn (by simp)) ha, led_ne (W₃.off nd (by simp)) ha⟩
            obtain ⟨o1, o2, o3, o4⟩ := off _ _ hn1
            obtain ⟨o5, o6, o7, o8⟩ := off _ _ hn2
            obtain ⟨o9, o10, o11, o12⟩ := off _ _ hn3
            obtain ⟨o13, o14, o15, o16⟩ := off _ _ hD₀
            have k1 := W₃.keep _ _ hn1
            have k2 := W₃.keep _ _ hn2
            have k3 := W₃.keep _ _ hn3
            have k4 := W₃.keep _ _ hD₀
            have k5 := W₃.stack
            have k6 := W₃.itsE
            have hsl := W₃.slen
            have hva : valueAt (pairsOf G) k = some (.ref n.ia) := by rw [valueAt_pairs, ← hnk, find_of_key hkeys hnG]; rfl
            repeat walk_at "py"
            refine r_sadd (by assumption) hs' (by omega) ?_
            intro s₅ S₅
            repeat walk_at "py"
            refine r_ditemE S₅ (by walk_at "H") hva ?_ (by rfl)
            intro s₆ S₆
            repeat walk_at "py"
            refine r_iter_call (by assumption) (by walk_at "H" : _ = some (intsO n.sc)) ?_
            intro it s₇ hit hitL S₇
            refine r_next_attr S₇ (upd_same _ _ _) ?_
            intro mw s₈ hmw hmwL S₈
            simp only [upd_none_iff] at hit hmw
            obtain ⟨hit1, hit⟩ := hit
            obtain ⟨hmw1, hmw2, hmw⟩ := hmw
            rw [upd_upd] at S₈
            have p1 := led_ne hit k6
            have p2 := led_ne hmw k6
            have p3 := led_ne hit hkv
            have p4 := led_ne hmw hkv
            have p5 := led_ne hit k5
            have p6 := led_ne hmw k5
            repeat walk_at "py"
            refine r_append (vs := fs.reverse.map fun f => Value.ref f.mw) (by assumption) (by walk_at "H") (by simp; omega) ?_
            intro s₉ S₉
            repeat walk_at "py"
            rename_i tl s₁₀ S₁₀
            have hkl : kvs.length = fs.length := by
              have := congrArg List.length hN.1
              simpa using this
            refine r_dset (kvs := kvs) S₁₀ (by walk_at "H") (by omega) ?_
            intro s₁₁ S₁₁
            repeat walk_at "py"
            refine r_append_ints (ns := fs.reverse.map (·.k)) (by assumption) (by walk_at "H") (by simp; omega) ?_
            intro s₁₂ S₁₂
            repeat walk_at "py"
            refine .inl ⟨rfl, ⟨k, 0, mw, it⟩ :: fs, k :: seen, _, m₃, ?_, ⟨n1, n2, n3, n4, n5⟩, ?_, S₁₂⟩
            · refine W₃.push (F := Fs) (q := q) (kvs := kvs) (t := tl) hnG hnk hsk hit hmw hmw1 hF (by walk_at "H") hq (by walk_at "H") (by walk_at "H") (by walk_at "H") ?_ hN (upd_same _ _ _) ?_
              · rw [show ((fs.length : Nat) : Int) = ((fs.reverse.map (·.k)).length : Nat) from by simp]
                walk_at "H"
              · intro a P q1 q2 q3 q4 ha
                exact upd_of q1 (upd_of q4 (upd_of q2 (upd_of (led_ne hmw ha) (upd_of (led_ne hit ha) (upd_of q3 ha)))))
            · rw [if_neg (by simp)] at hdf
              exact hdf
        · rintro fl s₅ (⟨rfl, fs', seen', H', m', W', N', hp, S'⟩ | ⟨c, ring, rfl, rfl, H', m', hsub, S', hc, hc0⟩)
          · clear W₃ S₃ hs' hF hq hkv hN hfl hdf n1 n2 n3 n4 n5 hnode
            walk_at "py"
            show wpAny _ _ _ _ _ _
            walk_at "py"
            walk_at "py"
            induction fs' generalizing m' H' s₅ with
            | nil =>
              cases hp
              obtain ⟨n1, n2, n3, n4, n5⟩ := N'
              have hst' := W'.stack
              refine r_while1 ?_
              repeat walk_at "py"
              rw [show (!(List.map (fun x => x.k) ([] : List FR).reverse).isEmpty) = false from rfl]
              repeat walk_at "py"
              exact ihk (S := by assumption) (W := W') (N := ⟨n1, n2, n3, n4, n5⟩) (hks := hks') (hf' := hf')
            | cons fr fs' ihi =>
              obtain ⟨n1, n2, n3, n4, n5⟩ := N'
              have hfl : fs'.length + 1 ≤ G.length := by simpa using W'.flen
              have hst' := W'.stack
              have hits' : H' its = some (listO ((fs'.reverse.map fun f => Value.ref f.mw) ++ [.ref fr.mw])) := by simpa using W'.itsE
              have hne : (!(((fr :: fs').reverse.map (·.k)).isEmpty)) = true := by simp
              obtain ⟨a1, ⟨n, hnG, hnk, a2⟩, a3, a4, a5, a6, a7, a8, a9⟩ := W'.fsE
              have hsuc : sucOf (G.map GN.pn) fr.k = n.sc := by rw [← hnk]; exact sucOf_of hkeys hnG
              have hla := W'.keep _ _ (hG₀ n hnG).2.2
              refine r_while1 ?_
              repeat walk_at "py"
              rw [hne]
              repeat walk_at "py"
              refine r_last (by assumption) hits' (by simp; omega) ?_ (by rfl)
              refine r_wcall (by assumption) a1 ?_
              rename_i s₆ S₆
              cases hv : n.sc[fr.i]? with
              | some v =>
                refine r_li_item S₆ a2 hla hv ?_
                intro t' s₇ S₇
                repeat walk_at "py"
                rename_i s₈ S₈
                have W₈ := W'.next (H' := upd H' fr.it (listIterO n.la (fr.i + 1))) hnG hnk (upd_same _ _ _) (fun a ha => upd_ne _ _ ha)
                have hp' : dfsF (G.map GN.pn) f seen' (({ fr with i := fr.i + 1 } :: fs').map FR.p) v = some res := by
                  have : popF (G.map GN.pn) ((fr :: fs').map FR.p) = some (v, ({ fr with i := fr.i + 1 } :: fs').map FR.p) := by
                    simp only [List.map_cons, FR.p, popF, hsuc, hv]
                  rw [this] at hp; exact hp
                exact ihf (N₃ := Nm.put ⟨n1, n2, n3, n4, n5⟩) (S₃ := S₈) (W₃ := W₈) (hnode := put_same _ _ _) (hdf := hp') (hkG := hcl n hnG v (List.mem_of_getElem? hv))
              | none =>
                refine r_li_stop hh S₆ a2 hla hv ?_
                intro x T s₇ hxn hxL' S₇
                have hsub : ∀ a P, a ≠ fr.it → H' a = some P → a ≠ x := fun a P _ ha => led_ne hxn ha
                refine r_note S₇ (upd_same _ _ _) hfr₁ rfl (FF _ fun a P ha => upd_of (led_ne hxn (W'.keep _ _ ha)) ((del_ne _ (fun q => by rw [q, a4] at ha; cases ha)).trans (W'.keep _ _ ha))) ?_
                intro T' s₈ hT' hTL hTx S₈
                refine r_flight S₈ (upd_same _ _ _) (upd_of hTx (upd_same _ _ _)) ?_
                intro s₉ S₉
                refine wpAny_handleBy_builtin (X := "StopIteration") (T := "StopIteration") (b := true) sub_stop1 sub_stop2 isSubtype_stop ?_
                repeat walk_at "py"
                refine ⟨rfl, ?_, ?_⟩
                · obtain ⟨o, ho, hc, _⟩ := S₉.inv.own x _ (upd_of (Ne.symm hTx) (upd_same _ _ _))
                  exact ⟨o, ho, hc⟩
                rw [if_pos rfl]
                refine r_flight S₉ (upd_of (Ne.symm hTx) (upd_same _ _ _)) (upd_same _ _ _) ?_
                intro s₁₀ S₁₀
                obtain ⟨H₉, hk9, S₉⟩ : ∃ H₉, (∀ a P, a ≠ fr.it → H' a = some P → H₉ a = some P) ∧ St h₀ g os L' m' H₉ s₁₀ := by
                  refine ⟨_, ?_, S₁₀⟩
                  intro a P ha hP
                  have z1 := hsub a P ha hP
                  have z2 : a ≠ T' := fun q => by
                    have := (upd_none hT').2
                    rw [← q, del_ne _ ha, hP] at this; cases this
                  rw [upd_ne _ _ z2, upd_ne _ _ z2, upd_ne _ _ z1, upd_ne _ _ z2, upd_ne _ _ z1, del_ne _ ha]; exact hP
                clear S₁₀
                obtain ⟨kvs, hkv, hN⟩ := W'.ndE
                have hnit : ∀ c ∈ [st, its, sn, nd, ki], c ≠ fr.it := fun c hc q => a6 (q ▸ hc)
                have e1 : H₉ st = some (intsO (fs'.reverse.map (·.k) ++ [fr.k])) := hk9 _ _ (hnit st (by simp)) (by simpa using W'.stack)
                have e2 := hk9 _ _ (hnit its (by simp)) hits'
                have e3 := hk9 _ _ (hnit nd (by simp)) hkv
                have hkl : kvs.length = fs'.length + 1 := by
                  have := congrArg List.length hN.1
                  simpa using this
                have hN' : N2 (fs'.reverse.map (·.k) ++ [fr.k]) kvs := by simpa using hN
                have hkn : fr.k ∉ fs'.reverse.map (·.k) := by
                  have := W'.keys
                  rw [List.map_cons, List.nodup_cons] at this
                  simpa using this.1
                repeat walk_at "py"
                refine r_pop_ints (by assumption) e1 (by simp; omega) ?_
                intro t₁ s₁₁ S₁₁
                have C := W'.core
                simp only [List.nodup_cons, List.mem_cons, List.not_mem_nil, or_false, not_or, not_false_eq_true, and_true, List.nodup_nil] at C
                obtain ⟨⟨c1, c2, c3, c4⟩, ⟨c5, c6, c7⟩, ⟨c8, c9⟩, c10⟩ := C
                refine r_ddel S₁₁ (upd_of (Ne.symm c3) e3) (hN'.init hkn).2 (by omega) ?_
                intro s₁₂ S₁₂
                have e4 : upd (upd H₉ st (intsO (fs'.reverse.map (·.k)))) nd (idictO prog w (without kvs fr.k)) its = some (listO ((fs'.reverse.map fun f => Value.ref f.mw) ++ [.ref fr.mw])) := upd_of c6 (upd_of (Ne.symm c1) e2)
                repeat walk_at "py"
                refine r_pop (by assumption) e4 (by simp; omega) ?_
                intro s₁₃ S₁₃
                repeat walk_at "py"
                have W₁₃ := W'.pop (H' := upd (upd (upd H₉ st (intsO (fs'.reverse.map (·.k)))) nd (idictO prog w (without kvs fr.k))) its (listO (fs'.reverse.map fun f => Value.ref f.mw))) (upd_of c1 (upd_of c3 (upd_same _ _ _))) (upd_same _ _ _) (upd_of (Ne.symm c6) (upd_same _ _ _)) hkv hN
                  fun a P q1 q2 q3 q4 hP => upd_of q2 (upd_of q3 (upd_of q1 (hk9 a P q4 hP)))
                have hp' : (match popF (G.map GN.pn) (fs'.map FR.p) with | some (v, rst') => dfsF (G.map GN.pn) f seen' rst' v | none => some (.done seen')) = some res := by
                  rw [← hp]
                  simp only [List.map_cons, FR.p, popF, hsuc, hv]
                exact ihi (S' := S₁₃) (W' := W₁₃) (N' := ⟨n1, n2, n3, n4, n5⟩) (hp := hp')
          · repeat walk_at "py"
            cases hf'
            obtain ⟨H'', b1, b2, b3⟩ := leave _ _ _ hsub S'
            obtain ⟨d1, d2, d3⟩ := hH₀ c hc0
            refine h2 _ rfl c _ d1 d2 (b2.weaken fun a P ha => ?_)
            by_cases q : a = c
            · rw [q, upd_same] at ha; cases ha; rw [q]; exact b3 c _ hc d2 d3
            · rw [upd_ne _ _ q] at ha; exact b1 _ _ ha
end

/-! ## More calls -/
theorem gl_NODE_OUT (w : World) : nsIn (KK w) mainGlobals (Str.ofString "_NODE_OUT") = some (some (.int (-1) 231)) := by kernel_rfl
theorem gl_NODE_DONE (w : World) : nsIn (KK w) mainGlobals (Str.ofString "_NODE_DONE") = some (some (.int (-2) 234)) := by kernel_rfl
theorem meets_bool_new_list (a : Addr) : Meets (Builtin.«bool.__new__» ⟨[.type "bool", .ref a], []⟩) (fun _ R s => ∃ items, s.heap.IsList a items ∧ (items.size : Int) < 2 ^ 63 ∧ ∀ s' : Shared, s'.heap = s.heap → s'.gens = s.gens → s'.os = s.os → R (.ok (.ret (.bool (!items.isEmpty)))) s') :=
  Meets.of_wp fun prog w A R s hs => by
    obtain ⟨items, hl, hz, h⟩ := hs
    obtain ⟨hp, g, d, tk, os⟩ := s
    have f1 := F.conv_sub_bool
    repeat (any_goals (first | assumption | refine wpAny_truthy_list (items := items) hl hz ?_ | wp_step))
    all_goals exact ⟨_, rfl, h _ rfl rfl rfl⟩
section
variable {prog : Program} {w : World} {A : Around} {E : Value → Shared → Prop} {s : Shared} {h₀ : Heap} {g : Array GenState} {os : OsState} {L : Addr} {m : Loc} {H : Led} {a : Addr} {ns : List Int}
theorem r_bool_ints {Q : Value → Shared → Prop} (S : St h₀ g os L m H s) (e : H a = some (intsO ns)) (hz : ns.length ≤ 16777216) (h : ∀ s', St h₀ g os L m H s' → Q (.bool (!ns.isEmpty)) s') :
    wpAny (model prog w) A (call (.type "bool") [.ref a]) Q E s := by
  obtain ⟨o, ho, vs, n, hv, rfl⟩ := S.inv.own _ _ e
  have hl := ints_len hv
  refine call_bool_1 (meets_bool_new_list a) ⟨vs.toArray, ⟨_, ho, rfl, n, rfl⟩, by rw [List.size_toArray]; omega, fun s' e1 e2 e3 => ⟨rfl, ?_⟩⟩
  have : (!vs.toArray.isEmpty) = !ns.isEmpty := by cases hv <;> rfl
  rw [this]
  exact h _ ⟨e1 ▸ S.inv, e2.trans S.gens, e3.trans S.os⟩
theorem r_clear_ints {Q : Value → Shared → Prop} (S : St h₀ g os L m H s) (e : H a = some (intsO ns)) (hz : ns.length ≤ 16777216) (h : ∀ s', St h₀ g os L m (upd H a (intsO [])) s' → Q .none s') :
    wpAny (model prog w) A (call (.builtin "list.clear") [.ref a]) Q E s := by
  obtain ⟨o, ho, vs, n, hv, rfl⟩ := S.inv.own _ _ e
  have hl := ints_len hv
  refine call_meets PySem.F.slot_list_clear ⟨_, ho, rfl⟩ PySem.F.entry_list_clear (PySem.F.args_list_clear_1 _) (PySem.AutoSeq1.list_clear_list_0 a vs.toArray n (by rw [List.size_toArray, sizeLine_eq]; omega)) ⟨ho, h _ ⟨S.inv.change e (Heap.SameBut.update ..).extBut ?_, S.gens, S.os⟩⟩
  exact ⟨_, Heap.get?_update_self _ ho rfl, [], _, .nil, rfl⟩
theorem r_tuple_ints {Q : Value → Shared → Prop} (S : St h₀ g os L m H s) (e : H a = some (intsO ns)) (hz : ns.length ≤ 16777216) (h : ∀ c vs s', H c = none → c ≠ L → IntsAre vs ns → St h₀ g os L m (upd H c (tupO vs)) s' → Q (.ref c) s') :
    wpAny (model prog w) A (call (.type "tuple") [.ref a]) Q E s := by
  obtain ⟨o, ho, vs, n, hv, rfl⟩ := S.inv.own _ _ e
  have hl := ints_len hv
  refine call_tuple_list (items := vs.toArray) ⟨_, ho, rfl, n, rfl⟩ (fun h' hk => ?_) (by rw [List.size_toArray, sizeLine_eq]; omega)
  have I := S.inv.grow hk
  exact h _ vs _ I.fresh I.freshL hv ⟨I.push _ ⟨0, rfl⟩, S.gens, S.os⟩
theorem r_list_tup {vs : List Value} {Q : Value → Shared → Prop} (S : St h₀ g os L m H s) (e : H a = some (tupO vs)) (hz : vs.length ≤ 16777216) (h : ∀ c s', H c = none → c ≠ L → St h₀ g os L m (upd H c (listO vs)) s' → Q (.ref c) s') :
    wpAny (model prog w) A (call (.type "list") [.ref a]) Q E s := by
  obtain ⟨o, ho, n, rfl⟩ := S.inv.own _ _ e
  refine call_list_seq a (T := "tuple") (.inr rfl) ho rfl rfl (fun h' c' hk hn => ?_) (by rw [List.size_toArray, sizeLine_eq]; exact hz)
  exact h _ _ S.inv.fresh S.inv.freshL ⟨(S.inv.grow hk).add S.inv.fresh S.inv.freshN S.inv.freshL ⟨_, hn, c', rfl⟩, S.gens, S.os⟩
end

theorem led_u1 {H : Led} {a b c : Addr} {P P' : OP} (h : upd H a P c = none) (e : H b = some P') : b ≠ c := led_ne (upd_none h).2 e
theorem led_u2 {H : Led} {a a' b c : Addr} {P P' P'' : OP} (h : upd (upd H a P) a' P'' c = none) (e : H b = some P') : b ≠ c := led_u1 (upd_none h).2 e
theorem led_u3 {H : Led} {a a' a'' b c : Addr} {P P' P'' Q : OP} (h : upd (upd (upd H a P) a' P'') a'' Q c = none) (e : H b = some P') : b ≠ c := led_u2 (upd_none h).2 e
local macro_rules | `(tactic| walk_at "H") => `(tactic| first | (refine upd_of (led_u1 (by assumption) (by assumption)) ?_; walk_at "H") | (refine upd_of (Ne.symm (led_u1 (by assumption) (by assumption))) ?_; walk_at "H") | (refine upd_of (led_u2 (by assumption) (by assumption)) ?_; walk_at "H"))
local macro_rules | `(tactic| walk_at "py") => `(tactic| first
  | with_reducible refine BoolOp_or ?_
  | with_reducible refine BoolOp_and ?_
  | with_reducible refine BoolOp_one ?_
  | ((with_reducible refine' r_ng ?B ?S ?e ?_ ?hk ?hx ?hd); (case hx => with_unfolding_all rfl); (case B => assumption); (case S => assumption); (case e => first | exact gl_NODE_OUT _ | exact gl_NODE_DONE _); (case hk => rfl); (case hd => decide))
  | ((with_reducible refine' r_bool_ints ?S ?e ?hz ?_); (case S => assumption); (case e => walk_at "H"); (case hz => first | (simp; done) | omega | (simp; omega)); intro _ _)
  | ((with_reducible refine' r_clear_ints ?S ?e ?hz ?_); (case S => assumption); (case e => walk_at "H"); (case hz => first | (simp; done) | omega | (simp; omega)); intro _ _)
  | ((with_reducible refine' r_tuple_ints ?S ?e ?hz ?_); (case S => assumption); (case e => walk_at "H"); (case hz => first | (simp; done) | omega | (simp; omega)); intro _ _ _ _ _ _ _)
  | ((with_reducible refine' r_list_tup ?S ?e ?hz ?_); (case S => assumption); (case e => walk_at "H"); (case hz => first | (simp; done) | omega | (simp; omega)); intro _ _ _ _ _)
  | ((with_reducible show wpAny _ _ (getMethod (Value.ref _) (Str.ofString "clear") _) _ _ _); refine' r_getMethod_ints ?S ?e PySem.F.slot_list_clear PySem.F.type_list_clear ?_; (case S => assumption); (case e => walk_at "H")))

/-! ## `is_active`, `get_ready` -/
def outP (g : List PN) (ks : List Int) : List PN := ks.foldl (fun g k => setP g k fun n => { n with np := -1 }) g
theorem setG_keys {G : List GN} {k : Int} {f : GN → GN} (hf : SamePlace f) : (setG G k f).map (·.k) = G.map (·.k) := by
  unfold setG
  rw [List.map_map]
  apply List.map_congr_left
  intro n _
  simp only [Function.comp]
  split
  · exact hf.1 n
  · rfl
section
variable {prog : Program} {w : World} {A : Around} {E : Value → Shared → Prop} {s : Shared} {h₀ : Heap} {g : Array GenState} {os : OsState} {L : Addr} {m : Loc} {H H' : Led} {x d D RL : Addr} {G : List GN} {a b : Int} {t3 t4 : Tok} {ready : List Int}

set_option maxHeartbeats 2000000 in
theorem is_active {R : Result → Shared → Prop} (B : Bs w h₀) (S : St h₀ g os L m H s) (hroom : A.depth + 10 < recursionLimit) (hx : H x = some (instO 158 d)) (hd : H d = some (sdictO w (.ref D) (.ref RL) (.int a t3) (.int b t4))) (hr : H RL = some (intsO ready))
    (hz : ready.length ≤ 900)
    (h : ∀ s', St h₀ g os L m H s' → R (.ok (.ret (.bool (decide (b < a) || !ready.isEmpty)))) s') :
    codeAny (model prog w) A (.call (.ref 127) ⟨[.ref x], []⟩) R s := by
  refine r_callC (binds := [(Str.ofString "self", .ref x)]) B S (by rfl) (by kernel_rfl) (by omega) (BindsTo.of_eq (by rfl)) (by decide) (locs (by rfl)) rfl rfl rfl ?_
  intro L' oL' s₁ hL' hLn S₁ back
  have hLo := S.inv.out
  have hxL := S.inv.neL hx
  have hdL := S.inv.neL hd
  have hrL := S.inv.neL hr
  have fin : ∀ m' s', St h₀ g os L' m' (upd H L (frO oL')) s' → St h₀ g os L m H s' := fun m' s' S' => (back _ _ _ _ S' (upd_same _ _ _)).weaken fun c P hc => (del_ne _ (fun q => by rw [q, hLo] at hc; cases hc)).trans (upd_of (fun q => by rw [q, hLo] at hc; cases hc) hc)
  repeat walk_at "py"
  cases hc : decide (b < a) with
  | true =>
    rw [hc] at h
    repeat walk_at "py"
    exact h _ (fin _ _ (by assumption))
  | false =>
    rw [hc] at h
    repeat walk_at "py"
    exact h _ (fin _ _ (by assumption))
end

section
variable {prog : Program} {w : World} {A : Around} {E : Value → Shared → Prop} {s : Shared} {h₀ : Heap} {g : Array GenState} {os : OsState} {L : Addr} {m : Loc} {H H' : Led} {x d D RL : Addr} {G : List GN} {a b : Int} {t3 t4 : Tok} {ready : List Int}

set_option maxHeartbeats 2000000 in
theorem get_ready {R : Result → Shared → Prop} (B : Bs w h₀) (S : St h₀ g os L m H s) (hroom : A.depth + 10 < recursionLimit) (hh : A.handled = none) (Y : Gr prog w H D G) (hx : H x = some (instO 158 d)) (hd : H d = some (sdictO w (.ref D) (.ref RL) (.int a t3) (.int b t4))) (hr : H RL = some (intsO ready))
    (ox : Off D G x) (od : Off D G d) (oR : Off D G RL) (oL : Off D G L) (hdR : d ≠ RL) (hxd : x ≠ d) (hxR : x ≠ RL)
    (hz : ready.length ≤ 900) (hall : ∀ k ∈ ready, k ∈ G.map (·.k))
    (h : ∀ G' H' c vs t s', G'.map GN.pn = outP (G.map GN.pn) ready → IntsAre vs ready → Gr prog w H' D G' → (∀ e, Off D G e → Off D G' e) → G'.map (·.k) = G.map (·.k) → H c = none → c ≠ L → H' c = some (tupO vs) →
      H' d = some (sdictO w (.ref D) (.ref RL) (.int (a + ready.length) t) (.int b t4)) → H' RL = some (intsO []) → (∀ e P, e ≠ d → e ≠ RL → H e = some P → Off D G e → H' e = some P) → St h₀ g os L m H' s' → R (.ok (.ret (.ref c))) s') :
    codeAny (model prog w) A (.call (.ref 120) ⟨[.ref x], []⟩) R s := by
  refine r_callC (binds := [(Str.ofString "self", .ref x)]) B S (by rfl) (by kernel_rfl) (by omega) (BindsTo.of_eq (by rfl)) (by decide) (locs (by rfl)) rfl rfl rfl ?_
  intro L' oL' s₁ hL' hLn S₁ back
  have hLo := S.inv.out
  have hxL := S.inv.neL hx
  have hdL := S.inv.neL hd
  have hrL := S.inv.neL hr
  have hDL := S.inv.neL Y.dict
  have hD := Y.dict
  repeat walk_at "py"
  rename_i c vs s₂ hc hcL hvs S₂ s₃ S₃ s₄ S₄ s₅ S₅ it s₆ hit hitL S₆
  simp only [upd_none_iff] at hc hit
  obtain ⟨q1, hc⟩ := hc
  obtain ⟨q2, q3, hit⟩ := hit
  have oc := Off.of_none Y hc
  have oi := Off.of_none Y hit
  obtain ⟨i, ks, G₁, H₁, m₁, hks, Y₁, hp, hof, hkk, hk₁, hi₁, n1, n2, n3, S₇⟩ : ∃ (i : Nat) (ks : List Int) (G₁ : List GN) (H₁ : Led) (m₁ : Loc), ready.drop i = ks ∧ Gr prog w H₁ D G₁ ∧ outP (G₁.map GN.pn) ks = outP (G.map GN.pn) ready ∧ (∀ e, Off D G e → Off D G₁ e) ∧ G₁.map (·.k) = G.map (·.k) ∧
      (∀ e P, e ≠ it → upd (upd H L (frO oL')) c (tupO vs) e = some P → Off D G e → H₁ e = some P) ∧ H₁ it = some (tupIterO c i) ∧ m₁ (Str.ofString "self") = some (.ref x) ∧ m₁ (Str.ofString "n2i") = some (.ref D) ∧ m₁ (Str.ofString "result") = some (.ref c) ∧ St h₀ g os L' m₁ H₁ s₆ := by
    refine ⟨0, ready, G, _, _, rfl, ?_, rfl, fun _ h => h, rfl, ?_, upd_same _ _ _, ?_, ?_, ?_, S₆⟩
    · exact ((Y.upd oL).upd oc).upd oi
    · intro e P h1 h2 h3
      exact upd_of h1 h2
    all_goals walk_at "lk"
  clear S₆ S₅ S₄ S₃ S₂
  have hvl := ints_len hvs
  have hcc := hk₁ c _ (Ne.symm q2) (upd_same _ _ _) oc
  induction ks generalizing i G₁ H₁ m₁ s₆ with
  | nil =>
    refine r_for1 ?_
    have hi : vs[i]? = none := List.getElem?_eq_none (by rw [hvl]; exact List.drop_eq_nil_iff.mp hks)
    refine r_end_tup hh S₇ hi₁ hcc hi ?_
    intro s₇ S₇
    have k1 : Mine.del H₁ it x = some (instO 158 d) := (del_ne _ (led_ne hit hx)).trans (hk₁ _ _ (led_ne hit hx) (by walk_at "H") ox)
    have k2 : Mine.del H₁ it d = some (sdictO w (.ref D) (.ref RL) (.int a t3) (.int b t4)) := (del_ne _ (led_ne hit hd)).trans (hk₁ _ _ (led_ne hit hd) (by walk_at "H") od)
    have k3 : Mine.del H₁ it RL = some (intsO ready) := (del_ne _ (led_ne hit hr)).trans (hk₁ _ _ (led_ne hit hr) (by walk_at "H") oR)
    have k4 : Mine.del H₁ it c = some (tupO vs) := (del_ne _ (Ne.symm q2)).trans hcc
    have k5 := led_ne hc hd
    have k6 := led_ne hc hr
    repeat walk_at "py"
    refine r_len_tup (by assumption) (by walk_at "H") (by omega) ?_
    intro tl s₈ S₈
    repeat walk_at "py"
    rename_i tn s₉ S₉
    refine r_sset0 (P := sdictO w (.ref D) (.ref RL) (.int a t3) (.int b t4)) (P' := sdictO w (.ref D) (.ref RL) (.int (a + vs.length) tn) (.int b t4)) B S₉ (by walk_at "H") (by walk_at "H") (by kernel_rfl) ?_ ?_
    · rintro o ⟨t1, t2, t3', t4', n, rfl⟩; exact ⟨_, n, rfl, fun t => ⟨rfl, Nat.le_of_ble_eq_true rfl, t1, t2, t3', t4', _, rfl⟩⟩
    intro s₁₀ S₁₀
    repeat walk_at "py"
    have oi₁ := hof _ oi
    have Y₃ := ((Y₁.del oi₁).upd (P := intsO []) (hof _ oR)).upd (P := sdictO w (.ref D) (.ref RL) (.int (a + vs.length) tn) (.int b t4)) (hof _ od)
    have zL : ∀ P e, Mine.del H₁ it e = some P → e ≠ d → e ≠ RL → upd (upd (Mine.del H₁ it) RL (intsO [])) d (sdictO w (.ref D) (.ref RL) (.int (a + vs.length) tn) (.int b t4)) e = some P := fun P e he h1 h2 => upd_of h1 (upd_of h2 he)
    have kL : upd (upd (Mine.del H₁ it) RL (intsO [])) d (sdictO w (.ref D) (.ref RL) (.int (a + vs.length) tn) (.int b t4)) L = some (frO oL') := zL _ _ ((del_ne _ (Ne.symm q3)).trans (hk₁ _ _ (Ne.symm q3) (by walk_at "H") oL)) (Ne.symm hdL) (Ne.symm hrL)
    have S₁₁ := back _ _ _ _ (by assumption) kL
    rw [hvl] at *
    refine h G₁ _ c vs tn _ hp hvs (Y₃.del (hof _ oL)) hof hkk hc q1 ((del_ne _ q1).trans (zL _ _ k4 (Ne.symm k5) (Ne.symm k6))) ((del_ne _ hdL).trans (upd_same _ _ _)) ((del_ne _ hrL).trans (upd_of (Ne.symm hdR) (upd_same _ _ _))) ?_ S₁₁
    intro e P h1 h2 h3 h4
    have hne : e ≠ L := fun q => by rw [q, hLo] at h3; cases h3
    exact (del_ne _ hne).trans (zL _ _ ((del_ne _ (led_ne hit h3)).trans (hk₁ _ _ (led_ne hit h3) (upd_of (led_ne hc h3) (upd_of hne h3)) h4)) h1 h2)
  | cons k ks ih =>
    refine r_for1 ?_
    have hki : ready[i]? = some k := by
      have := congrArg (·[0]?) hks
      simpa using this
    obtain ⟨tk, hi⟩ : ∃ tk, vs[i]? = some (.int k tk) := by
      rcases ints_at hvs i with ⟨n', t, e1, e2⟩ | ⟨e1, _⟩
      · rw [hki] at e1; cases e1; exact ⟨t, e2⟩
      · rw [hki] at e1; cases e1
    have hks' : ready.drop (i + 1) = ks := by
      rw [← List.drop_drop, hks]; rfl
    refine r_next_tup S₇ hi₁ hcc hi ?_
    intro s₇ S₇
    have hkG := hall k (List.mem_of_getElem? hki)
    rw [← hkk] at hkG
    obtain ⟨n, hnG, hnk⟩ := List.mem_map.mp hkG
    have Y₂ := Y₁.upd (P := tupIterO c (i + 1)) (hof _ oi)
    have z1 := Y₂.info n hnG
    have z2 := Y₂.dct n hnG
    have hva : valueAt (pairsOf G₁) k = some (.ref n.ia) := by rw [valueAt_pairs, ← hnk, find_of_key Y₁.keys hnG]; rfl
    repeat walk_at "py"
    refine r_ditemO (kvs := pairsOf G₁) (by assumption) Y₂.dict hva ?_ (by rfl)
    intro s₈ S₈
    repeat walk_at "py"
    rename_i s₉ S₉
    obtain ⟨Y₃, K₃⟩ := Y₂.set (f := fun z => { z with np := -1 }) (H' := upd (upd H₁ it (tupIterO c (i + 1))) n.ia (infoO n.da n.k (-1) n.la)) hnG ⟨fun _ => rfl, fun _ => rfl, fun _ => rfl, fun _ => rfl⟩ (upd_same _ _ _)
      (upd_of (Ne.symm (Y₂.sep n hnG n hnG).2.1) (Y₂.lst n hnG)) (fun a h1 _ => upd_ne _ _ h1)
    have S₉ : St h₀ g os L' _ (upd (upd H₁ it (tupIterO c (i + 1))) n.ia (infoO n.da n.k (-1) n.la)) s₉ := S₉
    have spl : SamePlace (fun z : GN => { z with np := -1 }) := ⟨fun _ => rfl, fun _ => rfl, fun _ => rfl, fun _ => rfl⟩
    refine ih (S₇ := S₉) (hks := hks') (Y₁ := Y₃) (hp := ?_) (hof := fun e he => (hof e he).setG spl) (hkk := (setG_keys spl).trans hkk) (hk₁ := ?_) (hi₁ := ?_) (n1 := by walk_at "lk") (n2 := by walk_at "lk") (n3 := by walk_at "lk") (hcc := ?_)
    · rw [hnk, setG_pn G₁ k _ (fun n => { n with np := -1 }) (fun _ _ _ => rfl)]; exact hp
    · intro e P h1 h2 h3
      exact (K₃ e P (upd_of h1 (hk₁ e P h1 h2 h3)) (hof e h3)).1
    · exact (K₃ it _ (upd_same _ _ _) (hof _ oi)).1
    · exact (K₃ c _ (upd_of (Ne.symm q2) hcc) (hof _ oc)).1
end

/-! ## `done` -/
def decP (g : List PN) (ready : List Int) : List Int → Option (List PN × List Int)
  | [] => some (g, ready)
  | s :: ss => match g.find? (fun n => n.k = s) with
    | none => none
    | some n => if 900 < ready.length then none else decP (setP g s fun n => { n with np := n.np - 1 }) (if n.np - 1 = 0 then ready ++ [s] else ready) ss
def doneP (g : List PN) (ready : List Int) : List Int → Option (List PN × List Int)
  | [] => some (g, ready)
  | k :: ks => match g.find? (fun n => n.k = k) with
    | none => none
    | some n => if n.np = -1 then (match decP (setP g k fun n => { n with np := -2 }) ready n.sc with | some (g', r') => doneP g' r' ks | none => none) else none
theorem find_pn {G : List GN} {k : Int} {n : PN} (h : (G.map GN.pn).find? (fun n => n.k = k) = some n) : ∃ n' ∈ G, n'.k = k ∧ n'.pn = n := by
  rw [List.find?_map] at h
  obtain ⟨n', h1, h2⟩ := Option.map_eq_some_iff.mp h
  exact ⟨n', List.mem_of_find?_eq_some h1, of_decide_eq_true (p := n'.k = k) (List.find?_some (p := (fun n : PN => decide (n.k = k)) ∘ GN.pn) h1), h2⟩
section
variable {prog : Program} {w : World} {A : Around} {E : Value → Shared → Prop} {s : Shared} {h₀ : Heap} {g : Array GenState} {os : OsState} {L : Addr} {m : Loc} {H H' : Led} {x d D RL : Addr} {G : List GN} {b : Int} {v3 : Value} {t4 : Tok} {ready : List Int}

set_option maxHeartbeats 4000000 in
theorem done_call {R : Result → Shared → Prop} {vs : List Value} {ks : List Int} {g' : List PN} {r' : List Int} (B : Bs w h₀) (S : St h₀ g os L m H s) (hroom : A.depth + 10 < recursionLimit) (hh : A.handled = none) (Y : Gr prog w H D G) (hx : H x = some (instO 158 d)) (hd : H d = some (sdictO w (.ref D) (.ref RL) v3 (.int b t4))) (hr : H RL = some (intsO ready))
    (ox : Off D G x) (od : Off D G d) (oR : Off D G RL) (oL : Off D G L) (hdR : d ≠ RL) (hxd : x ≠ d) (hxR : x ≠ RL)
    (hvs : IntsAre vs ks) (hz : ks.length ≤ 900) (hp : doneP (G.map GN.pn) ready ks = some (g', r'))
    (h : ∀ G' H' t s', G'.map GN.pn = g' → Gr prog w H' D G' → (∀ e, Off D G e → Off D G' e) → G'.map (·.k) = G.map (·.k) →
      H' d = some (sdictO w (.ref D) (.ref RL) v3 (.int (b + ks.length) t)) → H' RL = some (intsO r') → (∀ e P, e ≠ d → e ≠ RL → H e = some P → Off D G e → H' e = some P) → St h₀ g os L m H' s' → R (.ok (.ret .none)) s') :
    codeAny (model prog w) A (.call (.ref 141) ⟨.ref x :: vs, []⟩) R s := by
  have hvl := ints_len hvs
  refine r_callV (rest := vs) (binds := fun tt => [(Str.ofString "self", .ref x), (Str.ofString "nodes", tt)]) B S (by rfl) (by kernel_rfl) (by omega) (by cases vs <;> rfl) (by omega) (by decide) (fun _ => locs (by rfl)) rfl rfl rfl ?_
  intro c L' oL' s₁ hL' hLn hc hcL hcL' S₁ back
  have hLo := S.inv.out
  have hxL := S.inv.neL hx
  have hdL := S.inv.neL hd
  have hrL := S.inv.neL hr
  have hDL := S.inv.neL Y.dict
  have hD := Y.dict
  have q0 := led_ne hc hx
  have q0' := led_ne hc hd
  have q0'' := led_ne hc hr
  repeat walk_at "py"
  rename_i it s₆ hit hitL S₆
  simp only [upd_none_iff] at hit
  obtain ⟨q3, q2, hit⟩ := hit
  have oc := Off.of_none Y hc
  have oi := Off.of_none Y hit
  obtain ⟨i, ks', G₁, H₁, m₁, ready₁, t₁, hks, hile, Y₁, hp₁, hof, hkk, hk₁, hi₁, hd₁, hr₁, n1, n2, S₇⟩ : ∃ (i : Nat) (ks' : List Int) (G₁ : List GN) (H₁ : Led) (m₁ : Loc) (ready₁ : List Int) (t₁ : Tok), ks.drop i = ks' ∧ i ≤ ks.length ∧ Gr prog w H₁ D G₁ ∧ doneP (G₁.map GN.pn) ready₁ ks' = some (g', r') ∧ (∀ e, Off D G e → Off D G₁ e) ∧ G₁.map (·.k) = G.map (·.k) ∧
      (∀ e P, e ≠ it → e ≠ d → e ≠ RL → upd (upd H c (tupO vs)) L (frO oL') e = some P → Off D G e → H₁ e = some P) ∧ H₁ it = some (tupIterO c i) ∧ H₁ d = some (sdictO w (.ref D) (.ref RL) v3 (.int (b + i) t₁)) ∧ H₁ RL = some (intsO ready₁) ∧
      m₁ (Str.ofString "self") = some (.ref x) ∧ m₁ (Str.ofString "n2i") = some (.ref D) ∧ St h₀ g os L' m₁ H₁ s₆ := by
    refine ⟨0, ks, G, _, _, ready, t4, rfl, Nat.zero_le _, ?_, hp, fun _ h => h, rfl, ?_, upd_same _ _ _, ?_, ?_, ?_, ?_, S₆⟩
    · exact ((Y.upd oc).upd oL).upd oi
    · intro e P h1 _ _ h2 h3
      exact upd_of h1 h2
    · rw [show b + ((0 : Nat) : Int) = b from Int.add_zero b]; exact upd_of (led_ne hit hd) (upd_of hdL (upd_of q0' hd))
    · exact upd_of (led_ne hit hr) (upd_of hrL (upd_of q0'' hr))
    all_goals walk_at "lk"
  clear S₆ S₁
  have hcc := hk₁ c _ (Ne.symm q2) (Ne.symm q0') (Ne.symm q0'') (upd_of hcL (upd_same _ _ _)) oc
  have hxx := hk₁ x _ (led_ne hit hx) hxd hxR (upd_of hxL (upd_of q0 hx)) ox
  induction ks' generalizing i G₁ H₁ m₁ ready₁ t₁ s₆ with
  | nil =>
    refine r_for1 ?_
    have hii : i = ks.length := Nat.le_antisymm hile (List.drop_eq_nil_iff.mp hks)
    have hi : vs[i]? = none := List.getElem?_eq_none (by omega)
    refine r_end_tup hh S₇ hi₁ hcc hi ?_
    intro s₇ S₇
    repeat walk_at "py"
    cases hp₁
    have kL : Mine.del H₁ it L = some (frO oL') := (del_ne _ (Ne.symm q3)).trans (hk₁ L _ (Ne.symm q3) (Ne.symm hdL) (Ne.symm hrL) (upd_same _ _ _) oL)
    refine h G₁ _ t₁ _ rfl ((Y₁.del (hof _ oi)).del (hof _ oL)) hof hkk ?_ ?_ ?_ (back _ _ _ _ S₇ kL)
    · rw [← hii]; exact (del_ne _ hdL).trans ((del_ne _ (led_ne hit hd)).trans hd₁)
    · exact (del_ne _ hrL).trans ((del_ne _ (led_ne hit hr)).trans hr₁)
    · intro e P h1 h2 h3 h4
      have hne : e ≠ L := fun q => by rw [q, hLo] at h3; cases h3
      exact (del_ne _ hne).trans ((del_ne _ (led_ne hit h3)).trans (hk₁ e P (led_ne hit h3) h1 h2 (upd_of hne (upd_of (led_ne hc h3) h3)) h4))
  | cons k ks' ih =>
    refine r_for1 ?_
    have hki : ks[i]? = some k := by
      have := congrArg (·[0]?) hks
      simpa using this
    obtain ⟨tk, hi⟩ : ∃ tk, vs[i]? = some (.int k tk) := by
      rcases ints_at hvs i with ⟨n', t, e1, e2⟩ | ⟨e1, _⟩
      · rw [hki] at e1; cases e1; exact ⟨t, e2⟩
      · rw [hki] at e1; cases e1
    have hks' : ks.drop (i + 1) = ks' := by
      rw [← List.drop_drop, hks]; rfl
    refine r_next_tup S₇ hi₁ hcc hi ?_
    intro s₇ S₇
    unfold doneP at hp₁
    cases hfi : (G₁.map GN.pn).find? (fun n => n.k = k) with
    | none => rw [hfi] at hp₁; cases hp₁
    | some n0 =>
      rw [hfi] at hp₁
      obtain ⟨n, hnG, hnk, rfl⟩ := find_pn hfi
      dsimp only at hp₁
      by_cases hnp : n.np = -1
      case neg => rw [if_neg (show ¬ n.pn.np = -1 from hnp)] at hp₁; cases hp₁
      rw [if_pos (show n.pn.np = -1 from hnp)] at hp₁
      have Y₂ := Y₁.upd (P := tupIterO c (i + 1)) (hof _ oi)
      have z1 := Y₂.info n hnG
      have z2 := Y₂.dct n hnG
      have z3 := Y₂.dict
      have hva : valueAt (pairsOf G₁) k = some (.ref n.ia) := by rw [valueAt_pairs, ← hnk, find_of_key Y₁.keys hnG]; rfl
      repeat walk_at "py"
      refine r_dget Y₂.low (by assumption) z3 ?_
      intro s₈ S₈
      rw [hva, Option.getD_some]
      repeat walk_at "py"
      rw [show (n.np != -1) = false from by rw [hnp]; rfl]
      have z4 := Y₂.lst n hnG
      have z5 := (Y₂.sep n hnG n hnG).1
      have z6 := (Y₂.sep n hnG n hnG).2.1
      have od₁ := hof _ od
      have oR₁ := hof _ oR
      have oi₁ := hof _ oi
      repeat walk_at "py"
      rename_i it2 s₉ hit2 hit2L S₉
      simp only [upd_none_iff] at hit2
      obtain ⟨w1, w2, hit2⟩ := hit2
      have oi2 := Off.of_none Y₁ hit2
      cases hde : decP (setP (G₁.map GN.pn) k fun n => { n with np := -2 }) ready₁ n.pn.sc with
      | none => rw [hde] at hp₁; cases hp₁
      | some gr =>
        obtain ⟨g₁, r₁⟩ := gr
        rw [hde] at hp₁
        dsimp only at hp₁
        obtain ⟨Y₃, K₃⟩ := Y₂.set (f := fun z => { z with np := -2 }) (H' := upd (upd H₁ it (tupIterO c (i + 1))) n.ia (infoO n.da n.k (-2) n.la)) hnG ⟨fun _ => rfl, fun _ => rfl, fun _ => rfl, fun _ => rfl⟩ (upd_same _ _ _)
          (upd_of (Ne.symm (Y₂.sep n hnG n hnG).2.1) (Y₂.lst n hnG)) (fun a h1 _ => upd_ne _ _ h1)
        have spl : SamePlace (fun z : GN => { z with np := -2 }) := ⟨fun _ => rfl, fun _ => rfl, fun _ => rfl, fun _ => rfl⟩
        obtain ⟨j, ss, G₂, H₂, m₂, ready₂, hss, Y₄, hp₂, hof₂, hkk₂, hk₂, hi₂, hj₂, hd₂, hr₂, ⟨n₂, hn₂, hn₂a, hn₂s⟩, n3, n4, S₁₀⟩ : ∃ (j : Nat) (ss : List Int) (G₂ : List GN) (H₂ : Led) (m₂ : Loc) (ready₂ : List Int), n.sc.drop j = ss ∧ Gr prog w H₂ D G₂ ∧ decP (G₂.map GN.pn) ready₂ ss = some (g₁, r₁) ∧ (∀ e, Off D G₁ e → Off D G₂ e) ∧ G₂.map (·.k) = G₁.map (·.k) ∧
            (∀ e P, e ≠ it → e ≠ it2 → e ≠ d → e ≠ RL → upd (upd H c (tupO vs)) L (frO oL') e = some P → Off D G e → H₂ e = some P) ∧ H₂ it = some (tupIterO c (i + 1)) ∧ H₂ it2 = some (listIterO n.la j) ∧ H₂ d = some (sdictO w (.ref D) (.ref RL) v3 (.int (b + i) t₁)) ∧ H₂ RL = some (intsO ready₂) ∧
            (∃ n₂ ∈ G₂, n₂.la = n.la ∧ n₂.sc = n.sc) ∧ m₂ (Str.ofString "self") = some (.ref x) ∧ m₂ (Str.ofString "n2i") = some (.ref D) ∧ St h₀ g os L' m₂ H₂ s₉ := by
          have e1 : ∀ e P, H₁ e = some P → e ≠ it → Off D G₁ e → upd (upd (upd H₁ it (tupIterO c (i + 1))) n.ia (infoO n.da n.k (-2) n.la)) it2 (listIterO n.la 0) e = some P := fun e P h1 h2 h3 =>
            upd_of (led_ne hit2 h1) (K₃ e P (upd_of h2 h1) h3).1
          refine ⟨0, n.sc, _, _, _, ready₁, rfl, Y₃.upd (oi2.setG spl), ?_, fun e he => he.setG spl, setG_keys spl, ?_, ?_, upd_same _ _ _, e1 _ _ hd₁ (led_ne hit hd) od₁, e1 _ _ hr₁ (led_ne hit hr) oR₁, ⟨{ n with np := -2 }, ?_, rfl, rfl⟩, ?_, ?_, S₉⟩
          · rw [hnk, setG_pn G₁ k _ (fun n => { n with np := -2 }) (fun _ _ _ => rfl)]; exact hde
          · intro e P h1 h2 h3 h4 h5 h6
            exact e1 e P (hk₁ e P h1 h3 h4 h5 h6) h1 (hof e h6)
          · exact upd_of (Ne.symm w2) (K₃ it _ (upd_same _ _ _) oi₁).1
          · unfold setG
            exact List.mem_map.mpr ⟨n, hnG, by rw [if_pos rfl]⟩
          all_goals walk_at "lk"
        clear S₉ S₈ S₇ hde
        have hxx₂ := hk₂ x _ (led_ne hit hx) (fun q => by rw [q, hit2] at hxx; cases hxx) hxd hxR (upd_of hxL (upd_of q0 hx)) ox
        induction ss generalizing j G₂ H₂ m₂ ready₂ n₂ s₉ with
        | nil =>
          cases hp₂
          have hla : H₂ n.la = some (intsO n.sc) := by rw [← hn₂a, ← hn₂s]; exact Y₄.lst n₂ hn₂
          refine r_for1 ?_
          refine r_end_ints hh S₁₀ hj₂ hla (List.getElem?_eq_none (List.drop_eq_nil_iff.mp hss)) ?_
          intro s₁₁ S₁₁
          have y1 : ∀ e P, H₂ e = some P → e ≠ it2 → Mine.del H₂ it2 e = some P := fun e P h1 h2 => (del_ne _ h2).trans h1
          have y2 : x ≠ it2 := fun q => by rw [q, hit2] at hxx; cases hxx
          have y3 : d ≠ it2 := fun q => by rw [q, hit2] at hd₁; cases hd₁
          have y4 : RL ≠ it2 := fun q => by rw [q, hit2] at hr₁; cases hr₁
          have y5 := y1 _ _ hxx₂ y2
          have y6 := y1 _ _ hd₂ y3
          repeat walk_at "py"
          rename_i tn s₁₂ S₁₂
          refine r_sset0 (P := sdictO w (.ref D) (.ref RL) v3 (.int (b + i) t₁)) (P' := sdictO w (.ref D) (.ref RL) v3 (.int (b + i + 1) tn)) B S₁₂ (by walk_at "H") (by walk_at "H") (by kernel_rfl) ?_ ?_
          · rintro o ⟨t1, t2, t3', t4', n, rfl⟩; exact ⟨_, n, rfl, fun t => ⟨rfl, Nat.le_of_ble_eq_true rfl, t1, t2, t3', t4', _, rfl⟩⟩
          intro s₁₃ S₁₃
          repeat walk_at "py"
          have y7 : ∀ e P, H₂ e = some P → e ≠ it2 → e ≠ d → upd (Mine.del H₂ it2) d (sdictO w (.ref D) (.ref RL) v3 (.int (b + i + 1) tn)) e = some P := fun e P h1 h2 h3 => upd_of h3 (y1 e P h1 h2)
          have y8 : it ≠ d := Ne.symm (led_ne hit hd)
          have y9 : c ≠ it2 := fun q => by rw [q, hit2] at hcc; cases hcc
          refine ih (S₇ := S₁₃) (i := i + 1) (G₁ := G₂) (ready₁ := r₁) (t₁ := tn) (hks := hks') (hile := ?_) (Y₁ := (Y₄.del (hof₂ _ oi2)).upd (hof₂ _ od₁)) (hp₁ := hp₁) (hof := fun e he => hof₂ e (hof e he)) (hkk := hkk₂.trans hkk) (hk₁ := ?_) (hi₁ := y7 _ _ hi₂ (Ne.symm w2) y8) (hd₁ := ?_) (hr₁ := y7 _ _ hr₂ y4 (Ne.symm hdR)) (n1 := n3) (n2 := n4) (hcc := ?_) (hxx := y7 _ _ hxx₂ y2 hxd)
          · have := List.getElem?_eq_some_iff.mp hki; exact this.1
          · intro e P h1 h2 h3 h4 h5
            have h6 : e ≠ it2 := fun q => by
              have := hk₁ e P h1 h2 h3 h4 h5
              rw [q, hit2] at this; cases this
            exact y7 e P (hk₂ e P h1 h6 h2 h3 h4 h5) h6 h2
          · rw [show b + ((i + 1 : Nat) : Int) = b + i + 1 from by omega]; exact upd_same _ _ _
          · exact y7 _ _ (hk₂ c _ (Ne.symm q2) y9 (Ne.symm q0') (Ne.symm q0'') (upd_of hcL (upd_same _ _ _)) oc) y9 (Ne.symm q0')
        | cons sx ss ihs =>
          have hla : H₂ n.la = some (intsO n.sc) := by rw [← hn₂a, ← hn₂s]; exact Y₄.lst n₂ hn₂
          have hsi : n.sc[j]? = some sx := by
            have := congrArg (·[0]?) hss
            simpa using this
          have hss' : n.sc.drop (j + 1) = ss := by
            rw [← List.drop_drop, hss]; rfl
          unfold decP at hp₂
          cases hfi₂ : (G₂.map GN.pn).find? (fun n => n.k = sx) with
          | none => rw [hfi₂] at hp₂; cases hp₂
          | some n0 =>
            rw [hfi₂] at hp₂
            obtain ⟨n', hnG', hnk', rfl⟩ := find_pn hfi₂
            dsimp only at hp₂
            by_cases hrl : 900 < ready₂.length
            · rw [if_pos hrl] at hp₂; cases hp₂
            rw [if_neg hrl] at hp₂
            have Y₅ := Y₄.upd (P := listIterO n.la (j + 1)) (hof₂ _ oi2)
            have z1' := Y₅.info n' hnG'
            have z2' := Y₅.dct n' hnG'
            have z3' := Y₅.dict
            have z5' := (Y₅.sep n' hnG' n' hnG').1
            have hva' : valueAt (pairsOf G₂) sx = some (.ref n'.ia) := by rw [valueAt_pairs, ← hnk', find_of_key Y₄.keys hnG']; rfl
            have y2 : x ≠ it2 := fun q => by rw [q, hit2] at hxx; cases hxx
            have y3 : d ≠ it2 := fun q => by rw [q, hit2] at hd₁; cases hd₁
            have y4 : RL ≠ it2 := fun q => by rw [q, hit2] at hr₁; cases hr₁
            have x1 := (hof₂ _ (hof _ ox)).2 n' hnG'
            have x2 := (hof₂ _ od₁).2 n' hnG'
            have x3 := (hof₂ _ oR₁).2 n' hnG'
            obtain ⟨x11, x12, x13⟩ := x1
            obtain ⟨x21, x22, x23⟩ := x2
            obtain ⟨x31, x32, x33⟩ := x3
            refine r_for1 ?_
            refine r_next_ints S₁₀ hj₂ hla hsi ?_
            intro ts s₁₁ S₁₁
            repeat walk_at "py"
            refine r_ditemO (kvs := pairsOf G₂) (by assumption) z3' hva' ?_ (by rfl)
            intro s₁₂ S₁₂
            repeat walk_at "py"
            rename_i s₁₃ S₁₃
            have spl' : SamePlace (fun z : GN => { z with np := z.np - 1 }) := ⟨fun _ => rfl, fun _ => rfl, fun _ => rfl, fun _ => rfl⟩
            obtain ⟨Y₆, K₆⟩ := Y₅.set (f := fun z => { z with np := z.np - 1 }) (H' := upd (upd H₂ it2 (listIterO n.la (j + 1))) n'.ia (infoO n'.da n'.k (n'.np - 1) n'.la)) hnG' spl' (upd_same _ _ _)
              (upd_of (Ne.symm (Y₅.sep n' hnG' n' hnG').2.1) (Y₅.lst n' hnG')) (fun a h1 _ => upd_ne _ _ h1)
            have S₁₃ : St h₀ g os L' _ (upd (upd H₂ it2 (listIterO n.la (j + 1))) n'.ia (infoO n'.da n'.k (n'.np - 1) n'.la)) s₁₃ := S₁₃
            have keep : ∀ e P, H₂ e = some P → e ≠ it2 → Off D G₁ e → upd (upd H₂ it2 (listIterO n.la (j + 1))) n'.ia (infoO n'.da n'.k (n'.np - 1) n'.la) e = some P := fun e P h1 h2 h3 => (K₆ e P (upd_of h2 h1) (hof₂ e h3)).1
            have k1 := (K₆ it2 _ (upd_same _ _ _) (hof₂ _ oi2)).1
            generalize upd (upd H₂ it2 (listIterO n.la (j + 1))) n'.ia (infoO n'.da n'.k (n'.np - 1) n'.la) = H₃ at *
            have k2 := keep _ _ hi₂ (Ne.symm w2) oi₁
            have k3 := keep _ _ hd₂ y3 od₁
            have k4 := keep _ _ hr₂ y4 oR₁
            have k5 := keep _ _ hxx₂ y2 (hof _ ox)
            have hn₃ : (if n₂.k = n'.k then { n₂ with np := n₂.np - 1 } else n₂) ∈ setG G₂ n'.k (fun z => { z with np := z.np - 1 }) := by
              unfold setG
              exact List.mem_map.mpr ⟨n₂, hn₂, rfl⟩
            have hpn : (setG G₂ n'.k fun z => { z with np := z.np - 1 }).map GN.pn = setP (G₂.map GN.pn) sx fun n => { n with np := n.np - 1 } := by
              rw [hnk']; exact setG_pn G₂ sx _ (fun n => { n with np := n.np - 1 }) (fun _ _ _ => rfl)
            have hof₃ : ∀ e, Off D G₁ e → Off D (setG G₂ n'.k fun z => { z with np := z.np - 1 }) e := fun e he => (hof₂ e he).setG spl'
            have hkk₃ := (setG_keys (G := G₂) (k := n'.k) spl').trans hkk₂
            have hn₃a : (if n₂.k = n'.k then { n₂ with np := n₂.np - 1 } else n₂).la = n.la := by split <;> exact hn₂a
            have hn₃s : (if n₂.k = n'.k then { n₂ with np := n₂.np - 1 } else n₂).sc = n.sc := by split <;> exact hn₂s
            have hk₃ : ∀ e P, e ≠ it → e ≠ it2 → e ≠ d → e ≠ RL → upd (upd H c (tupO vs)) L (frO oL') e = some P → Off D G e → H₃ e = some P := fun e P h1 h2 h3 h4 h5 h6 => keep e P (hk₂ e P h1 h2 h3 h4 h5 h6) h2 (hof e h6)
            generalize (setG G₂ n'.k fun z => { z with np := z.np - 1 }) = G₃ at *
            have dRL := hdR
            by_cases hz0 : n'.np - 1 = 0
            · rw [show (n'.np - 1 == 0) = true from by rw [hz0]; rfl]
              rw [if_pos (show n'.pn.np - 1 = 0 from hz0)] at hp₂
              repeat walk_at "py"
              refine r_append_ints (by assumption) k4 (by omega) ?_
              intro s₁₄ S₁₄
              repeat walk_at "py"
              refine ihs (S₁₀ := S₁₄) (j := j + 1) (G₂ := G₃) (ready₂ := ready₂ ++ [sx]) (hss := hss') (Y₄ := Y₆.upd (hof₃ _ oR₁)) (hp₂ := hpn ▸ hp₂) (hof₂ := hof₃) (hkk₂ := hkk₃) (hk₂ := ?_) (hi₂ := upd_of (Ne.symm (led_ne hit hr)) k2) (hj₂ := upd_of (Ne.symm y4) k1) (hd₂ := upd_of hdR k3) (hr₂ := upd_same _ _ _) (hn₂ := hn₃) (hn₂a := hn₃a) (hn₂s := hn₃s) (n3 := by walk_at "lk") (n4 := by walk_at "lk") (hxx₂ := upd_of hxR k5)
              intro e P h1 h2 h3 h4 h5 h6
              exact upd_of h4 (hk₃ e P h1 h2 h3 h4 h5 h6)
            · rw [show (n'.np - 1 == 0) = false from by simpa using hz0]
              rw [if_neg (show ¬ n'.pn.np - 1 = 0 from hz0)] at hp₂
              repeat walk_at "py"
              exact ihs (S₁₀ := S₁₃) (j := j + 1) (G₂ := G₃) (ready₂ := ready₂) (hss := hss') (Y₄ := Y₆) (hp₂ := hpn ▸ hp₂) (hof₂ := hof₃) (hkk₂ := hkk₃) (hk₂ := hk₃) (hi₂ := k2) (hj₂ := k1) (hd₂ := k3) (hr₂ := k4) (hn₂ := hn₃) (hn₂a := hn₃a) (hn₂s := hn₃s) (n3 := by walk_at "lk") (n4 := by walk_at "lk") (hxx₂ := k5)
end

/-! ## Any environment; comprehensions -/
abbrev envE (cs : Scope) (L : Addr) (cl : List (Str × Addr)) (qn : Str) (fo : Option Addr) (ccd : Value) (fr : Option Addr) : Env :=
  { scope := cs, locals := L, globals := mainGlobals, cells := cl, qual := qn, func := fo, code := ccd, frame := fr, builtins := builtinsNs }
def cellO (v : Option Value) : OP := fun o => o.data = .cell v
section
variable {prog : Program} {w : World} {A : Around} {E : Value → Shared → Prop} {s : Shared} {h₀ : Heap} {g : Array GenState} {os : OsState} {L C : Addr} {m : Loc} {H : Led} {a c d it : Addr} {env : Env}
  {cs : Scope} {cl : List (Str × Addr)} {qn : Str} {fo : Option Addr} {ccd : Value} {fr : Option Addr} {x : Str} {pos : Pos} {v : Value}
theorem e_nl {Q : Value → Shared → Prop} (S : St h₀ g os L m H s) (hv : m x = some v) (h : Q v s) (hk : cs.kind = .function) (hx : (envE cs L cl qn fo ccd fr).kindOf x = some .local) (hd : (x == ("__debug__" : Str)) = false) :
    wpAny (model prog w) A (eval (.Name x pos) (envE cs L cl qn fo ccd fr)) Q E s := wpAny_Name (wpAny_loadName_local hk hx S.inv.ns hv h) hd
theorem e_nc {Q : Value → Shared → Prop} (S : St h₀ g os L m H s) (hc : cl.lookup x = some c) (hv : H c = some (cellO (some v))) (h : Q v s) (hk : cs.kind = .function) (hx : (envE cs L cl qn fo ccd fr).kindOf x = some .cell) (hd : (x == ("__debug__" : Str)) = false) :
    wpAny (model prog w) A (eval (.Name x pos) (envE cs L cl qn fo ccd fr)) Q E s := wpAny_Name (wpAny_loadName_cell hk hx hc (S.inv.own _ _ hv) h) hd
theorem e_ng {Q : Value → Shared → Prop} (B : Bs w h₀) (S : St h₀ g os L m H s) (e : nsIn (KK w) mainGlobals x = some (some v)) (h : Q v s) (hk : cs.kind = .function) (hx : (envE cs L cl qn fo ccd fr).kindOf x = some .globalImplicit) (hd : (x == ("__debug__" : Str)) = false) :
    wpAny (model prog w) A (eval (.Name x pos) (envE cs L cl qn fo ccd fr)) Q E s := by
  obtain ⟨p, loose, mg, mb, T⟩ := B.T
  exact Name_function_global hk hx (loadGlobal_global (env := envE cs L cl qn fo ccd fr) (T.g.keeps S.inv.keep) (mg_of B.X T.g e) h) hd
theorem e_nb {Q : Value → Shared → Prop} (B : Bs w h₀) (S : St h₀ g os L m H s) (e : nsIn (KK w) mainGlobals x = some none) (hv : bootBuiltins x = some v) (hn : x ≠ "__name__") (h : Q v s) (hk : cs.kind = .function) (hx : (envE cs L cl qn fo ccd fr).kindOf x = some .globalImplicit) (hd : (x == ("__debug__" : Str)) = false) :
    wpAny (model prog w) A (eval (.Name x pos) (envE cs L cl qn fo ccd fr)) Q E s := by
  obtain ⟨p, loose, mg, mb, T⟩ := B.T
  exact Name_function_global hk hx (loadGlobal_builtin (env := envE cs L cl qn fo ccd fr) (T.g.keeps S.inv.keep) (mg_none_of B.X T.g e) (T.b.keeps S.inv.keep) ((T.builtins x hn).trans hv) h) hd
theorem e_st {Q : Unit → Shared → Prop} (S : St h₀ g os L m H s) (k : ∀ s', St h₀ g os L (put m x v) H s' → Q () s') (hk : cs.kind = .function) (hx : (envE cs L cl qn fo ccd fr).kindOf x = some .local) :
    wpAny (model prog w) A (storeName (envE cs L cl qn fo ccd fr) x v) Q E s :=
  wpAny_storeName_local hx S.inv.ns (fun h' hn hs => k _ ⟨S.inv.set hn hs, S.gens, S.os⟩) (by show (cs.kind == .class || (cs.kind == .module && L != mainGlobals)) = false; rw [hk]; rfl)

theorem Inv.other {h h' : Heap} (I : Inv h₀ L m H h) (hs : Heap.SameBut C h h') (hC : H C = none) (hL : C ≠ L) (hz : h₀.objs.size ≤ C) : Inv h₀ L m H h' :=
  ⟨I.ns.extBut hs.extBut (Ne.symm hL), fun b o e => (hs.2 b (fun q => by rw [q, get_none_of_le hz] at e; cases e)).trans (I.keep b o e),
    fun b P e => by obtain ⟨o, ho, hp⟩ := I.own b P e; exact ⟨o, (hs.2 b (fun q => by rw [q, hC] at e; cases e)).trans ho, hp⟩, I.low, I.above, I.out⟩

/-- what is behind the iterator of a comprehension -/
def CompGo (prog : Program) (w : World) (A : Around) (E : Value → Shared → Prop) (elt target iter : PySem.Expr) (ifs : List PySem.Expr) (scope : Scope) (pos : Pos) (cl : List (Str × Addr)) (env : Env) (Q : Value → Shared → Prop) (it : Value) (s₂ : Shared) : Prop :=
  wpAny (model prog w) A (newList []) (fun acc s₃ => wpAny (model prog w) A (newFunctionEnv scope env.globals cl [] env.qual none .none (some env)) (fun cenv s₄ =>
        codeAny (model prog w) A (.compStart (.ListComp elt [⟨target, iter, ifs, 0⟩] scope pos) 0 it acc { cenv with scope := relabel scope env }) (compPost (model prog w) A E none Q acc cenv.locals) s₄) E s₃) E s₂
theorem r_comp {elt target iter : PySem.Expr} {ifs : List PySem.Expr} {scope : Scope} {cl' : List (Str × Addr)} {Q : Value → Shared → Prop} (hs : ∀ x, foldedSetIterable iter env x = pure x) (hclos : closureFor scope env = pure cl')
    (hkind : scope.kind = .function) (hnames : ∀ y ∈ scope.names, y.2 = .local → scope.names.lookup y.1 = some .local)
    (h : wpAny (model prog w) A (eval iter env) (fun x s₁ => wpAny (model prog w) A (pyIter x) (fun it s₂ => CompGo prog w A E elt target iter ifs scope pos cl' env Q it s₂) E s₁) E s) :
    wpAny (model prog w) A (eval (.ListComp elt [⟨target, iter, ifs, 0⟩] scope pos) env) Q E s := by
  rw [eval_ListComp]
  exact wpAny_comprehension_free (use := none) rfl hs hclos hkind hnames h
theorem r_compGo {elt target iter : PySem.Expr} {ifs : List PySem.Expr} {scope : Scope} {cl' : List (Str × Addr)} {P : OP} {Q : Value → Shared → Prop} (S : St h₀ g os L m H s) (ha : H a = some P)
    (hcell : ∀ y ∈ scope.names, y.2 ≠ .cell) (hkind : scope.kind = .function)
    (hself : ∀ C m' H' s' Q' E', St h₀ g os C m' H' s' → H' a = some P → Q' (.ref a) s' → wpAny (model prog w) A (pyIter (.ref a)) Q' E' s')
    (h : ∀ acc C oL s₁, H acc = none → acc ≠ L → C ≠ L → acc ≠ C → H C = none → St h₀ g os C (fun _ => none) (upd (upd H acc (listO [])) L (frO oL)) s₁ →
      codeAny (model prog w) A (.compLoop (.ListComp elt [⟨target, iter, ifs, 0⟩] scope pos) 0 (.ref a) (.ref acc) (envE (relabel scope (envE cs L cl qn fo ccd fr)) C cl' qn none ccd fr))
        (fun r s' => (∃ f, r = .ok f) ∧ ∃ m' H', St h₀ g os C m' H' s' ∧ H' L = some (frO oL) ∧ ∀ s'', St h₀ g os L m (del H' L) s'' → Q (.ref acc) s'') s₁) :
    CompGo prog w A E elt target iter ifs scope pos cl' (envE cs L cl qn fo ccd fr) Q (.ref a) s := by
  refine r_newList S (by simp) fun acc s₁ hacc haccL S₁ => ?_
  refine wpAny_newFunctionEnv hcell (by intro y hy; simp at hy) (fun h₁ hns hsb => ?_) hkind
  obtain ⟨oL, es, ep, hL, hr⟩ := S₁.inv.ns
  have k₁ : ∀ b o, s₁.heap.get? b = some o → h₁.get? b = some o := fun b o e => hsb.extBut b o (Nat.ne_of_lt (Heap.lt_size e)) (Heap.get?_push_of_some _ e)
  have f1 := upd_none S₁.inv.fresh
  have I := S₁.inv.enter hL hns k₁ rfl
  have hC0 : h₀.objs.size ≤ s₁.heap.objs.size := S₁.inv.fresh₀
  have fin : ∀ r s', ((∃ f, r = .ok f) ∧ ∃ m' H', St h₀ g os s₁.heap.objs.size m' H' s' ∧ H' L = some (frO oL) ∧ ∀ s'', St h₀ g os L m (del H' L) s'' → Q (.ref acc) s'') → compPost (model prog w) A E none Q (.ref acc) s₁.heap.objs.size r s' := by
    rintro r s' ⟨⟨f, rfl⟩, m', H', S', eL, hQ⟩
    refine ⟨m', S'.inv.ns, fun h' hs' => hQ _ ⟨?_, S'.gens, S'.os⟩⟩
    exact (S'.inv.back eL hL ⟨oL, es, ep, hL, hr⟩ S₁.inv.above).other hs' (by
      rw [del_ne _ (S₁.inv.freshL)]; exact S'.inv.out) S₁.inv.freshL hC0
  have S₂ : St h₀ g os s₁.heap.objs.size _ _ { s₁ with heap := h₁, toks := s₁.toks + ([] : List (Str × Value)).length } := ⟨I, S₁.gens, S₁.os⟩
  have main := h acc s₁.heap.objs.size oL _ hacc haccL S₁.inv.freshL (Ne.symm f1.1) f1.2 S₂
  have haL : a ≠ L := S.inv.neL ha
  refine codeAny_compStart_list (codeAny_mono main fun r s' z => fin r s' z) (hself _ _ _ _ _ _ S₂ (upd_of haL (upd_of (led_ne hacc ha) ha)) (codeAny_mono main fun r s' z => fin r s' z))
theorem r_comp1 {elt target iter : PySem.Expr} {ifs : List PySem.Expr} {scope : Scope} {it acc : Value} {R : Result → Shared → Prop}
    (h : wpAny (model prog w) A (pyNext it) (fun r s₁ => match r with
      | none => R (.ok .next) s₁
      | some v => wpAny (model prog w) A (letOwnedTupleGo target it v) (fun _ s₁' => wpAny (model prog w) A (assign target env v) (fun _ s₂ =>
          wpAny (model prog w) A (forIn ifs true fun c r => if r = true then do let ok ← isTrue c env (eval c env); pure (ForInStep.yield ok) else pure (ForInStep.yield r)) (fun ok s₃ =>
            if ok = true then wpAny (model prog w) A (eval elt env) (fun x s₄ =>
              wpAny (model prog w) A (call (.builtin "list.append") [acc, x]) (fun _ s₅ => codeAny (model prog w) A (.compLoop (.ListComp elt [⟨target, iter, ifs, 0⟩] scope pos) 0 it acc env) R s₅) (notedBy (model prog w) A env fun e s' => R (.error e) s') s₄) (notedBy (model prog w) A env fun e s' => R (.error e) s') s₃
            else codeAny (model prog w) A (.compLoop (.ListComp elt [⟨target, iter, ifs, 0⟩] scope pos) 0 it acc env) R s₃) (notedBy (model prog w) A env fun e s' => R (.error e) s') s₂) (notedBy (model prog w) A env fun e s' => R (.error e) s') s₁') (notedBy (model prog w) A env fun e s' => R (.error e) s') s₁) (notedBy (model prog w) A env fun e s' => R (.error e) s') s) :
    codeAny (model prog w) A (.compLoop (.ListComp elt [⟨target, iter, ifs, 0⟩] scope pos) 0 it acc env) R s := by
  refine codeAny_of_tree ?_
  show wpAny _ A ((compTurn (.ListComp elt [⟨target, iter, ifs, 0⟩] scope pos) 0 it acc env).onRaise (fun x => do noteFrame x env; theTreesLotGoes x)) _ _ s
  refine wpAny_noted ?_
  rw [compTurn_list]
  refine wpAny_bind (wpAny_standAt (wpAny_bind (wpAny_mono h (fun r s₁ h₁ => ?_) fun _ _ h' => h')))
  cases r with
  | none => exact wpAny_pure h₁
  | some v =>
    refine wpAny_bind (wpAny_mono h₁ (fun _ s₁' h₁' => ?_) fun _ _ h' => h')
    refine wpAny_bind (wpAny_mono h₁' (fun _ s₂ h₂ => wpAny_bind (wpAny_mono h₂ (fun ok s₃ h₃ => ?_) fun _ _ h' => h')) fun _ _ h' => h')
    cases ok with
    | false => exact wpAny_pure ⟨rfl, h₃⟩
    | true =>
      exact wpAny_bind (wpAny_bind (wpAny_mono h₃ (fun x s₄ h₄ => wpAny_bind (wpAny_mono h₄ (fun _ s₅ h₅ => wpAny_pure (wpAny_pure ⟨rfl, h₅⟩)) fun _ _ h' => h')) fun _ _ h' => h'))

/-! the values of a dict -/
def valsO (d : Addr) : OP := fun o => o = { cls := .type "dict_values", data := .fields #[.ref d] }
def valIterO (d : Addr) (i n ep : Nat) : OP := fun o => o.cls = .type "dict_valueiterator" ∧ o.data = .fields #[.ref d, .int i 0, .int n 0, .int ep 0]
theorem r_getMethod_dictE {kvs : List (Int × Value)} {ep : Nat} {name : Str} {id : String} {pl : Sem Bool} {Q : Value × List Value → Shared → Prop} (S : St h₀ g os L m H s) (e : H d = some (idictE prog w kvs ep)) (slot : Slot "dict" name id)
    (hty : typeOf (.builtin id) = pure (.type "method_descriptor")) (h : Q (.builtin id, [.ref d]) s) : wpAny (model prog w) A (getMethod (.ref d) name pl) Q E s :=
  getMethod_builtin (S.dictAt e).dictOf.typeIs PySem.F.plainAttrs_dict slot hty (S.dictAt e).dictOf.mapOf.noDict h
theorem r_values {kvs : List (Int × Value)} {ep : Nat} {Q : Value → Shared → Prop} (B : (d == sysModules) = false) (S : St h₀ g os L m H s) (e : H d = some (idictE prog w kvs ep)) (h : ∀ c s', H c = none → c ≠ L → St h₀ g os L m (upd H c (valsO d)) s' → Q (.ref c) s') :
    wpAny (model prog w) A (call (.builtin "dict.values") [.ref d]) Q E s := by
  have hd := (S.dictAt e).dictOf
  exact call_meetsIn PySem.F.slot_dict_values hd.typeIs PySem.F.entry_dict_values (PySem.F.args_dict_values_1 _) (meets_dict_values (intKind prog w) d B) ⟨⟨_, hd⟩, h _ _ S.inv.fresh S.inv.freshL ⟨S.inv.push _ rfl, S.gens, S.os⟩⟩
theorem r_iter_values {kvs : List (Int × Value)} {ep : Nat} {Q : Value → Shared → Prop} (S : St h₀ g os L m H s) (ev : H c = some (valsO d)) (e : H d = some (idictE prog w kvs ep)) (h : ∀ it s', H it = none → it ≠ L → St h₀ g os L m (upd H it (valIterO d 0 kvs.length ep)) s' → Q (.ref it) s') :
    wpAny (model prog w) A (pyIter (.ref c)) Q E s := by
  obtain ⟨o, ho, rfl⟩ := S.inv.own _ _ ev
  exact wpAny_pyIter_values (knd := intKind prog w) ⟨_, ho, rfl, rfl⟩ (S.dictAt e) (h _ _ S.inv.fresh S.inv.freshL ⟨S.inv.push _ ⟨rfl, rfl⟩, S.gens, S.os⟩)
theorem r_next_values {kvs : List (Int × Value)} {ep i : Nat} {k : Int} {Q : Option Value → Shared → Prop} (S : St h₀ g os L m H s) (e : H it = some (valIterO d i kvs.length ep)) (ed : H d = some (idictE prog w kvs ep)) (hv : kvs[i]? = some (k, v))
    (h : ∀ s', St h₀ g os L m (upd H it (valIterO d (i + 1) kvs.length ep)) s' → Q (some v) s') : wpAny (model prog w) A (pyNext (.ref it)) Q E s :=
  wpAny_pyNext_values_item (S.inv.own _ _ e) (S.dictAt ed) hv fun h' hi hs => h _ ⟨S.inv.change e hs.extBut hi, S.gens, S.os⟩
theorem r_end_values {kvs : List (Int × Value)} {ep i : Nat} {Q : Option Value → Shared → Prop} (hh : A.handled = none) (S : St h₀ g os L m H s) (e : H it = some (valIterO d i kvs.length ep)) (ed : H d = some (idictE prog w kvs ep)) (hv : kvs[i]? = none)
    (h : ∀ s', St h₀ g os L m (del H it) s' → Q none s') : wpAny (model prog w) A (pyNext (.ref it)) Q E s :=
  wpAny_pyNext_values_end hh (S.inv.own _ _ e) (S.dictAt ed) hv fun h' hs => h _ ⟨S.inv.lose e hs, S.gens, S.os⟩
end

/-! ## An own exception is raised -/
theorem gl_excCycle (w : World) : excIn (KK w) 76 [.type "ValueError", .type "Exception", .type "BaseException", .type "object"] "ValueError.__new__" = true := by kernel_rfl
section
variable {prog : Program} {w : World} {A : Around} {E : Value → Shared → Prop} {s : Shared} {h₀ : Heap} {g : Array GenState} {os : OsState} {L : Addr} {m : Loc} {H : Led} {name : Str} {scope : Scope} {a : Addr} {cd : Value}
def RaiseGo (h₀ : Heap) (E : Value → Shared → Prop) (vs : List Value) (s₂ : Shared) : Prop := vs.length ≤ sizeLine ∧ (∀ b o, h₀.get? b = some o → s₂.heap.get? b = some o) ∧ ∀ h' e, Heap.MadeExcOf s₂.heap h' e (.ref 76) vs → E (.ref e) { s₂ with heap := h' }
theorem r_raise {e₀ : PySem.Expr} {rest : List PySem.Expr} {np cpos pos : Pos} {Q : Flow → Shared → Prop} (B : Bs w h₀) (S : St h₀ g os L m H s) (hh : A.handled = none)
    (h : wpAny (model prog w) A (spliced (backTo cpos (starEach (e₀ :: rest) (envX name scope L a cd [])))) (fun vs s₂ => RaiseGo h₀ E vs s₂) E s)
    (he : starEach (e₀ :: rest) (envX name scope L a cd []) = (false, eval e₀ (envX name scope L a cd [])) :: starEach rest (envX name scope L a cd []))
    (hplain : (backTo cpos (starEach rest (envX name scope L a cd []))).any (·.1) = false) (hk : scope.kind = .function) (hx : (envX name scope L a cd []).kindOf (Str.ofString "CycleError") = some .globalImplicit) :
    wpAny (model prog w) A (exec (.Raise (some (.Call (.Name (Str.ofString "CycleError") np) (e₀ :: rest) [] cpos)) none pos) (envX name scope L a cd [])) Q E s := by
  obtain ⟨p, loose, mg, mb, T⟩ := B.T
  exact Raise_own S.inv.fr T.g (own_of_in B.X T (gl_CycleError w) (gl_excCycle w)) PySem.F.excBase_ValueError hh h he hplain hk hx (by decide)
theorem r_raiseGo {vs : List Value} (S : St h₀ g os L m H s) (hz : vs.length ≤ 16777216) (h : ∀ t e s', H t = none → H e = none → t ≠ e → t ≠ L → e ≠ L → St h₀ g os L m (upd (upd H t (tupO vs)) e (excO (.ref 76) (.ref t))) s' → E (.ref e) s') : RaiseGo h₀ E vs s := by
  refine ⟨by rw [sizeLine_eq]; exact hz, S.inv.keep, fun h' e M => ?_⟩
  obtain ⟨t, he, ht0, ht⟩ := M.there
  have no : ∀ b, s.heap.get? b = none → H b = none := fun b hb => by
    cases q : H b with
    | none => rfl
    | some P => obtain ⟨o, ho, _⟩ := S.inv.own _ _ q; rw [hb] at ho; cases ho
  have no₀ : ∀ b, s.heap.get? b = none → h₀.get? b = none := fun b hb => by
    cases q : h₀.get? b with
    | none => rfl
    | some o => rw [S.inv.keep _ _ q] at hb; cases hb
  have noL : ∀ b, s.heap.get? b = none → b ≠ L := fun b hb q => by
    obtain ⟨oL, _, _, hL, _⟩ := S.inv.ns
    rw [q, hL] at hb; cases hb
  have hte : t ≠ e := fun q => by
    rw [q, he] at ht; cases ht
  have I1 := (S.inv.grow M.keeps).add (no t ht0) (no₀ t ht0) (noL t ht0) (P := tupO vs) ⟨_, ht, 0, rfl⟩
  have I2 := I1.add (by rw [upd_ne _ _ (Ne.symm hte)]; exact no e M.new) (no₀ e M.new) (noL e M.new) (P := excO (.ref 76) (.ref t)) ⟨_, he, rfl, _, rfl, rfl, rfl⟩
  exact h t e _ (no t ht0) (no e M.new) hte (noL t ht0) (noL e M.new) ⟨I2, S.gens, S.os⟩
/-- an exception leaves its frame -/
theorem r_leaving {x : Addr} {cls a0 : Value} {env : Env} {outer : List Env} {Q : Unit → Shared → Prop} (S : St h₀ g os L m H s) (e : H x = some (excO cls a0)) (hfr : A.frames = some (env :: outer)) (hf : env.frame = some L) (F : FmL (env :: outer) L H)
    (h : ∀ T s', H T = none → T ≠ L → T ≠ x → St h₀ g os L m (upd (upd H x (excT cls a0 T)) T (tbO .none)) s' → Q () s') : wpAny (model prog w) A (leaving env (.ref x)) Q E s := by
  unfold leaving
  refine wpAny_bind (r_note S e hfr hf F fun T s₁ hT hTL hTx S₁ => ?_)
  refine r_flight S₁ (upd_same _ _ _) (upd_of hTx (upd_same _ _ _)) fun s₂ S₂ => h T s₂ hT hTL hTx (S₂.weaken fun b P hb => ?_)
  by_cases q : b = T
  · subst q; rw [upd_same] at hb ⊢; exact hb
  · rw [upd_ne _ _ q] at hb
    rw [upd_ne _ _ q]
    by_cases q' : b = x
    · subst q'; rw [upd_same] at hb ⊢; exact hb
    · rw [upd_ne _ _ q'] at hb
      rw [upd_ne _ _ q', upd_ne _ _ q]; exact hb
end

theorem frO_ne2 {P : OP} {o oX : Obj} (h : P o) (hc : ∀ o', P o' → o'.cls ≠ .none) (e : P = frO oX) : False := by
  have h1 : frO oX o := e ▸ h
  have h2 : P { o with cls := .none } := e ▸ (show frO oX { o with cls := .none } from h1)
  exact hc _ h2 rfl
theorem r_truthy_none {prog : Program} {w : World} {A : Around} {E : Value → Shared → Prop} {s : Shared} {Q : Bool → Shared → Prop} (h : Q false s) : wpAny (model prog w) A (truthy .none) Q E s := fun _ _ _ => h
local macro_rules | `(tactic| walk_at "py") => `(tactic| first
  | ((with_reducible refine' e_nl ?S ?hv ?_ ?hk ?hx ?hd); (case hx => with_unfolding_all rfl); (case S => assumption); (case hv => walk_at "lk"); (case hk => rfl); (case hd => decide))
  | ((with_reducible refine' e_st ?S ?_ ?hk ?hx); (case hx => with_unfolding_all rfl); (case S => assumption); (case hk => rfl); intro _ _)
  | ((with_reducible refine' e_nb ?B ?S ?e ?hv ?hn ?_ ?hk ?hx ?hd); (case hx => with_unfolding_all rfl); (case B => assumption); (case S => assumption); (case hv => first | exact bb_len | exact bb_range | exact bb_zip | exact bb_list); (case e => first | exact gb_len _ | exact gb_range _ | exact gb_zip _ | exact gb_list _); (case hn => decide); (case hk => rfl); (case hd => decide))
  | with_reducible refine wpAny_tests_one ?_
  | with_reducible refine wpAny_tests_nil ?_
  | with_reducible refine r_truthy_none ?_
  | with_reducible refine JoinedStr_one ?_)

/-! ## `prepare` -/
def readyP (g : List PN) : List Int := (g.filter fun n => n.np == 0).map (·.k)
section
variable {prog : Program} {w : World} {A : Around} {E : Value → Shared → Prop} {s : Shared} {h₀ : Heap} {g : Array GenState} {os : OsState} {L : Addr} {m : Loc} {H H' : Led} {x d D : Addr} {G : List GN} {v3 v4 : Value}

set_option maxHeartbeats 4000000 in
theorem prepare {R : Result → Shared → Prop} {outer : List Env} {r : Option (List Int)} {fuel : Nat} (B : Bs w h₀) (S : St h₀ g os L m H s) (hroom : A.depth + 20 < recursionLimit) (hh : A.handled = none) (hfr : A.frames = some outer) (F : FmL outer L H)
    (Y : Gr prog w H D G) (hx : H x = some (instO 158 d)) (hd : H d = some (sdictO w (.ref D) .none v3 v4)) (ox : Off D G x) (od : Off D G d) (oL : Off D G L) (hxd : x ≠ d)
    (hz : G.length ≤ 900) (hcl : ∀ n ∈ G, ∀ v ∈ n.sc, v ∈ G.map (·.k)) (hf : findF (G.map GN.pn) fuel (G.map (·.k)) [] = some r) (hne : ∀ ring, r = some ring → ring ≠ [] ∧ ring.length ≤ 900)
    (h1 : r = none → ∀ RL s', H RL = none → RL ≠ L → St h₀ g os L m (upd (upd H RL (intsO (readyP (G.map GN.pn)))) d (sdictO w (.ref D) (.ref RL) v3 v4)) s' → R (.ok (.ret .none)) s')
    (h2 : ∀ ring, r = some ring → ∀ c t tm msg e T H' s', H e = none → H' e = some (excT (.ref 76) (.ref t) T) → H' T = some (tbO .none) → T ≠ e → H' t = some (tupO [.str msg tm, .ref c]) → H' c = some (intsO ring) → (∀ a P, a ≠ d → H a = some P → H' a = some P) → St h₀ g os L m H' s' → R (.error (.ref e)) s') :
    codeAny (model prog w) A (.call (.ref 113) ⟨[.ref x], []⟩) R s := by
  refine r_callF (binds := [(Str.ofString "self", .ref x)]) B S (by rfl) (by kernel_rfl) (by omega) (BindsTo.of_eq (by rfl)) (by decide) (locs (by rfl)) rfl rfl rfl ?_
  intro L' oL' s₁ hL' hLn ff S₁ back
  have hLo := S.inv.out
  obtain ⟨hfr₁, F₁⟩ := ff _ hfr F
  clear ff
  have hxL := S.inv.neL hx
  have hdL := S.inv.neL hd
  have hDL := S.inv.neL Y.dict
  have hD := Y.dict
  obtain ⟨ep, S₂⟩ := S₁.dictEp (d := D) (kvs := pairsOf G) (upd_of hDL hD)
  have k1 : upd (upd H L (frO oL')) D (idictE prog w (pairsOf G) ep) x = some (instO 158 d) := upd_of ox.1 (upd_of hxL hx)
  have k2 : upd (upd H L (frO oL')) D (idictE prog w (pairsOf G) ep) d = some (sdictO w (.ref D) .none v3 v4) := upd_of od.1 (upd_of hdL hd)
  repeat walk_at "py"
  refine r_comp (fun _ => rfl) (closureFor_none (by decide)) rfl (by decide) ?_
  repeat walk_at "py"
  refine r_getMethod_dictE (by assumption) (upd_same _ _ _) PySem.F.slot_dict_values PySem.F.type_dict_values ?_
  repeat walk_at "py"
  refine r_values Y.low (by assumption) (upd_same _ _ _) ?_
  intro vw s₃ hvw hvwL S₃
  simp only [upd_none_iff] at hvw
  obtain ⟨q1, q2, hvw⟩ := hvw
  refine r_iter_values S₃ (upd_same _ _ _) (upd_of (Ne.symm q1) (upd_same _ _ _)) ?_
  intro it s₄ hit hitL S₄
  simp only [upd_none_iff] at hit
  obtain ⟨q3, q4, q5, hit⟩ := hit
  refine r_compGo (P := valIterO D 0 (pairsOf G).length ep) S₄ (upd_same _ _ _) (by decide) rfl ?_ ?_
  · intro C m' H' s' Q' E' S' e hq
    exact wpAny_pyIter_valiter (S'.inv.own _ _ e) hq
  intro acc C oC s₅ hacc haccL hCL haccC hC S₅
  simp only [upd_none_iff] at hacc hC
  obtain ⟨q6, q7, q8, q9, hacc⟩ := hacc
  obtain ⟨q10, q11, q12, q13, hC⟩ := hC
  have S₅' := S₅.imp (a := acc) (P := listO []) (P' := intsO []) (upd_of haccL (upd_same _ _ _)) (listO.ints .nil)
  obtain ⟨i, G₁, m₁, H₁, hG₁, hi₁, ha₁, hk₁, S₆⟩ : ∃ (i : Nat) (G₁ : List GN) (m₁ : Loc) (H₁ : Led), G.drop i = G₁ ∧ H₁ it = some (valIterO D i (pairsOf G).length ep) ∧ H₁ acc = some (intsO (readyP ((G.take i).map GN.pn))) ∧
      (∀ e P, e ≠ it → e ≠ acc → upd (upd (upd H L (frO oL')) D (idictE prog w (pairsOf G) ep)) L' (frO oC) e = some P → H₁ e = some P) ∧ St h₀ g os C m₁ H₁ s₅ := by
    refine ⟨0, G, _, _, rfl, ?_, upd_same _ _ _, ?_, S₅'⟩
    · exact upd_of (Ne.symm q6) (upd_of hitL (upd_of (Ne.symm q6) (upd_same _ _ _)))
    · intro e P h1 h2 h3
      by_cases q : e = L'
      · rw [q, upd_same] at h3; rw [q]; exact upd_of (fun z => haccL z.symm) ((upd_same _ _ _).trans h3)
      · rw [upd_ne _ _ q] at h3
        refine upd_of h2 (upd_of q (upd_of h2 (upd_of h1 (upd_of ?_ h3))))
        rintro rfl
        rw [upd_ne _ _ q1, upd_ne _ _ q2, hvw] at h3; cases h3
  clear S₅' S₅ S₄ S₃ S₂ S₁
  have kD := hk₁ D _ (Ne.symm q4) (Ne.symm q8) (upd_of (fun q => by rw [q, hLn] at hD; cases hD) (upd_same _ _ _))
  induction G₁ generalizing i m₁ H₁ s₅ with
  | nil =>
    have hil : G.length ≤ i := List.drop_eq_nil_iff.mp hG₁
    refine r_comp1 ?_
    refine r_end_values hh S₆ hi₁ kD (List.getElem?_eq_none (by unfold pairsOf; rw [List.length_map]; exact hil)) ?_
    intro s₆ S₆
    refine ⟨⟨_, rfl⟩, _, _, S₆, (del_ne _ (Ne.symm hitL)).trans (hk₁ L' _ (Ne.symm hitL) (Ne.symm haccL) (upd_same _ _ _)), ?_⟩
    intro s₇ S₇
    rw [List.take_of_length_le hil] at ha₁
    have hLne : L ≠ L' := Ne.symm hL'
    have hDL' : D ≠ L' := fun q => by rw [q, hLn] at hD; cases hD
    have g1 : ∀ e P, e ≠ it → e ≠ acc → e ≠ L' → upd (upd H L (frO oL')) D (idictE prog w (pairsOf G) ep) e = some P → Mine.del (Mine.del H₁ it) L' e = some P := fun e P h1 h2 h3 h4 => (del_ne _ h3).trans ((del_ne _ h1).trans (hk₁ e P h1 h2 (upd_of h3 h4)))
    have S₈ := S₇.imp (a := D) (P := idictE prog w (pairsOf G) ep) (P' := idictO prog w (pairsOf G)) (g1 D _ (Ne.symm q4) (Ne.symm q8) hDL' (upd_same _ _ _)) (fun o => idictE.o)
    obtain ⟨H₃, g2, g3, g4, S₉⟩ : ∃ H₃, (∀ e P, H e = some P → H₃ e = some P) ∧ H₃ L = some (frO oL') ∧ H₃ acc = some (intsO (readyP (G.map GN.pn))) ∧ St h₀ g os L' _ H₃ s₇ := by
      refine ⟨_, ?_, ?_, ?_, S₈⟩
      · intro e P he
        by_cases q : e = D
        · rw [q, hD] at he; cases he; rw [q]; exact upd_same _ _ _
        · exact upd_of q (g1 e P (led_ne hit he) (led_ne hacc he) (led_ne hLn he) (upd_of q (upd_of (fun z => by rw [z, hLo] at he; cases he) he)))
      · exact upd_of (Ne.symm hDL) (g1 L _ (Ne.symm q5) (Ne.symm q9) hLne (upd_of (Ne.symm hDL) (upd_same _ _ _)))
      · exact upd_of q8 ((del_ne _ haccL).trans ((del_ne _ q6).trans ha₁))
    clear S₈ S₇
    have Y₃ : Gr prog w H₃ D G := Y.off fun e P he _ => g2 e P he
    have kx := g2 _ _ hx
    have kd := g2 _ _ hd
    repeat walk_at "py"
    refine r_sset0 (P := sdictO w (.ref D) .none v3 v4) (P' := sdictO w (.ref D) (.ref acc) v3 v4) B S₉ kx kd (by kernel_rfl) ?_ ?_
    · rintro o ⟨t1, t2, t3', t4', n, rfl⟩; exact ⟨_, n, rfl, fun t => ⟨rfl, Nat.le_of_ble_eq_true rfl, t1, t2, t3', t4', _, rfl⟩⟩
    intro s₈ S₈
    have Y₄ := Y₃.upd (P := sdictO w (.ref D) (.ref acc) v3 v4) od
    have kx₄ := upd_of (P := sdictO w (.ref D) (.ref acc) v3 v4) hxd kx
    have kd₄ := upd_same H₃ d (sdictO w (.ref D) (.ref acc) v3 v4)
    have kL₄ := upd_of (P := sdictO w (.ref D) (.ref acc) v3 v4) (Ne.symm hdL) g3
    have ka₄ := upd_of (P := sdictO w (.ref D) (.ref acc) v3 v4) (led_ne' hacc hd) g4
    have kk₄ : ∀ e P, e ≠ d → H e = some P → upd H₃ d (sdictO w (.ref D) (.ref acc) v3 v4) e = some P := fun e P h1 he => upd_of h1 (g2 e P he)
    have F₄ : FmL _ L' (upd H₃ d (sdictO w (.ref D) (.ref acc) v3 v4)) := F₁.mono fun e o he => by
      by_cases q : e = L
      · rw [q, upd_same] at he; rw [q]; exact kL₄.trans he
      · rw [upd_ne _ _ q] at he
        refine kk₄ e _ ?_ he
        rintro rfl
        obtain ⟨oo, _, hoo⟩ := S.inv.own _ _ hd
        exact frO_ne2 hoo (by rintro o' ⟨_, _, _, _, _, rfl⟩ q; cases q) (Option.some.inj (hd.symm.trans he))
    generalize upd H₃ d (sdictO w (.ref D) (.ref acc) v3 v4) = H₄ at *
    repeat walk_at "py"
    refine r_call (find_cycle (x := x) (d := d) B (by assumption) (by simp only [depth_deeper]; omega) hh hfr₁ F₄ Y₄ kx₄ kd₄ ox od (Off.of_none Y hLn) hz hcl hf ?_ ?_)
    · intro hr s₉ S₉
      show wpAny _ _ _ _ _ _
      repeat walk_at "py"
      rename_i s₁₀ S₁₀
      refine h1 hr acc _ hacc q9 ((back _ _ _ _ S₁₀ kL₄).weaken ?_)
      intro e P he
      have heL : e ≠ L := fun q => by
        rw [q, upd_ne _ _ (Ne.symm hdL), upd_ne _ _ (Ne.symm q9), hLo] at he; cases he
      rw [del_ne _ heL]
      by_cases q : e = d
      · rw [q, upd_same] at he; rw [q]; exact kd₄.trans he
      · rw [upd_ne _ _ q] at he
        by_cases q' : e = acc
        · rw [q', upd_same] at he; rw [q']; exact ka₄.trans he
        · rw [upd_ne _ _ q'] at he; exact kk₄ e P q he
    · intro ring hr c s₉ hc hcL S₉
      show wpAny _ _ _ _ _ _
      obtain ⟨hn1, hn2⟩ := hne ring hr
      repeat walk_at "py"
      rw [show (!ring.isEmpty) = true from by cases ring with | nil => exact absurd rfl hn1 | cons a b => rfl]
      repeat walk_at "py"
      refine r_raise B (by assumption) hh ?_ (by rfl) (by rfl) rfl (by rfl)
      repeat walk_at "py"
      rename_i tm s0 S0
      refine r_raiseGo S0 (by simp) ?_
      intro t e s₁₀ ht he hte htL heL S₁₀
      simp only [upd_none_iff] at ht he
      obtain ⟨p1, ht⟩ := ht
      obtain ⟨p2, he⟩ := he
      have p3 : ∀ a P, H₄ a = some P → a ≠ c ∧ a ≠ t ∧ a ≠ e := fun a P ha => ⟨led_ne hc ha, led_ne ht ha, led_ne he ha⟩
      refine r_leaving S₁₀ (upd_same _ _ _) hfr₁ rfl (F₄.mono fun a o ha => upd_of (p3 _ _ ha).2.2 (upd_of (p3 _ _ ha).2.1 (upd_of (p3 _ _ ha).1 ha))) ?_
      intro T s₁₁ hT hTL hTx S₁₁
      simp only [upd_none_iff] at hT
      obtain ⟨p4, p5, p6, hT⟩ := hT
      have p7 : ∀ PT a P, H₄ a = some P → upd (upd (upd (upd (upd H₄ c (intsO ring)) t PT) e (excO (.ref 76) (.ref t))) e (excT (.ref 76) (.ref t) T)) T (tbO .none) a = some P := fun PT a P ha => upd_of (led_ne hT ha) (upd_of (p3 _ _ ha).2.2 (upd_of (p3 _ _ ha).2.2 (upd_of (p3 _ _ ha).2.1 (upd_of (p3 _ _ ha).1 ha))))
      have p8 := p3 L _ kL₄
      refine h2 ring hr c t tm (Str.ofString "nodes are in a cycle") e T _ _ ?_ ?_ ?_ hTx ?_ ?_ ?_ (back _ _ _ _ S₁₁ (p7 _ _ _ kL₄))
      · cases q : H e with
        | none => rfl
        | some P =>
          by_cases q' : e = d
          · rw [q', kd₄] at he; cases he
          · rw [kk₄ e P q' q] at he; cases he
      · exact (del_ne _ (Ne.symm p8.2.2)).trans (upd_of (Ne.symm p4) (upd_same _ _ _))
      · exact (del_ne _ (Ne.symm (led_ne hT kL₄))).trans (upd_same _ _ _)
      · exact (del_ne _ (Ne.symm p8.2.1)).trans (upd_of (Ne.symm p5) (upd_of hte (upd_of hte (upd_same _ _ _))))
      · exact (del_ne _ (Ne.symm p8.1)).trans (upd_of (Ne.symm p6) (upd_of (Ne.symm p2) (upd_of (Ne.symm p2) (upd_of (Ne.symm p1) (upd_same _ _ _)))))
      · intro a P h1 ha
        exact (del_ne _ (fun q => by rw [q, hLo] at ha; cases ha)).trans (p7 _ _ _ (kk₄ _ _ h1 ha))
  | cons n G₁ ih =>
    have hni : G[i]? = some n := by
      have := congrArg (·[0]?) hG₁
      simpa using this
    have hnG := List.mem_of_getElem? hni
    have hG₁' : G.drop (i + 1) = G₁ := by rw [← List.drop_drop, hG₁]; rfl
    have z1 := Y.info n hnG
    have z2 := Y.dct n hnG
    have w1 : upd H₁ it (valIterO D (i + 1) (pairsOf G).length ep) n.ia = some (infoO n.da n.k n.np n.la) := upd_of (led_ne hit z1) (hk₁ _ _ (led_ne hit z1) (led_ne hacc z1) (upd_of (led_ne hLn z1) (upd_of (Y.sepD n hnG).1 (upd_of (Ne.symm (oL.2 n hnG).1) z1))))
    have w2 : upd H₁ it (valIterO D (i + 1) (pairsOf G).length ep) n.da = some noO := upd_of (led_ne hit z2) (hk₁ _ _ (led_ne hit z2) (led_ne hacc z2) (upd_of (led_ne hLn z2) (upd_of (Y.sepD n hnG).2.1 (upd_of (Ne.symm (oL.2 n hnG).2.1) z2))))
    have w3 := upd_of (P := valIterO D (i + 1) (pairsOf G).length ep) q6 ha₁
    have hrl : (readyP ((G.take i).map GN.pn)).length ≤ 900 := by
      unfold readyP
      rw [List.length_map]
      refine Nat.le_trans (List.length_filter_le _ _) ?_
      rw [List.length_map, List.length_take]; omega
    have hre : readyP ((G.take (i + 1)).map GN.pn) = if n.np = 0 then readyP ((G.take i).map GN.pn) ++ [n.k] else readyP ((G.take i).map GN.pn) := by
      rw [List.take_add_one, hni]
      unfold readyP
      simp only [Option.toList_some, List.map_append, List.map_cons, List.map_nil, List.filter_append, List.filter_cons, List.filter_nil]
      by_cases hn0 : n.np = 0
      · rw [if_pos (show (n.pn.np == 0) = true from by rw [show n.pn.np = n.np from rfl, hn0]; rfl), if_pos hn0]; rfl
      · rw [if_neg (show ¬ (n.pn.np == 0) = true from by simpa [GN.pn] using hn0), if_neg hn0]; simp
    refine r_comp1 ?_
    refine r_next_values (k := n.k) (v := .ref n.ia) S₆ hi₁ kD (by unfold pairsOf; rw [List.getElem?_map, hni]; rfl) ?_
    intro s₆ S₆
    repeat walk_at "py"
    by_cases hn0 : n.np = 0
    · rw [show (n.np == 0) = true from by rw [hn0]; rfl]
      rw [if_pos hn0] at hre
      repeat walk_at "py"
      refine r_append_ints (by assumption) w3 (by omega) ?_
      intro s₇ S₇
      refine ih (S₆ := S₇) (i := i + 1) (hG₁ := hG₁') (hi₁ := upd_of (Ne.symm q6) (upd_same _ _ _)) (ha₁ := ?_) (hk₁ := ?_) (kD := ?_)
      · rw [hre]; exact upd_same _ _ _
      · intro e P h1 h2 h3; exact upd_of h2 (upd_of h1 (hk₁ e P h1 h2 h3))
      · exact upd_of (Ne.symm q8) (upd_of (Ne.symm q4) kD)
    · rw [show (n.np == 0) = false from by simpa using hn0]
      rw [if_neg hn0] at hre
      repeat walk_at "py"
      rename_i s₇ S₇
      refine ih (S₆ := S₇) (i := i + 1) (hG₁ := hG₁') (hi₁ := upd_same _ _ _) (ha₁ := ?_) (hk₁ := ?_) (kD := ?_)
      · rw [hre]; exact w3
      · intro e P h1 h2 h3; exact upd_of h1 (hk₁ e P h1 h2 h3)
      · exact upd_of (Ne.symm q4) kD
end

/-! ## Two targets; the class that is caught -/
theorem own_q {w : World} {h₀ : Heap} {p : Program} {loose : List Str} {mg mb : Str → Option Value} (B : Bs w h₀) (T : TopRead p loose mg mb h₀) : OwnClsQ (Str.ofString "CycleError") 76 [.type "ValueError", .type "Exception", .type "BaseException", .type "object"] "ValueError.__new__" mg h₀ := by
  have hok : nsOkIn (KK w) 75 = true := by kernel_rfl
  refine ⟨mg_of B.X T.g (gl_CycleError w), _, 75, _, _, _, _, _, _, _, _, _, _, _, _, _, _, _, B.X 76 _ (by rfl), .of_isNs (isNs_of_in B.X hok), ?_, .base⟩
  intro n hn
  refine nsMap_none_of_in B.X hok ?_
  simp only [quietNames, List.mem_cons, List.not_mem_nil, or_false] at hn
  rcases hn with rfl | rfl | rfl | rfl <;> kernel_rfl
section
variable {prog : Program} {w : World} {A : Around} {E : Value → Shared → Prop} {s : Shared} {h₀ : Heap} {g : Array GenState} {os : OsState} {L : Addr} {m : Loc} {H : Led} {t it a : Addr} {i : Nat} {env : Env} {v1 v2 : Value}
theorem r_unpack2 {e1 e2 : PySem.Expr} {x1} {pos : Pos} {Q : Unit → Shared → Prop} (hh : A.handled = none) (S : St h₀ g os L m H s) (e : H t = some (tupO [v1, v2])) (ha : assignEach [e1, e2] env = [(false, assign e1 env), (false, assign e2 env)])
    (h : ∀ s', St h₀ g os L m H s' → wpAny (model prog w) A (assign e1 env v1) (fun _ s₂ => wpAny (model prog w) A (assign e2 env v2) Q E s₂) E s') : wpAny (model prog w) A (assign (.Tuple [e1, e2] x1 pos) env (.ref t)) Q E s := by
  refine wpAny_assign_Tuple hh (S.isTup e) (by rw [ha]; rfl) (by rw [ha]; rfl) fun h' hk => ?_
  rw [ha]
  have I := S.inv.grow (h' := h') fun b o q => hk b o (Nat.ne_of_lt (Heap.lt_size q)) q
  show wpAny _ _ (assignInOrder [assign e1 env, assign e2 env] [v1, v2]) _ _ _
  exact assignInOrder_cons (wpAny_mono (h { s with heap := h' } ⟨I, S.gens, S.os⟩) (fun _ s₂ h₂ => assignInOrder_cons (wpAny_mono h₂ (fun _ _ q => assignInOrder_nil q) fun _ _ q => q)) fun _ _ q => q)
theorem r_owned_list {elts : List PySem.Expr} {x1} {pos : Pos} {Q : Unit → Shared → Prop} (S : St h₀ g os L m H s) (e : H it = some (listIterO a i)) (h : Q () s) : wpAny (model prog w) A (letOwnedTupleGo (.Tuple elts x1 pos) (.ref it) (.ref t)) Q E s :=
  wpAny_letOwnedTupleGo_listiter (S.inv.own _ _ e) h
theorem r_args {x : Addr} {t0 T : Addr} {expr : Bool} {Q : Value → Shared → Prop} (B : Bs w h₀) (S : St h₀ g os L m H s) (e : H x = some (excT (.ref 76) (.ref t0) T)) (h : ∀ s', St h₀ g os L m H s' → Q (.ref t0) s') :
    wpAny (model prog w) A (getAttr (.ref x) (Str.ofString "args") expr) Q E s := by
  obtain ⟨p, loose, mg, mb, TT⟩ := B.T
  obtain ⟨o, ho, hc, vs, hd, h0, _⟩ := S.inv.own _ _ e
  obtain ⟨hp, gg, d, tk, oo⟩ := s
  exact args_of_own PySem.F.attrBase_ValueError ((own_q B TT).keeps S.inv.keep) ho hc hd h0 (h _ ⟨S.inv, S.gens, S.os⟩)
/-- the handler of an own class takes the exception, by name -/
theorem r_handle {x t0 T : Addr} {np : Pos} {n : Str} {b₀ : Stmt} {suite : List Stmt} {pos : Pos} {rest : List ExceptHandler} {Q : Flow → Shared → Prop} {cn : Str} {cs : Scope} {fa : Addr} {ccd : Value} {cl : List (Str × Addr)} (B : Bs w h₀) (S : St h₀ g os L m H s) (e : H x = some (excT (.ref 76) (.ref t0) T)) (eT : H T = some (tbO .none))
    (hk : cs.kind = .function) (hx : (envX cn cs L fa ccd cl).kindOf (Str.ofString "CycleError") = some .globalImplicit) (hn : (envX cn cs L fa ccd cl).kindOf n = some .local)
    (h : ∀ s', St h₀ g os L (put m n (.ref x)) H s' → wpAny (model prog w) (A.mark (some (.ref x))) (execs (b₀ :: suite) (envX cn cs L fa ccd cl))
              (fun f s₄ => wpAny (model prog w) A (do bindName (envX cn cs L fa ccd cl) n .none; unbindBehindTheSuite (envX cn cs L fa ccd cl) n pos) (fun _ s₅ => Q f s₅) E s₄)
              (AsSuiteRaised (model prog w) (A.mark (some (.ref x))) (envX cn cs L fa ccd cl) n pos (notedBy (model prog w) (A.mark (some (.ref x))) (envX cn cs L fa ccd cl) (cameBackBy (model prog w) A (envX cn cs L fa ccd cl) E))) s') :
    wpAny (model prog w) A (handleBy (.ref x) (envX cn cs L fa ccd cl) (.ExceptHandler (some (.Name (Str.ofString "CycleError") np)) (some n) (b₀ :: suite) pos :: rest)) Q E s := by
  obtain ⟨p, loose, mg, mb, TT⟩ := B.T
  refine handleBy_own_as (x := Str.ofString "CycleError") (C := 76) (bmB := [.type "ValueError", .type "Exception", .type "BaseException", .type "object"]) (newId := "ValueError.__new__") (mg := mg) (by decide) (r_ng B S (gl_CycleError w) ⟨rfl, (own_q B TT).keeps S.inv.keep, ?_, ?_⟩ hk hx (by decide))
  · obtain ⟨o, ho, hc, _⟩ := S.inv.own _ _ e
    exact ⟨o, ho, hc⟩
  · refine r_flight S e eT fun s₁ S₁ => ?_
    rw [upd_eq eT] at S₁
    exact r_st S₁ (fun s₂ S₂ => h s₂ S₂) hk hn
end
section
variable {prog : Program} {w : World} {A : Around} {E : Value → Shared → Prop} {s : Shared} {h₀ : Heap} {g : Array GenState} {os : OsState} {L : Addr} {m : Loc} {H : Led}
theorem r_gone {n : Str} {pos : Pos} {Q : Unit → Shared → Prop} {cn : Str} {cs : Scope} {fa : Addr} {ccd : Value} {cl : List (Str × Addr)} (S : St h₀ g os L m H s) (hk : cs.kind = .function) (hn : (envX cn cs L fa ccd cl).kindOf n = some .local) (h : ∀ m' s', St h₀ g os L m' H s' → Q () s') :
    wpAny (model prog w) A (do bindName (envX cn cs L fa ccd cl) n .none; unbindBehindTheSuite (envX cn cs L fa ccd cl) n pos) Q E s :=
  wpAny_nameGoes hn S.inv.ns (by show (cs.kind == .class || (cs.kind == .module && L != mainGlobals)) = false; rw [hk]; rfl) fun h' m' hn' hs => h m' _ ⟨S.inv.set hn' hs, S.gens, S.os⟩
end
theorem r_tget1 {prog : Program} {w : World} {A : Around} {E : Value → Shared → Prop} {s : Shared} {h₀ : Heap} {g : Array GenState} {os : OsState} {L a : Addr} {m : Loc} {H : Led} {t : Tok} {v1 v2 : Value} {value slice : PySem.Expr} {Q : Value → Shared → Prop} (S : St h₀ g os L m H s) (e : H a = some (tupO [v1, v2])) (h : Q v2 s)
    (hs : subscripted slice false (.ref a) (.int 1 t) = operate [.ref a, .int 1 t] (getItem (.ref a) (.int 1 t))) : wpAny (model prog w) A (subscriptTail value slice (.ref a) (.int 1 t)) Q E s := by
  have ht := S.isTup e
  exact tail_any ht.typeIs PySem.F.slot_tuple_getitem.lookup (getItem_tuple (j := 1) ht (by decide) (by decide) (by rfl) (by simp) h) hs

/-! ## `_law_sorted` -/
def buildF (g : List PN) : List (Int × Int) → Option (List PN)
  | [] => some g
  | p :: ps => if g.length ≤ 900 ∧ g.all (fun n => n.sc.length ≤ 900) = true then buildF (addP g p.1 p.2) ps else none
def closedP (g : List PN) : Bool := g.all fun n => n.sc.all fun v => (g.map (·.k)).contains v
def roundsF : Nat → List PN → List Int → Int → Int → List Int → Option (List Int)
  | 0, _, _, _, _, _ => none
  | f + 1, g, ready, a, b, order =>
    if decide (b < a) || !ready.isEmpty then
      if ready.length ≤ 900 ∧ order.length ≤ 900 ∧ ready.all (fun k => (g.map (·.k)).contains k) = true then
        match doneP (outP g ready) [] ready with
        | some (g', r') => roundsF f g' r' (a + ready.length) (b + ready.length) (order ++ ready)
        | none => none
      else none
    else some order
def sortedF (fuel : Nat) (e : Int) (needs : List (Int × Int)) : Option (List Int × List Int) :=
  match buildF (addP0 [] e) needs with
  | none => none
  | some g => if g.length ≤ 900 ∧ closedP g = true then
      match findF g fuel (g.map (·.k)) [] with
      | none => none
      | some (some ring) => if ring ≠ [] ∧ ring.length ≤ 900 then some (ring, []) else none
      | some none => (roundsF fuel g (readyP g) 0 0 []).map fun o => ([], o)
    else none
/-- the list of pairs -/
def PairsAre (H : Led) : List Value → List (Int × Int) → Prop
  | [], [] => True
  | v :: vs, p :: ps => (∃ t ta tb, v = .ref t ∧ H t = some (tupO [.int p.1 ta, .int p.2 tb])) ∧ PairsAre H vs ps
  | _, _ => False
theorem PairsAre.mono {H H' : Led} (h : ∀ a vs, H a = some (tupO vs) → H' a = some (tupO vs)) : ∀ {vs ps}, PairsAre H vs ps → PairsAre H' vs ps
  | [], [], _ => trivial
  | _ :: _, _ :: _, ⟨⟨t, ta, tb, e, ht⟩, r⟩ => ⟨⟨t, ta, tb, e, h _ _ ht⟩, r.mono h⟩
  | [], _ :: _, x => x.elim
  | _ :: _, [], x => x.elim
theorem PairsAre.len {H : Led} : ∀ {vs ps}, PairsAre H vs ps → vs.length = ps.length
  | [], [], _ => rfl
  | _ :: _, _ :: _, ⟨_, r⟩ => by simp [r.len]
  | [], _ :: _, x => x.elim
  | _ :: _, [], x => x.elim
theorem PairsAre.at {H : Led} : ∀ {vs ps} (i : Nat) {p : Int × Int}, PairsAre H vs ps → ps[i]? = some p → ∃ t ta tb, vs[i]? = some (.ref t) ∧ H t = some (tupO [.int p.1 ta, .int p.2 tb])
  | [], [], i, _, _, e => by simp at e
  | _ :: _, _ :: _, 0, _, ⟨⟨t, ta, tb, e', ht⟩, r⟩, e => by cases e; exact ⟨t, ta, tb, by rw [e']; rfl, ht⟩
  | _ :: _, _ :: _, i + 1, _, ⟨_, r⟩, e => r.at i e
  | [], _ :: _, _, _, x, _ => x.elim
  | _ :: _, [], _, _, x, _ => x.elim
theorem r_star {prog : Program} {w : World} {A : Around} {E : Value → Shared → Prop} {s : Shared} {h₀ : Heap} {g : Array GenState} {os : OsState} {L a : Addr} {m : Loc} {H : Led} {vs : List Value} {Q : List Value → Shared → Prop} (S : St h₀ g os L m H s) (e : H a = some (listO vs)) (hz : vs.length ≤ 16777216)
    (h : ∀ s', St h₀ g os L m H s' → Q vs s') : StarOf (model prog w) A E (.ref a) Q s := by
  obtain ⟨o, ho, n, rfl⟩ := S.inv.own _ _ e
  exact star_seq S.inv.fr (allNews_is h₀ L s.heap) (mem_allNews.mpr ⟨ho, S.inv.neL e, S.inv.new _ _ e⟩) rfl (n := n) rfl (.inl rfl) rfl (by rw [List.size_toArray, sizeLine_eq]; exact hz) fun h' F' N' => h _ ⟨S.inv.of_all F' N', S.gens, S.os⟩

/-! a method called with a star -/
def methO (f x : Addr) : OP := fun o => o = methodObj (.ref f) (.ref x)
section
variable {prog : Program} {w : World} {A : Around} {E : Value → Shared → Prop} {s : Shared} {h₀ : Heap} {g : Array GenState} {os : OsState} {L x d q f : Addr} {m : Loc} {H : Led} {env : Env} {v1 v2 v3 v4 : Value} {name : Str}
theorem StarMeth_ {o e : PySem.Expr} {apos pos p : Pos} {Q : Value → Shared → Prop}
    (h : wpAny (model prog w) A (eval o env) (fun ov s₁ => wpAny (model prog w) A (getAttr ov name true) (fun f s₂ => wpAny (model prog w) A (callWith pos f [] (backTo pos (starEach [.Starred e p] env)) []) Q E s₂) E s₁) E s)
    (he : eval (.Call (.Attribute o name apos) [.Starred e p] [] pos) env = (do
      let ov ← eval o env
      standAt apos.atName
      let (f, first) ← holding [ov] (do pure (← getAttr ov name true, ([] : List Value)))
      callWith pos f first (backTo pos (starEach [.Starred e p] env)) [])) :
    wpAny (model prog w) A (eval (.Call (.Attribute o name apos) [.Starred e p] [] pos) env) Q E s := by
  rw [he]
  exact wpAny_bind (wpAny_mono h (fun ov s₁ h₁ => wpAny_bind (wpAny_standAt (wpAny_bind (wpAny_holding (wpAny_bind (wpAny_mono h₁ (fun f s₂ h₂ => wpAny_pure h₂) fun _ _ x => x)))))) fun _ _ x => x)
theorem r_bound {Q : Value → Shared → Prop} (B : Bs w h₀) (S : St h₀ g os L m H s) (h1 : H x = some (instO 158 d)) (h2 : H d = some (sdictO w v1 v2 v3 v4))
    (hg : plainGet (KK w) 158 name = true) (hh : hasDictIn (KK w) 158 = true) (hf : findIn (KK w) (.ref 158) name = some (some (.ref f))) (ht : isFn (KK w) (.ref f) = true)
    (hgf : specialIn (KK w) (.ref f) "__get__" = some (some (.builtin "function.__get__"))) (hta : takesIn (KK w) (.ref f) = some false) (hc : copiedNames.contains name = false)
    (hl : ∀ t1 t2 t3 t4, getL name [
      ⟨PyData.keyHash w.params (Str.ofString "_node2info"), .str (Str.ofString "_node2info") t1, v1⟩,
      ⟨PyData.keyHash w.params (Str.ofString "_ready_nodes"), .str (Str.ofString "_ready_nodes") t2, v2⟩,
      ⟨PyData.keyHash w.params (Str.ofString "_npassedout"), .str (Str.ofString "_npassedout") t3, v3⟩,
      ⟨PyData.keyHash w.params (Str.ofString "_nfinished"), .str (Str.ofString "_nfinished") t4, v4⟩] = some none)
    (h : ∀ q s', H q = none → q ≠ L → St h₀ g os L m (upd H q (methO f x)) s' → Q (.ref q) s') : wpAny (model prog w) A (getAttr (.ref x) name true) Q E s := by
  obtain ⟨_, ho, rfl⟩ := S.inv.own _ _ h1
  obtain ⟨_, hd, t1, t2, t3, t4, n, rfl⟩ := S.inv.own _ _ h2
  have X₀ := B.X.keeps S.inv.keep
  refine get_bind X₀ ⟨ho, rfl, rfl, hd⟩ (plainGet_of hg).1 (findObj_fn hh hf hgf hta hc (by show lookIn name (dictOf _ _) = _; rw [lookIn_dict, hl])) (plainGet_of hg).2
    (wpAny_call (fn_get (s := { s with toks := s.toks + 1 }) X₀ (beq_iff_eq.mp ht) (handed_on rfl ?_)))
  exact h _ _ S.inv.fresh S.inv.freshL ⟨S.inv.push (methodObj (.ref f) (.ref x)) rfl, S.gens, S.os⟩
theorem r_starBound {e : PySem.Expr} {pos p : Pos} {Q : Value → Shared → Prop} (hf : fnIn (KK w) f = true)
    (h : wpAny (model prog w) A (eval e env) (fun v s₁ => StarOf (model prog w) A E v (fun vs s₂ => MethP (KK w) q f (.ref x) s₂.heap ∧ wpAny (model prog w) A (call (.ref q) ([] ++ vs)) Q E s₂) s₁) E s)
    (he : starEach [.Starred e p] env = [(true, eval e env)]) : wpAny (model prog w) A (callWith pos (.ref q) [] (backTo pos (starEach [.Starred e p] env)) []) Q E s := by
  rw [he]
  exact ks_call rfl (keeps_M hf) (ks_lone h)
theorem r_meth {Q : Value → Shared → Prop} {pos : List Value} (S : St h₀ g os L m H s) (e : H q = some (methO f x)) (h : codeAny (model prog w) A (.call (.ref f) ⟨.ref x :: pos, []⟩) (Back Q E) s) : wpAny (model prog w) A (call (.ref q) pos) Q E s := by
  obtain ⟨_, ho, rfl⟩ := S.inv.own _ _ e
  exact wpAny_call (method_call ho h)
theorem St.methP (B : Bs w h₀) (S : St h₀ g os L m H s) (e : H q = some (methO f x)) : MethP (KK w) q f (.ref x) s.heap := by
  obtain ⟨_, ho, rfl⟩ := S.inv.own _ _ e
  exact ⟨ho, B.X.keeps S.inv.keep⟩
end

section
variable {prog : Program} {w : World} {A : Around} {E : Value → Shared → Prop} {s : Shared} {h₀ : Heap} {g : Array GenState} {os : OsState} {L : Addr} {m : Loc} {H H' : Led}

set_option maxHeartbeats 4000000 in
theorem law_sorted {R : Result → Shared → Prop} {outer : List Env} {fuel : Nat} {e : Int} {te : Tok} {nl : Addr} {vs : List Value} {ps : List (Int × Int)} {ring order : List Int} (B : Bs w h₀) (S : St h₀ g os L m H s) (hroom : A.depth + 40 < recursionLimit) (hh : A.handled = none) (hfr : A.frames = some outer) (F : FmL outer L H)
    (hn : H nl = some (listO vs)) (hps : PairsAre H vs ps) (hz : ps.length ≤ 900) (hp : sortedF fuel e ps = some (ring, order))
    (h : ∀ H' c r o s', H' c = some (tupO [.ref r, .ref o]) → H' r = some (intsO ring) → H' o = some (intsO order) → Sub H H' → St h₀ g os L m H' s' → R (.ok (.ret (.ref c))) s') :
    codeAny (model prog w) A (.call (.ref 181) ⟨[.int e te, .ref nl], []⟩) R s := by
  refine r_callF (binds := [(Str.ofString "end", .int e te), (Str.ofString "needs", .ref nl)]) B S (by rfl) (by kernel_rfl) (by omega) (BindsTo.of_eq (by rfl)) (by decide) (locs (by rfl)) rfl rfl rfl ?_
  intro L' oL' s₁ hL' hLn ff S₁ back
  have hLo := S.inv.out
  obtain ⟨hfr₁, F₁⟩ := ff _ hfr F
  clear ff
  have hnL := S.inv.neL hn
  repeat walk_at "py"
  refine r_make (fI := 94) B (by assumption) (by kernel_rfl) (by kernel_rfl) (by kernel_rfl) ?_
  intro x d s₂ hx hd hxd hxL hdL S₂
  simp only [upd_none_iff] at hx hd
  obtain ⟨q1, hx⟩ := hx
  obtain ⟨q2, hd⟩ := hd
  refine init_sorter B S₂ (by simp only [depth_under_make, depth_deeper]; omega) (upd_same _ _ _) (upd_of (Ne.symm hxd) (upd_same _ _ _)) ?_
  intro D t3 t4 s₃ hlow hD hDL S₃
  simp only [upd_none_iff] at hD
  obtain ⟨q3, q4, q5, hD⟩ := hD
  refine ⟨rfl, ?_⟩
  obtain ⟨H₁, hs₁, kx, kd, kD, S₄⟩ : ∃ H₁, Sub (upd H L (frO oL')) H₁ ∧ H₁ x = some (instO 158 d) ∧ H₁ d = some (sdictO w (.ref D) .none (.int 0 t3) (.int 0 t4)) ∧ H₁ D = some (idictO prog w []) ∧ St h₀ g os L' _ H₁ s₃ := by
    refine ⟨_, ?_, ?_, ?_, upd_same _ _ _, S₃⟩
    · intro a P ha
      have z : ∀ b, b ≠ L → H b = none → a ≠ b := fun b h1 h2 q => by rw [q, upd_ne _ _ h1, h2] at ha; cases ha
      exact upd_of (z D q5 hD) (upd_of (z d q2 hd) (upd_of (z x q1 hx) (upd_of (z d q2 hd) ha)))
    · exact upd_of (Ne.symm q3) (upd_of hxd (upd_same _ _ _))
    · exact upd_of (Ne.symm q4) (upd_same _ _ _)
  clear S₃ S₂ S₁
  have Y₁ : Gr prog w H₁ D [] := ⟨hlow, kD, (fun n hn => by cases hn), (fun n hn => by cases hn), (fun n hn => by cases hn), List.nodup_nil, (fun n hn => by cases hn), fun n hn => by cases hn⟩
  have o0 : ∀ a, a ≠ D → Off D [] a := fun a ha => ⟨ha, fun n hn => by cases hn⟩
  have kL : H₁ L = some (frO oL') := hs₁ _ _ (upd_same _ _ _)
  have kn : H₁ nl = some (listO vs) := hs₁ _ _ (upd_of hnL hn)
  repeat walk_at "py"
  rename_i s₅ S₅
  refine r_call (add_zero B S₅ (by simp only [depth_deeper]; omega) hh Y₁ kx kd (o0 _ (Ne.symm q3)) (o0 _ (Ne.symm q4)) (o0 _ (Ne.symm hDL)) (by simp) ?_)
  intro G₂ H₂ s₆ hG₂ hGl Y₂ K₂ oL₂ S₆
  repeat walk_at "py"
  have hDn : ∀ a P, upd H L (frO oL') a = some P → a ≠ D := fun a P ha q => by rw [q, upd_ne _ _ q5, hD] at ha; cases ha
  have hkeep : ∀ a P, upd H L (frO oL') a = some P → H₂ a = some P ∧ Off D G₂ a := fun a P ha => K₂ a P (hs₁ a P ha) (o0 a (hDn a P ha))
  have kx₂ := K₂ _ _ kx (o0 _ (Ne.symm q3))
  have kd₂ := K₂ _ _ kd (o0 _ (Ne.symm q4))
  refine r_iter_list (by assumption) (hkeep nl _ (upd_of hnL hn)).1 ?_
  intro it s₇ hit hitL S₇
  have oit := Off.of_none Y₂ hit
  cases hb : buildF (addP0 [] e) ps with
  | none => unfold sortedF at hp; rw [hb] at hp; cases hp
  | some gg =>
  obtain ⟨i, ps', G₁, H₃, m₁, hps', Y₃, hb₃, hk₃, ox₃, od₃, oi₃, oL₃, kx₃, kd₃, ki₃, hm₁, S₈⟩ : ∃ (i : Nat) (ps' : List (Int × Int)) (G₁ : List GN) (H₃ : Led) (m₁ : Loc), ps.drop i = ps' ∧ Gr prog w H₃ D G₁ ∧ buildF (G₁.map GN.pn) ps' = some gg ∧
      (∀ a P, upd H L (frO oL') a = some P → H₃ a = some P ∧ Off D G₁ a) ∧ Off D G₁ x ∧ Off D G₁ d ∧ Off D G₁ it ∧ Off D G₁ L' ∧ H₃ x = some (instO 158 d) ∧ H₃ d = some (sdictO w (.ref D) .none (.int 0 t3) (.int 0 t4)) ∧ H₃ it = some (listIterO nl i) ∧
      m₁ (Str.ofString "sorter") = some (.ref x) ∧ St h₀ g os L' m₁ H₃ s₇ := by
    refine ⟨0, ps, G₂, _, _, rfl, Y₂.upd oit, by rw [hG₂]; exact hb, ?_, kx₂.2, kd₂.2, oit, oL₂, ?_, ?_, upd_same _ _ _, ?_, S₇⟩
    · intro a P ha; exact ⟨upd_of (led_ne hit (hkeep a P ha).1) (hkeep a P ha).1, (hkeep a P ha).2⟩
    · exact upd_of (led_ne hit kx₂.1) kx₂.1
    · exact upd_of (led_ne hit kd₂.1) kd₂.1
    · walk_at "lk"
  have hxit : x ≠ it := fun q => by rw [q, hit] at kx₂; cases kx₂.1
  have hdit : d ≠ it := fun q => by rw [q, hit] at kd₂; cases kd₂.1
  have hitH : ∀ a P, upd H L (frO oL') a = some P → a ≠ it := fun a P ha => led_ne hit (hkeep a P ha).1
  clear S₇ S₆ S₅ S₄
  have hpl := hps.len
  induction ps' generalizing i G₁ H₃ m₁ s₇ with
  | nil =>
    refine r_for1 ?_
    refine r_end_list hh S₈ ki₃ (hk₃ nl _ (upd_of hnL hn)).1 (List.getElem?_eq_none (by rw [hpl]; exact List.drop_eq_nil_iff.mp hps')) ?_
    intro s₈ S₈
    cases hb₃
    unfold sortedF at hp
    rw [hb] at hp
    dsimp only at hp
    by_cases hc : (G₁.map GN.pn).length ≤ 900 ∧ closedP (G₁.map GN.pn) = true
    case neg => rw [if_neg hc] at hp; cases hp
    rw [if_pos hc] at hp
    obtain ⟨hc1, hc2⟩ := hc
    rw [List.length_map] at hc1
    have hcl : ∀ n ∈ G₁, ∀ v ∈ n.sc, v ∈ G₁.map (·.k) := by
      intro n hn v hv
      have := List.all_eq_true.mp hc2 n.pn (List.mem_map_of_mem hn)
      have := List.contains_iff_mem.mp (List.all_eq_true.mp this v hv)
      rw [List.map_map] at this
      exact this
    rw [show (G₁.map GN.pn).map (·.k) = G₁.map (·.k) from by rw [List.map_map]; rfl] at hp
    have Y₄ := Y₃.del oi₃
    have kx₄ := (del_ne H₃ hxit).trans kx₃
    have kd₄ := (del_ne H₃ hdit).trans kd₃
    have hk₄ : ∀ a P, upd H L (frO oL') a = some P → Mine.del H₃ it a = some P ∧ Off D G₁ a := fun a P ha => ⟨(del_ne _ (hitH a P ha)).trans (hk₃ a P ha).1, (hk₃ a P ha).2⟩
    have F₄ : FmL _ L' (Mine.del H₃ it) := F₁.mono fun a o ha => (hk₄ a _ ha).1
    generalize Mine.del H₃ it = H₄ at *
    repeat walk_at "py"
    cases hfr' : findF (G₁.map GN.pn) fuel (G₁.map (·.k)) [] with
    | none => rw [hfr'] at hp; cases hp
    | some r =>
    rw [hfr'] at hp
    refine r_call (prepare B (by assumption) (by simp only [depth_deeper]; omega) hh hfr₁ F₄ Y₄ kx₄ kd₄ ox₃ od₃ oL₃ hxd hc1 hcl hfr' ?_ ?_ ?_)
    · rintro rg rfl
      dsimp only at hp
      by_cases hr : rg ≠ [] ∧ rg.length ≤ 900
      · exact hr
      · rw [if_neg hr] at hp; cases hp
    · rintro rfl RL s₉ hRL hRLL S₉
      dsimp only at hp
      repeat walk_at "py"
      rename_i ol s₁₀ hol holL S₁₀ s₁₁ S₁₁
      have hdRL : d ≠ RL := fun q => by rw [← q, kd₄] at hRL; cases hRL
      have hxRL : x ≠ RL := fun q => by rw [← q, kx₄] at hRL; cases hRL
      have oRL := Off.of_none Y₄ hRL
      obtain ⟨o, ho, hp⟩ := Option.map_eq_some_iff.mp hp
      cases hp
      simp only [upd_none_iff] at hol
      obtain ⟨y1, y2, hol⟩ := hol
      have S₁₂ := S₁₁.imp (a := ol) (P := listO []) (P' := intsO []) (upd_same _ _ _) (listO.ints .nil)
      have hdF : ∀ a P, upd H L (frO oL') a = some P → a ≠ d := fun a P ha q => by rw [q, upd_ne _ _ q2, hd] at ha; cases ha
      obtain ⟨f, ready, na, nb, ta, tb, ord, G₆, H₆, m₆, ol, hod, hoR, hxo, hoH, hro, Y₆, hof, hk₆, kx₆, kd₆, kr₆, ko₆, oo₆, n1, n2, S₁₃⟩ : ∃ (f : Nat) (ready : List Int) (na nb : Int) (ta tb : Tok) (ord : List Int) (G₆ : List GN) (H₆ : Led) (m₆ : Loc) (ol : Addr), ol ≠ d ∧ ol ≠ RL ∧ x ≠ ol ∧ (∀ a P, upd H L (frO oL') a = some P → a ≠ ol) ∧ roundsF f (G₆.map GN.pn) ready na nb ord = some order ∧ Gr prog w H₆ D G₆ ∧ (∀ a, Off D G₁ a → Off D G₆ a) ∧
          (∀ a P, upd H L (frO oL') a = some P → H₆ a = some P) ∧ H₆ x = some (instO 158 d) ∧ H₆ d = some (sdictO w (.ref D) (.ref RL) (.int na ta) (.int nb tb)) ∧ H₆ RL = some (intsO ready) ∧ H₆ ol = some (intsO ord) ∧ Off D G₆ ol ∧
          m₆ (Str.ofString "sorter") = some (.ref x) ∧ m₆ (Str.ofString "order") = some (.ref ol) ∧ St h₀ g os L' m₆ H₆ s₁₁ := by
        have z : ∀ a P, H₄ a = some P → a ≠ d → upd (upd (upd (upd H₄ RL (intsO (readyP (G₁.map GN.pn)))) d (sdictO w (.ref D) (.ref RL) (.int 0 t3) (.int 0 t4))) ol (listO [])) ol (intsO []) a = some P := fun a P ha h1 =>
          upd_of (led_ne hol ha) (upd_of (led_ne hol ha) (upd_of h1 (upd_of (led_ne hRL ha) ha)))
        refine ⟨fuel, readyP (G₁.map GN.pn), 0, 0, t3, t4, [], G₁, _, _, ol, y1, y2, led_ne hol kx₄, (fun a P ha => led_ne hol (hk₄ a P ha).1), ho, ?_, fun _ h => h, ?_, ?_, ?_, ?_, upd_same _ _ _, ?_, ?_, ?_, S₁₂⟩
        · exact (((Y₄.upd oRL).upd od₃).upd (Off.of_none Y₄ hol)).upd (Off.of_none Y₄ hol)
        · intro a P ha; exact z a P (hk₄ a P ha).1 (hdF a P ha)
        · exact z x _ kx₄ hxd
        · exact upd_of (Ne.symm y1) (upd_of (Ne.symm y1) (upd_same _ _ _))
        · exact upd_of (Ne.symm y2) (upd_of (Ne.symm y2) (upd_of (Ne.symm hdRL) (upd_same _ _ _)))
        · exact Off.of_none Y₄ hol
        · walk_at "lk"
        · walk_at "lk"
      clear S₁₂ S₁₁ S₁₀ S₉
      induction f generalizing ready na nb ta tb ord G₆ H₆ m₆ ol s₁₁ with
      | zero => cases hro
      | succ f ihf =>
        refine r_while1 ?_
        repeat walk_at "py"
        unfold roundsF at hro
        by_cases hb1 : (decide (nb < na) || !ready.isEmpty) = true
        · rw [if_pos hb1] at hro
          by_cases hc3 : ready.length ≤ 900 ∧ ord.length ≤ 900 ∧ ready.all (fun k => ((G₆.map GN.pn).map (·.k)).contains k) = true
          case neg => rw [if_neg hc3] at hro; cases hro
          rw [if_pos hc3] at hro
          obtain ⟨hc4, hc5, hc6⟩ := hc3
          cases hdo : doneP (outP (G₆.map GN.pn) ready) [] ready with
          | none => rw [hdo] at hro; cases hro
          | some gr =>
          obtain ⟨g', r'⟩ := gr
          rw [hdo] at hro
          dsimp only at hro
          refine r_call (is_active B S₁₃ (by simp only [depth_deeper]; omega) kx₆ kd₆ kr₆ hc4 ?_)
          intro s₁₄ S₁₄
          show wpAny _ _ _ _ _ _
          rw [hb1]
          repeat walk_at "py"
          have hall : ∀ k ∈ ready, k ∈ G₆.map (·.k) := by
            intro k hk
            have := List.contains_iff_mem.mp (List.all_eq_true.mp hc6 k hk)
            rw [List.map_map] at this
            exact this
          refine r_call (get_ready B S₁₄ (by simp only [depth_deeper]; omega) hh Y₆ kx₆ kd₆ kr₆ (hof _ ox₃) (hof _ od₃) (hof _ oRL) (hof _ oL₃) hdRL hxd hxRL hc4 hall ?_)
          intro G₇ H₇ c vs' t₇ s₁₅ hG₇ hvs' Y₇ hof₇ hGk₇ hc hcL hcT kd₇ kr₇ hk₇ S₁₅
          show wpAny _ _ _ _ _ _
          have hvl := ints_len hvs'
          have kx₇ := hk₇ x _ hxd hxRL kx₆ (hof _ ox₃)
          have ko₇ := hk₇ ol _ hod hoR ko₆ oo₆
          have hk₇' : ∀ a P, upd H L (frO oL') a = some P → H₇ a = some P := fun a P ha => hk₇ a P (hdF a P ha) (led_ne hRL (hk₄ a P ha).1) (hk₆ a P ha) (hof _ (hk₄ a P ha).2)
          repeat walk_at "py"
          rename_i c₂ s₁₆ hc₂ hc₂L S₁₆ s₁₇ S₁₇
          obtain ⟨ws, hws, S₁₈⟩ := S₁₇.ints (upd_of (led_ne hc₂ ko₇) ko₇)
          have hwl := ints_len hws
          have q8 : c₂ ≠ ol := Ne.symm (led_ne hc₂ ko₇)
          refine r_cat S₁₈ (upd_same _ _ _) (upd_of q8 (upd_same _ _ _)) (by omega) ?_
          intro o₂ s₁₉ ho₂ ho₂L S₁₉
          simp only [upd_none_iff] at ho₂
          obtain ⟨z1, z2, ho₂⟩ := ho₂
          have S₂₀ := S₁₉.imp (a := o₂) (P := listO (ws ++ vs')) (P' := intsO (ord ++ ready)) (upd_same _ _ _) (listO.ints (intsAre_append hws hvs'))
          repeat walk_at "py"
          rename_i s₂₁ S₂₁
          have hk₈ : ∀ a P, H₇ a = some P → a ≠ ol → upd (upd (upd (upd H₇ c₂ (listO vs')) ol (listO ws)) o₂ (listO (ws ++ vs'))) o₂ (intsO (ord ++ ready)) a = some P := fun a P ha h1 => upd_of (led_ne ho₂ ha) (upd_of (led_ne ho₂ ha) (upd_of h1 (upd_of (led_ne hc₂ ha) ha)))
          have Y₈ : Gr prog w (upd (upd (upd (upd H₇ c₂ (listO vs')) ol (listO ws)) o₂ (listO (ws ++ vs'))) o₂ (intsO (ord ++ ready))) D G₇ := (((Y₇.upd (Off.of_none Y₇ hc₂)).upd (hof₇ _ oo₆)).upd (Off.of_none Y₇ ho₂)).upd (Off.of_none Y₇ ho₂)
          have kx₈ := hk₈ x _ kx₇ hxo
          have kd₈ := hk₈ d _ kd₇ (Ne.symm hod)
          have kr₈ := hk₈ RL _ kr₇ (Ne.symm hoR)
          have ko₈ := upd_same (upd (upd (upd H₇ c₂ (listO vs')) ol (listO ws)) o₂ (listO (ws ++ vs'))) o₂ (intsO (ord ++ ready))
          have kc₈ : upd (upd (upd (upd H₇ c₂ (listO vs')) ol (listO ws)) o₂ (listO (ws ++ vs'))) o₂ (intsO (ord ++ ready)) c₂ = some (listO vs') := upd_of (Ne.symm z2) (upd_of (Ne.symm z2) (upd_of q8 (upd_same _ _ _)))
          have hk₈' := fun a P ha => hk₈ a P (hk₇' a P ha) (hoH a P ha)
          have od₈ := Ne.symm (led_ne ho₂ kd₇)
          have oR₈ := Ne.symm (led_ne ho₂ kr₇)
          have xo₈ := led_ne ho₂ kx₇
          have oo₈ := Off.of_none Y₇ ho₂
          have ho₈ : ∀ a P, upd H L (frO oL') a = some P → a ≠ o₂ := fun a P ha => led_ne ho₂ (hk₇' a P ha)
          generalize upd (upd (upd (upd H₇ c₂ (listO vs')) ol (listO ws)) o₂ (listO (ws ++ vs'))) o₂ (intsO (ord ++ ready)) = H₈ at *
          refine StarMeth_ ?_ (by rfl)
          repeat walk_at "py"
          refine r_bound (f := 141) B S₂₁ kx₈ kd₈ (by kernel_rfl) (by kernel_rfl) (sm_done _) (by kernel_rfl) (by kernel_rfl) (by kernel_rfl) (by decide) (by intros; rfl) ?_
          intro q₈ s₂₁' hq₈ hq₈L S₂₁'
          refine r_starBound (f := 141) (x := x) (by kernel_rfl) ?_ (by rfl)
          repeat walk_at "py"
          refine r_star S₂₁' (upd_of (led_ne hq₈ kc₈) kc₈) (by omega) ?_
          intro s₂₂ S₂₂
          refine ⟨S₂₂.methP B (upd_same _ _ _), ?_⟩
          refine r_meth S₂₂ (upd_same _ _ _) ?_
          refine done_call (vs := vs') (ks := ready) (ready := []) B S₂₂ (by simp only [depth_deeper]; omega) hh (Y₈.upd (Off.of_none Y₈ hq₈)) (upd_of (led_ne hq₈ kx₈) kx₈) (upd_of (led_ne hq₈ kd₈) kd₈) (upd_of (led_ne hq₈ kr₈) kr₈) (hof₇ _ (hof _ ox₃)) (hof₇ _ (hof _ od₃)) (hof₇ _ (hof _ oRL)) (hof₇ _ (hof _ oL₃)) hdRL hxd hxRL hvs' hc4 (by rw [hG₇]; exact hdo) ?_
          intro G₉ H₉ t₉ s₂₃ hG₉ Y₉ hof₉ hGk₉ kd₉ kr₉ hk₉ S₂₃
          repeat walk_at "py"
          exact ihf (S₁₃ := S₂₃) (ready := r') (na := na + ready.length) (nb := nb + ready.length) (ord := ord ++ ready) (G₆ := G₉) (ol := o₂) (hxo := xo₈) (hoH := ho₈) (hod := od₈) (hoR := oR₈) (hro := by rw [hG₉]; exact hro) (Y₆ := Y₉) (hof := fun a ha => hof₉ _ (hof₇ _ (hof _ ha))) (hk₆ := fun a P ha => hk₉ a P (hdF a P ha) (led_ne hRL (hk₄ a P ha).1) (upd_of (led_ne hq₈ (hk₈' a P ha)) (hk₈' a P ha)) (hof₇ _ (hof _ (hk₄ a P ha).2))) (kx₆ := hk₉ x _ hxd hxRL (upd_of (led_ne hq₈ kx₈) kx₈) (hof₇ _ (hof _ ox₃))) (kd₆ := kd₉) (kr₆ := kr₉) (ko₆ := hk₉ o₂ _ od₈ oR₈ (upd_of (led_ne hq₈ ko₈) ko₈) oo₈) (oo₆ := hof₉ _ oo₈) (n1 := by walk_at "lk") (n2 := by walk_at "lk")
        · rw [if_neg hb1] at hro
          cases hro
          have hre : ready = [] := by
            cases ready with
            | nil => rfl
            | cons a b => simp at hb1
          refine r_call (is_active B S₁₃ (by simp only [depth_deeper]; omega) kx₆ kd₆ kr₆ (by rw [hre]; simp) ?_)
          intro s₁₄ S₁₄
          show wpAny _ _ _ _ _ _
          rw [show (decide (nb < na) || !ready.isEmpty) = false from by simpa using hb1]
          repeat walk_at "py"
          rename_i lc s₁₅ hlc hlcL S₁₅ tc s₁₆ htc htcL S₁₆
          simp only [upd_none_iff] at htc
          obtain ⟨y1, htc⟩ := htc
          have S₁₇ := S₁₆.imp (a := lc) (P := listO []) (P' := intsO []) (upd_of (Ne.symm y1) (upd_same _ _ _)) (listO.ints .nil)
          have y2 : ∀ a P, H₆ a = some P → upd (upd (upd H₆ lc (listO [])) tc (tupO [.ref lc, .ref ol])) lc (intsO []) a = some P := fun a P ha => upd_of (led_ne hlc ha) (upd_of (led_ne htc ha) (upd_of (led_ne hlc ha) ha))
          have kL₆ := hk₆ L _ (upd_same _ _ _)
          have y6 : ol ≠ L := fun q => by
            obtain ⟨oo, _, hoo⟩ := S₁₃.inv.own _ _ ko₆
            rw [q, kL₆] at ko₆
            exact frO_ne2 hoo (by rintro o' ⟨_, _, _, rfl⟩ q; cases q) (Option.some.inj ko₆).symm
          refine h _ tc lc ol _ ?_ ?_ ?_ ?_ (back _ _ _ _ S₁₇ (y2 _ _ kL₆))
          · exact (del_ne _ (Ne.symm (led_ne htc kL₆))).trans (upd_of y1 (upd_same _ _ _))
          · exact (del_ne _ (Ne.symm (led_ne hlc kL₆))).trans (upd_same _ _ _)
          · exact (del_ne _ y6).trans (y2 _ _ ko₆)
          · intro a P ha
            have haL : a ≠ L := fun q => by rw [q, hLo] at ha; cases ha
            exact (del_ne _ haL).trans (y2 _ _ (hk₆ a P (upd_of haL ha)))
    · rintro rg rfl c t tm msg ex T H₅ s₉ hex0 hex hT hTe ht hc' hk₅ S₉
      dsimp only at hp
      have hdF : ∀ a P, upd H L (frO oL') a = some P → a ≠ d := fun a P ha q => by rw [q, upd_ne _ _ q2, hd] at ha; cases ha
      have hk₆ : ∀ a P, upd H L (frO oL') a = some P → H₅ a = some P := fun a P ha => hk₅ a P (hdF a P ha) (hk₄ a P ha).1
      show wpAny _ _ _ _ _ _
      refine r_note2 S₉ hex hT hTe hfr₁ rfl (F₁.mono fun a o ha => hk₆ a _ ha) ?_
      intro T' s₁₀ hT' hTL' hTx' S₁₀
      refine r_flight S₁₀ (upd_same _ _ _) (upd_of hTx' (upd_same _ _ _)) ?_
      intro s₁₁ S₁₁
      have z : ∀ a P, H₅ a = some P → a ≠ ex → upd (upd (upd H₅ T' (tbO (rawInt L'))) ex (excT (.ref 76) (.ref t) T')) T' (tbO .none) a = some P := fun a P ha h1 => upd_of (led_ne hT' ha) (upd_of h1 (upd_of (led_ne hT' ha) ha))
      have zt : t ≠ ex := fun q => by
        rw [q, hex] at ht
        obtain ⟨oo, _, hoo⟩ := S₉.inv.own _ _ hex
        have := (congrFun (Option.some.inj ht) oo).mp hoo
        obtain ⟨_, rfl⟩ := this
        obtain ⟨_, _, hbad, _⟩ := hoo
        cases hbad
      have zc : c ≠ ex := fun q => by
        rw [q, hex] at hc'
        obtain ⟨oo, _, hoo⟩ := S₉.inv.own _ _ hex
        have := (congrFun (Option.some.inj hc') oo).mp hoo
        obtain ⟨_, _, _, rfl⟩ := this
        obtain ⟨_, _, hbad, _⟩ := hoo
        cases hbad
      have e1 : upd (upd (upd H₅ T' (tbO (rawInt L'))) ex (excT (.ref 76) (.ref t) T')) T' (tbO .none) ex = some (excT (.ref 76) (.ref t) T') := upd_of (Ne.symm hTx') (upd_same _ _ _)
      have e2 := z t _ ht zt
      have e3 := z c _ hc' zc
      have e4 := upd_same (upd (upd H₅ T' (tbO (rawInt L'))) ex (excT (.ref 76) (.ref t) T')) T' (tbO .none)
      have e5 : ∀ a P, upd H L (frO oL') a = some P → a ≠ ex → upd (upd (upd H₅ T' (tbO (rawInt L'))) ex (excT (.ref 76) (.ref t) T')) T' (tbO .none) a = some P := fun a P ha h1 => z a P (hk₆ a P ha) h1
      generalize upd (upd (upd H₅ T' (tbO (rawInt L'))) ex (excT (.ref 76) (.ref t) T')) T' (tbO .none) = H₆ at *
      refine r_handle B S₁₁ e1 e4 rfl (by rfl) (by rfl) ?_
      intro s₁₂ S₁₂
      repeat walk_at "py"
      refine r_args B (by assumption) e1 ?_
      intro s₁₃ S₁₃
      repeat walk_at "py"
      refine r_tget1 (by assumption) e2 ?_ (by rfl)
      repeat walk_at "py"
      rename_i lc s₁₄ hlc hlcL S₁₄ tc s₁₅ htc htcL S₁₅
      refine r_gone S₁₅ rfl (by rfl) ?_
      intro m' s₁₆ S₁₆
      simp only [upd_none_iff] at htc
      obtain ⟨y1, htc⟩ := htc
      have S₁₇ := S₁₆.imp (a := lc) (P := listO []) (P' := intsO []) (upd_of (Ne.symm y1) (upd_same _ _ _)) (listO.ints .nil)
      have y2 : ∀ a P, H₆ a = some P → upd (upd (upd H₆ lc (listO [])) tc (tupO [.ref c, .ref lc])) lc (intsO []) a = some P := fun a P ha => upd_of (led_ne hlc ha) (upd_of (led_ne htc ha) (upd_of (led_ne hlc ha) ha))
      have y3 : ∀ a P, upd H L (frO oL') a = some P → a ≠ ex := fun a P ha q => by
        have := (hk₄ a P ha).1
        rw [q, hex0] at this; cases this
      have kL₆ := e5 L _ (upd_same _ _ _) (y3 L _ (upd_same _ _ _))
      have y4 : lc ≠ L := Ne.symm (led_ne hlc kL₆)
      have y5 : tc ≠ L := Ne.symm (led_ne htc kL₆)
      have y6 : c ≠ L := fun q => by
        obtain ⟨oo, _, hoo⟩ := S₁₁.inv.own _ _ e3
        rw [q, kL₆] at e3
        exact frO_ne2 hoo (by rintro o' ⟨_, _, _, rfl⟩ q; cases q) (Option.some.inj e3).symm
      by_cases hr : rg ≠ [] ∧ rg.length ≤ 900
      · rw [if_pos hr] at hp
        cases hp
        repeat walk_at "py"
        refine h _ tc c lc _ ?_ ?_ ?_ ?_ (back _ _ _ _ S₁₇ (y2 _ _ kL₆))
        · exact (del_ne _ y5).trans (upd_of y1 (upd_same _ _ _))
        · exact (del_ne _ y6).trans (y2 _ _ e3)
        · exact (del_ne _ y4).trans (upd_same _ _ _)
        · intro a P ha
          have haL : a ≠ L := fun q => by rw [q, hLo] at ha; cases ha
          exact (del_ne _ haL).trans (y2 _ _ (e5 a P (upd_of haL ha) (y3 a P (upd_of haL ha))))
      · rw [if_neg hr] at hp; cases hp
  | cons p ps' ih =>
    have hpi : ps[i]? = some p := by
      have := congrArg (·[0]?) hps'
      simpa using this
    have hps'' : ps.drop (i + 1) = ps' := by rw [← List.drop_drop, hps']; rfl
    unfold buildF at hb₃
    by_cases hc : (G₁.map GN.pn).length ≤ 900 ∧ (G₁.map GN.pn).all (fun n => n.sc.length ≤ 900) = true
    case neg => rw [if_neg hc] at hb₃; cases hb₃
    rw [if_pos hc] at hb₃
    obtain ⟨hc1, hc2⟩ := hc
    rw [List.length_map] at hc1
    obtain ⟨tp, ta, tb, hvi, htp⟩ := hps.at i hpi
    have htpL : tp ≠ L := fun q => by rw [q, hLo] at htp; cases htp
    have ktp := hk₃ tp _ (upd_of htpL htp)
    refine r_for1 ?_
    refine r_next_list S₈ ki₃ (hk₃ nl _ (upd_of hnL hn)).1 hvi ?_
    intro s₈ S₈
    refine r_owned_list S₈ (upd_same _ _ _) ?_
    refine r_unpack2 hh S₈ (v1 := .int p.1 ta) (v2 := .int p.2 tb) (upd_of (hitH _ _ (upd_of htpL htp)) ktp.1) (by rfl) ?_
    intro s₉ S₉
    have Y₄ := Y₃.upd (P := listIterO nl (i + 1)) oi₃
    have kx₄ := upd_of (P := listIterO nl (i + 1)) hxit kx₃
    have kd₄ := upd_of (P := listIterO nl (i + 1)) hdit kd₃
    repeat walk_at "py"
    refine r_call (add_one B (by assumption) (by simp only [depth_deeper]; omega) hh Y₄ kx₄ kd₄ ox₃ od₃ oL₃ hc1 ?_ ?_)
    · intro n hn
      exact of_decide_eq_true (List.all_eq_true.mp hc2 n hn)
    intro G₅ H₅ s₁₀ hG₅ hGl₅ Y₅ K₅ oL₅ S₁₀
    repeat walk_at "py"
    have kx₅ := K₅ _ _ kx₄ ox₃
    have kd₅ := K₅ _ _ kd₄ od₃
    have ki₅ := K₅ it _ (upd_same _ _ _) oi₃
    refine ih (S₈ := S₁₀) (i := i + 1) (G₁ := G₅) (hps' := hps'') (Y₃ := Y₅) (hb₃ := by rw [hG₅]; exact hb₃) (hk₃ := ?_) (ox₃ := kx₅.2) (od₃ := kd₅.2) (oi₃ := ki₅.2) (oL₃ := oL₅) (kx₃ := kx₅.1) (kd₃ := kd₅.1) (ki₃ := ki₅.1) (hm₁ := by walk_at "lk")
    intro a P ha
    exact K₅ a P (upd_of (hitH a P ha) (hk₃ a P ha).1) (hk₃ a P ha).2
end

/-! ## Segments of a generator -/
section
open PySem.W.X
variable {prog : Program} {w : World} {A : Around} {s : Shared} {c : Code} {fs : List Frame} {P : End → Shared → Prop} {env : Env} {K : Flow → Sem Fin} {Hn : Value → Sem Fin} {gd : Bool → Bool} {lv : List Value → List Value}
abbrev noE : Value → Shared → Prop := fun _ _ => False
theorem sx_wrap {α : Type} {m : Sem α} {K : α → Sem Fin} (h : wpAny (model prog w) (A.over c fs) m (fun a s' => SegX (model prog w) A c (K a) fs s' P) noE s) : SegX (model prog w) A c (m.wrap K Hn gd lv) fs s P := by
  rintro Γ p rfl hΓ
  obtain ⟨e, s', hr, hq⟩ := runs_wrap_of_wp (Φ := fun e s' => e.quiet = true ∧ P e s') K Hn gd lv m (h (Γ.over fs) p (hΓ.over fs)) (fun a p' s' h' => h' Γ p' rfl hΓ) (fun x p' s' h' => h'.elim)
  exact ⟨e, s', hr, hq⟩
theorem sx_at {p' : Pos} {k : Unit → Sem Fin} (h : SegX (model prog w) A c (k ()) fs s P) : SegX (model prog w) A c (.at p' k) fs s P :=
  sx_wrap (m := standAt p') (K := k) (Hn := .raise) (gd := id) (lv := id) (wpAny_standAt h)
theorem sx_point {l : List Value} {k : Unit → Sem Fin} (h : SegX (model prog w) A c (k ()) fs s P) : SegX (model prog w) A c (.point l k) fs s P :=
  sx_wrap (m := point) (K := k) (Hn := .raise) (gd := id) (lv := fun _ => l) (wpAny_point h)
theorem sx_nil (h : SegX (model prog w) A c (K .next) fs s P) : SegX (model prog w) A c ((execs [] env).wrap K Hn gd lv) fs s P := h
theorem sx_cons {st : Stmt} {rest : List Stmt} (h : SegX (model prog w) A c ((exec st env).wrap (fun f => match f with | .next => (execs rest env).wrap K Hn gd lv | f => K f) Hn gd lv) fs s P) :
    SegX (model prog w) A c ((execs (st :: rest) env).wrap K Hn gd lv) fs s P := by rw [execs_cons_wrap]; exact h
theorem sx_stmt {st : Stmt} (h : wpAny (model prog w) (A.over c fs) (exec st env) (fun f s' => SegX (model prog w) A c (K f) fs s' P) noE s) : SegX (model prog w) A c ((exec st env).wrap K Hn gd lv) fs s P := sx_wrap h
theorem sx_If {test : PySem.Expr} {body orelse : List Stmt} {pos : Pos} (h : wpAny (model prog w) (A.over c fs) (isTrue test env (eval test env)) (fun b s' => if b = true then SegX (model prog w) A c ((execs body env).wrap K Hn gd lv) fs s' P else SegX (model prog w) A c ((execs orelse env).wrap K Hn gd lv) fs s' P) noE s) :
    SegX (model prog w) A c ((exec (.If test body orelse pos) env).wrap K Hn gd lv) fs s P := by
  rw [exec_If]
  show SegX _ A c (.at pos fun _ => (isTrue test env (eval test env) >>= fun b => if b = true then execs body env else execs orelse env).wrap K Hn gd lv) fs s P
  refine sx_at ?_
  rw [Sem.bind_eq_wrap', Sem.wrap_wrap]
  refine sx_wrap (wpAny_mono h (fun b s' hb => ?_) fun _ _ x => x)
  cases b with
  | true => rw [if_pos rfl] at hb; exact hb
  | false => rw [if_neg Bool.false_ne_true] at hb; exact hb
theorem sx_Yield {e : PySem.Expr} {ypos pos : Pos} (hfs : splitAtGen fs = none) (hgd : gd false = false) (hfg : fs.any Frame.guarded = false)
    (h : wpAny (model prog w) (A.over c fs) (eval e env) (fun v s' => ∀ p l k, (∀ A' s'' P', SegX (model prog w) A' c (K .next) fs s'' P' → SegX (model prog w) A' c (k (.send .none)) fs s'' P') → P (.susp v false l k c p fs) s') noE s)
    (hco : env.scope.isCoroutine = false := by rfl) (hi : interactive env = false := by rfl) :
    SegX (model prog w) A c ((exec (.Expr (.Yield (some e) ypos) pos) env).wrap K Hn gd lv) fs s P := by
  rw [exec_Expr env _ pos hi rfl]
  show SegX _ A c (.at pos fun _ => ((eval e env >>= fun v => (standAt ypos >>= fun _ => yieldOut env v)) >>= fun x =>
    dropValue (.Yield (some e) ypos) pos x).wrap K Hn gd lv) fs s P
  have hy : ∀ v, yieldOut env v = yieldValue v := fun v => by simp only [yieldOut, hco, Bool.false_eq_true, if_false]
  simp only [hy]
  refine sx_at ?_
  rw [Sem.bind_eq_wrap', Sem.bind_eq_wrap', Sem.wrap_wrap, Sem.wrap_wrap]
  refine sx_wrap (wpAny_mono h (fun v s' h' => ?_) fun _ _ x => x)
  refine sx_at ?_
  rintro Γ p rfl _
  refine ⟨_, s', Runs.yield' fs hfs, by simp [End.quiet, hfg, hgd], ?_⟩
  simp only [hgd, id]
  refine h' _ _ _ fun A' s'' P' hx => hx
/-- what waits under a loop -/
def backK (env : Env) (K : Flow → Sem Fin) (Hn : Value → Sem Fin) (gd : Bool → Bool) (lv : List Value → List Value) : Result → Sem Fin := fun r => ((match r with | .ok f => (.pure f : Sem Flow) | .error e => .raise e).onRaise fun (x : Value) => do
        if (← field x 1) == Value.none then unsupported "frame.own-activation:exception-without-traceback"
        setFlight x env.frame).wrap K Hn gd lv
theorem backK_ok (f : Flow) : backK env K Hn gd lv (.ok f) = K f := rfl
theorem sx_For {target iter : PySem.Expr} {body orelse : List Stmt} {pos : Pos}
    (h : wpAny (model prog w) (A.over c fs) (eval iter env) (fun x s₁ => wpAny (model prog w) (A.over c fs) (pyIter x) (fun it s₂ => ∀ p, SegX (model prog w) A (.forLoop target it body orelse env) (denote table (.forLoop target it body orelse env)) (.ret (backK env K Hn gd lv) none (gd false) (lv []) c p [] :: fs) s₂ P) noE s₁) noE s)
    (hs : ∀ x, foldedSetIterable iter env x = pure x) : SegX (model prog w) A c ((exec (.For target iter body orelse pos) env).wrap K Hn gd lv) fs s P := by
  rw [exec_For]
  show SegX _ A c (.at pos fun _ => ((eval iter env >>= fun y => foldedSetIterable iter env y >>= fun x => standAt iter.pos >>= fun _ => holding [x] (pyIter x) >>= fun it => runOwn (.forLoop target it body orelse env) env)).wrap K Hn gd lv) fs s P
  refine sx_at ?_
  rw [Sem.bind_eq_wrap', Sem.wrap_wrap]
  refine sx_wrap (wpAny_mono h (fun x s₁ h₁ => ?_) fun _ _ x => x)
  rw [hs x]
  show SegX _ A c (.at iter.pos fun _ => (holding [x] (pyIter x) >>= fun it => runOwn (.forLoop target it body orelse env) env).wrap K Hn gd lv) fs s₁ P
  refine sx_at ?_
  rw [Sem.bind_eq_wrap', Sem.wrap_wrap]
  refine sx_wrap (wpAny_holding (wpAny_mono h₁ (fun it s₂ h₂ => ?_) fun _ _ x => x))
  exact s_call prog w A c fs P s₂ _ _ _ _ _ h₂
def loopK (target : PySem.Expr) (it : Value) (body orelse : List Stmt) (env : Env) : Flow → Sem Fin := fun f => match f with
  | .next | .cont => .pure (.again (.forLoop target it body orelse env))
  | .brk => .pure (.done .next)
  | .ret v => .pure (.done (.ret v))
theorem sx_forLoop {target : PySem.Expr} {it : Value} {body orelse : List Stmt}
    (h : wpAny (model prog w) (A.over (.forLoop target it body orelse env) fs) (pyNext it) (fun r s₁ => match r with
      | none => SegX (model prog w) A (.block orelse env) (denote table (.block orelse env)) fs s₁ P
      | some v => wpAny (model prog w) (A.over (.forLoop target it body orelse env) fs) (letOwnedTupleGo target it v) (fun _ s₂ => wpAny (model prog w) (A.over (.forLoop target it body orelse env) fs) (assign target env v) (fun _ s₃ =>
        ∀ Hn, SegX (model prog w) A (.forLoop target it body orelse env) ((execs body env).wrap (loopK target it body orelse env) Hn id id) fs s₃ P) noE s₂) noE s₁) noE s) :
    SegX (model prog w) A (.forLoop target it body orelse env) (denote table (.forLoop target it body orelse env)) fs s P := by
  show SegX _ A _ ((forTurn target it body orelse env).onRaise (fun x => do noteFrame x env; theTreesLotGoes x)) fs s P
  unfold forTurn
  rw [Sem.onRaise_eq_wrap]
  refine sx_at ?_
  show SegX _ A _ (Sem.wrap _ _ _ _ (Sem.bind ((pyNext it).onRaise _) _)) fs s P
  rw [Sem.bind_eq_wrap, Sem.wrap_wrap, Sem.onRaise_eq_wrap, Sem.wrap_wrap]
  refine sx_wrap (wpAny_mono h (fun r s₁ h₁ => ?_) fun _ _ x => x)
  cases r with
  | none => exact s_again prog w A _ fs P s₁ _ rfl h₁
  | some v =>
    show SegX _ A _ ((letOwnedTupleGo target it v >>= fun _ => assign target env v >>= fun _ => execs body env >>= fun f => match f with
      | .next | .cont => again (.forLoop target it body orelse env)
      | .brk => pure (.done .next)
      | .ret v => pure (.done (.ret v))).wrap _ _ _ _) fs s₁ P
    rw [Sem.bind_eq_wrap', Sem.wrap_wrap]
    refine sx_wrap (wpAny_mono h₁ (fun _ s₂ h₂ => ?_) fun _ _ x => x)
    rw [Sem.bind_eq_wrap', Sem.wrap_wrap]
    refine sx_wrap (wpAny_mono h₂ (fun _ s₃ h₃ => ?_) fun _ _ x => x)
    rw [Sem.bind_eq_wrap', Sem.wrap_wrap]
    rw [Sem.wrap_congr (execs body env) _ _ (K' := loopK target it body orelse env) (fun f => by cases f <;> rfl) (fun _ => rfl)]
    exact h₃ _
theorem sx_func {body : List Stmt} (h : ∀ Hn, SegX (model prog w) A (.func body env) ((execs body env).wrap (fun f => .pure (.done (.ret (match f with | .ret v => v | _ => .none)))) Hn id id) fs s P) :
    SegX (model prog w) A (.func body env) (denote table (.func body env)) fs s P := by
  show SegX _ A _ (.point [] fun _ => ((execs body env).onRaise (leaving env)) >>= _) fs s P
  refine sx_point ?_
  rw [Sem.onRaise_eq_wrap, Sem.bind_eq_wrap', Sem.wrap_wrap]
  rw [Sem.wrap_congr (execs body env) _ _ (K' := fun f => .pure (.done (.ret (match f with | .ret v => v | _ => .none)))) (fun f => by cases f <;> rfl) (fun _ => rfl)]
  exact h _
theorem SegX.quietly (x : SegX (model prog w) A c t fs s P) : SegX (model prog w) A c t fs s (fun e s' => e.quiet = true ∧ P e s') := fun Γ p hc hΓ => by
  obtain ⟨e, s', hr, hq, hp⟩ := x Γ p hc hΓ
  exact ⟨e, s', hr, hq, hq, hp⟩
end

/-! ## A generator as an iterator -/
def nsO (m : Loc) : OP := fun o => ∃ es ep, o.data = .dict es ep ∧ StrKeys es ∧ ∀ name, nsFind es name = m name
def genO (n : Nat) : OP := fun o => ∃ nm qn, o.cls = .type "generator" ∧ o.data = .fields #[.int n 0, nm, qn] ∧ o.slots = #[]
section
open PySem.W.X
variable {prog : Program} {w : World} {A : Around} {E : Value → Shared → Prop} {s : Shared} {h₀ : Heap} {g : Array GenState} {os : OsState} {L : Addr} {m : Loc} {H : Led} {GL a : Addr} {mg : Loc} {n : Nat}
/-- the frame of a generator becomes the running one, and back -/
theorem St.inside (S : St h₀ g os L m H s) (e : H GL = some (nsO mg)) (ab : h₀.objs.size ≤ GL) : ∃ oL, GL ≠ L ∧ St h₀ g os GL mg (upd (del H GL) L (frO oL)) s ∧
    ∀ g' m' H' s', St h₀ g' os GL m' H' s' → H' L = some (frO oL) → St h₀ g' os L m (upd (del H' L) GL (nsO m')) s' := by
  have hne := S.inv.neL e
  obtain ⟨oL, es, ep, hL, hd, hr⟩ := S.inv.ns
  obtain ⟨oG, hG, es', ep', hd', hr'⟩ := S.inv.own _ _ e
  refine ⟨oL, hne, ⟨⟨⟨oG, es', ep', hG, hd', hr'⟩, S.inv.keep, fun b Q q => ?_, fun b Q q => ?_, ab, ?_⟩, S.gens, S.os⟩, fun g' m' H' s' S' e' => ?_⟩
  · by_cases hb : b = L
    · subst hb; rw [upd_same] at q; cases q; exact ⟨oL, hL, rfl⟩
    · rw [upd_ne _ _ hb] at q
      by_cases hb' : b = GL
      · subst hb'; rw [del_same] at q; cases q
      · rw [del_ne _ hb'] at q; exact S.inv.own b Q q
  · by_cases hb : b = L
    · subst hb; exact S.inv.Lnone
    · rw [upd_ne _ _ hb] at q
      by_cases hb' : b = GL
      · subst hb'; rw [del_same] at q; cases q
      · rw [del_ne _ hb'] at q; exact S.inv.low b Q q
  · rw [upd_ne _ _ hne]; exact del_same _ _
  · have J := S'.inv.back e' hL ⟨oL, es, ep, hL, hd, hr⟩ S.inv.above
    obtain ⟨oG', es₂, ep₂, hG', hd₂, hr₂⟩ := S'.inv.ns
    refine ⟨J.add ?_ (get_none_of_le ab) hne ⟨oG', hG', es₂, ep₂, hd₂, hr₂⟩, S'.gens, S'.os⟩
    rw [del_ne _ hne]; exact S'.inv.out
def Has (own : List (Addr × OP)) (H : Led) : Prop := ∀ p ∈ own, H p.1 = some p.2
def Wakes0 (gs : GenState) (φ : Code → Sem Fin → List Frame → Prop) : Prop := (∃ c, gs = .fresh c ∧ φ c (denote table c) []) ∨ (∃ k l c p fs cl, gs = .suspended k l c p fs cl ∧ φ c (k (.send .none)) fs)
/-- what a resting generator will still hand out -/
def GenGo (prog : Program) (w : World) (h₀ : Heap) (GL : Addr) : List (Int × Str) → List (Addr × OP) → Loc → GenState → Prop
  | [], own, mg, gs => Wakes0 gs fun c t fs => ∀ A g os H s, A.handled = none → A.depth + 20 < recursionLimit → Has own H → St h₀ g os GL mg H s →
      SegX (model prog w) A c t fs s fun e s' => ∃ H' m', e = .ret (.ok (.ret .none)) ∧ (∀ b P, H b = some P → (∀ p ∈ own, b ≠ p.1) → H' b = some P) ∧ St h₀ g os GL m' H' s'
  | (p, x) :: out, own, mg, gs => Wakes0 gs fun c t fs => ∀ A g os H s, A.handled = none → A.depth + 20 < recursionLimit → Has own H → St h₀ g os GL mg H s →
      SegX (model prog w) A c t fs s fun e s' => ∃ H' m' own' tup t1 t2, e.result = .yielded (.ref tup) ∧ H' tup = some (tupO [.int p t1, .str x t2]) ∧ (∀ P, H tup = some P → ∃ q ∈ own, tup = q.1) ∧ (∀ b P, H b = some P → (∀ p ∈ own, b ≠ p.1) → H' b = some P) ∧
        Has own' H' ∧ (∀ q ∈ own', (∃ q' ∈ own, q.1 = q'.1) ∨ H q.1 = none) ∧ GenGo prog w h₀ GL out own' m' e.genState ∧ St h₀ g os GL m' H' s'
def Bare (g : Array GenState) : Prop := ∀ x ∈ g, x.bare = true
theorem Bare.set {x : GenState} (hg : Bare g) (hx : x.bare = true) : Bare (g.setIfInBounds n x) := by
  intro y hy
  rcases Array.mem_or_eq_of_mem_setIfInBounds hy with h | h
  · exact hg y h
  · rw [h]; exact hx
theorem St.isGen (S : St h₀ g os L m H s) (e : H a = some (genO n)) : s.heap.IsGen a n := by
  obtain ⟨o, ho, nm, qn, h1, h2, h3⟩ := S.inv.own _ _ e
  exact ⟨o, nm, qn, ho, h1, h2, h3⟩
theorem r_iter_gen {Q : Value → Shared → Prop} (S : St h₀ g os L m H s) (e : H a = some (genO n)) (h : Q (.ref a) s) : wpAny (model prog w) A (pyIter (.ref a)) Q E s := wpAny_pyIter_gen (S.isGen e) h
theorem St.setGen {x : GenState} (S : St h₀ g os L m H s) : St h₀ (g.setIfInBounds n x) os L m H (s.setGen n x) := ⟨S.inv, by show s.gens.setIfInBounds n x = _; rw [S.gens], S.os⟩
theorem r_resume {α : Type} {Q : α → Shared → Prop} {gs : GenState} {k : GenResult → Sem α} {l : List Value} (hg : s.gens[n]? = some gs)
    (h : Wakes0 gs fun c t fs => SegX (model prog w) A c t fs (s.setGen n .running) fun e s₁ => e.quiet = true → wpAny (model prog w) A (k e.result) Q E (s₁.setGen n e.genState)) :
    wpAny (model prog w) A (.resume n (.send .none) l k) Q E s := by
  rcases h with ⟨c, rfl, x⟩ | ⟨k₀, l₀, c, p, fs, cl, rfl, x⟩
  · exact wake_any α prog w hg (.inl ⟨rfl, rfl, rfl, rfl⟩) (fun Γ => Γ.In A) (fun _ h => h) ((SegX.quietly x).mono fun e s' h => h.2 h.1)
  · exact wake_any α prog w hg (.inr ⟨k₀, l₀, p, cl, rfl, rfl⟩) (fun Γ => Γ.In A) (fun _ h => h) ((SegX.quietly x).mono fun e s' h => h.2 h.1)
theorem Wakes0.mono {gs : GenState} {φ φ' : Code → Sem Fin → List Frame → Prop} (x : Wakes0 gs φ) (h : ∀ c t fs, φ c t fs → φ' c t fs) : Wakes0 gs φ' := by
  rcases x with ⟨c, e, y⟩ | ⟨k, l, c, p, fs, cl, e, y⟩
  · exact .inl ⟨c, e, h _ _ _ y⟩
  · exact .inr ⟨k, l, c, p, fs, cl, e, h _ _ _ y⟩
theorem Wakes0.notDone {gs : GenState} {φ : Code → Sem Fin → List Frame → Prop} (x : Wakes0 gs φ) : (∃ c, gs = .fresh c) ∨ ∃ k l c p fs cl, gs = .suspended k l c p fs cl := by
  rcases x with ⟨c, e, y⟩ | ⟨k, l, c, p, fs, cl, e, y⟩
  · exact .inl ⟨c, e⟩
  · exact .inr ⟨k, l, c, p, fs, cl, e⟩
theorem r_pyNext0 {Q : Option Value → Shared → Prop} {gs : GenState} (B : Bs w h₀) (hh : A.handled = none) (hroom : A.depth < recursionLimit) (S : St h₀ g os L m H s) (ea : H a = some (genO n)) (hgs : g[n]? = some gs)
    (h : Wakes0 gs fun c t fs => SegX (model prog w) A.in1 c t fs (s.setGen n .running) fun e s₁ => e.quiet = true → match e.result with
      | .yielded v => Q (some v) (s₁.setGen n e.genState)
      | .returned v => v = .none ∧ ∀ h', (∀ b o, s₁.heap.get? b = some o → h'.get? b = some o) → Q none { s₁.setGen n e.genState with heap := h' }
      | _ => False) : wpAny (model prog w) A (pyNext (.ref a)) Q E s := by
  obtain ⟨pp, loose, mgg, mb, T⟩ := B.T
  have hl := T.nolimit.keeps S.inv.keep
  have hgs' : s.gens[n]? = some gs := by rw [S.gens]; exact hgs
  have ig := S.isGen ea
  unfold pyNext
  refine wpAny_bind (wpAny_attempt (wpAny_callSpecial?_slot (name := Str.ofString "__next__") ig.typeIs slot_gen_next
    (wpAny_call_entry slot_gen_next ig.typeIs entry_gen_next ?_ (args_gen_next _))))
  show wpAny _ _ (Builtin.Generator.genWake (.ref a) (.send .none)) _ _ s
  unfold Builtin.Generator.genWake
  refine wpAny_bind (wpAny_holding (wpAny_genNumber ig (wpAny_bind (wpAny_genState hgs' ?_))))
  have nd := h.notDone
  cases gs with
  | running => rcases nd with ⟨_, e⟩ | ⟨_, _, _, _, _, _, e⟩ <;> cases e
  | finished => rcases nd with ⟨_, e⟩ | ⟨_, _, _, _, _, _, e⟩ <;> cases e
  | _ =>
    refine wpAny_bind (wpAny_roomToWake hl hroom ?_)
    show wpAny _ _ (.resume n (.send .none) [] _) _ _ s
    refine r_resume hgs' (h.mono fun c t fs x => x.mono fun e s₁ z hq => ?_)
    have z := z hq
    cases hr : e.result with
    | yielded v =>
      rw [hr] at z
      exact wpAny_pure ⟨v, rfl, wpAny_pure z⟩
    | returned v =>
      rw [hr] at z
      obtain ⟨rfl, z⟩ := z
      show wpAny _ _ (newExc (.type "StopIteration") [] >>= _) _ _ _
      refine wpAny_bind ?_
      simp only [newExc, newTuple]
      refine wpAny_bind (wpAny_newObj_type ?_ (by size_fits))
      refine wpAny_bind (m := firstArgMember _ _) (wpAny_of_eq (a := Value.none) (by first | rfl | (simp only [firstArgMember]; rfl)) ?_)
      refine wpAny_newObj_type ?_ (by size_fits)
      simp only [raiseNew]
      refine wpAny_bind (wpAny_bind (wpAny_handled ?_))
      rw [show A.in1.handled = none from hh]
      refine wpAny_throw ?_
      refine wpAny_bind (wpAny_isInstance (T := "StopIteration") (b := true) ⟨_, Heap.get?_push_size _ rfl, rfl⟩ isSubtype_stop ?_)
      exact wpAny_pure (z _ fun b o hb => Heap.get?_push_of_some _ (Heap.get?_push_of_some _ hb))
    | _ => rw [hr] at z; exact z.elim
theorem r_next_gen {Q : Option Value → Shared → Prop} {p : Int} {x : Str} {out : List (Int × Str)} {own : List (Addr × OP)} {gs : GenState} (B : Bs w h₀) (hh : A.handled = none) (hroom : A.depth + 30 < recursionLimit) (S : St h₀ g os L m H s) (ea : H a = some (genO n)) (hgs : g[n]? = some gs)
    (eG : H GL = some (nsO mg)) (ab : h₀.objs.size ≤ GL) (hown : Has own H) (hGL : ∀ q ∈ own, q.1 ≠ GL) (G : GenGo prog w h₀ GL ((p, x) :: out) own mg gs)
    (h : ∀ g' H' m' own' gs' tup t1 t2 s', g'[n]? = some gs' → (Bare g → Bare g') → H' tup = some (tupO [.int p t1, .str x t2]) → H' GL = some (nsO m') → (∀ b P, H b = some P → b ≠ GL → (∀ q ∈ own, b ≠ q.1) → H' b = some P) → Has own' H' → (∀ q ∈ own', q.1 ≠ GL) → (∀ q ∈ own', (∃ q' ∈ own, q.1 = q'.1) ∨ H q.1 = none) →
      GenGo prog w h₀ GL out own' m' gs' → St h₀ g' os L m H' s' → Q (some (.ref tup)) s') :
    wpAny (model prog w) A (pyNext (.ref a)) Q E s := by
  obtain ⟨oL, hGLL, S₁, back⟩ := S.inside eG ab
  have hLo := S.inv.out
  have hn : n < g.size := (Array.getElem?_eq_some_iff.mp hgs).1
  have hownL : ∀ q ∈ own, q.1 ≠ L := fun q hq e => by rw [← e, hown q hq] at hLo; cases hLo
  refine r_pyNext0 B hh (by omega) S ea hgs (G.mono fun c t fs φ => ?_)
  have S₂ := S₁.setGen (n := n) (x := .running)
  refine (φ A.in1 _ _ _ _ hh (by show A.depth + 20 < _; omega) (fun q hq => ?_) S₂).mono fun e s₁ z hq => ?_
  · exact upd_of (hownL q hq) ((del_ne _ (hGL q hq)).trans (hown q hq))
  obtain ⟨H', m', own', tup, t1, t2, hr, htup, htup0, hk, hown', hfr, G', S₃⟩ := z
  rw [hr]
  have hgb : e.genState.bare = true := End.bare_of_quiet hq
  have kL := hk L _ (upd_same _ _ _) (fun q hq => Ne.symm (hownL q hq))
  have S₄ := back _ _ _ _ (S₃.setGen (n := n) (x := e.genState)) kL
  have hne : ∀ b P, H' b = some P → b ≠ GL := fun b P hb => S₃.inv.neL hb
  have htL : tup ≠ L := fun q => by
    obtain ⟨q', h1, h2⟩ := htup0 _ (by rw [q]; exact upd_same _ _ _)
    exact hownL q' h1 (h2.symm.trans q)
  have htG : tup ≠ GL := hne _ _ htup
  have hoL' : ∀ q ∈ own', q.1 ≠ L := fun q hq e => by
    rcases hfr q hq with ⟨q', hq', e'⟩ | e'
    · exact hownL q' hq' (e'.symm.trans e)
    · rw [e, upd_same] at e'; cases e'
  refine h _ _ m' own' e.genState tup t1 t2 _ ?_ (fun hb => ?_) ?_ (upd_same _ _ _) (fun b P hb h1 h2 => ?_) (fun q hq => ?_) (fun q hq => hne _ _ (hown' q hq)) (fun q hq => ?_) G' S₄
  · rw [Array.getElem?_setIfInBounds]
    simp [hn]
  · exact (hb.set (n := n) (x := .running) rfl).set hgb
  · exact upd_of htG ((del_ne _ htL).trans htup)
  · have hbL : b ≠ L := S.inv.neL hb
    exact upd_of h1 ((del_ne _ hbL).trans (hk b P (upd_of hbL ((del_ne _ h1).trans hb)) h2))
  · exact upd_of (hne _ _ (hown' q hq)) ((del_ne _ (hoL' q hq)).trans (hown' q hq))
  · rcases hfr q hq with e' | e'
    · exact .inl e'
    · right
      rw [upd_ne _ _ (hoL' q hq), del_ne _ (hne _ _ (hown' q hq))] at e'; exact e'
theorem r_end_gen {Q : Option Value → Shared → Prop} {own : List (Addr × OP)} {gs : GenState} (B : Bs w h₀) (hh : A.handled = none) (hroom : A.depth + 30 < recursionLimit) (S : St h₀ g os L m H s) (ea : H a = some (genO n)) (hgs : g[n]? = some gs)
    (eG : H GL = some (nsO mg)) (ab : h₀.objs.size ≤ GL) (hown : Has own H) (hGL : ∀ q ∈ own, q.1 ≠ GL) (G : GenGo prog w h₀ GL [] own mg gs)
    (h : ∀ g' H' s', (Bare g → Bare g') → (∀ b P, H b = some P → b ≠ GL → (∀ q ∈ own, b ≠ q.1) → H' b = some P) → St h₀ g' os L m H' s' → Q none s') :
    wpAny (model prog w) A (pyNext (.ref a)) Q E s := by
  obtain ⟨oL, hGLL, S₁, back⟩ := S.inside eG ab
  have hLo := S.inv.out
  have hownL : ∀ q ∈ own, q.1 ≠ L := fun q hq e => by rw [← e, hown q hq] at hLo; cases hLo
  refine r_pyNext0 B hh (by omega) S ea hgs (G.mono fun c t fs φ => ?_)
  have S₂ := S₁.setGen (n := n) (x := .running)
  refine (φ A.in1 _ _ _ _ hh (by show A.depth + 20 < _; omega) (fun q hq => ?_) S₂).mono fun e s₁ z hq => ?_
  · exact upd_of (hownL q hq) ((del_ne _ (hGL q hq)).trans (hown q hq))
  obtain ⟨H', m', rfl, hk, S₃⟩ := z
  refine ⟨rfl, fun h' hk' => ?_⟩
  have kL := hk L _ (upd_same _ _ _) (fun q hq => Ne.symm (hownL q hq))
  have S₄ := back _ _ _ _ (S₃.setGen (n := n) (x := .finished)) kL
  refine h _ _ _ (fun hb => ?_) (fun b P hb h1 h2 => ?_) ⟨S₄.inv.grow hk', S₄.gens, S₄.os⟩
  · exact (hb.set (n := n) (x := .running) rfl).set rfl
  · have hbL : b ≠ L := S.inv.neL hb
    exact upd_of h1 ((del_ne _ hbL).trans (hk b P (upd_of hbL ((del_ne _ h1).trans hb)) h2))
end

/-! ## Texts, and their iterators -/
def strIterO (x : Str) (t : Tok) (i : Nat) : OP := fun o => o.cls = .type "str_ascii_iterator" ∧ o.data = .fields #[.str x t, .int i 0]
def enumO (it : Addr) (i : Int) (old : Value) : OP := fun o => o = { cls := .type "enumerate", data := .fields #[.none, .bool false, .ref it, rawInt i, .none, old] }
def enumOutO (it : Addr) (i : Int) (v : Value) (tup : Addr) : OP := fun o => o = { cls := .type "enumerate", data := .fields #[rawInt tup, .bool false, .ref it, rawInt i, .none, v] }
section
variable {h₀ h h' : Heap} {L a b : Addr} {m : Loc} {H : Led} {P₁ P₂ P₁' P₂' : OP}
theorem Inv.change2 (I : Inv h₀ L m H h) (e1 : H a = some P₁) (e2 : H b = some P₂) (hk : ∀ x o, x ≠ a → x ≠ b → h.get? x = some o → h'.get? x = some o) (p1 : ∃ o, h'.get? a = some o ∧ P₁' o) (p2 : ∃ o, h'.get? b = some o ∧ P₂' o) : Inv h₀ L m (upd (upd H a P₁') b P₂') h' := by
  have haL := I.neL e1
  have hbL := I.neL e2
  obtain ⟨o, es, ep, ho, r⟩ := I.ns
  refine ⟨⟨o, es, ep, hk L o (Ne.symm haL) (Ne.symm hbL) ho, r⟩, fun x o q => hk x o (fun z => ?_) (fun z => ?_) (I.keep x o q), fun x Q q => ?_, fun x Q q => ?_, I.above, ?_⟩
  · rw [z, I.new _ _ e1] at q; cases q
  · rw [z, I.new _ _ e2] at q; cases q
  · by_cases hb : x = b
    · subst hb; rw [upd_same] at q; cases q; exact p2
    · rw [upd_ne _ _ hb] at q
      by_cases ha : x = a
      · subst ha; rw [upd_same] at q; cases q; exact p1
      · rw [upd_ne _ _ ha] at q
        obtain ⟨o', ho', hq⟩ := I.own x Q q
        exact ⟨o', hk x o' ha hb ho', hq⟩
  · by_cases hb : x = b
    · subst hb; exact I.low _ _ e2
    · rw [upd_ne _ _ hb] at q
      by_cases ha : x = a
      · subst ha; exact I.low _ _ e1
      · rw [upd_ne _ _ ha] at q; exact I.low x Q q
  · rw [upd_ne _ _ (Ne.symm hbL), upd_ne _ _ (Ne.symm haL)]; exact I.out
end
section
variable {prog : Program} {w : World} {A : Around} {E : Value → Shared → Prop} {s : Shared} {h₀ : Heap} {g : Array GenState} {os : OsState} {L it e : Addr} {m : Loc} {H : Led} {x y : Str} {t u : Tok} {i c : Nat} {old : Value}
theorem r_iter_str {Q : Value → Shared → Prop} (S : St h₀ g os L m H s) (ha : x.cps.all (· < 128) = true) (h : ∀ it s', H it = none → it ≠ L → St h₀ g os L m (upd H it (strIterO x t 0)) s' → Q (.ref it) s') : wpAny (model prog w) A (pyIter (.str x t)) Q E s :=
  wpAny_pyIter_ascii ha (h _ _ S.inv.fresh S.inv.freshL ⟨S.inv.push _ ⟨rfl, rfl⟩, S.gens, S.os⟩)
theorem r_next_str {Q : Option Value → Shared → Prop} (S : St h₀ g os L m H s) (ei : H it = some (strIterO x t i)) (hx : x.cps[i]? = some c) (h : ∀ u s', St h₀ g os L m (upd H it (strIterO x t (i + 1))) s' → Q (some (.str ⟨#[c]⟩ u)) s') : wpAny (model prog w) A (pyNext (.ref it)) Q E s :=
  wpAny_pyNext_ascii_item (S.inv.own _ _ ei) hx fun h' hi hs => h _ _ ⟨S.inv.change ei hs.extBut hi, S.gens, S.os⟩
theorem r_end_str {Q : Option Value → Shared → Prop} (hh : A.handled = none) (S : St h₀ g os L m H s) (ei : H it = some (strIterO x t i)) (hx : x.cps[i]? = none) (h : ∀ s', St h₀ g os L m (del H it) s' → Q none s') : wpAny (model prog w) A (pyNext (.ref it)) Q E s :=
  wpAny_pyNext_ascii_end hh (S.inv.own _ _ ei) hx fun h' hs => h _ ⟨S.inv.lose ei hs, S.gens, S.os⟩
theorem r_enum {Q : Value → Shared → Prop} (S : St h₀ g os L m H s) (ha : x.cps.all (· < 128) = true) (h : ∀ it e s', H it = none → it ≠ L → H e = none → e ≠ L → e ≠ it → St h₀ g os L m (upd (upd H it (strIterO x t 0)) e (enumO it 0 .none)) s' → Q (.ref e) s') :
    wpAny (model prog w) A (call (.type "enumerate") [.str x t]) Q E s := by
  refine call_enumerate_str fun h' he hi hz hk => ?_
  have I1 : Inv h₀ L m (upd H s.heap.objs.size (strIterO x t 0)) h' := (S.inv.grow hk).add S.inv.fresh S.inv.freshN S.inv.freshL (by
    obtain ⟨o, ho, h1, h2⟩ := hi
    exact ⟨o, ho, h1.trans (by unfold strIterType; rw [ha]; rfl), h2⟩)
  have hne : s.heap.objs.size + 1 ≠ s.heap.objs.size := by omega
  have f2 : H (s.heap.objs.size + 1) = none := by
    cases q : H (s.heap.objs.size + 1) with
    | none => rfl
    | some P => obtain ⟨o, ho, _⟩ := S.inv.own _ _ q; exact absurd (Nat.lt_of_succ_lt (Heap.lt_size ho)) (Nat.lt_irrefl _)
  have l2 : s.heap.objs.size + 1 ≠ L := Nat.ne_of_gt (Nat.lt_succ_of_lt S.inv.ns.lt)
  exact h _ _ _ S.inv.fresh S.inv.freshL f2 l2 hne ⟨I1.add (by rw [upd_ne _ _ hne]; exact f2) (get_none_of_le (Nat.le_succ_of_le S.inv.fresh₀)) l2 ⟨_, he, rfl⟩, S.gens, S.os⟩
theorem r_iter_enum {i : Int} {Q : Value → Shared → Prop} (S : St h₀ g os L m H s) (ee : H e = some (enumO it i old)) (h : Q (.ref e) s) : wpAny (model prog w) A (pyIter (.ref e)) Q E s := by
  obtain ⟨o, ho, rfl⟩ := S.inv.own _ _ ee
  exact wpAny_pyIter_enum ho h
theorem r_next_enum {Q : Option Value → Shared → Prop} (hh : A.handled = none) (S : St h₀ g os L m H s) (ee : H e = some (enumO it i old)) (ei : H it = some (strIterO x t i)) (hne : e ≠ it) (hx : x.cps[i]? = some c)
    (h : ∀ tup tk u s', H tup = none → tup ≠ L → St h₀ g os L m (upd (upd (upd H it (strIterO x t (i + 1))) e (enumOutO it ((i : Int) + 1) (.str ⟨#[c]⟩ u) tup)) tup (tupO [.int i tk, .str ⟨#[c]⟩ u])) s' → Q (some (.ref tup)) s') : wpAny (model prog w) A (pyNext (.ref e)) Q E s := by
  obtain ⟨o, ho, rfl⟩ := S.inv.own _ _ ee
  have hlt : i < x.cps.size := (Array.getElem?_eq_some_iff.mp hx).1
  refine wpAny_pyNext_enum_itemD (Draws.strAscii (A := A.in1) hh it x t) ho (S.inv.own _ _ ei) hlt hne (by simpa using hne) fun v h' tk hv he hi ht hz hk => ?_
  obtain ⟨c', u, hc', rfl⟩ := hv
  rw [hx] at hc'; cases hc'
  have I1 := S.inv.change2 (P₁' := strIterO x t (i + 1)) (P₂' := enumOutO it ((i : Int) + 1) (.str ⟨#[c]⟩ u) s.heap.objs.size) ei ee (fun b o h1 h2 hb => hk b o h2 h1 hb) hi ⟨_, he, rfl⟩
  have f0 := S.inv.fresh
  have n1 : s.heap.objs.size ≠ e := fun q => by rw [q, ee] at f0; cases f0
  have n2 : s.heap.objs.size ≠ it := fun q => by rw [q, ei] at f0; cases f0
  exact h _ tk u _ f0 S.inv.freshL ⟨I1.add (by rw [upd_ne _ _ n1, upd_ne _ _ n2]; exact f0) S.inv.freshN S.inv.freshL ⟨_, ht, ⟨_, rfl⟩⟩, S.gens, S.os⟩
theorem r_owned_enum {elts : List PySem.Expr} {k : Nat} {pos : Pos} {i : Int} {tup : Addr} {v : Value} {Q : Unit → Shared → Prop} (S : St h₀ g os L m H s) (ee : H e = some (enumOutO it i v tup)) (h : ∀ s', St h₀ g os L m (upd H e (enumO it i v)) s' → Q () s') :
    wpAny (model prog w) A (letOwnedTupleGo (.Tuple elts k pos) (.ref e) (.ref tup)) Q E s := by
  obtain ⟨o, ho, rfl⟩ := S.inv.own _ _ ee
  exact wpAny_letOwnedTupleGo_enum ho fun h' he hs => h _ ⟨S.inv.change ee hs.extBut ⟨_, he, rfl⟩, S.gens, S.os⟩
theorem r_end_enum {Q : Option Value → Shared → Prop} (hh : A.handled = none) (S : St h₀ g os L m H s) (ee : H e = some (enumO it i old)) (ei : H it = some (strIterO x t i)) (hx : x.cps[i]? = none) (hi : i ≤ x.cps.size) (h : ∀ s', St h₀ g os L m (del H it) s' → Q none s') : wpAny (model prog w) A (pyNext (.ref e)) Q E s := by
  obtain ⟨o, ho, rfl⟩ := S.inv.own _ _ ee
  have hz : i = x.cps.size := by have := Array.getElem?_eq_none_iff.mp hx; omega
  refine wpAny_pyNext_enum_endD (Draws.strAscii (A := A.in1) hh it x t) ho (by rw [← hz]; exact S.inv.own _ _ ei) fun h' hs => h _ ⟨S.inv.lose ei hs, S.gens, S.os⟩
/-! operations on texts -/
theorem r_tadd {Q : Value → Shared → Prop} (S : St h₀ g os L m H s) (hz : x.length + y.length ≤ 16777216) (h : ∀ t' s', St h₀ g os L m H s' → Q (.str (x ++ y) t') s') : wpAny (model prog w) A (binaryOp .Add (.str x t) (.str y u)) Q E s :=
  PySem.SB.add (fun t' k => h _ _ ⟨S.inv, S.gens, S.os⟩) (by rw [sizeLine_eq]; exact hz)
theorem r_tiadd {Q : Value → Shared → Prop} (S : St h₀ g os L m H s) (hz : x.length + y.length ≤ 16777216) (h : ∀ t' s', St h₀ g os L m H s' → Q (.str (x ++ y) t') s') : wpAny (model prog w) A (inplaceOp .Add (.str x t) (.str y u)) Q E s :=
  PySem.SB.iadd (fun t' k => h _ _ ⟨S.inv, S.gens, S.os⟩) (by rw [sizeLine_eq]; exact hz)
theorem r_tlen {Q : Value → Shared → Prop} (S : St h₀ g os L m H s) (hz : x.length ≤ 16777216) (h : ∀ t' s', St h₀ g os L m H s' → Q (.int x.length t') s') : wpAny (model prog w) A (call (.builtin "len") [.str x t]) Q E s :=
  PySem.P.len_str (by omega) (h _ _ ⟨S.inv, S.gens, S.os⟩)
end

/-! ## `_iter_escaped_chars` -/
/-- what the generator hands out: place and sign of each unit -/
def chopF : Bool → Nat → List Nat → List (Int × Str)
  | esc, i, [] => if esc = true then [((i : Int) - 1, ⟨#[92]⟩)] else []
  | true, i, c :: cs => ((i : Int), ⟨#[92, c]⟩) :: chopF false (i + 1) cs
  | false, i, c :: cs => if c = 92 then chopF true (i + 1) cs else ((i : Int), ⟨#[c]⟩) :: chopF false (i + 1) cs
section
open PySem.W.X
variable {prog : Program} {w : World} {A : Around} {E : Value → Shared → Prop} {s : Shared} {h₀ : Heap} {g : Array GenState} {os : OsState} {L : Addr} {m : Loc} {H : Led} {GL a : Addr} {mg : Loc} {n : Nat}
theorem r_genCall {R : Result → Shared → Prop} {f : Addr} {oc : Value} {od : Option Addr} {osl : Array (Option Value)} {name qual : Str} {params : Arguments} {body : List Stmt} {scope : Scope} {dV kV doc pm : Value} {an : Option Addr} {cdv ct : Value}
    {args : Args} {binds : List (Str × Value)} (B : Bs w h₀) (S : St h₀ g os L m H s)
    (hl : (KK w).lookup f = some ⟨oc, od, .func (fnOf name qual params body scope dV kV doc pm an cdv ct), osl⟩) (hcd : codeIn (KK w) cdv qual = true) (hroom : A.depth < recursionLimit)
    (hbind : BindsTo s (fnOf name qual params body scope dV kV doc pm an cdv ct) args binds) (hcell : ∀ x ∈ scope.names, x.2 ≠ .cell) (hloc : ∀ x ∈ binds, scope.names.lookup x.1 = some .local)
    (hco : scope.isCoroutine = false) (hgen : scope.isGenerator = true) (hk : scope.kind = .function)
    (h : ∀ GL a s', GL ≠ L → H GL = none → a ≠ L → H a = none → a ≠ GL → h₀.objs.size ≤ GL → St h₀ (g.push (.fresh (.func body (envX qual scope GL f cdv [])))) os L m (upd (upd H GL (nsO fun y => binds.reverse.lookup y)) a (genO g.size)) s' → R (.ok (.ret (.ref a))) s') :
    codeAny (model prog w) A (.call (.ref f) args) R s := by
  obtain ⟨p, loose, mg, mb, T⟩ := B.T
  have X := B.X.keeps S.inv.keep
  refine codeAny_call_generator (fd := fnOf name qual params body scope dV kV doc pm an cdv ct) (body := body) hroom (X _ _ hl) rfl hco hgen rfl (codeRec_of X hcd) (hbind _ _ _ _ ?_)
  refine wpAny_newFunctionEnv hcell hloc (fun h₁ hns hsb => ⟨(T.nolimit.keeps S.inv.keep).fresh _ hsb, ?_⟩) hk
  have hk₁ : ∀ b o, s.heap.get? b = some o → h₁.get? b = some o := fun b o e => hsb.extBut b o (Nat.ne_of_lt (Heap.lt_size e)) (Heap.get?_push_of_some _ e)
  have I1 : Inv h₀ L m (upd H s.heap.objs.size (nsO fun y => binds.reverse.lookup y)) h₁ := (S.inv.grow hk₁).add S.inv.fresh S.inv.freshN S.inv.freshL (by
    obtain ⟨o, es, ep, ho, hd, hr⟩ := hns
    exact ⟨o, ho, es, ep, hd, hr⟩)
  have I2 := I1.push (P := genO g.size) { cls := .type "generator", data := .fields #[.int s.gens.size 0, .str name (s.toks + binds.length), .str qual (s.toks + binds.length + 1)] } ⟨_, _, rfl, by rw [S.gens], rfl⟩
  have hz := I1.freshL
  have hf := I1.fresh
  obtain ⟨hz1, hz2⟩ := upd_none hf
  exact h _ _ _ S.inv.freshL S.inv.fresh hz hz2 hz1 S.inv.fresh₀ ⟨I2, by show s.gens.push _ = _; rw [S.gens]; rfl, S.os⟩
def GPost (prog : Program) (w : World) (h₀ : Heap) (GL : Addr) (out : List (Int × Str)) (own : List (Addr × OP)) (g : Array GenState) (os : OsState) (H : Led) : End → Shared → Prop := match out with
  | [] => fun e s' => ∃ H' m', e = .ret (.ok (.ret .none)) ∧ (∀ b P, H b = some P → (∀ p ∈ own, b ≠ p.1) → H' b = some P) ∧ St h₀ g os GL m' H' s'
  | (p, x) :: out => fun e s' => ∃ H' m' own' tup t1 t2, e.result = .yielded (.ref tup) ∧ H' tup = some (tupO [.int p t1, .str x t2]) ∧ (∀ P, H tup = some P → ∃ q ∈ own, tup = q.1) ∧ (∀ b P, H b = some P → (∀ p ∈ own, b ≠ p.1) → H' b = some P) ∧
        Has own' H' ∧ (∀ q ∈ own', (∃ q' ∈ own, q.1 = q'.1) ∨ H q.1 = none) ∧ GenGo prog w h₀ GL out own' m' e.genState ∧ St h₀ g os GL m' H' s'
theorem GenGo.of {out : List (Int × Str)} {own : List (Addr × OP)} {gs : GenState} (h : Wakes0 gs fun c t fs => ∀ A g os H s, A.handled = none → A.depth + 20 < recursionLimit → Has own H → St h₀ g os GL mg H s → SegX (model prog w) A c t fs s (GPost prog w h₀ GL out own g os H)) :
    GenGo prog w h₀ GL out own mg gs := by
  cases out with
  | nil => exact h
  | cons p out => obtain ⟨p, x⟩ := p; exact h
end

section
open PySem.W.X
variable {prog : Program} {w : World} {A : Around} {E : Value → Shared → Prop} {s : Shared} {h₀ : Heap} {g : Array GenState} {os : OsState} {L : Addr} {m : Loc} {H : Led} {x : Str} {t : Tok}
set_option maxHeartbeats 4000000 in
theorem gen_escaped {R : Result → Shared → Prop} (B : Bs w h₀) (S : St h₀ g os L m H s) (hroom : A.depth < recursionLimit) (ha : x.cps.all (· < 128) = true) (hz : x.length ≤ 900)
    (h : ∀ GL a mg gs s', GL ≠ L → H GL = none → a ≠ L → H a = none → a ≠ GL → h₀.objs.size ≤ GL → gs.bare = true → GenGo prog w h₀ GL (chopF false 0 x.cps.toList) [] mg gs → St h₀ (g.push gs) os L m (upd (upd H GL (nsO mg)) a (genO g.size)) s' → R (.ok (.ret (.ref a))) s') :
    codeAny (model prog w) A (.call (.ref 28) ⟨[.str x t], []⟩) R s := by
  refine r_genCall (binds := [(Str.ofString "addr", .str x t)]) B S (by rfl) (by kernel_rfl) hroom (BindsTo.of_eq (by rfl)) (by decide) (locs (by rfl)) rfl rfl rfl ?_
  intro GL a s' h1 h2 h3 h4 h5 ab S'
  refine h GL a _ _ s' h1 h2 h3 h4 h5 ab rfl (GenGo.of (.inl ⟨_, rfl, ?_⟩)) S'
  clear S' h1 h2 h3 h4 h5 h S
  intro A g os H s hh hroom hHas S
  clear hHas
  refine sx_func ?_
  intro Hn
  refine sx_cons (sx_stmt ?_)
  repeat walk_at "py"
  rename_i t0 sa Sa sb Sb
  clear S Sa
  refine sx_cons (sx_stmt ?_)
  repeat walk_at "py"
  rename_i sc Sc
  clear Sb
  refine sx_cons (sx_For ?_ (by intro _; rfl))
  repeat walk_at "py"
  refine r_enum (by assumption) ha ?_
  intro it e s₁ hit hitL he heL hei S₁
  refine r_iter_enum S₁ (upd_same _ _ _) ?_
  intro p
  generalize hout0 : chopF false 0 x.cps.toList = out
  generalize hown : ([] : List (Addr × OP)) = own
  obtain ⟨cs, i, esc, old, H₁, m₁, hcs, hi, hout, hm1, hm2, ke, ki, hkp, ne, ni, no, S₂⟩ : ∃ (cs : List Nat) (i : Nat) (esc : Bool) (old : Value) (H₁ : Led) (m₁ : Loc), x.cps.toList.drop i = cs ∧ i ≤ x.cps.size ∧ chopF esc i cs = out ∧ m₁ (Str.ofString "escape") = some (.bool esc) ∧ (esc = true → ∃ tp, m₁ (Str.ofString "pos") = some (.int ((i : Int) - 1) tp)) ∧
      H₁ e = some (enumO it i old) ∧ H₁ it = some (strIterO x t i) ∧ (∀ b P, H b = some P → (∀ p ∈ own, b ≠ p.1) → H₁ b = some P) ∧ ((∃ q ∈ own, e = q.1) ∨ H e = none) ∧ ((∃ q ∈ own, it = q.1) ∨ H it = none) ∧ (∀ q ∈ own, q.1 = e ∨ q.1 = it) ∧ St h₀ g os GL m₁ H₁ s₁ := by
    refine ⟨_, 0, false, .none, _, _, rfl, Nat.zero_le _, hout0, ?_, (fun q => by cases q), upd_same _ _ _, upd_of (Ne.symm hei) (upd_same _ _ _), ?_, .inr he, .inr hit, (by subst hown; intro q hq; cases hq), S₁⟩
    · walk_at "lk"
    · intro b P hb _; exact upd_of (led_ne he hb) (upd_of (led_ne hit hb) hb)
  clear S₁ he hit hown hout0 Sc
  induction cs generalizing A g os H s₁ own H₁ m₁ i esc old out with
  | nil =>
    have hx : x.cps[i]? = none := by
      have := List.drop_eq_nil_iff.mp hcs
      exact Array.getElem?_eq_none_iff.mpr (by simpa using this)
    refine sx_forLoop ?_
    refine r_end_enum hh S₂ ke ki hx hi ?_
    intro s₃ S₃
    refine s_pop prog w A _ _ _ _ (.ok .next) _ (by rfl) _ _ _ _ _ _ _ ?_
    rw [backK_ok]
    have step : ∀ b P, H b = some P → (∀ p ∈ own, b ≠ p.1) → Mine.del H₁ it b = some P := fun b P hb h1 => (del_ne _ fun q => by
      rcases ni with ⟨q', hq', e'⟩ | e'
      · exact h1 q' hq' (q.trans e')
      · rw [q, e'] at hb; cases hb).trans (hkp b P hb h1)
    cases esc with
    | true =>
      subst hout
      obtain ⟨tq, hm2⟩ := hm2 rfl
      refine sx_cons (sx_If ?_)
      repeat walk_at "py"
      refine sx_cons (sx_Yield rfl rfl rfl ?_)
      repeat walk_at "py"
      rename_i tp s₁₀ htp htpL S₁₀
      intro pp l k hk
      refine ⟨_, _, [], tp, _, _, rfl, upd_same _ _ _, ?_, (fun b P hb h1 => upd_of (led_ne htp (step b P hb h1)) (step b P hb h1)), (fun q hq => by cases hq), (fun q hq => by cases hq), GenGo.of (.inr ⟨k, l, _, pp, _, _, rfl, ?_⟩), S₁₀⟩
      · intro P hP
        by_cases hq : ∃ q ∈ own, tp = q.1
        · exact hq
        · exfalso
          by_cases hti : tp = it
          · rcases ni with ⟨q', hq', e'⟩ | e'
            · exact hq ⟨q', hq', hti.trans e'⟩
            · rw [hti, e'] at hP; cases hP
          · rw [step tp P hP fun q h1 h2 => hq ⟨q, h1, h2⟩] at htp; cases htp
      · intro A' g' os' H' s'' hh' hr' hHas' S'
        refine hk _ _ _ ?_
        refine s_end prog w A' _ _ _ (.ok (.ret .none)) _ (by rfl) ?_
        exact ⟨H', _, rfl, fun b P hb _ => hb, S'⟩
    | false =>
      subst hout
      refine sx_cons (sx_If ?_)
      repeat walk_at "py"
      refine s_end prog w A _ _ _ (.ok (.ret .none)) _ (by rfl) ?_
      exact ⟨_, _, rfl, step, by assumption⟩
  | cons c cs ih =>
    have hx : x.cps[i]? = some c := by
      have := congrArg (·[0]?) hcs
      simpa using this
    have hi' : i + 1 ≤ x.cps.size := by
      have := (Array.getElem?_eq_some_iff.mp hx).1; omega
    have hcs' : x.cps.toList.drop (i + 1) = cs := by rw [← List.drop_drop, hcs]; rfl
    refine sx_forLoop ?_
    refine r_next_enum hh S₂ ke ki hei hx ?_
    intro tup tk u s₃ htup htupL S₃
    have nte : tup ≠ e := fun q => by rw [q, ke] at htup; cases htup
    have nti : tup ≠ it := fun q => by rw [q, ki] at htup; cases htup
    refine r_owned_enum S₃ (upd_of (Ne.symm nte) (upd_same _ _ _)) ?_
    intro s₄ S₄
    refine r_unpack2 hh S₄ (v1 := .int i tk) (v2 := .str ⟨#[c]⟩ u) (upd_of nte (upd_same _ _ _)) (by rfl) ?_
    intro s₅ S₅
    repeat walk_at "py"
    intro Hn'
    have hkp' : ∀ b P, H b = some P → (∀ p ∈ own, b ≠ p.1) → b ≠ e ∧ b ≠ it := fun b P hb h1 => by
      refine ⟨fun q => ?_, fun q => ?_⟩
      · rcases ne with ⟨q', hq', e'⟩ | e'
        · exact h1 q' hq' (q.trans e')
        · rw [q, e'] at hb; cases hb
      · rcases ni with ⟨q', hq', e'⟩ | e'
        · exact h1 q' hq' (q.trans e')
        · rw [q, e'] at hb; cases hb
    rename_i s₆ S₆ s₇ S₇
    clear S₃ S₄ S₅ S₆
    obtain ⟨H₂, k2e, k2i, k2k, k2n, S₈⟩ : ∃ H₂ : Led, H₂ e = some (enumO it ((i + 1 : Nat) : Int) (.str ⟨#[c]⟩ u)) ∧ H₂ it = some (strIterO x t (i + 1)) ∧ (∀ b P, H₁ b = some P → b ≠ e → b ≠ it → H₂ b = some P) ∧ (∀ b, H₂ b = none → H₁ b = none) ∧
        St h₀ g os GL (put (put m₁ (Str.ofString "pos") (.int i tk)) (Str.ofString "ch") (.str ⟨#[c]⟩ u)) H₂ s₇ := by
      refine ⟨_, upd_same _ _ _, ?_, ?_, ?_, S₇⟩
      · exact upd_of (Ne.symm hei) (upd_of (Ne.symm nti) (upd_of (Ne.symm hei) (upd_same _ _ _)))
      · intro b P hb h1 h2; exact upd_of h1 (upd_of (led_ne htup hb) (upd_of h1 (upd_of h2 hb)))
      · intro b hb
        simp only [upd_none_iff] at hb
        exact hb.2.2.2.2
    clear S₇
    have hcs0 : H₂ e ≠ none := by rw [k2e]; simp
    have step : ∀ b P, H b = some P → (∀ p ∈ own, b ≠ p.1) → H₂ b = some P := fun b P hb h1 => k2k b P (hkp b P hb h1) (hkp' b P hb h1).1 (hkp' b P hb h1).2
    have nH : ∀ b, H₂ b = none → (∀ q ∈ own, b ≠ q.1) → H b = none := fun b hb h1 => by
      cases q : H b with
      | none => rfl
      | some P => rw [step b P q h1] at hb; cases hb
    have nT : ∀ b, H₂ b = none → H b = none := fun b hb => nH b hb fun q hq r => by
      rcases no q hq with z | z
      · rw [r, z, k2e] at hb; cases hb
      · rw [r, z, k2i] at hb; cases hb
    cases esc with
    | true =>
      subst hout
      refine sx_cons (sx_If ?_)
      repeat walk_at "py"
      refine sx_cons (sx_Yield rfl rfl rfl ?_)
      repeat walk_at "py"
      refine r_tadd (by assumption) (by show 1 + 1 ≤ _; omega) ?_
      intro t₈ s₉ S₉
      repeat walk_at "py"
      rename_i tp s₁₀ htp htpL S₁₀
      intro pp l k hk
      refine ⟨_, _, [(e, enumO it ((i + 1 : Nat) : Int) (.str ⟨#[c]⟩ u)), (it, strIterO x t (i + 1))], tp, _, _, rfl, upd_same _ _ _, (fun P q => by rw [nT tp htp] at q; cases q), (fun b P hb h1 => upd_of (led_ne htp (step b P hb h1)) (step b P hb h1)), ?_, ?_, GenGo.of (.inr ⟨k, l, _, pp, _, _, rfl, ?_⟩), S₁₀⟩
      · intro q hq
        rcases List.mem_cons.mp hq with rfl | hq
        · exact upd_of (led_ne htp k2e) k2e
        · rcases List.mem_cons.mp hq with rfl | hq
          · exact upd_of (led_ne htp k2i) k2i
          · cases hq
      · intro q hq
        rcases List.mem_cons.mp hq with rfl | hq
        · exact ne.imp (fun ⟨q, h1, h2⟩ => ⟨q, h1, h2⟩) id
        · rcases List.mem_cons.mp hq with rfl | hq
          · exact ni.imp (fun ⟨q, h1, h2⟩ => ⟨q, h1, h2⟩) id
          · cases hq
      · intro A' g' os' H' s'' hh' hr' hHas' S'
        refine hk _ _ _ ?_
        refine sx_cons (sx_stmt ?_)
        repeat walk_at "py"
        refine s_again prog w A' _ _ _ _ _ rfl ?_
        refine ih (A := A') (g := g') (os := os') (H := H') (hh := hh') (hroom := hr') (i := i + 1) (esc := false) (H₁ := H') (hcs := hcs') (hi := hi') (hout := rfl) (hm1 := ?_) (hm2 := fun q => by cases q) (ke := hHas' _ (.head _)) (ki := hHas' _ (.tail _ (.head _))) (hkp := fun b P hb _ => hb) (ne := .inl ⟨_, .head _, rfl⟩) (ni := .inl ⟨_, .tail _ (.head _), rfl⟩) (no := by
          intro q hq
          rcases List.mem_cons.mp hq with rfl | hq
          · exact .inl rfl
          · rcases List.mem_cons.mp hq with rfl | hq
            · exact .inr rfl
            · cases hq) (S₂ := by assumption)
        walk_at "lk"
    | false =>
      by_cases h92 : c = 92
      · rw [show chopF false i (c :: cs) = chopF true (i + 1) cs from by show (if c = 92 then _ else _) = _; rw [if_pos h92]] at hout
        refine sx_cons (sx_If ?_)
        repeat walk_at "py"
        refine sx_cons (sx_If ?_)
        repeat walk_at "py"
        refine PySem.P.eq_str ?_
        rw [show ((⟨#[c]⟩ : Str).cps.toList == (Str.ofString "\\").cps.toList) = true from by rw [h92]; rfl]
        repeat walk_at "py"
        refine sx_cons (sx_stmt ?_)
        repeat walk_at "py"
        refine s_again prog w A _ _ _ _ _ rfl ?_
        refine ih (A := A) (g := g) (os := os) (H := H) (hh := hh) (hroom := hroom) (own := own) (i := i + 1) (esc := true) (H₁ := H₂) (hcs := hcs') (hi := hi') (hout := hout) (hm1 := ?_) (hm2 := fun _ => ⟨tk, ?_⟩) (ke := k2e) (ki := k2i) (hkp := step) (ne := ne) (ni := ni) (no := no) (S₂ := by assumption)
        · walk_at "lk"
        rw [show (((i + 1 : Nat) : Int) - 1) = i from by omega]
        walk_at "lk"
      · rw [show chopF false i (c :: cs) = ((i : Int), ⟨#[c]⟩) :: chopF false (i + 1) cs from by show (if c = 92 then _ else _) = _; rw [if_neg h92]] at hout
        subst hout
        refine sx_cons (sx_If ?_)
        repeat walk_at "py"
        refine sx_cons (sx_If ?_)
        repeat walk_at "py"
        refine PySem.P.eq_str ?_
        rw [show ((⟨#[c]⟩ : Str).cps.toList == (Str.ofString "\\").cps.toList) = false from by
          show ([c] == [92]) = false
          simpa using h92]
        repeat walk_at "py"
        refine sx_cons (sx_Yield rfl rfl rfl ?_)
        repeat walk_at "py"
        rename_i tp s₁₀ htp htpL S₁₀
        intro pp l k hk
        refine ⟨_, _, [(e, enumO it ((i + 1 : Nat) : Int) (.str ⟨#[c]⟩ u)), (it, strIterO x t (i + 1))], tp, _, _, rfl, upd_same _ _ _, (fun P q => by rw [nT tp htp] at q; cases q), (fun b P hb h1 => upd_of (led_ne htp (step b P hb h1)) (step b P hb h1)), ?_, ?_, GenGo.of (.inr ⟨k, l, _, pp, _, _, rfl, ?_⟩), S₁₀⟩
        · intro q hq
          rcases List.mem_cons.mp hq with rfl | hq
          · exact upd_of (led_ne htp k2e) k2e
          · rcases List.mem_cons.mp hq with rfl | hq
            · exact upd_of (led_ne htp k2i) k2i
            · cases hq
        · intro q hq
          rcases List.mem_cons.mp hq with rfl | hq
          · exact ne.imp (fun ⟨q, h1, h2⟩ => ⟨q, h1, h2⟩) id
          · rcases List.mem_cons.mp hq with rfl | hq
            · exact ni.imp (fun ⟨q, h1, h2⟩ => ⟨q, h1, h2⟩) id
            · cases hq
        · intro A' g' os' H' s'' hh' hr' hHas' S'
          refine hk _ _ _ ?_
          refine s_again prog w A' _ _ _ _ _ rfl ?_
          exact ih (A := A') (g := g') (os := os') (H := H') (hh := hh') (hroom := hr') (i := i + 1) (esc := false) (H₁ := H') (hcs := hcs') (hi := hi') (hout := rfl) (hm1 := by walk_at "lk") (hm2 := fun q => by cases q) (ke := hHas' _ (.head _)) (ki := hHas' _ (.tail _ (.head _))) (hkp := fun b P hb _ => hb) (ne := .inl ⟨_, .head _, rfl⟩) (ni := .inl ⟨_, .tail _ (.head _), rfl⟩) (no := by
            intro q hq
            rcases List.mem_cons.mp hq with rfl | hq
            · exact .inl rfl
            · rcases List.mem_cons.mp hq with rfl | hq
              · exact .inr rfl
              · cases hq) (S₂ := S')
end

/-! ## More on texts and lists of texts -/
def cut (x : Str) (a b : Nat) : Str := ⟨((x.cps.toList.drop a).take (b - a)).toArray⟩
section
variable {prog : Program} {w : World} {A : Around} {E : Value → Shared → Prop} {s : Shared} {env : Env}
theorem setItem_last {l : Addr} {items : Array Value} {t : Tok} {v : Value} {Q : Unit → Shared → Prop} (hl : s.heap.IsList l items) (hn : 0 < items.size)
    (hQ : Q () { s with heap := s.heap.update l (Obj.mapSeq (·.setIfInBounds (items.size - 1) v)) }) : wpAny (model prog w) A (setItem (.ref l) (.int (-1) t) v) Q E s := by
  obtain ⟨o, ho, hc, ne, hd⟩ := id hl
  unfold setItem
  try with_reducible refine wpAny_holding ?_
  first | refine wpAny_bind (wpAny_pure ?_) | skip
  refine wpAny_bind (wpAny_sequenceKey hl.typeIs (by decide) ?_)
  refine wpAny_bind (wpAny_callSpecial?_slot (name := Str.ofString "__setitem__") hl.typeIs slot_list_setitem
    (wpAny_call_entry slot_list_setitem hl.typeIs entry_list_setitem ?_ (args_list_setitem _ _ _)))
  show wpAny _ _ (Builtin.List.listSubscript? (.int (-1) t) >>= _) _ _ s
  refine wpAny_bind (wpAny_listSubscript_int (fitsIndex_neg (by decide) (by decide)) ?_)
  have hidx := seqIndex_neg (k := -1) (n := items.size) (by decide) (by omega)
  have hj : (-1 + (items.size : Int)).toNat = items.size - 1 := by omega
  rw [hj] at hidx
  have hx : items[items.size - 1]? = some (items[items.size - 1]'(by omega)) := Array.getElem?_eq_getElem (by omega)
  show wpAny _ _ ((Builtin.List.listItems (.ref l) >>= fun xs => pure ((seqIndex? (-1) xs.size).bind fun i => xs[i]?.map (i, ·))) >>= _) _ _ s
  refine wpAny_bind (wpAny_bind ?_)
  show wpAny _ _ (seqItems? (.ref l) >>= _) _ _ s
  refine wpAny_bind (wpAny_seqItems ho hd (wpAny_pure (wpAny_pure ?_)))
  rw [hidx]
  simp only [Option.bind_some, hx, Option.map_some]
  refine wpAny_bind (wpAny_setSeqItemAt ho hd ?_)
  first
    | exact wpAny_bind (wpAny_pure (wpAny_pure ⟨.none, rfl, wpAny_pure hQ⟩))
    | exact wpAny_pure ⟨.none, rfl, wpAny_pure hQ⟩
end
section
variable {prog : Program} {w : World} {A : Around} {E : Value → Shared → Prop} {s : Shared} {h₀ : Heap} {g : Array GenState} {os : OsState} {L a : Addr} {m : Loc} {H : Led} {x y : Str} {t u : Tok} {vs : List Value} {ys : List Str} {env : Env} {v v0 : Value}
theorem r_getlast {Q : Value → Shared → Prop} (S : St h₀ g os L m H s) (e : H a = some (listO (vs ++ [v]))) (h : Q v s) : wpAny (model prog w) A (getItem (.ref a) (.int (-1) t)) Q E s := by
  have hl := S.isList e
  refine wpAny_getItem_list_neg hl (by decide) (by simp; omega) (by decide) ?_ h
  have e1 : (-1 + ((vs ++ [v]).toArray.size : Int)).toNat = vs.length := by simp; omega
  rw [e1]
  simp
theorem r_join {Q : Value → Shared → Prop} (S : St h₀ g os L m H s) (e : H a = some (listO vs)) (hi : StrsAre vs ys) (hsep : x.length ≤ 16) (hw : (ys.map (·.length)).sum + ys.length ≤ 1048576) (h : ∀ t' s', St h₀ g os L m H s' → Q (.str (Txt.join x ys) t') s') :
    wpAny (model prog w) A (call (.builtin "str.join") [.str x t, .ref a]) Q E s := join_listW (S.isList e) hi hsep hw fun _ _ => h _ _ ⟨S.inv, S.gens, S.os⟩
theorem r_lin {Q : Value → Shared → Prop} (S : St h₀ g os L m H s) (e : H a = some (listO vs)) (hi : StrsAre vs ys) (h : Q (.bool (ys.any (· == x))) s) : wpAny (model prog w) A (compareOp .In (.str x t) (.ref a)) Q E s := in_list_strs (S.isList e) hi h
theorem count_strs (hi : StrsAre vs ys) : vs.countP (isStrOf y) = ys.countP (· == y) := by
  induction hi with
  | nil => rfl
  | cons n t _ ih => simp only [List.countP_cons, isStrOf, ih]; rfl
theorem r_lcount {Q : Value → Shared → Prop} (S : St h₀ g os L m H s) (e : H a = some (listO vs)) (hi : StrsAre vs ys) (h : ∀ t' s', St h₀ g os L m H s' → Q (.int ((ys.countP (· == y) : Nat) : Int) t') s') : wpAny (model prog w) A (call (.builtin "list.count") [.ref a, .str y u]) Q E s := by
  obtain ⟨o, ho, n, rfl⟩ := S.inv.own _ _ e
  refine call_meets PySem.F.slot_list_count ⟨_, ho, rfl⟩ PySem.F.entry_list_count (PySem.F.args_list_count_2 _ _) (MeetsSeq.list_count a vs.toArray n (.str y u) (isStrOf y) fun z hz => eq_isStrOf y u hi z (by simpa using hz)) ⟨ho, ?_⟩
  rw [show vs.toArray.toList = vs from rfl, count_strs hi]
  exact h _ _ ⟨S.inv, S.gens, S.os⟩
def TSliceGo (Q : Value → Shared → Prop) (o vl vu : Value) (s₃ : Shared) : Prop := ∃ x t l u, o = .str x t ∧ vl = partValue l ∧ vu = partValue u ∧
        (sliceMade x t l u none).post Q { s₃ with heap := s₃.heap.push { cls := .type "slice", data := .fields #[vl, vu, .none] } }
theorem r_tslice {value : PySem.Expr} {lower upper : Option PySem.Expr} {p pos : Pos} {Q : Value → Shared → Prop}
    (h : wpAny (model prog w) A (eval value env) (fun o s₁ => wpAny (model prog w) A (evalPart lower env) (fun vl s₂ => wpAny (model prog w) A (evalPart upper env) (fun vu s₃ => TSliceGo Q o vl vu s₃) E s₂) E s₁) E s)
    (ht : ∀ o r, letTemporaryGo value o r = pure ()) : wpAny (model prog w) A (eval (.Subscript value (.Slice lower upper none p) pos) env) Q E s := wpAny_Subscript_str_slice h ht
theorem r_tslice_ss {i j : Int} {ui uj : Tok} {Q : Value → Shared → Prop} (S : St h₀ g os L m H s) (h0 : 0 ≤ i) (h1 : i ≤ j) (h2 : j ≤ x.length) (hz : x.length ≤ 16777216) (h : ∀ t' s', St h₀ g os L m H s' → Q (.str (cut x i.toNat j.toNat) t') s') : TSliceGo Q (.str x t) (.int i ui) (.int j uj) s := by
  refine ⟨x, t, some (i, ui), some (j, uj), rfl, rfl, rfl, post_val_or_str ⟨Nat.le_trans (Txt.slice_le x (some i) (some j)) (by rw [sizeLine_eq]; exact hz), fun t' k => ?_⟩⟩
  have e := eq_of_beq (slice_closesL (x := x) h0 h1 h2)
  show Q (.str (Txt.slice x (some i) (some j)) t') _
  rw [e, show (j - i).toNat = j.toNat - i.toNat from by omega]
  exact h _ _ ⟨S.inv.grow fun _ _ q => Heap.get?_push_of_some _ q, S.gens, S.os⟩
theorem r_tslice_sn {i : Int} {ui : Tok} {Q : Value → Shared → Prop} (S : St h₀ g os L m H s) (h0 : 0 ≤ i) (h2 : i ≤ x.length) (hz : x.length ≤ 16777216) (h : ∀ t' s', St h₀ g os L m H s' → Q (.str (cut x i.toNat x.length) t') s') : TSliceGo Q (.str x t) (.int i ui) .none s := by
  refine ⟨x, t, some (i, ui), none, rfl, rfl, rfl, post_val_or_str ⟨Nat.le_trans (Txt.slice_le x (some i) none) (by rw [sizeLine_eq]; exact hz), fun t' k => ?_⟩⟩
  have e := eq_of_beq (slice_closes_fromL (x := x) (b := x.length) h0 h2 rfl)
  show Q (.str (Txt.slice x (some i) none) t') _
  rw [e, show ((x.length : Int) - i).toNat = x.length - i.toNat from by omega]
  exact h _ _ ⟨S.inv.grow fun _ _ q => Heap.get?_push_of_some _ q, S.gens, S.os⟩
theorem r_tslice_ns {j : Int} {uj : Tok} {Q : Value → Shared → Prop} (S : St h₀ g os L m H s) (h0 : 0 ≤ j) (h2 : j ≤ x.length) (hz : x.length ≤ 16777216) (h : ∀ t' s', St h₀ g os L m H s' → Q (.str (cut x 0 j.toNat) t') s') : TSliceGo Q (.str x t) .none (.int j uj) s := by
  refine ⟨x, t, none, some (j, uj), rfl, rfl, rfl, post_val_or_str ⟨Nat.le_trans (Txt.slice_le x none (some j)) (by rw [sizeLine_eq]; exact hz), fun t' k => ?_⟩⟩
  have e := eq_of_beq (slice_closes_toL (x := x) h0 h2)
  show Q (.str (Txt.slice x none (some j)) t') _
  rw [e, show (j - 0).toNat = j.toNat - 0 from by omega]
  exact h _ _ ⟨S.inv.grow fun _ _ q => Heap.get?_push_of_some _ q, S.gens, S.os⟩
theorem r_setlast {Q : Unit → Shared → Prop} (S : St h₀ g os L m H s) (e : H a = some (listO (vs ++ [v0]))) (h : ∀ s', St h₀ g os L m (upd H a (listO (vs ++ [v]))) s' → Q () s') : wpAny (model prog w) A (setItem (.ref a) (.int (-1) t) v) Q E s := by
  obtain ⟨o, ho, n, rfl⟩ := S.inv.own _ _ e
  refine setItem_last (S.isList e) (by simp) (h _ ⟨S.inv.change e (Heap.SameBut.update ..).extBut ⟨_, Heap.get?_update_self _ ho (by rfl), ?_⟩, S.gens, S.os⟩)
  have e1 : (vs ++ [v0]).toArray.setIfInBounds ((vs ++ [v0]).toArray.size - 1) v = (vs ++ [v]).toArray := by
    apply Array.ext'
    simp
  show ∃ n', Obj.mapSeq _ (W.listOf (vs ++ [v0]).toArray n) = W.listOf (vs ++ [v]).toArray n'
  unfold Obj.mapSeq W.listOf
  dsimp only
  rw [e1]
  exact ⟨_, rfl⟩
end
local macro_rules | `(tactic| walk_at "tx") => `(tactic| first
  | ((with_reducible refine' r_tslice ?_ ?ht); (case ht => (intro _ _; rfl)))
  | ((with_reducible show wpAny _ _ (getMethod (Value.str _ _) (Str.ofString "join") _) _ _ _); refine PySem.GM.join ?_)
  | ((with_reducible show wpAny _ _ (getMethod (Value.str _ _) (Str.ofString "count") _) _ _ _); refine PySem.GM.count ?_)
  | ((with_reducible show wpAny _ _ (getMethod (Value.str _ _) (Str.ofString "replace") _) _ _ _); refine PySem.GM.replace ?_)
  | ((with_reducible show wpAny _ _ (getMethod (Value.ref _) (Str.ofString "count") _) _ _ _); refine' r_getMethod_list ?S ?e PySem.F.slot_list_count PySem.F.type_list_count ?_; (case S => assumption); (case e => walk_at "H"))
  | ((with_reducible refine' r_tlen ?S ?hz ?_); (case S => assumption); (case hz => omega); intro _ _ _)
  | with_reducible refine PySem.P.eq_str ?_
  | with_reducible refine PySem.SB.notContains ?_
  | walk_at "py")

/-! ## `_check_parenthesis`, `_strip_quoted_realnames` -/
def stripLoop (x : Str) : List (Int × Str) → Int → Option Int → List Str → Option Int × Int × List Str
  | [], st, op, r => (op, st, r)
  | (p, ch) :: us, st, op, r => if ch.cps.toList == [34] then (match op with
      | none => stripLoop x us st (some p) r
      | some o => stripLoop x us (p + 1) none (if (st != o) = true then r ++ [cut x st.toNat o.toNat] else r)) else stripLoop x us st op r
def stripF (x : Str) : Str :=
  if Txt.contains x (Str.ofString "\"") = true then
    let z := stripLoop x (chopF false 0 x.cps.toList) 0 none []
    Txt.join (Str.ofString "") (if z.2.1 < x.length then z.2.2 ++ [cut x z.2.1.toNat x.length] else z.2.2)
  else x
def checkLoop : List (Int × Str) → Int → Bool
  | [], o => o == 0
  | (_, ch) :: us, o => if ch.cps.toList == [40] then checkLoop us (o + 1) else if ch.cps.toList == [41] then (if o - 1 < 0 then false else checkLoop us (o - 1)) else checkLoop us o
section
variable {prog : Program} {w : World} {A : Around} {E : Value → Shared → Prop} {s : Shared} {h₀ : Heap} {g : Array GenState} {os : OsState} {L : Addr} {m : Loc} {H : Led} {x : Str} {t : Tok}
theorem r_owned_gen {elts : List PySem.Expr} {k : Nat} {pos : Pos} {a : Addr} {n : Nat} {v : Value} {Q : Unit → Shared → Prop} (S : St h₀ g os L m H s) (e : H a = some (genO n)) (h : Q () s) : wpAny (model prog w) A (letOwnedTupleGo (.Tuple elts k pos) (.ref a) v) Q E s := by
  obtain ⟨o, ho, nm, qn, hc, hd, hsl⟩ := S.inv.own _ _ e
  cases v with
  | ref b =>
    unfold letOwnedTupleGo
    refine wpAny_bind (wpAny_load ho ?_)
    rw [hc, hd]
    exact wpAny_pure h
  | _ => exact wpAny_pure h

set_option maxHeartbeats 4000000 in
theorem check_parenthesis {R : Result → Shared → Prop} (B : Bs w h₀) (S : St h₀ g os L m H s) (hroom : A.depth + 60 < recursionLimit) (hh : A.handled = none) (ha : x.cps.all (· < 128) = true) (hz : x.length ≤ 900)
    (ha' : (stripF x).cps.all (· < 128) = true) (hz' : (stripF x).length ≤ 900)
    (hs : ∀ {A : Around} {s : Shared} {g : Array GenState} {L : Addr} {m : Loc} {H : Led} {t : Tok} {R : Result → Shared → Prop}, St h₀ g os L m H s → A.depth + 40 < recursionLimit → A.handled = none → (∀ g' H' t' s', (Bare g → Bare g') → Sub H H' → St h₀ g' os L m H' s' → R (.ok (.ret (.str (stripF x) t'))) s') → codeAny (model prog w) A (.call (.ref 35) ⟨[.str x t], []⟩) R s)
    (h : ∀ g' H' s', (Bare g → Bare g') → Sub H H' → St h₀ g' os L m H' s' → R (.ok (.ret (.bool (checkLoop (chopF false 0 (stripF x).cps.toList) 0)))) s') :
    codeAny (model prog w) A (.call (.ref 42) ⟨[.str x t], []⟩) R s := by
  refine r_callC (binds := [(Str.ofString "addr", .str x t)]) B S (by rfl) (by kernel_rfl) (by omega) (BindsTo.of_eq (by rfl)) (by decide) (locs (by rfl)) rfl rfl rfl ?_
  intro L' oL' s₁ hL' hLn S₁ back
  have hLo := S.inv.out
  repeat walk_at "tx"
  refine r_call (hs (by assumption) (by simp only [depth_deeper]; omega) hh ?_)
  intro g₁ H₁ t₁ s₂ hb₁ hk₁ S₂
  show wpAny _ _ _ _ _ _
  repeat walk_at "tx"
  rename_i s₃ S₃ t₃ s₄ S₄ s₅ S₅
  clear S₂ S₃ S₄
  refine r_call (gen_escaped B S₅ (by simp only [depth_deeper]; omega) ha' hz' ?_)
  intro GL a mg gs s₆ q1 q2 q3 q4 q5 ab hbr G S₆
  show wpAny _ _ _ _ _ _
  refine r_iter_gen S₆ (upd_same _ _ _) ?_
  obtain ⟨out, own, o, g₂, H₂, m₂, mg, gs, to, hout, hgs, hbare, kG, ka, hown, hoGL, hown', hkeep, hm, GG, S₇⟩ : ∃ (out : List (Int × Str)) (own : List (Addr × OP)) (o : Int) (g₂ : Array GenState) (H₂ : Led) (m₂ mg : Loc) (gs : GenState) (to : Tok),
      checkLoop (chopF false 0 (stripF x).cps.toList) 0 = checkLoop out o ∧ g₂[g₁.size]? = some gs ∧ (Bare g₁ → Bare g₂) ∧ H₂ GL = some (nsO mg) ∧ H₂ a = some (genO g₁.size) ∧ Has own H₂ ∧ (∀ q ∈ own, q.1 ≠ GL) ∧ (∀ q ∈ own, H₁ q.1 = none ∧ q.1 ≠ a) ∧ Sub H₁ H₂ ∧ m₂ (Str.ofString "opens") = some (.int o to) ∧
      GenGo prog w h₀ GL out own mg gs ∧ St h₀ g₂ os L' m₂ H₂ s₆ := by
    refine ⟨_, [], 0, _, _, _, _, _, t₃, rfl, ?_, ?_, upd_of (Ne.symm q5) (upd_same _ _ _), upd_same _ _ _, (fun q hq => by cases hq), (fun q hq => by cases hq), (fun q hq => by cases hq), ?_, ?_, G, S₆⟩
    · simp
    · intro hb y hy
      rcases Array.mem_push.mp hy with hy | rfl
      · exact hb y hy
      · exact hbr
    · intro b P hb; exact upd_of (led_ne q4 hb) (upd_of (led_ne q2 hb) hb)
    · walk_at "lk"
  rw [hout] at h
  clear S₅ S₆ G hbr hout
  induction out generalizing own o g₂ H₂ m₂ mg gs to s₆ with
  | nil =>
    refine r_for1 ?_
    refine r_end_gen B hh (by simp only [depth_deeper]; omega) S₇ ka hgs kG ab hown hoGL GG ?_
    intro g₃ H₃ s₇ hb₃ hk₃ S₈
    repeat walk_at "tx"
    have hka : ∀ b P, H₁ b = some P → H₃ b = some P := fun b P hb => hk₃ b P (hkeep b P hb) (led_ne q2 hb) fun q hq e => by
      have := (hown' q hq).1
      rw [← e, hb] at this; cases this
    refine h _ _ _ (fun hb => hb₃ (hbare (hb₁ hb))) ?_ (back _ _ _ _ (by assumption) (hka _ _ (hk₁ _ _ (upd_same _ _ _))))
    intro b P hb
    have hbL : b ≠ L := fun q => by rw [q, hLo] at hb; cases hb
    exact (del_ne _ hbL).trans (hka _ _ (hk₁ _ _ (upd_of hbL hb)))
  | cons p out ih =>
    obtain ⟨p, ch⟩ := p
    refine r_for1 ?_
    refine r_next_gen B hh (by simp only [depth_deeper]; omega) S₇ ka hgs kG ab hown hoGL GG ?_
    intro g₃ H₃ m₃ own₃ gs₃ tup t1 t2 s₇ hgs₃ hb₃ htup kG₃ hk₃ hown₃ hoGL₃ hfr₃ GG₃ S₈
    have hka : ∀ b P, H₁ b = some P → H₃ b = some P := fun b P hb => hk₃ b P (hkeep b P hb) (led_ne q2 hb) fun q hq e => by
      have := (hown' q hq).1
      rw [← e, hb] at this; cases this
    have ka₃ := hk₃ a _ ka q5 fun q hq e => (hown' q hq).2 e.symm
    have hown₃' : ∀ q ∈ own₃, H₁ q.1 = none ∧ q.1 ≠ a := fun q hq => by
      rcases hfr₃ q hq with ⟨q', hq', e⟩ | e
      · rw [e]; exact hown' q' hq'
      · refine ⟨?_, fun z => ?_⟩
        · cases w : H₁ q.1 with
          | none => rfl
          | some P => rw [hkeep _ _ w] at e; cases e
        · rw [z, ka] at e; cases e
    refine r_owned_gen S₈ ka₃ ?_
    refine r_unpack2 hh S₈ (v1 := .int p t1) (v2 := .str ch t2) htup (by rfl) ?_
    intro s₈ S₉
    repeat walk_at "tx"
    by_cases hc : (ch.cps.toList == [40]) = true
    · rw [if_pos (show (ch.cps.toList == (Str.ofString "(").cps.toList) = true from hc)]
      have hst : checkLoop ((p, ch) :: out) o = checkLoop out (o + 1) := by show (if _ then _ else _) = _; rw [if_pos hc]
      rw [hst] at h
      repeat walk_at "tx"
      refine' ih (S₇ := by assumption) (to := ?to0) (h := h) (hgs := hgs₃) (hbare := fun hb => hb₃ (hbare hb)) (kG := kG₃) (ka := ka₃) (hown := hown₃) (hoGL := hoGL₃) (hown' := hown₃') (hkeep := hka) (hm := ?hm0) (GG := GG₃)
      (case hm0 => walk_at "lk")
    · rw [if_neg (show ¬ (ch.cps.toList == (Str.ofString "(").cps.toList) = true from hc)]
      repeat walk_at "tx"
      by_cases hc2 : (ch.cps.toList == [41]) = true
      · rw [if_pos (show (ch.cps.toList == (Str.ofString ")").cps.toList) = true from hc2)]
        repeat walk_at "tx"
        by_cases hc3 : o - 1 < 0
        · have hst : checkLoop ((p, ch) :: out) o = false := by show (if _ then _ else _) = _; rw [if_neg hc, if_pos hc2, if_pos hc3]
          rw [hst] at h
          rw [if_pos (by simpa using hc3)]
          repeat walk_at "tx"
          refine h _ _ _ (fun hb => hb₃ (hbare (hb₁ hb))) ?_ (back _ _ _ _ (by assumption) (hka _ _ (hk₁ _ _ (upd_same _ _ _))))
          intro b P hb
          have hbL : b ≠ L := fun q => by rw [q, hLo] at hb; cases hb
          exact (del_ne _ hbL).trans (hka _ _ (hk₁ _ _ (upd_of hbL hb)))
        · have hst : checkLoop ((p, ch) :: out) o = checkLoop out (o - 1) := by show (if _ then _ else _) = _; rw [if_neg hc, if_pos hc2, if_neg hc3]
          rw [hst] at h
          rw [if_neg (by simpa using hc3)]
          repeat walk_at "tx"
          refine' ih (S₇ := by assumption) (to := ?to1) (h := h) (hgs := hgs₃) (hbare := fun hb => hb₃ (hbare hb)) (kG := kG₃) (ka := ka₃) (hown := hown₃) (hoGL := hoGL₃) (hown' := hown₃') (hkeep := hka) (hm := ?hm1) (GG := GG₃)
          (case hm1 => walk_at "lk")
      · rw [if_neg (show ¬ (ch.cps.toList == (Str.ofString ")").cps.toList) = true from hc2)]
        have hst : checkLoop ((p, ch) :: out) o = checkLoop out o := by show (if _ then _ else _) = _; rw [if_neg hc, if_neg hc2]
        rw [hst] at h
        repeat walk_at "tx"
        refine' ih (S₇ := by assumption) (to := ?to2) (h := h) (hgs := hgs₃) (hbare := fun hb => hb₃ (hbare hb)) (kG := kG₃) (ka := ka₃) (hown := hown₃) (hoGL := hoGL₃) (hown' := hown₃') (hkeep := hka) (hm := ?hm2) (GG := GG₃)
        (case hm2 => walk_at "lk")
end

def Up : Int → Int → List (Int × Str) → Prop
  | _, _, [] => True
  | lo, n, (p, _) :: us => lo ≤ p ∧ p < n ∧ Up (p + 1) n us
theorem Up.mono {n : Int} : ∀ {us : List (Int × Str)} {lo lo' : Int}, Up lo n us → lo' ≤ lo → Up lo' n us
  | [], _, _, _, _ => trivial
  | (p, _) :: us, _, _, h, hl => ⟨Int.le_trans hl h.1, h.2⟩
theorem chop_up (n : Nat) : ∀ (cs : List Nat) (i : Nat), i + cs.length = n → Up i n (chopF false i cs) ∧ (1 ≤ i → Up ((i : Int) - 1) n (chopF true i cs))
  | [], i, h => ⟨trivial, fun h1 => ⟨Int.le_refl _, by simp at h; omega, trivial⟩⟩
  | c :: cs, i, h => by
    have ih := chop_up n cs (i + 1) (by simp at h; omega)
    have hlt : (i : Int) < n := by simp at h; omega
    refine ⟨?_, fun h1 => ⟨by omega, hlt, ?_⟩⟩
    · show Up i n (if c = 92 then chopF true (i + 1) cs else ((i : Int), ⟨#[c]⟩) :: chopF false (i + 1) cs)
      by_cases hc : c = 92
      · rw [if_pos hc]
        have := ih.2 (by omega)
        rwa [show (((i + 1 : Nat) : Int) - 1) = i from by omega] at this
      · rw [if_neg hc]
        exact ⟨Int.le_refl _, hlt, by have := ih.1; rwa [show ((i + 1 : Nat) : Int) = (i : Int) + 1 from by omega] at this⟩
    · have := ih.1
      rwa [show ((i + 1 : Nat) : Int) = (i : Int) + 1 from by omega] at this
theorem chop_len : ∀ (cs : List Nat) (i : Nat), (chopF false i cs).length ≤ cs.length ∧ (chopF true i cs).length ≤ cs.length + 1
  | [], i => ⟨Nat.le_refl _, Nat.le_refl _⟩
  | c :: cs, i => by
    have ih := chop_len cs (i + 1)
    refine ⟨?_, ?_⟩
    · show (if c = 92 then chopF true (i + 1) cs else ((i : Int), ⟨#[c]⟩) :: chopF false (i + 1) cs).length ≤ _
      by_cases hc : c = 92
      · rw [if_pos hc]; simp only [List.length_cons]; omega
      · rw [if_neg hc]; simp only [List.length_cons]; omega
    · show (((i : Int), (⟨#[92, c]⟩ : Str)) :: chopF false (i + 1) cs).length ≤ _
      simp only [List.length_cons]; omega
theorem cut_len (x : Str) (a b : Nat) : (cut x a b).length ≤ x.length := by
  unfold cut Str.length
  simp
  omega
def opV (tk : Tok) : Option Int → Value
  | none => .none
  | some o => .int o tk
theorem sum_len_le {ys : List Str} {N : Nat} (h : ∀ y ∈ ys, y.length ≤ N) : (ys.map (·.length)).sum ≤ ys.length * N := by
  induction ys with
  | nil => simp
  | cons y ys ih =>
    have h1 := h y (.head _)
    have h2 := ih fun z hz => h z (.tail _ hz)
    simp only [List.map_cons, List.sum_cons, List.length_cons]
    rw [Nat.succ_mul]
    omega

/-! ## Tokens are never handed back -/
theorem runs_toks {M : Model} {Γ : Ctx} {p : Pos} {t : Sem Fin} {fs : List Frame} {s s' : Shared} {e : End} (h : Runs M Γ p t fs s e s') : s.toks ≤ s'.toks := by
  induction h <;> first
    | exact Nat.le_refl _
    | assumption
    | (rename_i ih; exact Nat.le_trans (Nat.le_succ _) ih)
    | (rename_i ih; exact ih)
    | (rename_i ih1 ih2; exact Nat.le_trans ih1 ih2)
    | (rename_i ih1 _ _ ih2; exact Nat.le_trans ih1 ih2)
theorem wakes_toks {M : Model} {Γ : Ctx} {p : Pos} {g : Nat} {r : Resume} {s s' : Shared} {res : GenResult} (h : Wakes M Γ p g r s res s') : s.toks ≤ s'.toks := by
  unfold Wakes at h
  split at h
  · exact h.elim
  · split at h
    · obtain ⟨e₁, s₁, hr, _, _, rfl⟩ := h; have z := runs_toks hr; exact z
    · obtain ⟨_, rfl⟩ := h; exact Nat.le_refl _
    · obtain ⟨_, rfl⟩ := h; exact Nat.le_refl _
  · obtain ⟨e₁, s₁, hr, _, _, rfl⟩ := h; have z := runs_toks hr; exact z
  · obtain ⟨_, rfl⟩ := h; exact Nat.le_refl _
  · obtain ⟨_, rfl⟩ := h; exact Nat.le_refl _
theorem wp_toks {α : Type} {M : Model} {Γ : Ctx} {t : Sem α} {Q : α → Pos → Shared → Prop} {E : Value → Pos → Shared → Prop} (N : Nat) {p : Pos} {s : Shared} (hN : N ≤ s.toks)
    (h : Sem.wp M Γ t (fun a p' s' => N ≤ s'.toks → Q a p' s') (fun e p' s' => N ≤ s'.toks → E e p' s') p s) : Sem.wp M Γ t Q E p s := by
  revert h
  induction t generalizing p s with
  | pure x => simp only [Sem.wp]; exact fun h => h hN
  | raise v => simp only [Sem.wp]; exact fun h => h hN
  | unsupported | finish | yield | fork | await | register => simp only [Sem.wp]; exact id
  | call c h g l k ih => simp only [Sem.wp]; rintro ⟨r, s', hr, h⟩; exact ⟨r, s', hr, ih _ (Nat.le_trans hN (runs_toks hr)) h⟩
  | resume g r l k ih => simp only [Sem.wp]; rintro ⟨r, s', hr, h⟩; exact ⟨r, s', hr, ih _ (Nat.le_trans hN (wakes_toks hr)) h⟩
  | load a q k ih => simp only [Sem.wp]; rintro ⟨o, ho, h⟩; exact ⟨o, ho, ih _ hN h⟩
  | update a q f k ih => simp only [Sem.wp]; rintro ⟨ho, h⟩; exact ⟨ho, ih _ (by exact hN) h⟩
  | choose src n k ih => simp only [Sem.wp]; rintro ⟨ho, h⟩; exact ⟨ho, ih _ (by exact hN) h⟩
  | genState g k ih => simp only [Sem.wp]; rintro ⟨o, ho, h⟩; exact ⟨o, ho, ih _ hN h⟩
  | fresh k ih => simp only [Sem.wp]; exact fun h => ih _ (Nat.le_succ_of_le hN) h
  | alloc o k ih => simp only [Sem.wp]; exact fun h => ih _ (by exact hN) h
  | os q l k ih => simp only [Sem.wp]; exact fun h => ih _ (by exact hN) h
  | newGen c k ih => simp only [Sem.wp]; exact fun h => ih _ (by exact hN) h
  | rule _ k ih => simp only [Sem.wp]; exact fun h => ih _ hN h
  | «at» _ k ih => simp only [Sem.wp]; exact fun h => ih _ hN h
  | loadIfAlive _ k ih => simp only [Sem.wp]; exact fun h => ih _ hN h
  | point _ k ih => simp only [Sem.wp]; exact fun h => ih _ hN h
  | ask k ih => simp only [Sem.wp]; exact fun h => ih _ hN h
  | handled _ k ih => simp only [Sem.wp]; exact fun h => ih _ hN h
  | stack k ih => simp only [Sem.wp]; exact fun h => ih _ hN h
  | thread k ih => simp only [Sem.wp]; exact fun h => ih _ hN h
theorem wpAny_tk {α : Type} {M : Model} {A : Around} {t : Sem α} {Q : α → Shared → Prop} {E : Value → Shared → Prop} {s : Shared} (N : Nat) (hN : N ≤ s.toks) (h : wpAny M A t (fun a s' => N ≤ s'.toks → Q a s') E s) : wpAny M A t Q E s :=
  fun Γ p hΓ => wp_toks N hN (Sem.wp_mono (exc' := fun e _ s' => N ≤ s'.toks → E e s') M Γ t (fun _ _ _ q => q) (fun _ _ _ q _ => q) p s (h Γ p hΓ))

/-! ## `_law_seen` -/
def unitsOf (x : Str) : List Str := (chopF false 0 x.cps.toList).map (·.2)
def seenLoop : List Str → Int → Str → Str
  | [], _, a => a
  | u :: us, k, a =>
    if (u.cps.toList == [34]) = true ∧ k > 0 then seenLoop us (k - 1) (a ++ u)
    else if ([Str.ofString "(", Str.ofString ")"].any (· == u)) = true ∧ ((Txt.count a (Str.ofString "\"")).fmod 2 == 0) = true then seenLoop us k (a ++ u)
    else seenLoop us k a
def marksOf (us : List Str) : Int := (((us.countP (· == Str.ofString "\"") : Nat) : Int).fdiv 2) * 2
def seenF (x : Str) : Str := Txt.replace (seenLoop (unitsOf x) (marksOf (unitsOf x)) (Str.ofString "")) (Str.ofString "\"") (Str.ofString "")
theorem units_len (x : Str) : (unitsOf x).length ≤ x.length := by
  unfold unitsOf
  rw [List.length_map]
  have := (chop_len x.cps.toList 0).1
  simpa [Str.length] using this
section
variable {prog : Program} {w : World} {A : Around} {E : Value → Shared → Prop} {s : Shared} {h₀ : Heap} {g : Array GenState} {os : OsState} {L : Addr} {m : Loc} {H : Led} {x y z : Str} {t u v : Tok} {a b : Int} {env : Env}
  {cn : Str} {cs : Scope} {fa : Addr} {ccd : Value} {cl : List (Str × Addr)}
theorem r_cs_tk {k : Nat} {pos : Pos} {Q : Value → Shared → Prop} (S : St h₀ g os L m H s) (h : ∀ t s', t = s.toks → s'.toks = s.toks + 1 → St h₀ g os L m H s' → Q (.str x t) s') :
    wpAny (model prog w) A (eval (.Constant (.str x) k pos) env) Q E s := wpAny_Constant_str (h _ _ rfl rfl ⟨S.inv, S.gens, S.os⟩)
theorem r_st_tk {v : Value} {Q : Unit → Shared → Prop} (S : St h₀ g os L m H s) (k : ∀ s', s.toks ≤ s'.toks → St h₀ g os L (put m x v) H s' → Q () s')
    (hk : cs.kind = .function) (hx : (envX cn cs L fa ccd cl).kindOf x = some .local) : wpAny (model prog w) A (storeName (envX cn cs L fa ccd cl) x v) Q E s :=
  wpAny_storeName_local hx S.inv.ns (fun h' hn hs => k _ (Nat.le_succ _) ⟨S.inv.set hn hs, S.gens, S.os⟩) (by show (cs.kind == .class || (cs.kind == .module && L != mainGlobals)) = false; rw [hk]; rfl)
theorem r_mul {Q : Value → Shared → Prop} (S : St h₀ g os L m H s) (hm : IntMulOk a b) (h : ∀ t s', St h₀ g os L m H s' → Q (.int (a * b) t) s') :
    wpAny (model prog w) A (binaryOp .Mult (.int a t) (.int b u)) Q E s := mul_int (h _ _ ⟨S.inv, S.gens, S.os⟩) hm
theorem r_fdiv {Q : Value → Shared → Prop} (S : St h₀ g os L m H s) (h0 : ¬ (b == 0) = true) (hb : b.natAbs < 1073741824) (h : ∀ t s', St h₀ g os L m H s' → Q (.int (a.fdiv b) t) s') :
    wpAny (model prog w) A (binaryOp .FloorDiv (.int a t) (.int b u)) Q E s := PySem.AutoIntOps.floordiv_1 h0 (by rw [PyProof.noPylong_small hb]; exact Bool.false_ne_true) (h _ _ ⟨S.inv, S.gens, S.os⟩)
theorem r_mod {Q : Value → Shared → Prop} (S : St h₀ g os L m H s) (h0 : ¬ (b == 0) = true) (h : ∀ t s', St h₀ g os L m H s' → Q (.int (a.fmod b) t) s') :
    wpAny (model prog w) A (binaryOp .Mod (.int a t) (.int b u)) Q E s := PySem.AutoIntOps.mod_1 h0 (h _ _ ⟨S.inv, S.gens, S.os⟩)
theorem r_tcount {Q : Value → Shared → Prop} (S : St h₀ g os L m H s) (h : ∀ t s', St h₀ g os L m H s' → Q (.int (Txt.count x y) t) s') :
    wpAny (model prog w) A (call (.builtin "str.count") [.str x t, .str y u]) Q E s := PySem.SC.count (h _ _ ⟨S.inv, S.gens, S.os⟩)
theorem r_treplace {Q : Value → Shared → Prop} (S : St h₀ g os L m H s) (hu : u ≠ 0) (hv : v ≠ 0) (huv : u ≠ v) (hyz : (y == z) = false) (hx : x.length ≤ 1048576) (hz : z.length ≤ 14) (h : ∀ t s', St h₀ g os L m H s' → Q (.str (Txt.replace x y z) t) s') :
    wpAny (model prog w) A (call (.builtin "str.replace") [.str x t, .str y u, .str z v]) Q E s := PySem.SC.replaceW hu hv huv hyz hx hz fun _ _ => h _ _ ⟨S.inv, S.gens, S.os⟩
theorem strs_snoc {vs : List Value} {ys : List Str} (h : StrsAre vs ys) (y : Str) (t : Tok) : StrsAre (vs ++ [.str y t]) (ys ++ [y]) := by
  induction h with
  | nil => exact .cons y t .nil
  | cons n u _ ih => exact .cons n u ih
theorem strs_split {vs : List Value} {ys : List Str} {y : Str} (h : StrsAre vs (ys ++ [y])) : ∃ us t, vs = us ++ [.str y t] ∧ StrsAre us ys := by
  induction ys generalizing vs with
  | nil =>
    cases h with
    | cons n t h => cases h; exact ⟨[], t, rfl, .nil⟩
  | cons n ns ih =>
    cases h with
    | cons n' t h =>
      obtain ⟨us, t', rfl, hu⟩ := ih h
      exact ⟨.str n t :: us, t', rfl, .cons n t hu⟩

end

theorem strs_len {vs : List Value} {ys : List Str} (h : StrsAre vs ys) : vs.length = ys.length := by
  induction h with
  | nil => rfl
  | cons n t _ ih => simp [ih]
/-- what the loop of `_strip_quoted_realnames` keeps -/
structure SI (x : Str) (lo st : Int) (op : Option Int) (r : List Str) (out : List (Int × Str)) : Prop where
  up : Up lo x.length out
  st0 : 0 ≤ st
  stlo : st ≤ lo
  lon : lo ≤ x.length
  opn : ∀ o, op = some o → st ≤ o ∧ o < lo
  len : r.length + out.length ≤ 900
  each : ∀ y ∈ r, y.length ≤ 900
section
variable {prog : Program} {w : World} {A : Around} {E : Value → Shared → Prop} {s : Shared} {h₀ : Heap} {g : Array GenState} {os : OsState} {L : Addr} {m : Loc} {H : Led} {x : Str} {t : Tok}
set_option maxHeartbeats 4000000 in
theorem strip_names {R : Result → Shared → Prop} (B : Bs w h₀) (S : St h₀ g os L m H s) (hroom : A.depth + 40 < recursionLimit) (hh : A.handled = none) (ha : x.cps.all (· < 128) = true) (hz : x.length ≤ 900)
    (h : ∀ g' H' t' s', (Bare g → Bare g') → Sub H H' → St h₀ g' os L m H' s' → R (.ok (.ret (.str (stripF x) t'))) s') :
    codeAny (model prog w) A (.call (.ref 35) ⟨[.str x t], []⟩) R s := by
  refine r_callC (binds := [(Str.ofString "addr", .str x t)]) B S (by rfl) (by kernel_rfl) (by omega) (BindsTo.of_eq (by rfl)) (by decide) (locs (by rfl)) rfl rfl rfl ?_
  intro L' oL' s₁ hL' hLn S₁ back
  have hLo := S.inv.out
  have hlen : x.length = x.cps.toList.length := by simp [Str.length]
  repeat walk_at "tx"
  by_cases hq : Txt.contains x (Str.ofString "\"") = true
  case neg =>
    have e1 : stripF x = x := by unfold stripF; rw [if_neg hq]
    rw [e1] at h
    rw [if_pos (by simpa using hq)]
    repeat walk_at "tx"
    refine h _ _ _ _ (fun hb => hb) ?_ (back _ _ _ _ (by assumption) (upd_same _ _ _))
    intro b P hb
    have hbL : b ≠ L := fun q => by rw [q, hLo] at hb; cases hb
    exact (del_ne _ hbL).trans (upd_of hbL hb)
  rw [if_neg (by simpa using hq)]
  repeat walk_at "tx"
  rename_i ts0 s₂ S₂ s₃ S₃ s₄ S₄ rl s₅ hrl hrlL S₅ s₆ S₆
  clear S₂ S₃ S₄ S₅
  refine r_call (gen_escaped B S₆ (by simp only [depth_deeper]; omega) ha hz ?_)
  intro GL a mg gs s₇ q1 q2 q3 q4 q5 ab hbr G S₇
  show wpAny _ _ _ _ _ _
  refine r_iter_gen S₇ (upd_same _ _ _) ?_
  have e1 : stripF x = (let z := stripLoop x (chopF false 0 x.cps.toList) 0 none []
    Txt.join (Str.ofString "") (if z.2.1 < x.length then z.2.2 ++ [cut x z.2.1.toNat x.length] else z.2.2)) := by unfold stripF; rw [if_pos hq]
  rw [e1] at h
  have hkL : upd H L (frO oL') L = some (frO oL') := upd_same _ _ _
  have hHs : ∀ b P, H b = some P → b ≠ L ∧ upd H L (frO oL') b = some P := fun b P hb => by
    have hbL : b ≠ L := fun q => by rw [q, hLo] at hb; cases hb
    exact ⟨hbL, upd_of hbL hb⟩
  generalize upd H L (frO oL') = Hb at *
  simp only [upd_none_iff] at q2 q4
  obtain ⟨q21, q22⟩ := q2
  obtain ⟨q41, q42⟩ := q4
  obtain ⟨out, own, st, op, r, vs, g₂, H₂, m₂, mg, gs, lo, ts, to, hout, hsi, hvs, hgs, hbare, kG, ka, kr, hown, hoGL, hown', hkeep, hm1, hm2, hm3, hm4, GG, S₈⟩ : ∃ (out : List (Int × Str)) (own : List (Addr × OP)) (st : Int) (op : Option Int) (r : List Str) (vs : List Value) (g₂ : Array GenState) (H₂ : Led) (m₂ mg : Loc) (gs : GenState) (lo : Int) (ts to : Tok),
      stripLoop x (chopF false 0 x.cps.toList) 0 none [] = stripLoop x out st op r ∧ SI x lo st op r out ∧ StrsAre vs r ∧ g₂[g.size]? = some gs ∧ (Bare g → Bare g₂) ∧ H₂ GL = some (nsO mg) ∧ H₂ a = some (genO g.size) ∧ H₂ rl = some (listO vs) ∧ Has own H₂ ∧ (∀ q ∈ own, q.1 ≠ GL) ∧ (∀ q ∈ own, Hb q.1 = none ∧ q.1 ≠ a ∧ q.1 ≠ rl) ∧ Sub Hb H₂ ∧
      m₂ (Str.ofString "start") = some (.int st ts) ∧ m₂ (Str.ofString "open_pos") = some (opV to op) ∧ m₂ (Str.ofString "result") = some (.ref rl) ∧ m₂ (Str.ofString "addr") = some (.str x t) ∧
      GenGo prog w h₀ GL out own mg gs ∧ St h₀ g₂ os L' m₂ H₂ s₇ := by
    have cu := chop_up x.length x.cps.toList 0 (by rw [hlen]; omega)
    have cl := (chop_len x.cps.toList 0).1
    refine ⟨_, [], 0, none, [], [], _, _, _, _, _, 0, ts0, 0, rfl, ⟨cu.1, by omega, by omega, by omega, (fun o q => by cases q), by simp only [List.length_nil]; omega, (fun y hy => by cases hy)⟩, .nil, ?_, ?_, upd_of (Ne.symm q5) (upd_same _ _ _), upd_same _ _ _, ?_, (fun q hq => by cases hq), (fun q hq => by cases hq), (fun q hq => by cases hq), ?_, ?_, ?_, ?_, ?_, G, S₇⟩
    · simp
    · intro hb y hy
      rcases Array.mem_push.mp hy with hy | rfl
      · exact hb y hy
      · exact hbr
    · exact upd_of (Ne.symm q41) (upd_of (Ne.symm q21) (upd_same _ _ _))
    · intro b P hb; exact upd_of (led_ne q42 hb) (upd_of (led_ne q22 hb) (upd_of (led_ne hrl hb) hb))
    · walk_at "lk"
    · walk_at "lk"
    · walk_at "lk"
    · walk_at "lk"
  simp only [] at h
  rw [hout] at h
  clear S₆ S₇ G hbr hout
  induction out generalizing own st op r vs g₂ H₂ m₂ mg gs lo ts to s₇ with
  | nil =>
    refine r_for1 ?_
    refine r_end_gen B hh (by simp only [depth_deeper]; omega) S₈ ka hgs kG ab hown hoGL GG ?_
    intro g₃ H₃ s₉ hb₃ hk₃ S₉
    have hka : ∀ b P, Hb b = some P → H₃ b = some P := fun b P hb => hk₃ b P (hkeep b P hb) (led_ne q22 hb) fun q hq e => by
      have := (hown' q hq).1
      rw [← e, hb] at this; cases this
    have kr₃ := hk₃ rl _ kr (Ne.symm q21) fun q hq e => (hown' q hq).2.2 e.symm
    have hvl := strs_len hvs
    have hsl := hsi.len
    have hx0 : (x.length : Int) = x.cps.toList.length := by rw [hlen]
    repeat walk_at "tx"
    have fin : ∀ (ys : List Str) (t' : Tok) (m₄ : Loc) (H₄ : Led) (s' : Shared), ys = (if st < x.length then r ++ [cut x st.toNat x.length] else r) → (∀ b P, Hb b = some P → H₄ b = some P) → St h₀ g₃ os L' m₄ H₄ s' → R (.ok (.ret (.str (Txt.join (Str.ofString "") ys) t'))) s' := by
      rintro ys t' m₄ H₄ s' rfl hk₄ S'
      exact h _ _ _ _ (fun hb => hb₃ (hbare hb)) (fun b P hb => (del_ne _ (hHs b P hb).1).trans (hk₄ _ _ (hHs b P hb).2)) (back _ _ _ _ S' (hk₄ _ _ hkL))
    have hsum : ∀ ys : List Str, ys.length ≤ 901 → (∀ y ∈ ys, y.length ≤ 900) → (ys.map (·.length)).sum + ys.length ≤ 1048576 := fun ys h1 h2 => by
      have h3 := sum_len_le h2
      have h4 : ys.length * 900 ≤ 901 * 900 := Nat.mul_le_mul_right _ h1
      omega
    simp only [List.length_nil] at hsl
    by_cases hlt : st < x.length
    · rw [if_pos (by simpa using hlt)]
      repeat walk_at "tx"
      refine r_tslice_sn (by assumption) hsi.st0 (by omega) (by omega) ?_
      intro t₁₁ s₁₁ S₁₁
      repeat walk_at "tx"
      refine r_append S₁₁ kr₃ (by omega) ?_
      intro s₁₂ S₁₂
      repeat walk_at "tx"
      refine r_join (ys := r ++ [cut x st.toNat x.length]) (by assumption) (upd_same _ _ _) (strs_snoc hvs _ _) (by decide) (hsum _ (by simp; omega) ?_) ?_
      · intro y hy
        rcases List.mem_append.mp hy with hy | hy
        · exact hsi.each y hy
        · cases List.mem_singleton.mp hy; exact Nat.le_trans (cut_len _ _ _) hz
      intro t₁₃ s₁₃ S₁₃
      repeat walk_at "tx"
      refine fin _ _ _ _ _ (by rw [if_pos hlt]) (fun b P hb => upd_of (led_ne hrl hb) (hka b P hb)) S₁₃
    · rw [if_neg (by simpa using hlt)]
      repeat walk_at "tx"
      refine r_join (ys := r) (by assumption) kr₃ hvs (by decide) (hsum _ (by omega) hsi.each) ?_
      intro t₁₃ s₁₃ S₁₃
      repeat walk_at "tx"
      exact fin _ _ _ _ _ (by rw [if_neg hlt]) hka S₁₃
  | cons p out ih =>
    obtain ⟨p, ch⟩ := p
    obtain ⟨hp1, hp2, hup⟩ := hsi.up
    have hsl := hsi.len
    have hst0 := hsi.st0
    have hstlo := hsi.stlo
    simp only [List.length_cons] at hsl
    have hvl := strs_len hvs
    refine r_for1 ?_
    refine r_next_gen B hh (by simp only [depth_deeper]; omega) S₈ ka hgs kG ab hown hoGL GG ?_
    intro g₃ H₃ m₃ own₃ gs₃ tup t1 t2 s₉ hgs₃ hb₃ htup kG₃ hk₃ hown₃ hoGL₃ hfr₃ GG₃ S₉
    have hka : ∀ b P, Hb b = some P → H₃ b = some P := fun b P hb => hk₃ b P (hkeep b P hb) (led_ne q22 hb) fun q hq e => by
      have := (hown' q hq).1
      rw [← e, hb] at this; cases this
    have ka₃ := hk₃ a _ ka q5 fun q hq e => (hown' q hq).2.1 e.symm
    have kr₃ := hk₃ rl _ kr (Ne.symm q21) fun q hq e => (hown' q hq).2.2 e.symm
    have hown₃' : ∀ q ∈ own₃, Hb q.1 = none ∧ q.1 ≠ a ∧ q.1 ≠ rl := fun q hq => by
      rcases hfr₃ q hq with ⟨q', hq', e⟩ | e
      · rw [e]; exact hown' q' hq'
      · refine ⟨?_, fun z => ?_, fun z => ?_⟩
        · cases w : Hb q.1 with
          | none => rfl
          | some P => rw [hkeep _ _ w] at e; cases e
        · rw [z, ka] at e; cases e
        · rw [z, kr] at e; cases e
    refine r_owned_gen S₉ ka₃ ?_
    refine r_unpack2 hh S₉ (v1 := .int p t1) (v2 := .str ch t2) htup (by rfl) ?_
    intro s₁₀ S₁₀
    repeat walk_at "tx"
    by_cases hc : (ch.cps.toList == [34]) = true
    · rw [if_pos (show (ch.cps.toList == (Str.ofString "\"").cps.toList) = true from hc)]
      repeat walk_at "tx"
      cases op with
      | none =>
        have hst : stripLoop x ((p, ch) :: out) st none r = stripLoop x out st (some p) r := by show (if _ then _ else _) = _; rw [if_pos hc]
        rw [hst] at h
        replace hm2 : m₂ (Str.ofString "open_pos") = some .none := hm2
        with_reducible show wpAny _ _ (compareOp _ _ _) _ _ _
        dsimp only [opV]
        repeat walk_at "tx"
        refine' ih (S₈ := by assumption) (ts := ts) (to := t1) (lo := p + 1) (op := some p) (h := h) (hsi := ⟨hup, hsi.st0, by omega, by omega, fun o q => ?_, by omega, hsi.each⟩) (hvs := hvs) (hgs := hgs₃) (hbare := fun hb => hb₃ (hbare hb)) (kG := kG₃) (ka := ka₃) (kr := kr₃) (hown := hown₃) (hoGL := hoGL₃) (hown' := hown₃') (hkeep := hka) (hm1 := ?h1a) (hm2 := ?h2a) (hm3 := ?h3a) (hm4 := ?h4a) (GG := GG₃)
        · cases q; omega
        (case h1a => walk_at "lk")
        (case h2a => walk_at "lk")
        (case h3a => walk_at "lk")
        (case h4a => walk_at "lk")
      | some o =>
        obtain ⟨ho1, ho2⟩ := hsi.opn o rfl
        replace hm2 : m₂ (Str.ofString "open_pos") = some (.int o to) := hm2
        have hst : stripLoop x ((p, ch) :: out) st (some o) r = stripLoop x out (p + 1) none (if (st != o) = true then r ++ [cut x st.toNat o.toNat] else r) := by show (if _ then _ else _) = _; rw [if_pos hc]
        rw [hst] at h
        dsimp only [opV]
        repeat walk_at "tx"
        by_cases hso : (st != o) = true
        · rw [if_pos hso] at h
          rw [if_pos hso]
          repeat walk_at "tx"
          refine r_tslice_ss (by assumption) hsi.st0 ho1 (by omega) (by omega) ?_
          intro t₁₁ s₁₁ S₁₁
          repeat walk_at "tx"
          refine r_append S₁₁ kr₃ (by omega) ?_
          intro s₁₂ S₁₂
          repeat walk_at "tx"
          refine' ih (S₈ := by assumption) (ts := ?_) (to := 0) (lo := p + 1) (st := p + 1) (op := none) (h := h) (hsi := ⟨hup, by omega, by omega, by omega, (fun o q => by cases q), by simp; omega, ?_⟩) (hvs := strs_snoc hvs _ _) (hgs := hgs₃) (hbare := fun hb => hb₃ (hbare hb)) (kG := upd_of q21 kG₃) (ka := upd_of q41 ka₃) (kr := upd_same _ _ _) (hown := fun q hq => upd_of (hown₃' q hq).2.2 (hown₃ q hq)) (hoGL := hoGL₃) (hown' := hown₃') (hkeep := fun b P hb => upd_of (led_ne hrl hb) (hka b P hb)) (hm1 := ?h1b) (hm2 := ?h2b) (hm3 := ?h3b) (hm4 := ?h4b) (GG := GG₃)
          (case h1b => walk_at "lk")
          (case h2b => walk_at "lk")
          (case h3b => walk_at "lk")
          (case h4b => walk_at "lk")
          · intro y hy
            rcases List.mem_append.mp hy with hy | hy
            · exact hsi.each y hy
            · cases List.mem_singleton.mp hy; exact Nat.le_trans (cut_len _ _ _) hz
        · rw [if_neg hso] at h
          rw [if_neg hso]
          repeat walk_at "tx"
          refine' ih (S₈ := by assumption) (ts := ?_) (to := 0) (lo := p + 1) (st := p + 1) (op := none) (h := h) (hsi := ⟨hup, by omega, by omega, by omega, (fun o q => by cases q), by omega, hsi.each⟩) (hvs := hvs) (hgs := hgs₃) (hbare := fun hb => hb₃ (hbare hb)) (kG := kG₃) (ka := ka₃) (kr := kr₃) (hown := hown₃) (hoGL := hoGL₃) (hown' := hown₃') (hkeep := hka) (hm1 := ?h1c) (hm2 := ?h2c) (hm3 := ?h3c) (hm4 := ?h4c) (GG := GG₃)
          (case h1c => walk_at "lk")
          (case h2c => walk_at "lk")
          (case h3c => walk_at "lk")
          (case h4c => walk_at "lk")
    · rw [if_neg (show ¬ (ch.cps.toList == (Str.ofString "\"").cps.toList) = true from hc)]
      have hst : stripLoop x ((p, ch) :: out) st op r = stripLoop x out st op r := by show (if _ then _ else _) = _; rw [if_neg hc]
      rw [hst] at h
      repeat walk_at "tx"
      refine' ih (S₈ := by assumption) (ts := ts) (to := to) (lo := p + 1) (h := h) (hsi := ⟨hup, hsi.st0, by omega, by omega, fun o q => ?_, by omega, hsi.each⟩) (hvs := hvs) (hgs := hgs₃) (hbare := fun hb => hb₃ (hbare hb)) (kG := kG₃) (ka := ka₃) (kr := kr₃) (hown := hown₃) (hoGL := hoGL₃) (hown' := hown₃') (hkeep := hka) (hm1 := ?h1d) (hm2 := ?h2d) (hm3 := ?h3d) (hm4 := ?h4d) (GG := GG₃)
      · have := hsi.opn o q; omega
      (case h1d => walk_at "lk")
      (case h2d => walk_at "lk")
      (case h3d => walk_at "lk")
      (case h4d => walk_at "lk")
end

theorem chop_each : ∀ (cs : List Nat) (i : Nat), (∀ q ∈ chopF false i cs, q.2.length ≤ 2) ∧ (∀ q ∈ chopF true i cs, q.2.length ≤ 2)
  | [], i => ⟨(fun q hq => by cases hq), (fun q hq => by cases List.mem_singleton.mp hq; exact Nat.le_succ 1)⟩
  | c :: cs, i => by
    have ih := chop_each cs (i + 1)
    refine ⟨fun q hq => ?_, fun q hq => ?_⟩
    · replace hq : q ∈ (if c = 92 then chopF true (i + 1) cs else ((i : Int), ⟨#[c]⟩) :: chopF false (i + 1) cs) := hq
      by_cases hc : c = 92
      · rw [if_pos hc] at hq; exact ih.2 q hq
      · rw [if_neg hc] at hq
        rcases List.mem_cons.mp hq with rfl | hq
        · exact Nat.le_succ 1
        · exact ih.1 q hq
    · replace hq : q ∈ ((i : Int), (⟨#[92, c]⟩ : Str)) :: chopF false (i + 1) cs := hq
      rcases List.mem_cons.mp hq with rfl | hq
      · exact Nat.le_refl 2
      · exact ih.1 q hq
theorem str_len_add (x y : Str) : (x ++ y).length = x.length + y.length := by
  simp [Str.length, Str.cps_append]
theorem units_each (x : Str) : ∀ u ∈ unitsOf x, u.length ≤ 2 := by
  intro u hu
  obtain ⟨q, hq, rfl⟩ := List.mem_map.mp hu
  exact (chop_each _ _).1 q hq
theorem strs_at {vs : List Value} {ys : List Str} (h : StrsAre vs ys) : ∀ i : Nat, (∃ y t, ys[i]? = some y ∧ vs[i]? = some (.str y t)) ∨ (ys[i]? = none ∧ vs[i]? = none) := by
  induction h with
  | nil => intro i; exact .inr ⟨by simp, by simp⟩
  | cons n u _ ih =>
    intro i
    cases i with
    | zero => exact .inl ⟨n, u, rfl, rfl⟩
    | succ i => simpa using ih i
section
variable {prog : Program} {w : World} {A : Around} {E : Value → Shared → Prop} {s : Shared} {h₀ : Heap} {g : Array GenState} {os : OsState} {L : Addr} {m : Loc} {H : Led} {x y z : Str} {t u v : Tok}
set_option maxHeartbeats 4000000 in
theorem law_seen {R : Result → Shared → Prop} (B : Bs w h₀) (S : St h₀ g os L m H s) (hroom : A.depth + 40 < recursionLimit) (hh : A.handled = none) (ha : x.cps.all (· < 128) = true) (hz : x.length ≤ 900)
    (h : ∀ H' t' s', Sub H H' → St h₀ g os L m H' s' → R (.ok (.ret (.str (seenF x) t'))) s') :
    codeAny (model prog w) A (.call (.ref 169) ⟨[.str x t], []⟩) R s := by
  refine r_callC (binds := [(Str.ofString "text", .str x t)]) B S (by rfl) (by kernel_rfl) (by omega) (BindsTo.of_eq (by rfl)) (by decide) (locs (by rfl)) rfl rfl rfl ?_
  intro L' oL' s₁ hL' hLn S₁ back
  have hLo := S.inv.out
  have hlen := units_len x
  repeat walk_at "tx"
  rename_i ul s₂ hul hulL S₂ s₃ S₃ s₄ S₄
  clear S₂ S₃
  have hkL : upd H L (frO oL') L = some (frO oL') := upd_same _ _ _
  have hHs : ∀ b P, H b = some P → b ≠ L ∧ upd H L (frO oL') b = some P := fun b P hb => by
    have hbL : b ≠ L := fun q => by rw [q, hLo] at hb; cases hb
    exact ⟨hbL, upd_of hbL hb⟩
  generalize upd H L (frO oL') = Hb at *
  refine r_iter_str S₄ ha ?_
  intro it s₅ hit hitL S₅
  simp only [upd_none_iff] at hit
  obtain ⟨hit1, hit2⟩ := hit
  obtain ⟨cs, i, tk, ys, vs, H₂, m₂, hcs, hi, hU0, hU1, hvs, ku, ki, hkeep, hm1, hm2, S₆⟩ : ∃ (cs : List Nat) (i : Nat) (tk : Bool) (ys : List Str) (vs : List Value) (H₂ : Led) (m₂ : Loc), x.cps.toList.drop i = cs ∧ i ≤ x.cps.size ∧
      (tk = false → unitsOf x = ys ++ (chopF false i cs).map (·.2)) ∧ (tk = true → ∃ ys', ys = ys' ++ [(⟨#[92]⟩ : Str)] ∧ unitsOf x = ys' ++ (chopF true i cs).map (·.2)) ∧ StrsAre vs ys ∧ H₂ ul = some (listO vs) ∧ H₂ it = some (strIterO x t i) ∧ Sub Hb H₂ ∧
      m₂ (Str.ofString "units") = some (.ref ul) ∧ m₂ (Str.ofString "taken") = some (.bool tk) ∧ St h₀ g os L' m₂ H₂ s₅ := by
    refine ⟨_, 0, false, [], [], _, _, rfl, Nat.zero_le _, (fun _ => rfl), (fun q => by cases q), .nil, upd_of (Ne.symm hit1) (upd_same _ _ _), upd_same _ _ _, (fun b P hb => upd_of (led_ne hit2 hb) (upd_of (led_ne hul hb) hb)), ?_, ?_, S₅⟩
    · walk_at "lk"
    · walk_at "lk"
  clear S₄ S₅
  induction cs generalizing i tk ys vs H₂ m₂ s₅ with
  | nil =>
    have hx : x.cps[i]? = none := by
      have := List.drop_eq_nil_iff.mp hcs
      exact Array.getElem?_eq_none_iff.mpr (by simpa using this)
    have hys : ys = unitsOf x := by
      cases tk with
      | false => rw [hU0 rfl]; simp [chopF]
      | true => obtain ⟨ys', e1, e2⟩ := hU1 rfl; rw [e2, e1]; rfl
    subst hys
    clear hU0 hU1
    refine r_for1 ?_
    refine r_end_str hh S₆ ki hx ?_
    intro s₇ S₇
    repeat walk_at "tx"
    have kuD : Mine.del H₂ it ul = some (listO vs) := (del_ne _ (Ne.symm hit1)).trans ku
    repeat walk_at "tx"
    refine r_lcount (by assumption) kuD hvs ?_
    intro t₈ s₈ S₈
    repeat walk_at "tx"
    refine r_fdiv (by assumption) (by decide) (by decide) ?_
    intro t₉ s₉ S₉
    repeat walk_at "tx"
    refine r_mul (by assumption) (IntMulOk.of_right (by decide)) ?_
    intro t₁₀ s₁₀ S₁₀
    iterate 4 (walk_at "tx")
    refine r_cs_tk (by assumption) ?_
    intro t₁₁ s₁₁ _ htk S₁₁
    refine r_st_tk S₁₁ ?_ rfl (by rfl)
    intro s₁₂ htk' S₁₂
    walk_at "tx"
    refine wpAny_execs_cons ?_
    refine wpAny_tk 1 (by omega) ?_
    repeat walk_at "tx"
    rename_i it₂ s₁₃ hit₂ hit₂L S₁₃
    have hU := units_each x
    have hit₂b : Hb it₂ = none := by
      cases q : Hb it₂ with
      | none => rfl
      | some P => rw [(del_ne _ (led_ne hit2 q)).trans (hkeep _ _ q)] at hit₂; cases hit₂
    have hitu : it₂ ≠ ul := fun q => by rw [q, kuD] at hit₂; cases hit₂
    obtain ⟨us, j, k, tk₁, a, ta, H₃, m₃, hus, hsl, hal, ku₃, ki₃, hk₃, n1, n2, n3, S₁₄⟩ : ∃ (us : List Str) (j : Nat) (k : Int) (tk₁ : Tok) (a : Str) (ta : Tok) (H₃ : Led) (m₃ : Loc), (unitsOf x).drop j = us ∧
        seenLoop (unitsOf x) (marksOf (unitsOf x)) (Str.ofString "") = seenLoop us k a ∧ a.length + 2 * us.length ≤ 2000 ∧ H₃ ul = some (listO vs) ∧ H₃ it₂ = some (listIterO ul j) ∧ Sub Hb H₃ ∧
        m₃ (Str.ofString "marks") = some (.int k tk₁) ∧ m₃ (Str.ofString "seen") = some (.str a ta) ∧ m₃ (Str.ofString "units") = some (.ref ul) ∧ St h₀ g os L' m₃ H₃ s₁₃ := by
      refine ⟨_, 0, _, t₁₀, _, t₁₁, _, _, rfl, rfl, ?_, upd_of (Ne.symm hitu) kuD, upd_same _ _ _, (fun b P hb => upd_of (led_ne hit₂b hb) ((del_ne _ (led_ne hit2 hb)).trans (hkeep _ _ hb))), ?_, ?_, ?_, S₁₃⟩
      · show 0 + _ ≤ _; simp only [List.drop_zero]; omega
      · walk_at "lk"
      · walk_at "lk"
      · walk_at "lk"
    rename_i S₀ _ _
    clear S₆ S₇ S₈ S₉ S₁₀ S₁₁ S₁₂ S₁₃ hit₂
    induction us generalizing j k tk₁ a ta H₃ m₃ s₁₃ with
    | nil =>
      have hvn : vs[j]? = none := by
        rcases strs_at hvs j with ⟨y, t, e1, e2⟩ | ⟨_, e2⟩
        · have := List.drop_eq_nil_iff.mp hus
          rw [List.getElem?_eq_none (by omega)] at e1; cases e1
        · exact e2
      refine r_for1 ?_
      refine r_end_list hh S₁₄ ki₃ ku₃ hvn ?_
      intro s₁₅ S₁₅
      repeat walk_at "tx"
      intro h1
      iterate 7 (walk_at "tx")
      refine r_cs_tk (by assumption) ?_
      intro u₁ s₁₆ hu₁ htk₁ S₁₆
      iterate 1 (walk_at "tx")
      refine r_cs_tk (by assumption) ?_
      intro u₂ s₁₇ hu₂ htk₂ S₁₇
      repeat walk_at "tx"
      refine r_treplace (by assumption) (by rw [hu₁]; exact Nat.ne_of_gt h1) (by rw [hu₂, htk₁]; exact Nat.succ_ne_zero _) (by rw [hu₂, htk₁, hu₁]; exact Nat.ne_of_lt (Nat.lt_succ_self _)) (by rfl) (by omega) (by decide) ?_
      intro t₁₈ s₁₈ S₁₈
      have e : seenF x = Txt.replace a (Str.ofString "\"") (Str.ofString "") := by unfold seenF; rw [hsl]; rfl
      rw [← e]
      repeat walk_at "tx"
      refine h _ _ _ ?_ (back _ _ _ _ S₁₈ ?_)
      · intro b P hb
        have hb' := (hHs b P hb).2
        have q : b ≠ it₂ := fun q => by rw [q, hit₂b] at hb'; cases hb'
        exact (del_ne _ (hHs b P hb).1).trans ((del_ne _ q).trans (hk₃ _ _ hb'))
      · have q : L ≠ it₂ := fun q => by rw [← q, hkL] at hit₂b; cases hit₂b
        exact (del_ne _ q).trans (hk₃ _ _ hkL)
    | cons un us ih =>
      have hui : (unitsOf x)[j]? = some un := by
        have := congrArg (·[0]?) hus
        simpa using this
      have hus' : (unitsOf x).drop (j + 1) = us := by rw [← List.drop_drop, hus]; rfl
      have hun := hU un (List.mem_of_getElem? hui)
      obtain ⟨tu, hvi⟩ : ∃ tu, vs[j]? = some (.str un tu) := by
        rcases strs_at hvs j with ⟨y, t, e1, e2⟩ | ⟨e1, e2⟩
        · rw [hui] at e1; cases e1; exact ⟨t, e2⟩
        · rw [hui] at e1; cases e1
      simp only [List.length_cons] at hal
      refine r_for1 ?_
      refine r_next_list S₁₄ ki₃ ku₃ hvi ?_
      intro s₁₅ S₁₅
      repeat walk_at "tx"
      by_cases hq : (un.cps.toList == [34]) = true
      · rw [if_pos (show (un.cps.toList == (Str.ofString "\"").cps.toList) = true from hq)]
        repeat walk_at "tx"
        by_cases hk : k > 0
        · rw [if_pos (by simpa using hk)]
          have hst : seenLoop (un :: us) k a = seenLoop us (k - 1) (a ++ un) := by show (if _ then _ else _) = _; rw [if_pos ⟨hq, hk⟩]
          rw [hst] at hsl
          repeat walk_at "tx"
          refine r_tiadd (by assumption) (by omega) ?_
          intro t₁₆ s₁₆ S₁₆
          repeat walk_at "tx"
          refine' ih (S₁₄ := by assumption) (j := j + 1) (tk₁ := ?_) (ta := t₁₆) (hus := hus') (hsl := hsl) (hal := ?d0) (ku₃ := upd_of (Ne.symm hitu) ku₃) (ki₃ := upd_same _ _ _) (hk₃ := fun b P hb => upd_of (led_ne hit₂b hb) (hk₃ b P hb)) (n1 := ?d1) (n2 := ?d2) (n3 := ?d3)
          (case d0 => (rw [str_len_add]; omega))
          (case d1 => walk_at "lk")
          (case d2 => walk_at "lk")
          (case d3 => walk_at "lk")
        · rw [if_neg (by simpa using hk)]
          have hnb : ([Str.ofString "(", Str.ofString ")"].any (· == un)) = false := by
            have e : un = ⟨#[34]⟩ := Str.ext' (Array.toList_inj.mp (eq_of_beq hq))
            rw [e]; rfl
          have hst : seenLoop (un :: us) k a = seenLoop us k a := by
            show (if _ then _ else if _ then _ else _) = _
            rw [if_neg (fun q => hk q.2), if_neg (fun q => by rw [hnb] at q; cases q.1)]
          rw [hst] at hsl
          repeat walk_at "tx"
          rename_i tA sA SA tB sB SB lc sc hlc hlcL Sc
          refine r_lin Sc (upd_same _ _ _) (.cons _ _ (.cons _ _ .nil)) ?_
          rw [hnb]
          repeat walk_at "tx"
          refine' ih (S₁₄ := Sc) (j := j + 1) (tk₁ := tk₁) (ta := ta) (hus := hus') (hsl := hsl) (hal := by omega) (ku₃ := upd_of (led_ne hlc (upd_of (Ne.symm hitu) ku₃)) (upd_of (Ne.symm hitu) ku₃)) (ki₃ := upd_of (led_ne hlc (upd_same _ _ _)) (upd_same _ _ _)) (hk₃ := fun b P hb => upd_of (led_ne hlc (upd_of (led_ne hit₂b hb) (hk₃ b P hb))) (upd_of (led_ne hit₂b hb) (hk₃ b P hb))) (n1 := ?e1) (n2 := ?e2) (n3 := ?e3)
          (case e1 => walk_at "lk")
          (case e2 => walk_at "lk")
          (case e3 => walk_at "lk")
      · rw [if_neg (show ¬ (un.cps.toList == (Str.ofString "\"").cps.toList) = true from hq)]
        repeat walk_at "tx"
        rename_i tA sA SA tB sB SB lc sc hlc hlcL Sc
        refine r_lin Sc (upd_same _ _ _) (.cons _ _ (.cons _ _ .nil)) ?_
        repeat walk_at "tx"
        have kk : ∀ b P, Hb b = some P → upd (upd H₃ it₂ (listIterO ul (j + 1))) lc (listO [.str (Str.ofString "(") tA, .str (Str.ofString ")") tB]) b = some P := fun b P hb => upd_of (led_ne hlc (upd_of (led_ne hit₂b hb) (hk₃ b P hb))) (upd_of (led_ne hit₂b hb) (hk₃ b P hb))
        by_cases hnb : ([Str.ofString "(", Str.ofString ")"].any (· == un)) = true
        · rw [if_pos hnb]
          repeat walk_at "tx"
          refine r_tcount (by assumption) ?_
          intro t₁₆ s₁₆ S₁₆
          repeat walk_at "tx"
          refine r_mod (by assumption) (by decide) ?_
          intro t₁₇ s₁₇ S₁₇
          repeat walk_at "tx"
          by_cases hct : ((Txt.count a (Str.ofString "\"")).fmod 2 == 0) = true
          · have hst : seenLoop (un :: us) k a = seenLoop us k (a ++ un) := by
              show (if _ then _ else if _ then _ else _) = _
              rw [if_neg (fun q => hq q.1), if_pos ⟨hnb, hct⟩]
            rw [hst] at hsl
            rw [if_pos hct]
            repeat walk_at "tx"
            refine r_tiadd (by assumption) (by omega) ?_
            intro t₁₈ s₁₈ S₁₈
            repeat walk_at "tx"
            refine' ih (S₁₄ := by assumption) (j := j + 1) (tk₁ := tk₁) (ta := t₁₈) (hus := hus') (hsl := hsl) (hal := ?f0) (ku₃ := upd_of (led_ne hlc (upd_of (Ne.symm hitu) ku₃)) (upd_of (Ne.symm hitu) ku₃)) (ki₃ := upd_of (led_ne hlc (upd_same _ _ _)) (upd_same _ _ _)) (hk₃ := kk) (n1 := ?f1) (n2 := ?f2) (n3 := ?f3)
            (case f0 => (rw [str_len_add]; omega))
            (case f1 => walk_at "lk")
            (case f2 => walk_at "lk")
            (case f3 => walk_at "lk")
          · have hst : seenLoop (un :: us) k a = seenLoop us k a := by
              show (if _ then _ else if _ then _ else _) = _
              rw [if_neg (fun q => hq q.1), if_neg (fun q => hct q.2)]
            rw [hst] at hsl
            rw [if_neg hct]
            repeat walk_at "tx"
            refine' ih (S₁₄ := by assumption) (j := j + 1) (tk₁ := tk₁) (ta := ta) (hus := hus') (hsl := hsl) (hal := by omega) (ku₃ := upd_of (led_ne hlc (upd_of (Ne.symm hitu) ku₃)) (upd_of (Ne.symm hitu) ku₃)) (ki₃ := upd_of (led_ne hlc (upd_same _ _ _)) (upd_same _ _ _)) (hk₃ := kk) (n1 := ?g1) (n2 := ?g2) (n3 := ?g3)
            (case g1 => walk_at "lk")
            (case g2 => walk_at "lk")
            (case g3 => walk_at "lk")
        · have hst : seenLoop (un :: us) k a = seenLoop us k a := by
            show (if _ then _ else if _ then _ else _) = _
            rw [if_neg (fun q => hq q.1), if_neg (fun q => hnb q.1)]
          rw [hst] at hsl
          rw [if_neg hnb]
          repeat walk_at "tx"
          refine' ih (S₁₄ := by assumption) (j := j + 1) (tk₁ := tk₁) (ta := ta) (hus := hus') (hsl := hsl) (hal := by omega) (ku₃ := upd_of (led_ne hlc (upd_of (Ne.symm hitu) ku₃)) (upd_of (Ne.symm hitu) ku₃)) (ki₃ := upd_of (led_ne hlc (upd_same _ _ _)) (upd_same _ _ _)) (hk₃ := kk) (n1 := ?h1) (n2 := ?h2) (n3 := ?h3)
          (case h1 => walk_at "lk")
          (case h2 => walk_at "lk")
          (case h3 => walk_at "lk")
  | cons c cs ih =>
    have hx : x.cps[i]? = some c := by
      have := congrArg (·[0]?) hcs
      simpa using this
    have hi' : i + 1 ≤ x.cps.size := by
      have := (Array.getElem?_eq_some_iff.mp hx).1; omega
    have hcs' : x.cps.toList.drop (i + 1) = cs := by rw [← List.drop_drop, hcs]; rfl
    refine r_for1 ?_
    refine r_next_str S₆ ki hx ?_
    intro u s₇ S₇
    repeat walk_at "tx"
    cases tk with
    | true =>
      obtain ⟨ys', e1, e2⟩ := hU1 rfl
      subst e1
      obtain ⟨vs', tq, rfl, hvs'⟩ := strs_split hvs
      repeat walk_at "tx"
      refine wpAny_AugAssign_SubscriptAny ?_ (by intros; rfl)
      repeat walk_at "tx"
      refine r_getlast (by assumption) (upd_of (Ne.symm hit1) ku) ?_
      repeat walk_at "tx"
      refine r_tiadd (by assumption) (by show 1 + 1 ≤ _; omega) ?_
      intro t₈ s₈ S₈
      repeat walk_at "tx"
      refine r_setlast S₈ (upd_of (Ne.symm hit1) ku) ?_
      intro s₉ S₉
      repeat walk_at "tx"
      refine' ih (S₆ := by assumption) (i := i + 1) (tk := false) (hcs := hcs') (hi := hi') (hU0 := fun _ => ?_) (hU1 := fun q => by cases q) (hvs := strs_snoc hvs' _ _) (ku := upd_same _ _ _) (ki := upd_of hit1 (upd_same _ _ _)) (hkeep := fun b P hb => upd_of (led_ne hul hb) (upd_of (led_ne hit2 hb) (hkeep b P hb))) (hm1 := ?a1) (hm2 := ?a2)
      · rw [e2]; simp [chopF]; rfl
      (case a1 => walk_at "lk")
      (case a2 => walk_at "lk")
    | false =>
      repeat walk_at "tx"
      have hyl : ys.length ≤ x.length := by
        have := congrArg List.length (hU0 rfl)
        rw [List.length_append] at this
        omega
      refine r_append (by assumption) (upd_of (Ne.symm hit1) ku) (by rw [strs_len hvs]; omega) ?_
      intro s₈ S₈
      repeat walk_at "tx"
      by_cases h92 : c = 92
      · subst h92
        refine' ih (S₆ := by assumption) (i := i + 1) (tk := true) (hcs := hcs') (hi := hi') (hU0 := fun q => by cases q) (hU1 := fun _ => ⟨ys, rfl, ?_⟩) (hvs := strs_snoc hvs _ _) (ku := upd_same _ _ _) (ki := upd_of hit1 (upd_same _ _ _)) (hkeep := fun b P hb => upd_of (led_ne hul hb) (upd_of (led_ne hit2 hb) (hkeep b P hb))) (hm1 := ?b1) (hm2 := ?b2)
        · rw [hU0 rfl]; rfl
        (case b1 => walk_at "lk")
        (case b2 => exact (put_same _ _ _).trans (congrArg (fun b => some (Value.bool b)) (show (([92] : List Nat) == [92]) = true from rfl)))
      · have hb : (((⟨#[c]⟩ : Str).cps.toList == (Str.ofString "\\").cps.toList) = false) := by
          show ([c] == [92]) = false
          simpa using h92
        refine' ih (S₆ := by assumption) (i := i + 1) (tk := false) (hcs := hcs') (hi := hi') (hU0 := fun _ => ?_) (hU1 := fun q => by cases q) (hvs := strs_snoc hvs _ _) (ku := upd_same _ _ _) (ki := upd_of hit1 (upd_same _ _ _)) (hkeep := fun b P hb => upd_of (led_ne hul hb) (upd_of (led_ne hit2 hb) (hkeep b P hb))) (hm1 := ?c1) (hm2 := ?c2)
        · rw [hU0 rfl]
          show ys ++ (if c = 92 then _ else _ : List (Int × Str)).map _ = _
          rw [if_neg h92]; simp
        (case c1 => walk_at "lk")
        (case c2 => exact (put_same _ _ _).trans (congrArg (fun b => some (Value.bool b)) hb))
end

/-! ## Ranges, signs of texts, zips -/
def rangeO (n : Int) : OP := fun o => ∃ t u v, o = { cls := .type "range", dict := none, data := .fields #[.int 0 t, .int n u, .int 1 v], slots := #[] }
def rangeIterO (x left : Int) : OP := fun o => o = { cls := .type "range_iterator", dict := none, data := .fields #[rawInt x, rawInt left, rawInt 1], slots := #[] }
section
variable {prog : Program} {w : World} {A : Around} {E : Value → Shared → Prop} {s : Shared} {h₀ : Heap} {g : Array GenState} {os : OsState} {L r it : Addr} {m : Loc} {H : Led} {n x left : Int} {t u : Tok}
theorem r_range {Q : Value → Shared → Prop} (S : St h₀ g os L m H s) (h : ∀ r s', H r = none → r ≠ L → St h₀ g os L m (upd H r (rangeO n)) s' → Q (.ref r) s') : wpAny (model prog w) A (call (.type "range") [.int n t]) Q E s :=
  call_range_1 (h _ _ S.inv.fresh S.inv.freshL ⟨S.inv.push _ ⟨_, _, _, rfl⟩, S.gens, S.os⟩)
theorem small_len {n : Int} (h0 : 0 ≤ n) (h1 : n ≤ 1000000) : Builtin.Range.small 0 n 1 = true := by
  unfold Builtin.Range.small Builtin.Range.rangeFitsLong
  rw [rangeSize_one]
  split <;> simp <;> omega
theorem r_iter_range {Q : Value → Shared → Prop} (S : St h₀ g os L m H s) (e : H r = some (rangeO n)) (h0 : 0 ≤ n) (h1 : n ≤ 1000000) (h : ∀ it s', H it = none → it ≠ L → St h₀ g os L m (upd H it (rangeIterO 0 n)) s' → Q (.ref it) s') :
    wpAny (model prog w) A (pyIter (.ref r)) Q E s := by
  obtain ⟨o, ho, t, u, v, rfl⟩ := S.inv.own _ _ e
  refine wpAny_pyIter_range ho (small_len h0 h1) (h _ _ S.inv.fresh S.inv.freshL ⟨S.inv.push _ ?_, S.gens, S.os⟩)
  have : Builtin.Range.rangeSize 0 n 1 = n := by rw [rangeSize_one]; split <;> omega
  rw [this]; rfl
theorem r_iter_rangeiter {Q : Value → Shared → Prop} (S : St h₀ g os L m H s) (e : H it = some (rangeIterO x left)) (h : Q (.ref it) s) : wpAny (model prog w) A (pyIter (.ref it)) Q E s := by
  obtain ⟨o, ho, rfl⟩ := S.inv.own _ _ e
  exact wpAny_pyIter_rangeiter ho h
theorem r_next_range {Q : Option Value → Shared → Prop} (S : St h₀ g os L m H s) (e : H it = some (rangeIterO x left)) (h0 : 0 < left) (h : ∀ t s', St h₀ g os L m (upd H it (rangeIterO (x + 1) (left - 1))) s' → Q (some (.int x t)) s') :
    wpAny (model prog w) A (pyNext (.ref it)) Q E s := by
  obtain ⟨o, ho, rfl⟩ := S.inv.own _ _ e
  exact wpAny_pyNext_range_item ho h0 fun h' hi hs => h _ _ ⟨S.inv.change e hs.extBut ⟨_, hi, rfl⟩, S.gens, S.os⟩
theorem r_end_range {Q : Option Value → Shared → Prop} (hh : A.handled = none) (S : St h₀ g os L m H s) (e : H it = some (rangeIterO x left)) (h0 : left ≤ 0) (h : ∀ s', St h₀ g os L m (del H it) s' → Q none s') :
    wpAny (model prog w) A (pyNext (.ref it)) Q E s := by
  obtain ⟨o, ho, rfl⟩ := S.inv.own _ _ e
  exact wpAny_pyNext_range_end hh ho h0 fun h' hs => h _ ⟨S.inv.lose e hs, S.gens, S.os⟩
def rangeL (n : Nat) : List Int := (List.range n).map fun (k : Nat) => (k : Int)
theorem ints_of_get : ∀ {vs : List Value} {ns : List Int}, vs.length = ns.length → (∀ (i : Nat) v, vs[i]? = some v → ∃ t k, ns[i]? = some k ∧ v = .int k t) → IntsAre vs ns
  | [], [], _, _ => .nil
  | v :: vs, k :: ns, hl, hg => by
    obtain ⟨t, k', e1, rfl⟩ := hg 0 v rfl
    cases e1
    exact .cons k t (ints_of_get (by simpa using hl) fun i v h => hg (i + 1) v h)
  | [], _ :: _, hl, _ => by cases hl
  | _ :: _, [], hl, _ => by cases hl
theorem r_list_range {n : Nat} {Q : Value → Shared → Prop} (hh : A.handled = none) (S : St h₀ g os L m H s) (e : H r = some (rangeO n)) (h1 : n ≤ 1000) (h : ∀ c s', H c = none → c ≠ L → St h₀ g os L m (upd H c (intsO (rangeL n))) s' → Q (.ref c) s') :
    wpAny (model prog w) A (call (.type "list") [.ref r]) Q E s := by
  obtain ⟨o, ho, t, u, v, rfl⟩ := S.inv.own _ _ e
  refine call_list_range (n := n) hh ho (small_len (by omega) (by omega)) (by rw [rangeSize_one]; split <;> omega) (by omega) fun h' tk acc' c' hk hS' hacc => ?_
  refine h _ _ S.inv.fresh S.inv.freshL ⟨(S.inv.grow hk).add S.inv.fresh S.inv.freshN S.inv.freshL ⟨_, hS', acc'.toList, c', ?_, rfl⟩, S.gens, S.os⟩
  refine ints_of_get (by simp [hacc.1, rangeL]) fun i v hv => ?_
  have hv' : acc'[i]? = some v := by rw [← Array.getElem?_toList]; exact hv
  obtain ⟨t, rfl⟩ := hacc.2 i v hv'
  have hi : i < n := by have := (Array.getElem?_eq_some_iff.mp hv').1; rw [hacc.1] at this; exact this
  refine ⟨t, (i : Int), by simp [rangeL, hi], ?_⟩
  congr 1; omega
theorem r_tget {x : Str} {i c : Nat} {Q : Value → Shared → Prop} (S : St h₀ g os L m H s) (hc : x.cps[i]? = some c) (hi : i ≤ 1000000) (h : ∀ t s', St h₀ g os L m H s' → Q (.str ⟨#[c]⟩ t) s') : wpAny (model prog w) A (getItem (.str x t) (.int i u)) Q E s := by
  have hlt := (Array.getElem?_eq_some_iff.mp hc).1
  refine PySem.P.getItem_str (c := c) (by simp; omega) ?_ (h _ _ ⟨S.inv, S.gens, S.os⟩)
  have e : seqIndex? (i : Int) x.length = some i := by
    unfold seqIndex?
    have h1 : ¬ ((i : Int) < 0) := by omega
    have h2 : (decide (0 ≤ (i : Int)) && decide ((i : Int) < x.length)) = true := by simp [Str.length]; omega
    simp only [if_neg h1, h2, if_true]
    simp
  rw [e]; exact hc
end

abbrev IsZipU (h : Heap) (z TI TO T : Addr) (b : Bool) : Prop :=
  h.get? z = some { cls := .type "zip", dict := none, data := .fields #[rawInt T, .bool b, .bool false, .ref TI, .ref TO], slots := #[] }
section
variable {prog : Program} {w : World} {A : Around} {E : Value → Shared → Prop} {s : Shared}
theorem wpAny_loadIfAlive {α : Type} {a : Addr} {o : Obj} {k : Option Obj → Sem α} {Q : α → Shared → Prop} (ho : s.heap.get? a = some o) (h : wpAny (model prog w) A (k (some o)) Q E s) : wpAny (model prog w) A (.loadIfAlive a k) Q E s := fun Γ p hΓ => by
  simp only [Sem.wp, ho]
  exact h Γ p hΓ
theorem zip_free {z TI TO T : Addr} {b : Bool} {oT : Obj} {Q : Bool → Shared → Prop} (hz : IsZipU s.heap z TI TO T b) (hT : s.heap.get? T = some oT)
    (h : ∀ h', IsZipU h' z TI TO T true → Heap.SameBut z s.heap h' → Q false { s with heap := h' }) : wpAny (model prog w) A (Builtin.SmallTypes.ownedTupleIsFree (.ref z)) Q E s := by
  unfold Builtin.SmallTypes.ownedTupleIsFree
  refine wpAny_bind (wpAny_field hz rfl (x := rawInt T) rfl ?_)
  show wpAny _ _ (loadIfAlive T >>= _) _ _ _
  refine wpAny_bind (wpAny_loadIfAlive hT (wpAny_pure ?_))
  rw [if_neg (by simp)]
  refine wpAny_bind (wpAny_field hz rfl (x := .bool b) rfl ?_)
  dsimp only
  cases b with
  | true =>
    rw [if_neg (by simp)]
    exact wpAny_pure (h _ hz (Heap.SameBut.refl _ _))
  | false =>
    rw [if_pos (by decide)]
    refine wpAny_bind (wpAny_setField_rec hz (by simp) fun h₁ hz₁ hs₁ => wpAny_pure (h _ hz₁ hs₁))
theorem zip_next_used {z TI TO i1 i2 l1 l2 T : Addr} {b : Bool} {oT : Obj} {k1 k2 : Nat} {xs ys : Array Value} {x y : Value} {Q : Value → Shared → Prop} (D : ZipApart z TI TO i1 i2 l1 l2)
    (hz : IsZipU s.heap z TI TO T b) (hT : s.heap.get? T = some oT) (hTI : IsPair s.heap TI (.ref i1) (.ref i2))
    (h1 : s.heap.IsListIter i1 l1 k1) (h2 : s.heap.IsListIter i2 l2 k2) (hl1 : s.heap.IsList l1 xs) (hl2 : s.heap.IsList l2 ys) (hx : xs[k1]? = some x) (hy : ys[k2]? = some y)
    (hQ : ∀ h', IsZipU h' z TI TO T true → h'.IsListIter i1 l1 (k1 + 1) → h'.IsListIter i2 l2 (k2 + 1) → IsPair h' s.heap.objs.size x y →
      (∀ c o, c ≠ z → c ≠ i1 → c ≠ i2 → s.heap.get? c = some o → h'.get? c = some o) → Q (.ref s.heap.objs.size) { s with heap := h' }) :
    wpAny (model prog w) A (Builtin.«zip.__next__» ⟨[.ref z], []⟩) (fun fin s' => ∃ v, fin = .done (.ret v) ∧ Q v s') E s := by
  show wpAny _ _ (field (.ref z) 2 >>= _) _ _ _
  refine wpAny_bind (wpAny_field hz rfl (x := .bool false) rfl ?_)
  show wpAny _ _ (field (.ref z) 3 >>= _) _ _ _
  refine wpAny_bind (wpAny_field hz rfl (x := .ref TI) rfl ?_)
  refine wpAny_bind (wpAny_seqItems hTI rfl ?_)
  show wpAny _ _ (Builtin.SmallTypes.ownedTupleIsFree (.ref z) >>= _) _ _ _
  refine wpAny_bind (zip_free hz hT fun h₁ hz₁ hs₁ => ?_)
  simp only [Bool.false_eq_true, if_false]
  refine wpAny_bind ?_
  rw [← Array.forIn_toList]
  simp only [List.forIn_cons, List.forIn_nil]
  refine wpAny_bind (wpAny_bind (wpAny_holding ?_))
  show wpAny _ _ (Builtin.SmallTypes.nextOf (.ref i1) >>= _) _ _ _
  refine wpAny_bind (wpAny_nextOf_list_item (h1.extBut hs₁.extBut D.i1z) (hl1.extBut hs₁.extBut D.l1z) hx fun h₂ h1₂ hs₂ => wpAny_pure ?_)
  refine wpAny_pure ?_
  dsimp only
  refine wpAny_bind (wpAny_bind (wpAny_holding ?_))
  show wpAny _ _ (Builtin.SmallTypes.nextOf (.ref i2) >>= _) _ _ _
  refine wpAny_bind (wpAny_nextOf_list_item ((h2.extBut hs₁.extBut D.i2z).extBut hs₂.extBut D.i12.symm) ((hl2.extBut hs₁.extBut D.l2z).extBut hs₂.extBut D.l2i1) hy fun h₃ h2₃ hs₃ => wpAny_pure ?_)
  refine wpAny_pure ?_
  dsimp only
  refine wpAny_pure ?_
  dsimp only
  refine wpAny_bind (wpAny_newTuple ?_ (by show 2 ≤ sizeLine; decide))
  refine wpAny_pure ⟨_, rfl, ?_⟩
  have hsz : h₃.objs.size = s.heap.objs.size := by rw [hs₃.1, hs₂.1, hs₁.1]
  have hz₃ : IsZipU h₃ z TI TO T true := hs₃.extBut _ _ D.i2z.symm (hs₂.extBut _ _ D.i1z.symm hz₁)
  show Q (.ref h₃.objs.size) _
  have hp : IsPair (h₃.push { cls := .type "tuple", data := .seq #[x, y] }) h₃.objs.size x y := Heap.get?_push_size _ rfl
  rw [hsz] at hp ⊢
  exact hQ _ (Heap.get?_push_of_some _ hz₃) ((h1₂.extBut hs₃.extBut D.i12).at fun o e => Heap.get?_push_of_some _ e) (h2₃.at fun o e => Heap.get?_push_of_some _ e) hp
    fun c o c1 c2 c3 e => Heap.get?_push_of_some _ (hs₃.extBut _ _ c3 (hs₂.extBut _ _ c2 (hs₁.extBut _ _ c1 e)))
theorem zip_end_used {z TI TO i1 i2 l1 l2 T : Addr} {b : Bool} {oT : Obj} {k1 k2 : Nat} {xs ys : Array Value} {Q : Fin → Shared → Prop} (hh : A.handled = none) (D : ZipApart z TI TO i1 i2 l1 l2)
    (hz : IsZipU s.heap z TI TO T b) (hT : s.heap.get? T = some oT) (hTI : IsPair s.heap TI (.ref i1) (.ref i2))
    (h1 : s.heap.IsListIter i1 l1 k1) (h2 : s.heap.IsListIter i2 l2 k2) (hl1 : s.heap.IsList l1 xs) (hl2 : s.heap.IsList l2 ys) (hend : xs[k1]? = none ∨ ys[k2]? = none)
    (hE : ∀ h' e, (∀ c o, c ≠ z → c ≠ i1 → c ≠ i2 → s.heap.get? c = some o → h'.get? c = some o) → (∃ o, h'.get? e = some o ∧ o.cls = .type "StopIteration") → E (.ref e) { s with heap := h' }) :
    wpAny (model prog w) A (Builtin.«zip.__next__» ⟨[.ref z], []⟩) Q E s := by
  show wpAny _ _ (field (.ref z) 2 >>= _) _ _ _
  refine wpAny_bind (wpAny_field hz rfl (x := .bool false) rfl ?_)
  show wpAny _ _ (field (.ref z) 3 >>= _) _ _ _
  refine wpAny_bind (wpAny_field hz rfl (x := .ref TI) rfl ?_)
  refine wpAny_bind (wpAny_seqItems hTI rfl ?_)
  show wpAny _ _ (Builtin.SmallTypes.ownedTupleIsFree (.ref z) >>= _) _ _ _
  refine wpAny_bind (zip_free hz hT fun h₁ hz₁ hs₁ => ?_)
  simp only [Bool.false_eq_true, if_false]
  refine wpAny_bind ?_
  rw [← Array.forIn_toList]
  simp only [List.forIn_cons, List.forIn_nil]
  refine wpAny_bind (wpAny_bind (wpAny_holding ?_))
  show wpAny _ _ (Builtin.SmallTypes.nextOf (.ref i1) >>= _) _ _ _
  cases hx : xs[k1]? with
  | none =>
    refine wpAny_bind (wpAny_nextOf_list_end hh (h1.extBut hs₁.extBut D.i1z) (hl1.extBut hs₁.extBut D.l1z) hx fun h₂ e hs₂ he => ?_)
    exact hE h₂ e (fun c o c1 c3 _ x => hs₂ _ _ c3 (hs₁.extBut _ _ c1 x)) he
  | some x =>
    have hy : ys[k2]? = none := by rcases hend with h | h; rw [hx] at h; cases h; exact h
    refine wpAny_bind (wpAny_nextOf_list_item (h1.extBut hs₁.extBut D.i1z) (hl1.extBut hs₁.extBut D.l1z) hx fun h₂ h1₂ hs₂ => wpAny_pure ?_)
    refine wpAny_pure ?_
    dsimp only
    refine wpAny_bind (wpAny_bind (wpAny_holding ?_))
    show wpAny _ _ (Builtin.SmallTypes.nextOf (.ref i2) >>= _) _ _ _
    refine wpAny_bind (wpAny_nextOf_list_end hh ((h2.extBut hs₁.extBut D.i2z).extBut hs₂.extBut D.i12.symm) ((hl2.extBut hs₁.extBut D.l2z).extBut hs₂.extBut D.l2i1) hy fun h₃ e hs₃ he => ?_)
    exact hE h₃ e (fun c o c1 c3 c4 x => hs₃ _ _ c4 (hs₂.extBut _ _ c3 (hs₁.extBut _ _ c1 x))) he
theorem wpAny_pyNext_zip_used {z TI TO i1 i2 l1 l2 T : Addr} {b : Bool} {oT : Obj} {k1 k2 : Nat} {xs ys : Array Value} {x y : Value} {Q : Option Value → Shared → Prop} (D : ZipApart z TI TO i1 i2 l1 l2)
    (hz : IsZipU s.heap z TI TO T b) (hT : s.heap.get? T = some oT) (hTI : IsPair s.heap TI (.ref i1) (.ref i2))
    (h1 : s.heap.IsListIter i1 l1 k1) (h2 : s.heap.IsListIter i2 l2 k2) (hl1 : s.heap.IsList l1 xs) (hl2 : s.heap.IsList l2 ys) (hx : xs[k1]? = some x) (hy : ys[k2]? = some y)
    (hQ : ∀ h', IsZipU h' z TI TO T true → h'.IsListIter i1 l1 (k1 + 1) → h'.IsListIter i2 l2 (k2 + 1) → IsPair h' s.heap.objs.size x y →
      (∀ c o, c ≠ z → c ≠ i1 → c ≠ i2 → s.heap.get? c = some o → h'.get? c = some o) → Q (some (.ref s.heap.objs.size)) { s with heap := h' }) :
    wpAny (model prog w) A (pyNext (.ref z)) Q E s := by
  have hTy : s.TypeIs (.ref z) "zip" := ⟨_, hz, rfl⟩
  unfold pyNext
  exact wpAny_bind (wpAny_attempt (wpAny_callSpecial?_slot (name := Str.ofString "__next__") hTy PySem.F.slot_zip_next
    (wpAny_call_entry PySem.F.slot_zip_next hTy PySem.F.entry_zip_next
      (zip_next_used D hz hT hTI h1 h2 hl1 hl2 hx hy fun h' a1 a2 a3 a4 a5 => wpAny_pure (hQ h' a1 a2 a3 a4 a5)) (PySem.F.args_zip_next_1 _))))
theorem wpAny_pyNext_zip_usedEnd {z TI TO i1 i2 l1 l2 T : Addr} {b : Bool} {oT : Obj} {k1 k2 : Nat} {xs ys : Array Value} {Q : Option Value → Shared → Prop} (hh : A.handled = none) (D : ZipApart z TI TO i1 i2 l1 l2)
    (hz : IsZipU s.heap z TI TO T b) (hT : s.heap.get? T = some oT) (hTI : IsPair s.heap TI (.ref i1) (.ref i2))
    (h1 : s.heap.IsListIter i1 l1 k1) (h2 : s.heap.IsListIter i2 l2 k2) (hl1 : s.heap.IsList l1 xs) (hl2 : s.heap.IsList l2 ys) (hend : xs[k1]? = none ∨ ys[k2]? = none)
    (hQ : ∀ h', (∀ c o, c ≠ z → c ≠ i1 → c ≠ i2 → s.heap.get? c = some o → h'.get? c = some o) → Q none { s with heap := h' }) : wpAny (model prog w) A (pyNext (.ref z)) Q E s := by
  have hTy : s.TypeIs (.ref z) "zip" := ⟨_, hz, rfl⟩
  unfold pyNext
  refine wpAny_bind (wpAny_attempt (wpAny_callSpecial?_slot (name := Str.ofString "__next__") hTy PySem.F.slot_zip_next
    (wpAny_call_entry PySem.F.slot_zip_next hTy PySem.F.entry_zip_next (zip_end_used hh D hz hT hTI h1 h2 hl1 hl2 hend fun h' e hk he => ?_) (PySem.F.args_zip_next_1 _))))
  obtain ⟨o, ho, hc⟩ := he
  refine wpAny_bind (wpAny_isInstance (T := "StopIteration") (b := true) ⟨o, ho, hc⟩ isSubtype_stop ?_)
  exact wpAny_pure (hQ _ hk)
end

/-! zips in the ledger -/
def zipO (TI TO : Addr) (f0 : Value) (b : Bool) : OP := fun o => o = { cls := .type "zip", dict := none, data := .fields #[f0, .bool b, .bool false, .ref TI, .ref TO], slots := #[] }
def pairO (a b : Value) : OP := fun o => o = { cls := .type "tuple", data := .seq #[a, b] }
def anyPairO : OP := fun o => ∃ a b, o = { cls := .type "tuple", data := .seq #[a, b] }
/-- one or more objects changed, one of them new -/
theorem Inv.to {h₀ h h' : Heap} {L : Addr} {m : Loc} {H H' : Led} (C : Addr → Prop) (I : Inv h₀ L m H h) (hC : ∀ a, C a → h₀.get? a = none ∧ a ≠ L) (hk : ∀ b o, ¬ C b → h.get? b = some o → h'.get? b = some o)
    (hown : ∀ a P, H' a = some P → (H a = some P ∧ ¬ C a) ∨ (C a ∧ ∃ o, h'.get? a = some o ∧ P o)) (hL : H' L = none) : Inv h₀ L m H' h' := by
  have hnL : ¬ C L := fun q => (hC L q).2 rfl
  obtain ⟨o, es, ep, ho, r⟩ := I.ns
  refine ⟨⟨o, es, ep, hk L o hnL ho, r⟩, fun b o q => hk b o (fun z => ?_) (I.keep b o q), fun a P e => ?_, fun a P e => ?_, I.above, hL⟩
  · rw [(hC b z).1] at q; cases q
  · rcases hown a P e with ⟨e', nc⟩ | ⟨_, r⟩
    · obtain ⟨o, ho, hp⟩ := I.own a P e'
      exact ⟨o, hk a o nc ho, hp⟩
    · exact r
  · rcases hown a P e with ⟨e', _⟩ | ⟨c, _⟩
    · exact I.low a P e'
    · exact (hC a c).1
/-- a zip of two lists, its k-th turn ahead -/
structure Zp (H₀ H : Led) (l1 l2 z TI TO i1 i2 : Addr) (k : Nat) (f0 : Value) (b : Bool) : Prop where
  D : ZipApart z TI TO i1 i2 l1 l2
  hz : H z = some (zipO TI TO f0 b)
  hTI : H TI = some (pairO (.ref i1) (.ref i2))
  hTO : H TO = some anyPairO
  h1 : H i1 = some (listIterO l1 k)
  h2 : H i2 = some (listIterO l2 k)
  nz : H₀ z = none
  nTI : H₀ TI = none
  nTO : H₀ TO = none
  n1 : H₀ i1 = none
  n2 : H₀ i2 = none
theorem Zp.keep {H₀ H H' : Led} {l1 l2 z TI TO i1 i2 : Addr} {k : Nat} {f0 : Value} {b : Bool} (Z : Zp H₀ H l1 l2 z TI TO i1 i2 k f0 b) (h : ∀ a P, H₀ a = none → H a = some P → H' a = some P) : Zp H₀ H' l1 l2 z TI TO i1 i2 k f0 b :=
  ⟨Z.D, h _ _ Z.nz Z.hz, h _ _ Z.nTI Z.hTI, h _ _ Z.nTO Z.hTO, h _ _ Z.n1 Z.h1, h _ _ Z.n2 Z.h2, Z.nz, Z.nTI, Z.nTO, Z.n1, Z.n2⟩
section
variable {prog : Program} {w : World} {A : Around} {E : Value → Shared → Prop} {s : Shared} {h₀ : Heap} {g : Array GenState} {os : OsState} {L l1 l2 : Addr} {m : Loc} {H H₀ : Led} {xs ys : List Value} {z TI TO i1 i2 T : Addr} {k : Nat} {f0 : Value} {b : Bool} {x y : Value}
theorem r_zip {Q : Value → Shared → Prop} (S : St h₀ g os L m H s) (e1 : H l1 = some (listO xs)) (e2 : H l2 = some (listO ys))
    (h : ∀ z TI TO i1 i2 H' s', Sub H H' → (∀ b, H' b = none → H b = none) → z ≠ L → Zp H H' l1 l2 z TI TO i1 i2 0 .none false → St h₀ g os L m H' s' → Q (.ref z) s') : wpAny (model prog w) A (call (.type "zip") [.ref l1, .ref l2]) Q E s := by
  have a1 : l1 < s.heap.objs.size := by obtain ⟨_, e, _⟩ := S.isList e1; exact Heap.lt_size e
  have a2 : l2 < s.heap.objs.size := by obtain ⟨_, e, _⟩ := S.isList e2; exact Heap.lt_size e
  have hnone : ∀ j, H (s.heap.objs.size + j) = none := fun j => by
    cases q : H (s.heap.objs.size + j) with
    | none => rfl
    | some P => obtain ⟨o, ho, _⟩ := S.inv.own _ _ q; exact absurd (Heap.lt_size ho) (Nat.not_lt.mpr (Nat.le_add_right _ _))
  have hL : ∀ j, s.heap.objs.size + j ≠ L := fun j => Nat.ne_of_gt (Nat.lt_of_lt_of_le S.inv.ns.lt (Nat.le_add_right _ _))
  have hz0 : ∀ j, h₀.get? (s.heap.objs.size + j) = none := fun j => get_none_of_le (Nat.le_trans S.inv.fresh₀ (Nat.le_add_right _ _))
  refine call_zip_2 (S.isList e1) (S.isList e2) fun h' hz hTI hTO hi1 hi2 hsz hk => ?_
  have I := S.inv.grow hk
  generalize hn : s.heap.objs.size = n at *
  have d : ∀ i j : Nat, i ≠ j → n + i ≠ n + j := fun i j h q => h (Nat.add_left_cancel q)
  have D := zipApart_new a1 a2
  have J1 := I.add (P := listIterO l1 0) (hnone 0) (hz0 0) (hL 0) hi1
  have J2 := J1.add (P := listIterO l2 0) (a := n + 1) ((upd_ne _ _ (d 1 0 (by decide))).trans (hnone 1)) (hz0 1) (hL 1) hi2
  have J3 := J2.add (P := pairO (.ref n) (.ref (n + 1))) (a := n + 2) ((upd_ne _ _ (d 2 1 (by decide))).trans ((upd_ne _ _ (d 2 0 (by decide))).trans (hnone 2))) (hz0 2) (hL 2) ⟨_, hTI, rfl⟩
  have J4 := J3.add (P := anyPairO) (a := n + 3) ((upd_ne _ _ (d 3 2 (by decide))).trans ((upd_ne _ _ (d 3 1 (by decide))).trans ((upd_ne _ _ (d 3 0 (by decide))).trans (hnone 3)))) (hz0 3) (hL 3) ⟨_, hTO, _, _, rfl⟩
  have J5 := J4.add (P := zipO (n + 2) (n + 3) .none false) (a := n + 4) ((upd_ne _ _ (d 4 3 (by decide))).trans ((upd_ne _ _ (d 4 2 (by decide))).trans ((upd_ne _ _ (d 4 1 (by decide))).trans ((upd_ne _ _ (d 4 0 (by decide))).trans (hnone 4))))) (hz0 4) (hL 4) ⟨_, hz, rfl⟩
  refine h (n + 4) (n + 2) (n + 3) n (n + 1) _ _ ?_ ?_ (hL 4) ⟨D, upd_same _ _ _, ?_, ?_, ?_, ?_, hnone 4, hnone 2, hnone 3, hnone 0, hnone 1⟩ ⟨J5, S.gens, S.os⟩
  · intro b P hb
    have nn : ∀ j, b ≠ n + j := fun j q => by rw [q, hnone j] at hb; cases hb
    exact upd_of (nn 4) (upd_of (nn 3) (upd_of (nn 2) (upd_of (nn 1) (upd_of (nn 0) hb))))
  · intro b hb
    simp only [upd_none_iff] at hb
    exact hb.2.2.2.2.2
  · exact upd_of (d 2 4 (by decide)) (upd_of (d 2 3 (by decide)) (upd_same _ _ _))
  · exact upd_of (d 3 4 (by decide)) (upd_same _ _ _)
  · exact upd_of (d 0 4 (by decide)) (upd_of (d 0 3 (by decide)) (upd_of (d 0 2 (by decide)) (upd_of (d 0 1 (by decide)) (upd_same _ _ _))))
  · exact upd_of (d 1 4 (by decide)) (upd_of (d 1 3 (by decide)) (upd_of (d 1 2 (by decide)) (upd_same _ _ _)))
theorem r_iter_zip {Q : Value → Shared → Prop} (S : St h₀ g os L m H s) (e : H z = some (zipO TI TO f0 false)) (h : Q (.ref z) s) : wpAny (model prog w) A (pyIter (.ref z)) Q E s := by
  obtain ⟨o, ho, rfl⟩ := S.inv.own _ _ e
  exact wpAny_pyIter_zip (TI := TI) (TO := TO) (f0 := f0) ho h
theorem Zp.isList (S : St h₀ g os L m H s) (e1 : H l1 = some (listO xs)) : s.heap.IsList l1 xs.toArray := S.isList e1
/-- no tuple handed out yet, or one that still stands -/
def ZpF (H : Led) (f0 : Value) (b : Bool) : Prop := (f0 = .none ∧ b = false) ∨ ∃ (T : Addr) (P : OP), f0 = rawInt T ∧ H T = some P
/-- what a turn hands out, and what it leaves -/
def ZpNext (h₀ : Heap) (g : Array GenState) (os : OsState) (L : Addr) (m : Loc) (H₀ H : Led) (l1 l2 z TI TO i1 i2 : Addr) (k : Nat) (x y : Value) (Q : Option Value → Shared → Prop) : Prop :=
  ∀ T f1 b H' s', H T = none → T ≠ L → H' T = some (tupO [x, y]) → (∀ c P, H c = some P → c ≠ z → c ≠ TO → c ≠ i1 → c ≠ i2 → H' c = some P) → (∀ c, H' c = none → H c = none) → Zp H₀ H' l1 l2 z TI TO i1 i2 (k + 1) f1 b → ZpF H' f1 b → St h₀ g os L m H' s' → Q (some (.ref T)) s'
theorem zp_step {h' : Heap} {b' : Bool} (S : St h₀ g os L m H s) (Z : Zp H₀ H l1 l2 z TI TO i1 i2 k f0 b) (hN : s.heap.objs.size ≠ L) (f1 : Value)
    (hz : h'.get? z = some { cls := .type "zip", dict := none, data := .fields #[f1, .bool b', .bool false, .ref TI, .ref TO], slots := #[] }) (hTO : ∃ a c, IsPair h' TO a c) (h1 : h'.IsListIter i1 l1 (k + 1)) (h2 : h'.IsListIter i2 l2 (k + 1)) (hT : IsPair h' s.heap.objs.size x y)
    (hk : ∀ c o, c ≠ z → c ≠ TO → c ≠ i1 → c ≠ i2 → s.heap.get? c = some o → h'.get? c = some o) :
    ∃ H', H' s.heap.objs.size = some (tupO [x, y]) ∧ (∀ c P, H c = some P → c ≠ z → c ≠ TO → c ≠ i1 → c ≠ i2 → H' c = some P) ∧ (∀ c, H' c = none → H c = none) ∧ Zp H₀ H' l1 l2 z TI TO i1 i2 (k + 1) f1 b' ∧ St h₀ g os L m H' { s with heap := h' } := by
  have f0' := S.inv.fresh
  have D := Z.D
  have nz := led_ne f0' Z.hz
  have nTI := led_ne f0' Z.hTI
  have nTO := led_ne f0' Z.hTO
  have n1 := led_ne f0' Z.h1
  have n2 := led_ne f0' Z.h2
  have J := S.inv
  refine ⟨upd (upd (upd (upd (upd H z (zipO TI TO f1 b')) TO anyPairO) i1 (listIterO l1 (k + 1))) i2 (listIterO l2 (k + 1))) s.heap.objs.size (tupO [x, y]), upd_same _ _ _, ?_, ?_, ⟨D, ?_, ?_, ?_, ?_, ?_, Z.nz, Z.nTI, Z.nTO, Z.n1, Z.n2⟩, ⟨?_, S.gens, S.os⟩⟩
  · intro c P hc c1 c2 c3 c4
    exact upd_of (led_ne f0' hc) (upd_of c4 (upd_of c3 (upd_of c2 (upd_of c1 hc))))
  · intro c hc
    simp only [upd_none_iff] at hc
    exact hc.2.2.2.2.2
  · exact upd_of nz (upd_of D.i2z.symm (upd_of D.i1z.symm (upd_of D.TOz.symm (upd_same _ _ _))))
  · exact upd_of nTI (upd_of D.TIi2 (upd_of D.TIi1 (upd_of D.TITO (upd_of D.TIz Z.hTI))))
  · exact upd_of nTO (upd_of D.TOi2 (upd_of D.TOi1 (upd_same _ _ _)))
  · exact upd_of n1 (upd_of D.i12 (upd_same _ _ _))
  · exact upd_of n2 (upd_same _ _ _)
  · refine J.to (fun c => c = z ∨ c = TO ∨ c = i1 ∨ c = i2 ∨ c = s.heap.objs.size) ?_ ?_ ?_ ?_
    · rintro a (rfl | rfl | rfl | rfl | rfl)
      · exact ⟨J.new _ _ Z.hz, J.neL Z.hz⟩
      · exact ⟨J.new _ _ Z.hTO, J.neL Z.hTO⟩
      · exact ⟨J.new _ _ Z.h1, J.neL Z.h1⟩
      · exact ⟨J.new _ _ Z.h2, J.neL Z.h2⟩
      · exact ⟨J.freshN, hN⟩
    · intro c o nc e
      simp only [not_or] at nc
      exact hk c o nc.1 nc.2.1 nc.2.2.1 nc.2.2.2.1 e
    · intro a P e
      by_cases c5 : a = s.heap.objs.size
      · rw [c5, upd_same] at e; cases e; exact .inr ⟨.inr (.inr (.inr (.inr c5))), _, c5 ▸ hT, 0, rfl⟩
      rw [upd_ne _ _ c5] at e
      by_cases c4 : a = i2
      · rw [c4, upd_same] at e; cases e; exact .inr ⟨.inr (.inr (.inr (.inl c4))), c4 ▸ h2⟩
      rw [upd_ne _ _ c4] at e
      by_cases c3 : a = i1
      · rw [c3, upd_same] at e; cases e; exact .inr ⟨.inr (.inr (.inl c3)), c3 ▸ h1⟩
      rw [upd_ne _ _ c3] at e
      by_cases c2 : a = TO
      · rw [c2, upd_same] at e; cases e
        obtain ⟨p, q, hp⟩ := hTO
        exact .inr ⟨.inr (.inl c2), _, c2 ▸ hp, p, q, rfl⟩
      rw [upd_ne _ _ c2] at e
      by_cases c1 : a = z
      · rw [c1, upd_same] at e; cases e; exact .inr ⟨.inl c1, _, c1 ▸ hz, rfl⟩
      rw [upd_ne _ _ c1] at e
      exact .inl ⟨e, by simp only [not_or]; exact ⟨c1, c2, c3, c4, c5⟩⟩
    · have a1 := J.neL Z.hz
      have a2 := J.neL Z.hTO
      have a3 := J.neL Z.h1
      have a4 := J.neL Z.h2
      rw [upd_ne _ _ hN.symm, upd_ne _ _ a4.symm, upd_ne _ _ a3.symm, upd_ne _ _ a2.symm, upd_ne _ _ a1.symm]; exact J.out
theorem r_next_zip {Q : Option Value → Shared → Prop} (S : St h₀ g os L m H s) (Z : Zp H₀ H l1 l2 z TI TO i1 i2 k f0 b) (e1 : H l1 = some (listO xs)) (e2 : H l2 = some (listO ys)) (hx : xs[k]? = some x) (hy : ys[k]? = some y)
    (hf : ZpF H f0 b) (h : ZpNext h₀ g os L m H₀ H l1 l2 z TI TO i1 i2 k x y Q) : wpAny (model prog w) A (pyNext (.ref z)) Q E s := by
  obtain ⟨oz, hz, rfl⟩ := S.inv.own _ _ Z.hz
  obtain ⟨oTI, hTI, rfl⟩ := S.inv.own _ _ Z.hTI
  obtain ⟨oTO, hTO, p, q, rfl⟩ := S.inv.own _ _ Z.hTO
  have f0' := S.inv.fresh
  rcases hf with ⟨rfl, rfl⟩ | ⟨T, P, rfl, hT⟩
  · refine wpAny_pyNext_zip_item Z.D hz hTI hTO (S.inv.own _ _ Z.h1) (S.inv.own _ _ Z.h2) (S.isList e1) (S.isList e2) (by rw [List.getElem?_toArray]; exact hx) (by rw [List.getElem?_toArray]; exact hy) fun h' b1 b2 b3 b4 b5 _ b6 => ?_
    obtain ⟨H', c1, c2, c3, c4, c5⟩ := zp_step (b' := false) S Z S.inv.freshL (rawInt s.heap.objs.size) b1 ⟨_, _, b2⟩ b3 b4 b5 b6
    exact h _ _ _ H' _ f0' S.inv.freshL c1 c2 c3 c4 (.inr ⟨_, _, rfl, c1⟩) c5
  · obtain ⟨oT, hoT, _⟩ := S.inv.own _ _ hT
    refine wpAny_pyNext_zip_used Z.D hz hoT hTI (S.inv.own _ _ Z.h1) (S.inv.own _ _ Z.h2) (S.isList e1) (S.isList e2) (by rw [List.getElem?_toArray]; exact hx) (by rw [List.getElem?_toArray]; exact hy) fun h' b1 b3 b4 b5 b6 => ?_
    obtain ⟨H', c1, c2, c3, c4, c5⟩ := zp_step (b' := true) S Z S.inv.freshL (rawInt T) b1 ⟨p, q, b6 _ _ Z.D.TOz Z.D.TOi1 Z.D.TOi2 hTO⟩ b3 b4 b5 fun c o d1 _ d3 d4 e => b6 c o d1 d3 d4 e
    refine h _ _ _ H' _ f0' S.inv.freshL c1 c2 c3 c4 (.inr ?_) c5
    cases q : H' T with
    | some P' => exact ⟨T, P', rfl, q⟩
    | none => rw [c3 T q] at hT; cases hT
theorem r_end_zip {Q : Option Value → Shared → Prop} (hh : A.handled = none) (S : St h₀ g os L m H s) (Z : Zp H₀ H l1 l2 z TI TO i1 i2 k f0 b) (e1 : H l1 = some (listO xs)) (e2 : H l2 = some (listO ys)) (he : xs[k]? = none ∨ ys[k]? = none)
    (hf : ZpF H f0 b) (h : ∀ H' s', (∀ c P, H c = some P → c ≠ z → c ≠ TO → c ≠ i1 → c ≠ i2 → H' c = some P) → St h₀ g os L m H' s' → Q none s') : wpAny (model prog w) A (pyNext (.ref z)) Q E s := by
  obtain ⟨oz, hz, rfl⟩ := S.inv.own _ _ Z.hz
  obtain ⟨oTI, hTI, rfl⟩ := S.inv.own _ _ Z.hTI
  obtain ⟨oTO, hTO, p, q, rfl⟩ := S.inv.own _ _ Z.hTO
  have J := S.inv
  have fin : ∀ h' : Heap, (∀ c o, c ≠ z → c ≠ TO → c ≠ i1 → c ≠ i2 → s.heap.get? c = some o → h'.get? c = some o) → Q none { s with heap := h' } := by
    intro h' hk
    refine h (Mine.del (Mine.del (Mine.del (Mine.del H z) TO) i1) i2) _ (fun c P hc c1 c2 c3 c4 => (del_ne _ c4).trans ((del_ne _ c3).trans ((del_ne _ c2).trans ((del_ne _ c1).trans hc)))) ⟨?_, S.gens, S.os⟩
    refine J.to (fun c => c = z ∨ c = TO ∨ c = i1 ∨ c = i2) ?_ ?_ ?_ ?_
    · rintro a (rfl | rfl | rfl | rfl)
      · exact ⟨J.new _ _ Z.hz, J.neL Z.hz⟩
      · exact ⟨J.new _ _ Z.hTO, J.neL Z.hTO⟩
      · exact ⟨J.new _ _ Z.h1, J.neL Z.h1⟩
      · exact ⟨J.new _ _ Z.h2, J.neL Z.h2⟩
    · intro c o nc e
      simp only [not_or] at nc
      exact hk c o nc.1 nc.2.1 nc.2.2.1 nc.2.2.2 e
    · intro a P e
      by_cases c4 : a = i2
      · rw [c4, del_same] at e; cases e
      rw [del_ne _ c4] at e
      by_cases c3 : a = i1
      · rw [c3, del_same] at e; cases e
      rw [del_ne _ c3] at e
      by_cases c2 : a = TO
      · rw [c2, del_same] at e; cases e
      rw [del_ne _ c2] at e
      by_cases c1 : a = z
      · rw [c1, del_same] at e; cases e
      rw [del_ne _ c1] at e
      exact .inl ⟨e, by simp only [not_or]; exact ⟨c1, c2, c3, c4⟩⟩
    · rw [del_ne _ (J.neL Z.h2).symm, del_ne _ (J.neL Z.h1).symm, del_ne _ (J.neL Z.hTO).symm, del_ne _ (J.neL Z.hz).symm]; exact J.out
  rcases hf with ⟨rfl, rfl⟩ | ⟨T, P, rfl, hT⟩
  · exact wpAny_pyNext_zip_end hh Z.D hz hTI hTO (S.inv.own _ _ Z.h1) (S.inv.own _ _ Z.h2) (S.isList e1) (S.isList e2) (by simpa only [List.getElem?_toArray] using he) fin
  · obtain ⟨oT, hoT, _⟩ := S.inv.own _ _ hT
    exact wpAny_pyNext_zip_usedEnd hh Z.D hz hoT hTI (S.inv.own _ _ Z.h1) (S.inv.own _ _ Z.h2) (S.isList e1) (S.isList e2) (by simpa only [List.getElem?_toArray] using he) fun h' hk => fin h' fun c o c1 _ c3 c4 e => hk c o c1 c3 c4 e
end

/-! ## list(zip(a, b)) -/
theorem zip_no_len : typeLookup (.type "zip") "__len__" = pure none := by rw [typeLookup_type, builtinLookup_eq_fast]; kernel_rfl
theorem zip_no_hint : typeLookup (.type "zip") "__length_hint__" = pure none := by rw [typeLookup_type, builtinLookup_eq_fast]; kernel_rfl
theorem PairsAre.snoc {H : Led} : ∀ {vs ps} {p : Int × Int} {t : Addr} {ta tb : Tok}, PairsAre H vs ps → H t = some (tupO [.int p.1 ta, .int p.2 tb]) → PairsAre H (vs ++ [.ref t]) (ps ++ [p])
  | [], [], _, t, ta, tb, _, h => ⟨⟨t, ta, tb, rfl, h⟩, trivial⟩
  | _ :: _, _ :: _, _, _, _, _, ⟨x, r⟩, h => ⟨x, r.snoc h⟩
  | [], _ :: _, _, _, _, _, x, _ => x.elim
  | _ :: _, [], _, _, _, _, x, _ => x.elim
theorem PairsAre.keep {H H' : Led} : ∀ {vs ps}, PairsAre H vs ps → (∀ a i j ta tb, H a = some (tupO [.int i ta, .int j tb]) → H' a = some (tupO [.int i ta, .int j tb])) → PairsAre H' vs ps
  | [], [], _, _ => trivial
  | _ :: _, _ :: _, ⟨⟨t, ta, tb, e, ht⟩, r⟩, h => ⟨⟨t, ta, tb, e, h _ _ _ _ _ ht⟩, r.keep h⟩
  | [], _ :: _, x, _ => x.elim
  | _ :: _, [], x, _ => x.elim
theorem PairsAre.app {H : Led} : ∀ {vs ps ws qs}, PairsAre H vs ps → PairsAre H ws qs → PairsAre H (vs ++ ws) (ps ++ qs)
  | [], [], _, _, _, y => y
  | _ :: _, _ :: _, _, _, ⟨x, r⟩, y => ⟨x, r.app y⟩
  | [], _ :: _, _, _, x, _ => x.elim
  | _ :: _, [], _, _, x, _ => x.elim
/-- places of different kinds differ -/
theorem kind_ne {H : Led} {a t : Addr} {P P' : OP} (et : H t = some P) (ea : H a = some P') (h : ∃ o, P' o ∧ ¬ P o) : t ≠ a := by
  rintro rfl
  obtain ⟨o, h1, h2⟩ := h
  rw [et] at ea; cases ea
  exact h2 h1
theorem tup_zip {vs : List Value} {TI TO : Addr} {f0 : Value} {b : Bool} : ∃ o, zipO TI TO f0 b o ∧ ¬ tupO vs o := ⟨_, rfl, fun ⟨n, q⟩ => absurd (congrArg Obj.cls q) (by simp)⟩
theorem tup_li {vs : List Value} {l : Addr} {i : Nat} : ∃ o, listIterO l i o ∧ ¬ tupO vs o := ⟨{ cls := .type "list_iterator", data := .fields #[.ref l, .int i 0] }, ⟨rfl, rfl⟩, fun ⟨n, q⟩ => absurd (congrArg Obj.cls q) (by simp)⟩
theorem tup_list {vs ws : List Value} : ∃ o, listO ws o ∧ ¬ tupO vs o := ⟨_, ⟨0, rfl⟩, fun ⟨n, q⟩ => absurd (congrArg Obj.cls q) (by simp [W.listOf])⟩
theorem tup_range {vs : List Value} {x left : Int} : ∃ o, rangeIterO x left o ∧ ¬ tupO vs o := ⟨_, rfl, fun ⟨n, q⟩ => absurd (congrArg Obj.cls q) (by simp)⟩
theorem tup_pair {i j : Int} {ta tb : Tok} : ∃ o, anyPairO o ∧ ¬ tupO [.int i ta, .int j tb] o := ⟨{ cls := .type "tuple", data := .seq #[.none, .none] }, ⟨_, _, rfl⟩, fun ⟨n, q⟩ => absurd (congrArg Obj.data q) (by simp)⟩
section
variable {prog : Program} {w : World} {A : Around} {E : Value → Shared → Prop} {s : Shared} {h₀ : Heap} {g : Array GenState} {os : OsState} {L l1 l2 : Addr} {m : Loc} {H H₀ : Led} {xs ys : List Value} {z TI TO i1 i2 T c : Addr} {k : Nat} {f0 : Value} {b : Bool} {as bs : List Int}
theorem Zp.tups (Z : Zp H₀ H l1 l2 z TI TO i1 i2 k f0 b) {t : Addr} {i j : Int} {ta tb : Tok} (h : H t = some (tupO [.int i ta, .int j tb])) : t ≠ z ∧ t ≠ TO ∧ t ≠ i1 ∧ t ≠ i2 :=
  ⟨kind_ne h Z.hz tup_zip, kind_ne h Z.hTO tup_pair, kind_ne h Z.h1 tup_li, kind_ne h Z.h2 tup_li⟩
theorem updateSeq_list {f : Array Value → Array Value} {vs ws : List Value} {Q : Unit → Shared → Prop} (S : St h₀ g os L m H s) (e : H c = some (listO vs)) (hf : f vs.toArray = ws.toArray) (hz : vs.length ≤ 16777216) (hz' : ws.length ≤ 16777217) (h : ∀ s', St h₀ g os L m (upd H c (listO ws)) s' → Q () s') : wpAny (model prog w) A (updateSeq c f) Q E s := by
  obtain ⟨o, ho, n, rfl⟩ := S.inv.own _ _ e
  refine wpAny_updateSeq ho rfl (h _ ⟨S.inv.change e (Heap.SameBut.update ..).extBut ⟨_, Heap.get?_update_self _ ho rfl, ?_⟩, S.gens, S.os⟩) (by rw [List.size_toArray, sizeLine_eq]; exact hz) (by rw [hf, List.size_toArray, sizeLine_eq]; omega)
  show ∃ n', Obj.mapSeq f (W.listOf vs.toArray n) = W.listOf ws.toArray n'
  unfold Obj.mapSeq W.listOf
  dsimp only
  rw [hf]
  exact ⟨_, rfl⟩
theorem updateSeq_push {vs : List Value} {v : Value} {Q : Unit → Shared → Prop} (S : St h₀ g os L m H s) (e : H c = some (listO vs)) (hz : vs.length ≤ 16777216) (h : ∀ s', St h₀ g os L m (upd H c (listO (vs ++ [v]))) s' → Q () s') : wpAny (model prog w) A (updateSeq c (·.push v)) Q E s :=
  updateSeq_list S e (by rw [List.push_toArray]) hz (by simp; omega) h
theorem extend_zip {R : Result → Shared → Prop} (hh : A.handled = none) (hz : as.length ≤ 1000) (hc0 : ∀ b, b = c → b ≠ z ∧ b ≠ TO ∧ b ≠ i1 ∧ b ≠ i2 ∧ b ≠ l1 ∧ b ≠ l2 ∧ b ≠ TI) (hxs : IntsAre xs as) (hys : IntsAre ys bs) (hcn : H₀ c = none) :
    ∀ (n k : Nat) (H : Led) (s : Shared) (f0 : Value) (b : Bool) (vs : List Value), n + k = (as.zip bs).length → St h₀ g os L m H s → Zp H₀ H l1 l2 z TI TO i1 i2 k f0 b → ZpF H f0 b → H l1 = some (listO xs) → H l2 = some (listO ys) → H c = some (listO vs) → PairsAre H vs ((as.zip bs).take k) → Sub H₀ H →
    (∀ H' s' vs', PairsAre H' vs' (as.zip bs) → H' c = some (listO vs') → Sub H₀ H' → St h₀ g os L m H' s' → R (.ok (.ret .none)) s') →
    codeAny (model prog w) A (.builtin "list.extend.loop" ⟨[.ref c, .ref z, .none], []⟩) R s
  | 0, k, H, s, f0, b, vs, hk, S, Z, F, e1, e2, ec, hp, hsub, h => by
    refine codeAny_builtin PySem.F.entry_extend_loop ?_
    rw [Around.under_plainId PySem.F.plain_extend_loop _]
    show wpAny _ A.in1 (pyNext (.ref z) >>= _) _ _ s
    have hl1 := ints_len hxs
    have hl2 := ints_len hys
    refine wpAny_bind (r_end_zip (A := A.in1) hh S Z e1 e2 ?_ F fun H' s' kp S' => ?_)
    · rw [List.length_zip] at hk
      rcases Nat.le_total as.length bs.length with q | q
      · exact .inl (List.getElem?_eq_none (by omega))
      · exact .inr (List.getElem?_eq_none (by omega))
    · obtain ⟨c1, c2, c3, c4, _⟩ := hc0 c rfl
      refine wpAny_pure (h H' s' vs ?_ (kp c _ ec c1 c2 c3 c4) (fun a P ha => kp a P (hsub a P ha) (led_ne Z.nz ha) (led_ne Z.nTO ha) (led_ne Z.n1 ha) (led_ne Z.n2 ha)) S')
      rw [show k = (as.zip bs).length from by omega, List.take_length] at hp
      exact hp.keep fun a i j ta tb e => kp a _ e (Z.tups e).1 (Z.tups e).2.1 (Z.tups e).2.2.1 (Z.tups e).2.2.2
  | n + 1, k, H, s, f0, b, vs, hk, S, Z, F, e1, e2, ec, hp, hsub, h => by
    refine codeAny_builtin PySem.F.entry_extend_loop ?_
    rw [Around.under_plainId PySem.F.plain_extend_loop _]
    show wpAny _ A.in1 (pyNext (.ref z) >>= _) _ _ s
    have hkl : k < (as.zip bs).length := by omega
    have hkl' := hkl
    rw [List.length_zip] at hkl'
    obtain ⟨c1, c2, c3, c4, c5, c6, c7⟩ := hc0 c rfl
    obtain ⟨a, ta, ha, hxa⟩ : ∃ a ta, as[k]? = some a ∧ xs[k]? = some (.int a ta) := by
      rcases ints_at hxs k with ⟨n, t, q1, q2⟩ | ⟨q1, _⟩
      · exact ⟨n, t, q1, q2⟩
      · rw [List.getElem?_eq_getElem (by omega)] at q1; cases q1
    obtain ⟨d, td, hd, hyd⟩ : ∃ a ta, bs[k]? = some a ∧ ys[k]? = some (.int a ta) := by
      rcases ints_at hys k with ⟨n, t, q1, q2⟩ | ⟨q1, _⟩
      · exact ⟨n, t, q1, q2⟩
      · rw [List.getElem?_eq_getElem (by omega)] at q1; cases q1
    have hpl : vs.length = k := by rw [hp.len, List.length_take]; omega
    refine wpAny_bind (r_next_zip (A := A.in1) S Z e1 e2 hxa hyd F ?_)
    intro T f1 b' H' s' hT hTL kT kp kn Z' F' S'
    have ec' := kp c _ ec c1 c2 c3 c4
    have hTc : T ≠ c := fun q => by rw [q, ec] at hT; cases hT
    have D := Z.D
    have ne1 := led_ne hT e1
    have ne2 := led_ne hT e2
    show wpAny _ A.in1 (updateSeq c (·.push (.ref T)) >>= _) _ _ _
    refine wpAny_bind (updateSeq_push S' ec' (by rw [hpl]; omega) fun s₂ S₂ => wpAny_pure ⟨plainId_quiet PySem.F.plain_extend_loop _, ?_⟩)
    have hzip : (as.zip bs)[k]? = some (a, d) := by simp [List.getElem?_zip_eq_some, ha, hd]
    refine extend_zip hh hz hc0 hxs hys hcn n (k + 1) _ s₂ f1 b' (vs ++ [.ref T]) (by omega) S₂ ?_ ?_ ?_ ?_ (upd_same _ _ _) ?_ ?_ h
    · exact ⟨D, upd_of c1.symm Z'.hz, upd_of c7.symm Z'.hTI, upd_of c2.symm Z'.hTO, upd_of c3.symm Z'.h1, upd_of c4.symm Z'.h2, Z'.nz, Z'.nTI, Z'.nTO, Z'.n1, Z'.n2⟩
    · rcases F' with q | ⟨T', P', q1, q2⟩
      · exact .inl q
      · by_cases q : T' = c
        · exact .inr ⟨T', _, q1, by rw [q]; exact upd_same _ _ _⟩
        · exact .inr ⟨T', P', q1, upd_of q q2⟩
    · exact upd_of c5.symm (kp l1 _ e1 D.l1z D.l1TO D.l1i1 D.l1i2)
    · exact upd_of c6.symm (kp l2 _ e2 D.l2z D.l2TO D.l2i1 D.l2i2)
    · have ht : (as.zip bs).take (k + 1) = (as.zip bs).take k ++ [(a, d)] := by
        rw [List.take_add_one, hzip]; rfl
      rw [ht]
      refine PairsAre.snoc ?_ (upd_of hTc kT)
      refine hp.keep fun t i j t1 t2 e => ?_
      exact upd_of (kind_ne e ec tup_list) (kp t _ e (Z.tups e).1 (Z.tups e).2.1 (Z.tups e).2.2.1 (Z.tups e).2.2.2)
    · intro t P ht
      exact upd_of (led_ne hcn ht) (kp t P (hsub t P ht) (led_ne Z.nz ht) (led_ne Z.nTO ht) (led_ne Z.n1 ht) (led_ne Z.n2 ht))
theorem r_list_zip {Q : Value → Shared → Prop} (hh : A.handled = none) (hz : as.length ≤ 1000) (hxs : IntsAre xs as) (hys : IntsAre ys bs) (S : St h₀ g os L m H s) (Z : Zp H₀ H l1 l2 z TI TO i1 i2 0 .none false) (hsub : Sub H₀ H) (e1 : H l1 = some (listO xs)) (e2 : H l2 = some (listO ys))
    (h : ∀ c vs H' s', H₀ c = none → c ≠ L → PairsAre H' vs (as.zip bs) → H' c = some (listO vs) → Sub H₀ H' → St h₀ g os L m H' s' → Q (.ref c) s') : wpAny (model prog w) A (call (.type "list") [.ref z]) Q E s := by
  have hf := S.inv.fresh
  have S₁ : St h₀ g os L m (upd H s.heap.objs.size (listO [])) { s with heap := s.heap.push { cls := .type "list", data := .seq #[] } } := ⟨S.inv.push _ ⟨0, rfl⟩, S.gens, S.os⟩
  have hL := S.inv.freshL
  refine callType_codes (Q₁ := fun obj s₁ => obj = .ref s.heap.objs.size ∧ St h₀ g os L m (upd H s.heap.objs.size (listO [])) s₁) PySem.F.called_list (PySem.F.typeCall_list_1 _) PySem.F.entry_list_init
    (code_list_new _ ⟨rfl, S₁⟩) fun obj s₁ h₁ => ?_
  generalize s.heap.objs.size = c at *
  obtain ⟨rfl, S₂⟩ := h₁
  clear S₁
  have hT : ∀ {s' : Shared} {H' : Led}, St h₀ g os L m H' s' → H' z = some (zipO TI TO .none false) → s'.TypeIs (.ref z) "zip" := by
    intro s' H' S' e
    obtain ⟨o, ho, rfl⟩ := S'.inv.own _ _ e
    exact ⟨_, ho, rfl⟩
  have hzc := led_ne hf Z.hz
  have k1 : upd H c (listO []) z = some (zipO TI TO .none false) := upd_of hzc Z.hz
  refine ⟨?_, PySem.F.args_list_init_2 _ _, ?_⟩
  · obtain ⟨o, ho, n, rfl⟩ := S₂.inv.own _ _ (upd_same H c (listO []))
    exact ⟨_, ho, rfl⟩
  show wpAny (model prog w) A.in1.in1 (do let old ← Builtin.List.listItems (.ref c); Builtin.List.listUpdate (.ref c) (fun _ => #[]); letGo old.toList.reverse; Builtin.List.listExtendWith (.ref c) (.ref z) .none) _ _ s₁
  refine wpAny_bind ?_
  unfold Builtin.List.listItems
  obtain ⟨o, ho, n, rfl⟩ := S₂.inv.own _ _ (upd_same H c (listO []))
  refine wpAny_bind (wpAny_seqItems ho rfl (wpAny_pure ?_))
  show wpAny (model prog w) A.in1.in1 (updateSeq c (fun _ => #[]) >>= fun _ => letGo (#[] : Array Value).toList.reverse >>= fun _ => Builtin.List.listExtendWith (.ref c) (.ref z) .none) _ _ s₁
  refine wpAny_bind (updateSeq_list (ws := []) S₂ (upd_same _ _ _) rfl (by simp) (by simp) fun s₃ S₃ => ?_)
  refine wpAny_bind (wpAny_letGo ?_)
  rw [upd_upd] at S₃
  unfold Builtin.List.listExtendWith
  refine wpAny_bind (wpAny_typeOf (hT S₃ k1) ?_)
  have h1 : Builtin.List.listSameRef (.ref c) (.ref z) = false := by simp [Builtin.List.listSameRef]; exact fun q => hzc q.symm
  have h2 : (Value.type "zip" == Value.type "list") = false := by decide
  have h3 : (Value.type "zip" == Value.type "tuple") = false := by decide
  simp only [h1, h2, h3, Bool.or_false, Bool.false_eq_true, if_false]
  refine wpAny_bind (r_iter_zip S₃ k1 ?_)
  refine wpAny_bind (wpAny_holding ?_)
  unfold Builtin.List.listLengthHint
  refine wpAny_bind (wpAny_specialOf (hT S₃ k1) zip_no_len ?_)
  show wpAny (model prog w) A.in1.in1 (specialOf (Value.ref z) (Str.ofString "__length_hint__") >>= _) _ _ _
  refine wpAny_bind (wpAny_specialOf (hT S₃ k1) zip_no_hint ?_)
  refine wpAny_pure ?_
  show wpAny (model prog w) A.in1.in1 (rule "list.extend.makes-room" >>= fun _ => Builtin.List.listTouch (.ref c) >>= fun _ =>
    again (.builtin "list.extend.loop" ⟨[.ref c, .ref z, .none], []⟩)) _ _ _
  refine wpAny_bind (wpAny_rule ?_)
  refine wpAny_bind ?_
  show wpAny (model prog w) A.in1.in1 (updateSeq c (·.push .none) >>= fun _ => updateSeq c (·.pop)) _ _ _
  refine wpAny_bind (updateSeq_list (ws := [.none]) S₃ (upd_same _ _ _) rfl (by simp) (by simp) fun s₄ S₄ => ?_)
  rw [upd_upd] at S₄
  refine updateSeq_list (ws := []) S₄ (upd_same _ _ _) (by simp) (by simp) (by simp) fun s₅ S₅ => ?_
  rw [upd_upd] at S₅
  refine wpAny_pure ⟨plainId_quiet PySem.F.plain_extend_loop _, ?_⟩
  have D := Z.D
  have nTI := led_ne hf Z.hTI
  have nTO := led_ne hf Z.hTO
  have n1 := led_ne hf Z.h1
  have n2 := led_ne hf Z.h2
  have m1 := led_ne hf e1
  have m2 := led_ne hf e2
  have hcn : H₀ c = none := by
    cases q : H₀ c with
    | none => rfl
    | some P => rw [hsub _ _ q] at hf; cases hf
  refine extend_zip (A := A.in1) hh hz (fun b q => by rw [q]; exact ⟨hzc.symm, nTO.symm, n1.symm, n2.symm, m1.symm, m2.symm, nTI.symm⟩) hxs hys hcn _ 0 _ s₅ .none false [] (Nat.add_zero _) S₅ ⟨D, k1, upd_of nTI Z.hTI, upd_of nTO Z.hTO, upd_of n1 Z.h1, upd_of n2 Z.h2, Z.nz, Z.nTI, Z.nTO, Z.n1, Z.n2⟩ (.inl ⟨rfl, rfl⟩) (upd_of m1 e1) (upd_of m2 e2) (upd_same _ _ _) trivial (fun t P ht => upd_of (led_ne hcn ht) (hsub t P ht)) ?_
  intro H' s' vs' q1 q2 q3 S'
  exact ⟨rfl, h c vs' H' s' hcn hL q1 q2 q3 S'⟩
end

/-! ## A def with two cells -/
section
variable {prog : Program} {w : World} {A : Around} {E : Value → Shared → Prop} {s : Shared} {h₀ : Heap} {g : Array GenState} {os : OsState} {L c : Addr} {m : Loc} {H : Led} {cs : Scope} {cl : List (Str × Addr)} {qn : Str} {fo : Option Addr} {ccd : Value} {fr : Option Addr} {x : Str} {pos : Pos} {v : Value} {v₀ : Option Value}
theorem e_nf {Q : Value → Shared → Prop} (S : St h₀ g os L m H s) (hc : cl.lookup x = some c) (hv : H c = some (cellO (some v))) (h : Q v s) (hk : cs.kind = .function) (hx : (envE cs L cl qn fo ccd fr).kindOf x = some .free) (hd : (x == ("__debug__" : Str)) = false) (hn : (x == ("__classdict__" : Str)) = false) :
    wpAny (model prog w) A (eval (.Name x pos) (envE cs L cl qn fo ccd fr)) Q E s := wpAny_Name (wpAny_loadName_free hk hx hc (S.inv.own _ _ hv) h hn) hd
theorem e_stc {Q : Unit → Shared → Prop} (S : St h₀ g os L m H s) (hc : cl.lookup x = some c) (hv : H c = some (cellO v₀)) (h : ∀ s', St h₀ g os L m (upd H c (cellO (some v))) s' → Q () s') (hk : cs.kind = .function) (hx : (envE cs L cl qn fo ccd fr).kindOf x = some .cell) :
    wpAny (model prog w) A (storeName (envE cs L cl qn fo ccd fr) x v) Q E s :=
  wpAny_storeName_cell hk hx hc (S.inv.own _ _ hv) fun h' hc' hs => h _ ⟨S.inv.change hv hs.extBut hc', S.gens, S.os⟩
theorem r_call2c {R : Result → Shared → Prop} {f : Addr} {oc : Value} {od : Option Addr} {osl : Array (Option Value)} {name qual : Str} {params : Arguments} {body : List Stmt} {scope : Scope} {dV kV doc pm : Value} {an : Option Addr} {cdv ct : Value}
    {vals : List Value} {y1 y2 : Str} (B : Bs w h₀) (S : St h₀ g os L m H s)
    (hl : (KK w).lookup f = some ⟨oc, od, .func (fnOf name qual params body scope dV kV doc pm an cdv ct), osl⟩) (hcd : codeIn (KK w) cdv qual = true) (hroom : A.depth < recursionLimit)
    (hbind : bindArgs (fnOf name qual params body scope dV kV doc pm an cdv ct) ⟨vals, []⟩ = pure [(y1, v)]) (hcs : ∀ n, cellsFrom (n + 1) scope.names [] = [(y2, n + 2), (y1, n + 1)]) (hy : scope.names.lookup y1 = some .cell) (hne : (y1 == y2) = false)
    (hco : scope.isCoroutine = false) (hgen : scope.isGenerator = false) (hk : scope.kind = .function)
    (h : ∀ L' c1 c2 oL H₁ s₁, L' ≠ L → H L' = none → H c1 = none → H c2 = none → c1 ≠ L → c2 ≠ L → c1 ≠ c2 → (∀ b P, upd H L (frO oL) b = some P → H₁ b = some P) → H₁ c1 = some (cellO (some v)) → H₁ c2 = some (cellO none) → St h₀ g os L' (fun _ => none) H₁ s₁ →
      (∀ g' m' H' s', St h₀ g' os L' m' H' s' → H' L = some (frO oL) → St h₀ g' os L m (del H' L) s') →
      wpAny (model prog w) (A.deeper (envX qual scope L' f cdv [(y2, c2), (y1, c1)])) (execs body (envX qual scope L' f cdv [(y2, c2), (y1, c1)])) (fun fl s' => R (.ok (.ret (match fl with | .ret v => v | _ => .none))) s')
        (fun e s' => wpAny (model prog w) (A.deeper (envX qual scope L' f cdv [(y2, c2), (y1, c1)])) (leaving (envX qual scope L' f cdv [(y2, c2), (y1, c1)]) e) (fun _ s'' => R (.error e) s'') (fun e' s'' => R (.error e') s'') s') s₁) :
    codeAny (model prog w) A (.call (.ref f) ⟨vals, []⟩) R s := by
  obtain ⟨p, loose, mg, mb, T⟩ := B.T
  have X := B.X.keeps S.inv.keep
  have hlk : ∀ n, ((cellsFrom (n + 1) scope.names []).lookup y1) = some (n + 1) := fun n => by rw [hcs, List.lookup_cons, hne]; simp
  refine codeAny_call_cells (fd := fnOf name qual params body scope dV kV doc pm an cdv ct) (body := body) hroom (X _ _ hl) rfl (T.nolimit.keeps S.inv.keep) (codeRec_of X hcd) rfl hbind rfl (fun z hz => ?_) (fun s₁ x => ?_) hco hgen hk
  · cases List.mem_singleton.mp hz
    exact .inr ⟨hy, by show ((cellsFrom _ scope.names []).lookup y1).isSome = true; rw [hlk]; rfl⟩
  obtain ⟨oL, es, ep, hL, hr⟩ := S.inv.ns
  have hkd : (callEnvC (fnOf name qual params body scope dV kV doc pm an cdv ct) s.heap.objs.size f).kindOf y1 = some .cell := hy
  have hnl : ¬ (callEnvC (fnOf name qual params body scope dV kV doc pm an cdv ct) s.heap.objs.size f).kindOf y1 = some .local := by rw [hkd]; decide
  have e1 : bindL (callEnvC (fnOf name qual params body scope dV kV doc pm an cdv ct) s.heap.objs.size f).kindOf [(y1, v)] (fun _ => none) = fun _ => none := by
    show (if _ then _ else _) = _
    rw [if_neg hnl]
  have e2 : bindC (callEnvC (fnOf name qual params body scope dV kV doc pm an cdv ct) s.heap.objs.size f).kindOf [(y1, v)] (fun _ => none) = fun y => if y = y1 then some v else none := by
    show (if _ then _ else _) = _
    rw [if_neg hnl]
  have e3 : (callEnvC (fnOf name qual params body scope dV kV doc pm an cdv ct) s.heap.objs.size f).cells = [(y2, s.heap.objs.size + 2), (y1, s.heap.objs.size + 1)] := hcs _
  have eE : callEnvC (fnOf name qual params body scope dV kV doc pm an cdv ct) s.heap.objs.size f = envX qual scope s.heap.objs.size f cdv [(y2, s.heap.objs.size + 2), (y1, s.heap.objs.size + 1)] := by
    show envX qual scope s.heap.objs.size f cdv (cellsFrom (s.heap.objs.size + 1) scope.names []) = _
    rw [hcs]
  rw [e1, e2, e3] at x
  rw [eE]
  obtain ⟨h₁, tk, rfl⟩ := x.toInCall.same
  have J := S.inv.enter hL x.toInCall.ns x.toInCall.keep rfl
  have hnone : ∀ j, H (s.heap.objs.size + j) = none := fun j => by
    cases q : H (s.heap.objs.size + j) with
    | none => rfl
    | some P => obtain ⟨o, ho, _⟩ := S.inv.own _ _ q; exact absurd (Heap.lt_size ho) (Nat.not_lt.mpr (Nat.le_add_right _ _))
  have hLj : ∀ j, s.heap.objs.size + j ≠ L := fun j => Nat.ne_of_gt (Nat.lt_of_lt_of_le S.inv.ns.lt (Nat.le_add_right _ _))
  have hz0 : ∀ j, h₀.get? (s.heap.objs.size + j) = none := fun j => get_none_of_le (Nat.le_trans S.inv.fresh₀ (Nat.le_add_right _ _))
  have d : ∀ i j : Nat, i ≠ j → s.heap.objs.size + i ≠ s.heap.objs.size + j := fun i j h q => h (Nat.add_left_cancel q)
  have hy21 : (y1 == y2) = false := hne
  have g1 := x.cell y1 (s.heap.objs.size + 1) (by rw [List.lookup_cons, hne]; simp)
  have g2 := x.cell y2 (s.heap.objs.size + 2) (by rw [List.lookup_cons]; simp)
  rw [if_pos rfl] at g1
  rw [if_neg (fun q => by rw [q] at hne; simp at hne)] at g2
  have J1 := J.add (P := cellO (some v)) (a := s.heap.objs.size + 1) ((upd_ne _ _ (hLj 1)).trans (hnone 1)) (hz0 1) (d 1 0 (by decide)) g1
  have J2 := J1.add (P := cellO none) (a := s.heap.objs.size + 2) ((upd_ne _ _ (d 2 1 (by decide))).trans ((upd_ne _ _ (hLj 2)).trans (hnone 2))) (hz0 2) (d 2 0 (by decide)) g2
  refine h s.heap.objs.size (s.heap.objs.size + 1) (s.heap.objs.size + 2) oL _ _ (hLj 0) (hnone 0) (hnone 1) (hnone 2) (hLj 1) (hLj 2) (d 1 2 (by decide)) (fun b P hb => ?_) (upd_of (d 1 2 (by decide)) (upd_same _ _ _)) (upd_same _ _ _) ⟨J2, S.gens, S.os⟩ ?_
  · have nb : ∀ j, b ≠ s.heap.objs.size + j := fun j q => by rw [q, upd_ne _ _ (hLj j), hnone j] at hb; cases hb
    exact upd_of (nb 2) (upd_of (nb 1) hb)
  · intro g' m' H' s' S' e
    exact ⟨S'.inv.back e hL ⟨oL, es, ep, hL, hr⟩ S.inv.above, S'.gens, S'.os⟩
end
def idxF (c : Nat) (cs : List Nat) : List Int := ((List.range cs.length).filter fun k => cs[k]? == some c).map fun (k : Nat) => (k : Int)
def idxTo (c : Nat) (cs : List Nat) (i : Nat) : List Int := ((List.range i).filter fun k => cs[k]? == some c).map fun (k : Nat) => (k : Int)
theorem idxTo_succ (c : Nat) (cs : List Nat) (i : Nat) : idxTo c cs (i + 1) = if (cs[i]? == some c) = true then idxTo c cs i ++ [(i : Int)] else idxTo c cs i := by
  unfold idxTo
  rw [List.range_succ, List.filter_append]
  split
  · rename_i h; simp [h]
  · rename_i h; simp [h]
theorem idxTo_len (c : Nat) (cs : List Nat) (i : Nat) : (idxTo c cs i).length ≤ i := by
  unfold idxTo
  rw [List.length_map]
  exact Nat.le_trans (List.length_filter_le _ _) (by simp)
section
variable {prog : Program} {w : World} {A : Around} {E : Value → Shared → Prop} {s : Shared} {h₀ : Heap} {g : Array GenState} {os : OsState} {L c1 c2 : Addr} {m : Loc} {H : Led} {x C : Str} {t te : Tok} {cs scope : Scope} {cl cl' : List (Str × Addr)} {qn : Str} {fo : Option Addr} {ccd : Value} {fr : Option Addr}
theorem r_ttail {i c : Nat} {u : Tok} {value slice : PySem.Expr} {Q : Value → Shared → Prop} (S : St h₀ g os L m H s) (hc : x.cps[i]? = some c) (hi : i ≤ 1000000) (h : ∀ t s', St h₀ g os L m H s' → Q (.str ⟨#[c]⟩ t) s')
    (hs : subscripted slice false (.str x t) (.int i u) = operate [.str x t, .int i u] (getItem (.str x t) (.int i u))) : wpAny (model prog w) A (subscriptTail value slice (.str x t) (.int i u)) Q E s :=
  tail_any (typeIs_str _ _ _) PySem.F.slot_str_getitem.lookup (r_tget S hc hi h) hs
/-- a comprehension stored under a name -/
def CompGoU (prog : Program) (w : World) (A : Around) (E : Value → Shared → Prop) (y : Str) (py : Pos) (elt target iter : PySem.Expr) (ifs : List PySem.Expr) (scope : Scope) (pos : Pos) (cl : List (Str × Addr)) (env : Env) (Q : Shared → Prop) (it : Value) (s₂ : Shared) : Prop :=
  wpAny (model prog w) A (newList []) (fun acc s₃ => wpAny (model prog w) A (newFunctionEnv scope env.globals cl [] env.qual none .none (some env)) (fun cenv s₄ =>
        codeAny (model prog w) A (.compStart (.ListComp elt [⟨target, iter, ifs, 0⟩] scope pos) 0 it acc { cenv with scope := relabel scope env }) (compPost (model prog w) A E (some (assign (.Name y py) env)) (fun _ s' => Q s') acc cenv.locals) s₄) E s₃) E s₂
theorem r_acomp {env : Env} {elt target iter : PySem.Expr} {ifs : List PySem.Expr} {y : Str} {py pos spos : Pos} {Q : Flow → Shared → Prop} (hsw : swapsWith (.ListComp elt [⟨target, iter, ifs, 0⟩] scope pos) (some (.Name y py)) spos.line env = pure true)
    (hs : ∀ x, foldedSetIterable iter env x = pure x) (hclos : closureFor scope env = pure cl')
    (hkind : scope.kind = .function) (hnames : ∀ y ∈ scope.names, y.2 = .local → scope.names.lookup y.1 = some .local)
    (h : wpAny (model prog w) A (eval iter env) (fun x s₁ => wpAny (model prog w) A (pyIter x) (fun it s₂ => CompGoU prog w A E y py elt target iter ifs scope pos cl' env (Q .next) it s₂) E s₁) E s) :
    wpAny (model prog w) A (exec (.Assign [.Name y py] (.ListComp elt [⟨target, iter, ifs, 0⟩] scope pos) spos) env) Q E s := by
  rw [exec_Assign_Name_used _ _ _ _ hsw]
  refine wpAny_bind (wpAny_standAt (wpAny_bind ?_))
  show wpAny _ A (do let _ ← comprehension (.ListComp elt [⟨target, iter, ifs, 0⟩] scope pos) scope env _ (newList []) false (eval iter env) (some (assign (.Name y py) env))) _ _ s
  exact wpAny_bind (wpAny_mono (wpAny_comprehension_free (use := some (assign (.Name y py) env)) (Q := fun _ s' => Q .next s') rfl hs hclos hkind hnames h) (fun _ s' hq => wpAny_pure (wpAny_pure hq)) fun _ _ e => e)
theorem r_compGoU {a : Addr} {elt target iter : PySem.Expr} {ifs : List PySem.Expr} {y : Str} {py pos : Pos} {P : OP} {Q : Shared → Prop} (S : St h₀ g os L m H s) (ha : H a = some P)
    (hcell : ∀ y ∈ scope.names, y.2 ≠ .cell) (hkind : scope.kind = .function) (hk : cs.kind = .function) (hy : (envE cs L cl qn fo ccd fr).kindOf y = some .local)
    (hself : ∀ C m' H' s' Q' E', St h₀ g os C m' H' s' → H' a = some P → Q' (.ref a) s' → wpAny (model prog w) A (pyIter (.ref a)) Q' E' s')
    (h : ∀ acc C oL s₁, H acc = none → acc ≠ L → C ≠ L → acc ≠ C → H C = none → St h₀ g os C (fun _ => none) (upd (upd H acc (listO [])) L (frO oL)) s₁ →
      codeAny (model prog w) A (.compLoop (.ListComp elt [⟨target, iter, ifs, 0⟩] scope pos) 0 (.ref a) (.ref acc) (envE (relabel scope (envE cs L cl qn fo ccd fr)) C cl' qn none ccd fr))
        (fun r s' => (∃ f, r = .ok f) ∧ ∃ m' H', St h₀ g os C m' H' s' ∧ H' L = some (frO oL) ∧ ∀ s'', St h₀ g os L (put m y (.ref acc)) (del H' L) s'' → Q s'') s₁) :
    CompGoU prog w A E y py elt target iter ifs scope pos cl' (envE cs L cl qn fo ccd fr) Q (.ref a) s := by
  refine r_newList S (by simp) fun acc s₁ hacc haccL S₁ => ?_
  refine wpAny_newFunctionEnv hcell (by intro y hy; simp at hy) (fun h₁ hns hsb => ?_) hkind
  obtain ⟨oL, es, ep, hL, hr⟩ := S₁.inv.ns
  have k₁ : ∀ b o, s₁.heap.get? b = some o → h₁.get? b = some o := fun b o e => hsb.extBut b o (Nat.ne_of_lt (Heap.lt_size e)) (Heap.get?_push_of_some _ e)
  have f1 := upd_none S₁.inv.fresh
  have I := S₁.inv.enter hL hns k₁ rfl
  have hC0 : h₀.objs.size ≤ s₁.heap.objs.size := S₁.inv.fresh₀
  have fin : ∀ r s', ((∃ f, r = .ok f) ∧ ∃ m' H', St h₀ g os s₁.heap.objs.size m' H' s' ∧ H' L = some (frO oL) ∧ ∀ s'', St h₀ g os L (put m y (.ref acc)) (del H' L) s'' → Q s'') → compPost (model prog w) A E (some (assign (.Name y py) (envE cs L cl qn fo ccd fr))) (fun _ s' => Q s') (.ref acc) s₁.heap.objs.size r s' := by
    rintro r s' ⟨⟨f, rfl⟩, m', H', S', eL, hQ⟩
    have I' := S'.inv.back eL hL ⟨oL, es, ep, hL, hr⟩ S₁.inv.above
    have hCn : del H' L s₁.heap.objs.size = none := (del_ne _ S₁.inv.freshL).trans S'.inv.out
    show wpAny _ A (assign (.Name y py) (envE cs L cl qn fo ccd fr) (.ref acc)) _ _ _
    refine wpAny_assign_Name (wpAny_storeName_local hy I'.ns (fun h' hn hs => ?_) (by show (cs.kind == .class || (cs.kind == .module && L != mainGlobals)) = false; rw [hk]; rfl))
    refine ⟨m', S'.inv.ns.sameBut hs S₁.inv.freshL, fun h'' hs'' => hQ _ ⟨?_, S'.gens, S'.os⟩⟩
    exact (I'.set hn hs).other hs'' hCn S₁.inv.freshL hC0
  have S₂ : St h₀ g os s₁.heap.objs.size _ _ { s₁ with heap := h₁, toks := s₁.toks + ([] : List (Str × Value)).length } := ⟨I, S₁.gens, S₁.os⟩
  have main := h acc s₁.heap.objs.size oL _ hacc haccL S₁.inv.freshL (Ne.symm f1.1) f1.2 S₂
  have haL : a ≠ L := S.inv.neL ha
  refine codeAny_compStart_list (codeAny_mono main fun r s' z => fin r s' z) (hself _ _ _ _ _ _ S₂ (upd_of haL (upd_of (led_ne hacc ha) ha)) (codeAny_mono main fun r s' z => fin r s' z))

set_option maxHeartbeats 2000000 in
theorem loop_idx {chr : Nat} {it acc D : Addr} {iter : PySem.Expr} {p1 p2 p6 p7 p8 p9 p10 pos : Pos} {R : Result → Shared → Prop} (hh : A.handled = none) (hz : x.length ≤ 900) (hC : C.cps.toList = [chr])
    (hk : cs.kind = .function) (hloc : (envE cs D cl qn none ccd fr).kindOf (Str.ofString "k") = some .local) (hseen : (envE cs D cl qn none ccd fr).kindOf (Str.ofString "seen") = some .cell) (hl1 : cl.lookup (Str.ofString "seen") = some c1)
    (k1 : H c1 = some (cellO (some (.str x t)))) (ni : H it = none) (na : H acc = none) (hne : acc ≠ it) :
    ∀ (n i : Nat) (m : Loc) (H₁ : Led) (s : Shared), n + i = x.length → H₁ it = some (rangeIterO i n) → H₁ acc = some (intsO (idxTo chr x.cps.toList i)) → Sub H H₁ → St h₀ g os D m H₁ s →
      (∀ m' H' s', H' acc = some (intsO (idxF chr x.cps.toList)) → Sub H H' → St h₀ g os D m' H' s' → R (.ok .next) s') →
    codeAny (model prog w) A (.compLoop (.ListComp (.Name (Str.ofString "k") p1) [⟨.Name (Str.ofString "k") p2, iter, [.Compare (.Subscript (.Name (Str.ofString "seen") p6) (.Name (Str.ofString "k") p7) p8) [.Eq] [.Constant (.str C) 0 p9] p10], 0⟩] scope pos) 0 (.ref it) (.ref acc) (envE cs D cl qn none ccd fr)) R s
  | 0, i, m, H₁, s, hn, ki, ka, kk, S, h => by
    refine r_comp1 ?_
    refine r_end_range hh S ki (by simp) ?_
    intro s₆ S₆
    have hxl : x.cps.toList.length = x.length := by simp [Str.length]
    have e : idxTo chr x.cps.toList i = idxF chr x.cps.toList := by unfold idxTo idxF; rw [hxl, show i = x.length from by omega]
    rw [e] at ka
    exact h _ _ _ ((del_ne _ hne).trans ka) (fun b P hb => (del_ne _ (led_ne ni hb)).trans (kk b P hb)) S₆
  | n + 1, i, m, H₁, s, hn, ki, ka, kk, S, h => by
    have kc1 := kk c1 _ k1
    have hci : c1 ≠ it := led_ne ni k1
    obtain ⟨c, hc⟩ : ∃ c, x.cps[i]? = some c := ⟨x.cps[i]'(by show i < x.cps.size; have : x.length = x.cps.size := rfl; omega), by simp⟩
    have hc' : x.cps.toList[i]? = some c := by rw [Array.getElem?_toList]; exact hc
    refine r_comp1 ?_
    refine r_next_range S ki (by omega) ?_
    intro u s₆ S₆'
    repeat walk_at "tx"
    refine e_st S₆' ?_ hk hloc
    intro s₇ S₇
    repeat walk_at "tx"
    refine e_nc S₇ hl1 (upd_of hci kc1) ?_ hk hseen (by decide)
    repeat walk_at "tx"
    refine e_nl S₇ (put_same _ _ _) ?_ hk hloc (by decide)
    repeat walk_at "tx"
    refine r_ttail S₇ hc (by omega) ?_ (by rfl)
    intro u₂ s₈ S₈
    repeat walk_at "tx"
    rename_i t₉ s₉ S₉
    have hcmp : ((([c] : List Nat) == C.cps.toList) = (x.cps.toList[i]? == some chr)) := by
      rw [hC, hc']
      show (c == chr && true) = _
      rw [Bool.and_true]; rfl
    have hsx := idxTo_succ chr x.cps.toList i
    have hil := idxTo_len chr x.cps.toList i
    rw [hcmp]
    have kI : upd H₁ it (rangeIterO (i + 1) ((n + 1 : Nat) - 1)) it = some (rangeIterO ((i + 1 : Nat) : Int) n) := by
      rw [show ((n + 1 : Nat) : Int) - 1 = (n : Int) from by omega]; exact upd_same _ _ _
    by_cases hq : (x.cps.toList[i]? == some chr) = true
    · rw [if_pos hq] at hsx
      rw [hq]
      repeat walk_at "tx"
      refine e_nl S₉ (put_same _ _ _) ?_ hk hloc (by decide)
      refine r_append_ints S₉ (upd_of hne ka) (by omega) ?_
      intro s₁₀ S₁₀
      refine loop_idx hh hz hC hk hloc hseen hl1 k1 ni na hne n (i + 1) _ _ s₁₀ (by omega) (upd_of (Ne.symm hne) kI) ?_ ?_ S₁₀ h
      · rw [hsx]; exact upd_same _ _ _
      · intro b P hb; exact upd_of (led_ne na hb) (upd_of (led_ne ni hb) (kk b P hb))
    · rw [if_neg hq] at hsx
      rw [show (x.cps.toList[i]? == some chr) = false from by simpa using hq]
      repeat walk_at "tx"
      refine loop_idx hh hz hC hk hloc hseen hl1 k1 ni na hne n (i + 1) _ _ s₉ (by omega) kI ?_ ?_ S₉ h
      · rw [hsx]; exact upd_of hne ka
      · intro b P hb; exact upd_of (led_ne ni hb) (kk b P hb)
end
section
variable {prog : Program} {w : World} {A : Around} {E : Value → Shared → Prop} {s : Shared} {h₀ : Heap} {g : Array GenState} {os : OsState} {L c1 c2 : Addr} {m : Loc} {H : Led} {x C : Str} {t te : Tok} {cs scope : Scope} {cl cl' : List (Str × Addr)} {qn : Str} {fo : Option Addr} {ccd : Value} {fr : Option Addr}
theorem compU_idx {chr : Nat} {r : Addr} {iter : PySem.Expr} {p1 p2 p6 p7 p8 p9 p10 pos py : Pos} {y : Str} {Q : Shared → Prop} (hh : A.handled = none) (S : St h₀ g os L m H s) (hz : x.length ≤ 900) (hC : C.cps.toList = [chr]) (hr : H r = some (rangeO x.length)) (k1 : H c1 = some (cellO (some (.str x t))))
    (hcell : ∀ y ∈ scope.names, y.2 ≠ .cell) (hkind : scope.kind = .function) (hk : cs.kind = .function) (hy : (envE cs L cl qn fo ccd fr).kindOf y = some .local) (hK : (relabel scope (envE cs L cl qn fo ccd fr)).kind = .function) (hl1 : cl'.lookup (Str.ofString "seen") = some c1)
    (hloc : ∀ D, (envE (relabel scope (envE cs L cl qn fo ccd fr)) D cl' qn none ccd fr).kindOf (Str.ofString "k") = some .local) (hseen : ∀ D, (envE (relabel scope (envE cs L cl qn fo ccd fr)) D cl' qn none ccd fr).kindOf (Str.ofString "seen") = some .cell)
    (h : ∀ acc H' s', H acc = none → acc ≠ L → H' acc = some (intsO (idxF chr x.cps.toList)) → Sub H H' → St h₀ g os L (put m y (.ref acc)) H' s' → Q s') :
    wpAny (model prog w) A (pyIter (.ref r)) (fun it s₂ => CompGoU prog w A E y py (.Name (Str.ofString "k") p1) (.Name (Str.ofString "k") p2) iter [.Compare (.Subscript (.Name (Str.ofString "seen") p6) (.Name (Str.ofString "k") p7) p8) [.Eq] [.Constant (.str C) 0 p9] p10] scope pos cl' (envE cs L cl qn fo ccd fr) Q it s₂) E s := by
  refine r_iter_range S hr (by omega) (by omega) ?_
  intro it s₄ hit hitL S₄
  refine r_compGoU (P := rangeIterO 0 x.length) S₄ (upd_same _ _ _) hcell hkind hk hy ?_ ?_
  · intro D m' H' s' Q' E' S' e hq
    exact r_iter_rangeiter S' e hq
  intro acc D oD s₅ hacc haccL hDL haccD hD S₅
  simp only [upd_none_iff] at hacc hD
  obtain ⟨q1, hacc⟩ := hacc
  obtain ⟨q3, hDn⟩ := hD
  have S₅' := S₅.imp (a := acc) (P := listO []) (P' := intsO []) (upd_of haccL (upd_same _ _ _)) (listO.ints .nil)
  have hLH : H L = none := S.inv.out
  have hc1L : c1 ≠ L := fun q => by rw [q, hLH] at k1; cases k1
  have base : ∀ b P, upd H L (frO oD) b = some P → upd (upd (upd (upd H it (rangeIterO 0 x.length)) acc (listO [])) L (frO oD)) acc (intsO []) b = some P := by
    intro b P hb
    by_cases q : b = L
    · rw [q, upd_same] at hb; rw [q]; exact upd_of haccL.symm ((upd_same _ _ _).trans hb)
    · rw [upd_ne _ _ q] at hb
      exact upd_of (led_ne hacc hb) (upd_of q (upd_of (led_ne hacc hb) (upd_of (led_ne hit hb) hb)))
  refine loop_idx (H := upd H L (frO oD)) hh hz hC hK (hloc D) (hseen D) hl1 (upd_of hc1L k1) ((upd_ne _ _ hitL).trans hit) ((upd_ne _ _ haccL).trans hacc) q1 x.length 0 _ _ s₅ (Nat.add_zero _) (upd_of (Ne.symm q1) (upd_of hitL (upd_of (Ne.symm q1) (upd_same _ _ _)))) (upd_same _ _ _) base S₅' ?_
  intro m' H' s' ka kk S'
  refine ⟨⟨_, rfl⟩, m', H', S', kk _ _ (upd_same _ _ _), ?_⟩
  intro s'' S''
  refine h acc _ s'' hacc haccL ((del_ne _ haccL).trans ka) (fun b P hb => ?_) S''
  have hbL : b ≠ L := fun q => by rw [q, hLH] at hb; cases hb
  exact (del_ne _ hbL).trans (kk b P (upd_of hbL hb))
end
def succTo (i : Nat) : List (Int × Int) := (List.range i).map fun (k : Nat) => ((k : Int) + 1, (k : Int))
theorem succTo_succ (i : Nat) : succTo (i + 1) = succTo i ++ [((i : Int) + 1, (i : Int))] := by
  unfold succTo
  rw [List.range_succ, List.map_append]; rfl
theorem succTo_len (i : Nat) : (succTo i).length = i := by simp [succTo]
section
variable {prog : Program} {w : World} {A : Around} {E : Value → Shared → Prop} {s : Shared} {h₀ : Heap} {g : Array GenState} {os : OsState} {L c1 c2 : Addr} {m : Loc} {H : Led} {x C : Str} {t te : Tok} {cs scope : Scope} {cl cl' : List (Str × Addr)} {qn : Str} {fo : Option Addr} {ccd : Value} {fr : Option Addr}
set_option maxHeartbeats 2000000 in
theorem loop_succ {N : Nat} {it acc D : Addr} {iter : PySem.Expr} {p1 p2 p3 p4 p5 p6 pos : Pos} {k1 k2 : Nat} {R : Result → Shared → Prop} (hh : A.handled = none) (hz : N ≤ 900)
    (hk : cs.kind = .function) (hloc : (envE cs D cl qn none ccd fr).kindOf (Str.ofString "k") = some .local) (ni : H it = none) (na : H acc = none) (hne : acc ≠ it) :
    ∀ (n i : Nat) (m : Loc) (H₁ : Led) (s : Shared) (vs : List Value), n + i = N → H₁ it = some (rangeIterO i n) → H₁ acc = some (listO vs) → PairsAre H₁ vs (succTo i) → Sub H H₁ → St h₀ g os D m H₁ s →
      (∀ m' H' s' vs', H' acc = some (listO vs') → PairsAre H' vs' (succTo N) → Sub H H' → St h₀ g os D m' H' s' → R (.ok .next) s') →
    codeAny (model prog w) A (.compLoop (.ListComp (.Tuple [.BinOp (.Name (Str.ofString "k") p1) .Add (.Constant (.int 1) k1 p2) p3, .Name (Str.ofString "k") p4] k2 p5) [⟨.Name (Str.ofString "k") p6, iter, [], 0⟩] scope pos) 0 (.ref it) (.ref acc) (envE cs D cl qn none ccd fr)) R s
  | 0, i, m, H₁, s, vs, hn, ki, ka, kp, kk, S, h => by
    refine r_comp1 ?_
    refine r_end_range hh S ki (by simp) ?_
    intro s₆ S₆
    rw [show i = N from by omega] at kp
    refine h _ _ _ vs ((del_ne _ hne).trans ka) (kp.keep fun a p q ta tb e => (del_ne _ (kind_ne e ki tup_range)).trans e) (fun b P hb => (del_ne _ (led_ne ni hb)).trans (kk b P hb)) S₆
  | n + 1, i, m, H₁, s, vs, hn, ki, ka, kp, kk, S, h => by
    refine r_comp1 ?_
    refine r_next_range S ki (by omega) ?_
    intro u s₆ S₆'
    repeat walk_at "tx"
    refine e_st S₆' ?_ hk hloc
    intro s₇ S₇
    repeat walk_at "tx"
    refine e_nl S₇ (put_same _ _ _) ?_ hk hloc (by decide)
    repeat walk_at "tx"
    rename_i t1 sA SA t2 sB SB
    refine e_nl SB (put_same _ _ _) ?_ hk hloc (by decide)
    repeat walk_at "tx"
    rename_i tp s₈ htp htpL S₈
    have ka' : upd (upd H₁ it (rangeIterO (i + 1) ((n + 1 : Nat) - 1))) tp (tupO [.int (i + 1) t2, .int i u]) acc = some (listO vs) := upd_of (led_ne htp (upd_of hne ka)) (upd_of hne ka)
    refine r_append S₈ ka' (by rw [kp.len, succTo_len]; omega) ?_
    intro s₉ S₉
    have hpa : tp ≠ acc := fun q => by rw [q, upd_ne _ _ hne, ka] at htp; cases htp
    have hpi : tp ≠ it := fun q => by rw [q, upd_same] at htp; cases htp
    refine loop_succ hh hz hk hloc ni na hne n (i + 1) _ _ s₉ _ (by omega) (upd_of (Ne.symm hne) (upd_of (Ne.symm hpi) ?_)) (upd_same _ _ _) ?_ ?_ S₉ h
    · rw [show ((n + 1 : Nat) : Int) - 1 = (n : Int) from by omega]; exact upd_same _ _ _
    · rw [succTo_succ]
      refine PairsAre.snoc (kp.keep fun a p q ta tb e => ?_) (upd_of hpa (upd_same _ _ _))
      have e1 : upd H₁ it (rangeIterO (i + 1) ((n + 1 : Nat) - 1)) a = some (tupO [.int p ta, .int q tb]) := upd_of (kind_ne e ki tup_range) e
      exact upd_of (kind_ne e ka tup_list) (upd_of (led_ne htp e1) e1)
    · intro b P hb
      have e1 : upd H₁ it (rangeIterO (i + 1) ((n + 1 : Nat) - 1)) b = some P := upd_of (led_ne ni hb) (kk b P hb)
      exact upd_of (led_ne na hb) (upd_of (led_ne htp e1) e1)
set_option maxHeartbeats 2000000 in
theorem loop_alone {ks : List Int} {va : List Value} {N : Int} {it acc D l : Addr} {iter : PySem.Expr} {p1 p2 p3 p4 pos : Pos} {k2 : Nat} {R : Result → Shared → Prop} (hh : A.handled = none) (hz : ks.length ≤ 900) (hva : IntsAre va ks)
    (hk : cs.kind = .function) (hloc : (envE cs D cl qn none ccd fr).kindOf (Str.ofString "k") = some .local) (hend : (envE cs D cl qn none ccd fr).kindOf (Str.ofString "end") = some .cell) (hl2 : cl.lookup (Str.ofString "end") = some c2) (kc2 : H c2 = some (cellO (some (.int N te)))) (kl : H l = some (listO va)) (ni : H it = none) (na : H acc = none) (hne : acc ≠ it) :
    ∀ (n i : Nat) (m : Loc) (H₁ : Led) (s : Shared) (vs : List Value), n + i = ks.length → H₁ it = some (listIterO l i) → H₁ acc = some (listO vs) → PairsAre H₁ vs ((ks.take i).map fun k => (k, N)) → Sub H H₁ → St h₀ g os D m H₁ s →
      (∀ m' H' s' vs', H' acc = some (listO vs') → PairsAre H' vs' (ks.map fun k => (k, N)) → Sub H H' → St h₀ g os D m' H' s' → R (.ok .next) s') →
    codeAny (model prog w) A (.compLoop (.ListComp (.Tuple [.Name (Str.ofString "k") p1, .Name (Str.ofString "end") p2] k2 p3) [⟨.Name (Str.ofString "k") p4, iter, [], 0⟩] scope pos) 0 (.ref it) (.ref acc) (envE cs D cl qn none ccd fr)) R s
  | 0, i, m, H₁, s, vs, hn, ki, ka, kp, kk, S, h => by
    have hvl := ints_len hva
    refine r_comp1 ?_
    refine r_end_list hh S ki (kk _ _ kl) (List.getElem?_eq_none (by omega)) ?_
    intro s₆ S₆
    rw [show i = ks.length from by omega, List.take_length] at kp
    refine h _ _ _ vs ((del_ne _ hne).trans ka) (kp.keep fun a p q ta tb e => (del_ne _ (kind_ne e ki tup_li)).trans e) (fun b P hb => (del_ne _ (led_ne ni hb)).trans (kk b P hb)) S₆
  | n + 1, i, m, H₁, s, vs, hn, ki, ka, kp, kk, S, h => by
    obtain ⟨k, u, hki, hvi⟩ : ∃ a ta, ks[i]? = some a ∧ va[i]? = some (.int a ta) := by
      rcases ints_at hva i with ⟨n, t, q1, q2⟩ | ⟨q1, _⟩
      · exact ⟨n, t, q1, q2⟩
      · rw [List.getElem?_eq_getElem (by omega)] at q1; cases q1
    refine r_comp1 ?_
    refine r_next_list S ki (kk _ _ kl) hvi ?_
    intro s₆ S₆'
    repeat walk_at "tx"
    refine e_st S₆' ?_ hk hloc
    intro s₇ S₇
    repeat walk_at "tx"
    refine e_nl S₇ (put_same _ _ _) ?_ hk hloc (by decide)
    repeat walk_at "tx"
    refine e_nc S₇ hl2 (upd_of (led_ne ni kc2) (kk _ _ kc2)) ?_ hk hend (by decide)
    repeat walk_at "tx"
    rename_i tp s₈ htp htpL S₈
    have ka' : upd (upd H₁ it (listIterO l (i + 1))) tp (tupO [.int k u, .int N te]) acc = some (listO vs) := upd_of (led_ne htp (upd_of hne ka)) (upd_of hne ka)
    have hkl := kp.len
    simp only [List.length_map, List.length_take] at hkl
    refine r_append S₈ ka' (by omega) ?_
    intro s₉ S₉
    have hpa : tp ≠ acc := fun q => by rw [q, upd_ne _ _ hne, ka] at htp; cases htp
    have hpi : tp ≠ it := fun q => by rw [q, upd_same] at htp; cases htp
    refine loop_alone hh hz hva hk hloc hend hl2 kc2 kl ni na hne n (i + 1) _ _ s₉ _ (by omega) (upd_of (Ne.symm hne) (upd_of (Ne.symm hpi) (upd_same _ _ _))) (upd_same _ _ _) ?_ ?_ S₉ h
    · rw [List.take_add_one, hki, List.map_append]
      refine PairsAre.snoc (p := (k, N)) (kp.keep fun a p q ta tb e => ?_) (upd_of hpa (upd_same _ _ _))
      have e1 : upd H₁ it (listIterO l (i + 1)) a = some (tupO [.int p ta, .int q tb]) := upd_of (kind_ne e ki tup_li) e
      exact upd_of (kind_ne e ka tup_list) (upd_of (led_ne htp e1) e1)
    · intro b P hb
      have e1 : upd H₁ it (listIterO l (i + 1)) b = some P := upd_of (led_ne ni hb) (kk b P hb)
      exact upd_of (led_ne na hb) (upd_of (led_ne htp e1) e1)
end
section
variable {prog : Program} {w : World} {A : Around} {E : Value → Shared → Prop} {s : Shared} {h₀ : Heap} {g : Array GenState} {os : OsState} {L c1 c2 : Addr} {m : Loc} {H : Led} {x C : Str} {t te : Tok} {cs scope : Scope} {cl cl' : List (Str × Addr)} {qn : Str} {fo : Option Addr} {ccd : Value} {fr : Option Addr}
theorem comp_base {it acc : Addr} {P P' Q : OP} {oD : Obj} (hit : H it = none) (hacc : H acc = none) (haccL : acc ≠ L) (b : Addr) (hb : upd H L P' b = some Q) : upd (upd (upd H it P) acc (listO [])) L P' b = some Q := by
  by_cases q : b = L
  · rw [q, upd_same] at hb; rw [q]; exact (upd_same _ _ _).trans hb
  · rw [upd_ne _ _ q] at hb
    exact upd_of q (upd_of (led_ne hacc hb) (upd_of (led_ne hit hb) hb))
theorem comp_succ {N : Nat} {r : Addr} {iter : PySem.Expr} {p1 p2 p3 p4 p5 p6 pos : Pos} {k1 k2 : Nat} {Q : Value → Shared → Prop} (hh : A.handled = none) (S : St h₀ g os L m H s) (hz : N ≤ 900) (hr : H r = some (rangeO N))
    (hcell : ∀ y ∈ scope.names, y.2 ≠ .cell) (hkind : scope.kind = .function) (hK : (relabel scope (envE cs L cl qn fo ccd fr)).kind = .function)
    (hloc : ∀ D, (envE (relabel scope (envE cs L cl qn fo ccd fr)) D cl' qn none ccd fr).kindOf (Str.ofString "k") = some .local)
    (h : ∀ acc H' s' vs, H acc = none → acc ≠ L → H' acc = some (listO vs) → PairsAre H' vs (succTo N) → Sub H H' → St h₀ g os L m H' s' → Q (.ref acc) s') :
    wpAny (model prog w) A (pyIter (.ref r)) (fun it s₂ => CompGo prog w A E (.Tuple [.BinOp (.Name (Str.ofString "k") p1) .Add (.Constant (.int 1) k1 p2) p3, .Name (Str.ofString "k") p4] k2 p5) (.Name (Str.ofString "k") p6) iter [] scope pos cl' (envE cs L cl qn fo ccd fr) Q it s₂) E s := by
  refine r_iter_range S hr (by omega) (by omega) ?_
  intro it s₄ hit hitL S₄
  refine r_compGo (P := rangeIterO 0 N) S₄ (upd_same _ _ _) hcell hkind ?_ ?_
  · intro D m' H' s' Q' E' S' e hq
    exact r_iter_rangeiter S' e hq
  intro acc D oD s₅ hacc haccL hDL haccD hD S₅
  simp only [upd_none_iff] at hacc hD
  obtain ⟨q1, hacc⟩ := hacc
  have hLH : H L = none := S.inv.out
  refine loop_succ (H := upd H L (frO oD)) hh hz hK (hloc D) ((upd_ne _ _ hitL).trans hit) ((upd_ne _ _ haccL).trans hacc) q1 N 0 _ _ s₅ [] (Nat.add_zero _) (upd_of hitL (upd_of (Ne.symm q1) (upd_same _ _ _))) (upd_of haccL (upd_same _ _ _)) trivial (fun b P hb => comp_base (oD := oD) hit hacc haccL b hb) S₅ ?_
  intro m' H' s' vs ka kp kk S'
  refine ⟨⟨_, rfl⟩, m', H', S', kk _ _ (upd_same _ _ _), ?_⟩
  intro s'' S''
  have hnL : ∀ {P b}, H' b = some P → (∃ o, frO oD o ∧ ¬ P o) → b ≠ L := fun e hx => kind_ne e (kk _ _ (upd_same _ _ _)) hx
  refine h acc _ s'' vs hacc haccL ((del_ne _ haccL).trans ka) (kp.keep fun a i j ta tb e => (del_ne _ (hnL e ⟨{ oD with cls := .none }, rfl, fun ⟨n, q⟩ => absurd (congrArg Obj.cls q) (by simp)⟩)).trans e) (fun b P hb => ?_) S''
  have hbL : b ≠ L := fun q => by rw [q, hLH] at hb; cases hb
  exact (del_ne _ hbL).trans (kk b P (upd_of hbL hb))
theorem comp_alone {ks : List Int} {va : List Value} {N : Int} {l : Addr} {iter : PySem.Expr} {p1 p2 p3 p4 pos : Pos} {k2 : Nat} {Q : Value → Shared → Prop} (hh : A.handled = none) (S : St h₀ g os L m H s) (hz : ks.length ≤ 900) (hva : IntsAre va ks) (kl : H l = some (listO va))
    (hcell : ∀ y ∈ scope.names, y.2 ≠ .cell) (hkind : scope.kind = .function) (hK : (relabel scope (envE cs L cl qn fo ccd fr)).kind = .function)
    (hloc : ∀ D, (envE (relabel scope (envE cs L cl qn fo ccd fr)) D cl' qn none ccd fr).kindOf (Str.ofString "k") = some .local) (hend : ∀ D, (envE (relabel scope (envE cs L cl qn fo ccd fr)) D cl' qn none ccd fr).kindOf (Str.ofString "end") = some .cell) (hl2 : cl'.lookup (Str.ofString "end") = some c2) (kc2 : H c2 = some (cellO (some (.int N te))))
    (h : ∀ acc H' s' vs, H acc = none → acc ≠ L → H' acc = some (listO vs) → PairsAre H' vs (ks.map fun k => (k, N)) → Sub H H' → St h₀ g os L m H' s' → Q (.ref acc) s') :
    wpAny (model prog w) A (pyIter (.ref l)) (fun it s₂ => CompGo prog w A E (.Tuple [.Name (Str.ofString "k") p1, .Name (Str.ofString "end") p2] k2 p3) (.Name (Str.ofString "k") p4) iter [] scope pos cl' (envE cs L cl qn fo ccd fr) Q it s₂) E s := by
  refine r_iter_list S kl ?_
  intro it s₄ hit hitL S₄
  refine r_compGo (P := listIterO l 0) S₄ (upd_same _ _ _) hcell hkind ?_ ?_
  · intro D m' H' s' Q' E' S' e hq
    exact wpAny_pyIter_listiter (S'.inv.own _ _ e) hq
  intro acc D oD s₅ hacc haccL hDL haccD hD S₅
  simp only [upd_none_iff] at hacc hD
  obtain ⟨q1, hacc⟩ := hacc
  have hLH : H L = none := S.inv.out
  have hcL : c2 ≠ L := fun q => by rw [q, hLH] at kc2; cases kc2
  have hlL : l ≠ L := fun q => by rw [q, hLH] at kl; cases kl
  refine loop_alone (H := upd H L (frO oD)) hh hz hva hK (hloc D) (hend D) hl2 (upd_of hcL kc2) (upd_of hlL kl) ((upd_ne _ _ hitL).trans hit) ((upd_ne _ _ haccL).trans hacc) q1 ks.length 0 _ _ s₅ [] (Nat.add_zero _) (upd_of hitL (upd_of (Ne.symm q1) (upd_same _ _ _))) (upd_of haccL (upd_same _ _ _)) trivial (fun b P hb => comp_base (oD := oD) hit hacc haccL b hb) S₅ ?_
  intro m' H' s' vs ka kp kk S'
  refine ⟨⟨_, rfl⟩, m', H', S', kk _ _ (upd_same _ _ _), ?_⟩
  intro s'' S''
  have hnL : ∀ {P b}, H' b = some P → (∃ o, frO oD o ∧ ¬ P o) → b ≠ L := fun e hx => kind_ne e (kk _ _ (upd_same _ _ _)) hx
  refine h acc _ s'' vs hacc haccL ((del_ne _ haccL).trans ka) (kp.keep fun a i j ta tb e => (del_ne _ (hnL e ⟨{ oD with cls := .none }, rfl, fun ⟨n, q⟩ => absurd (congrArg Obj.cls q) (by simp)⟩)).trans e) (fun b P hb => ?_) S''
  have hbL : b ≠ L := fun q => by rw [q, hLH] at hb; cases hb
  exact (del_ne _ hbL).trans (kk b P (upd_of hbL hb))
def needsF (cs : List Nat) : List (Int × Int) := succTo cs.length ++ (idxF 41 cs).zip (idxF 40 cs) ++
  (((idxF 40 cs).drop (min (idxF 41 cs).length (idxF 40 cs).length) ++ (idxF 41 cs).drop (min (idxF 41 cs).length (idxF 40 cs).length)).map fun k => (k, (cs.length : Int)))
end
section
variable {prog : Program} {w : World} {A : Around} {E : Value → Shared → Prop} {s : Shared} {h₀ : Heap} {g : Array GenState} {os : OsState} {L : Addr} {m : Loc} {H : Led} {x : Str} {t : Tok}
set_option maxHeartbeats 4000000 in
theorem law_needs {R : Result → Shared → Prop} (B : Bs w h₀) (S : St h₀ g os L m H s) (hroom : A.depth + 40 < recursionLimit) (hh : A.handled = none) (hz : x.length ≤ 900)
    (h : ∀ c H' s' vs, H' c = some (listO vs) → PairsAre H' vs (needsF x.cps.toList) → Sub H H' → St h₀ g os L m H' s' → R (.ok (.ret (.ref c))) s') :
    codeAny (model prog w) A (.call (.ref 174) ⟨[.str x t], []⟩) R s := by
  refine r_call2c (v := .str x t) (y1 := Str.ofString "seen") (y2 := Str.ofString "end") B S (by rfl) (by kernel_rfl) (by omega) (by rfl) (by intro n; rfl) (by rfl) (by decide) rfl rfl rfl ?_
  intro L' c1 c2 oL' H₁ s₁ hL' hLn hc1 hc2 hc1L hc2L hc12 hk₁ k1 k2 S₁ back
  repeat walk_at "tx"
  refine e_nc S₁ (by rfl) k1 ?_ rfl (by rfl) (by decide)
  repeat walk_at "tx"
  rename_i t' s₁' S₁'
  refine e_stc (by assumption) (by rfl) k2 ?_ rfl (by rfl)
  intro s₂ S₂
  repeat walk_at "tx"
  refine r_acomp (by rfl) (fun _ => rfl) (by rfl) rfl (by decide) ?_
  repeat walk_at "tx"
  refine e_nc S₂ (by rfl) (upd_same _ _ _) ?_ rfl (by rfl) (by decide)
  repeat walk_at "tx"
  refine r_range S₂ ?_
  intro r s₃ hr hrL S₃
  have hrc1 : c1 ≠ r := led_ne hr (upd_of hc12 k1)
  refine compU_idx (chr := 40) (c1 := c1) (t := t) hh S₃ hz (by rfl) (upd_same _ _ _) (upd_of hrc1 (upd_of hc12 k1)) (by decide) rfl rfl (by rfl) (by rfl) (by rfl) (by intro D; rfl) (by intro D; rfl) ?_
  intro o1 H₄ s₄ ho1 ho1L ko1 kk₄ S₄
  have hrc2 : c2 ≠ r := led_ne hr (upd_same _ _ _)
  have k1' := kk₄ _ _ (upd_of hrc1 (upd_of hc12 k1))
  have k2' := kk₄ _ _ (upd_of hrc2 (upd_same _ _ _))
  have hc2o1 : c2 ≠ o1 := led_ne ho1 (upd_of hrc2 (upd_same _ _ _))
  have kb' : ∀ b P, b ≠ c2 → H₁ b = some P → H₄ b = some P ∧ b ≠ o1 := fun b P hb e => by
    have e' := upd_of (P := cellO (some (.int x.length t'))) hb e
    have e'' := upd_of (P := rangeO x.length) (led_ne hr e') e'
    exact ⟨kk₄ _ _ e'', led_ne ho1 e''⟩
  clear S₂ S₃ kk₄
  repeat walk_at "tx"
  refine r_acomp (by rfl) (fun _ => rfl) (by rfl) rfl (by decide) ?_
  repeat walk_at "tx"
  refine e_nc S₄ (by rfl) k2' ?_ rfl (by rfl) (by decide)
  repeat walk_at "tx"
  refine r_range S₄ ?_
  intro r₂ s₅ hr₂ hr₂L S₅
  have ups : ∀ b P, H₄ b = some P → upd H₄ r₂ (rangeO x.length) b = some P := fun b P e => upd_of (led_ne hr₂ e) e
  refine compU_idx (chr := 41) (c1 := c1) (t := t) hh S₅ hz (by rfl) (upd_same _ _ _) (ups _ _ k1') (by decide) rfl rfl (by rfl) (by rfl) (by rfl) (by intro D; rfl) (by intro D; rfl) ?_
  intro o2 H₆ s₆ ho2 ho2L ko2 kk₆ S₆
  have k2'' := kk₆ _ _ (ups _ _ k2')
  have ko1' := kk₆ _ _ (ups _ _ ko1)
  have hc2o2 : c2 ≠ o2 := led_ne ho2 (ups _ _ k2')
  have kb'' : ∀ b P, b ≠ c2 → H₁ b = some P → H₆ b = some P ∧ b ≠ o1 ∧ b ≠ o2 := fun b P hb e => by
    have e' := ups _ _ (kb' b P hb e).1
    exact ⟨kk₆ _ _ e', (kb' b P hb e).2, led_ne ho2 e'⟩
  have ho12 : o1 ≠ o2 := led_ne ho2 (ups _ _ ko1)
  clear S₅ kk₆ ups S₄
  obtain ⟨vo, hvo, S₇⟩ := S₆.ints ko1'
  obtain ⟨vc, hvc, S₈⟩ := S₇.ints (upd_of (Ne.symm ho12) ko2)
  have hlo := idxTo_len 40 x.cps.toList x.cps.toList.length
  have hlc := idxTo_len 41 x.cps.toList x.cps.toList.length
  have hxl : x.cps.toList.length = x.length := by simp [Str.length]
  have hlo' : (idxF 40 x.cps.toList).length ≤ x.length := by unfold idxF; exact Nat.le_trans hlo (by omega)
  have hlc' : (idxF 41 x.cps.toList).length ≤ x.length := by unfold idxF; exact Nat.le_trans hlc (by omega)
  have hvol := ints_len hvo
  have hvcl := ints_len hvc
  obtain ⟨H₈, kH⟩ : ∃ H₈, H₈ = upd (upd H₆ o1 (listO vo)) o2 (listO vc) := ⟨_, rfl⟩
  rw [← kH] at S₈
  have kO : H₈ o1 = some (listO vo) := by rw [kH]; exact upd_of ho12 (upd_same _ _ _)
  have kC : H₈ o2 = some (listO vc) := by rw [kH]; exact upd_same _ _ _
  have kE : H₈ c2 = some (cellO (some (.int x.length t'))) := by rw [kH]; exact upd_of hc2o2 (upd_of hc2o1 k2'')
  have kB : ∀ b P, b ≠ c2 → H₁ b = some P → H₈ b = some P := fun b P hb e => by
    have := kb'' b P hb e
    rw [kH]; exact upd_of this.2.2 (upd_of this.2.1 this.1)
  clear kb' kb'' kH S₆ S₇ ko1 ko1' ko2 k2' k2''
  repeat walk_at "tx"
  refine r_zip S₈ kC kO ?_
  intro z TI TO i1 i2 H₉ s₉ sub₉ none₉ hzL Z S₉
  repeat walk_at "tx"
  refine r_list_zip (as := idxF 41 x.cps.toList) (bs := idxF 40 x.cps.toList) hh (by omega) hvc hvo S₉ Z sub₉ (sub₉ _ _ kC) (sub₉ _ _ kO) ?_
  intro o3 vp H₁₀ s₁₀ ho3 ho3L hp3 ko3 sub₁₀ S₁₀
  clear S₉ Z sub₉ none₉
  have kE₁ := sub₁₀ _ _ kE
  have kO₁ := sub₁₀ _ _ kO
  have kC₁ := sub₁₀ _ _ kC
  have hpl := hp3.len
  rw [List.length_zip] at hpl
  repeat walk_at "py"
  refine r_len_list (by assumption) ko3 (by omega) ?_
  intro t₁₁ s₁₁ S₁₁
  repeat walk_at "py"
  rename_i b1 s₁₂ hb1 hb1L S₁₂
  have sub₁₂ : ∀ b P, H₁₀ b = some P → upd H₁₀ b1 (listO (slicePick vo.toArray (some (vp.length : Int)) none none).toList) b = some P := fun b P e => upd_of (led_ne hb1 e) e
  refine r_len_list S₁₂ (sub₁₂ _ _ ko3) (by omega) ?_
  intro t₁₃ s₁₃ S₁₃
  have kC₂ := sub₁₂ _ _ kC₁
  repeat walk_at "py"
  rename_i b2 s₁₄ hb2 hb2L S₁₄
  have hd1 := slice_ints_fromW hvo (x := (vp.length : Int)) (by omega)
  have hd2 := slice_ints_fromW hvc (x := (vp.length : Int)) (by omega)
  have hd1l := ints_len hd1
  have hd2l := ints_len hd2
  rw [List.length_drop] at hd1l hd2l
  generalize (slicePick vo.toArray (some (vp.length : Int)) none none).toList = u1 at *
  generalize (slicePick vc.toArray (some (vp.length : Int)) none none).toList = u2 at *
  refine r_cat S₁₄ (upd_of (led_ne hb2 (upd_same _ _ _)) (upd_same _ _ _)) (upd_same _ _ _) (by omega) ?_
  intro o4 s₁₅ ho4 ho4L S₁₅
  have hva := intsAre_append hd1 hd2
  have sub₁₅ : ∀ b P, H₁₀ b = some P → upd (upd (upd H₁₀ b1 (listO u1)) b2 (listO u2)) o4 (listO (u1 ++ u2)) b = some P := fun b P e => by
    have e' := upd_of (P := listO u2) (led_ne hb2 (sub₁₂ b P e)) (sub₁₂ b P e)
    exact upd_of (led_ne ho4 e') e'
  have ko4 := upd_same (upd (upd H₁₀ b1 (listO u1)) b2 (listO u2)) o4 (listO (u1 ++ u2))
  have kE₂ := sub₁₅ _ _ kE₁
  have ko3' := sub₁₅ _ _ ko3
  have hp3' := hp3.mono fun a vs e => sub₁₅ _ _ e
  have kB' : ∀ b P, b ≠ c2 → H₁ b = some P → upd (upd (upd H₁₀ b1 (listO u1)) b2 (listO u2)) o4 (listO (u1 ++ u2)) b = some P := fun b P hb e => sub₁₅ _ _ (sub₁₀ _ _ (kB b P hb e))
  generalize upd (upd (upd H₁₀ b1 (listO u1)) b2 (listO u2)) o4 (listO (u1 ++ u2)) = H₁₁ at *
  clear S₁₃ S₁₂ S₁₁ S₁₄ sub₁₂ sub₁₅ kB
  repeat walk_at "py"
  rename_i s₁₆ S₁₆
  refine r_comp (fun _ => rfl) (closureFor_none (by decide)) rfl (by decide) ?_
  repeat walk_at "py"
  refine e_nc S₁₆ (by rfl) kE₂ ?_ rfl (by rfl) (by decide)
  repeat walk_at "py"
  refine r_range S₁₆ ?_
  intro r₃ s₁₇ hr₃ hr₃L S₁₇
  have up₃ : ∀ b P, H₁₁ b = some P → upd H₁₁ r₃ (rangeO x.length) b = some P := fun b P e => upd_of (led_ne hr₃ e) e
  refine comp_succ (N := x.length) hh S₁₇ hz (upd_same _ _ _) (by decide) rfl (by rfl) (by intro D; rfl) ?_
  intro a1 H₁₂ s₁₈ v1 ha1 ha1L ka1 kp1 sub₁₂ S₁₈
  have ko3₂ := sub₁₂ _ _ (up₃ _ _ ko3')
  have ko4₂ := sub₁₂ _ _ (up₃ _ _ ko4)
  have kE₃ := sub₁₂ _ _ (up₃ _ _ kE₂)
  have hp3₂ := hp3'.mono fun a vs e => sub₁₂ _ _ (up₃ _ _ e)
  have kB₂ : ∀ b P, b ≠ c2 → H₁ b = some P → H₁₂ b = some P := fun b P hb e => sub₁₂ _ _ (up₃ _ _ (kB' b P hb e))
  have hv1 := kp1.len
  rw [succTo_len] at hv1
  repeat walk_at "py"
  refine r_cat S₁₈ ka1 ko3₂ (by omega) ?_
  intro a2 s₁₉ ha2 ha2L S₁₉
  have up₄ : ∀ b P, H₁₂ b = some P → upd H₁₂ a2 (listO (v1 ++ vp)) b = some P := fun b P e => upd_of (led_ne ha2 e) e
  have kp2 := (kp1.app hp3₂).mono fun a vs e => up₄ _ _ e
  repeat walk_at "py"
  refine r_comp (fun _ => rfl) (by rfl) rfl (by decide) ?_
  walk_at "py"
  refine comp_alone (N := x.length) (c2 := c2) (te := t') hh S₁₉ (by rw [List.length_append, List.length_drop, List.length_drop]; omega) hva (up₄ _ _ ko4₂) (by decide) rfl (by rfl) (by intro D; rfl) (by intro D; rfl) (by rfl) (up₄ _ _ kE₃) ?_
  intro a3 H₁₃ s₂₀ v3 ha3 ha3L ka3 kp3 sub₁₃ S₂₀
  have hv3 := kp3.len
  rw [List.length_map, List.length_append, List.length_drop, List.length_drop] at hv3
  repeat walk_at "py"
  refine r_cat S₂₀ (sub₁₃ _ _ (upd_same _ _ _)) ka3 (by rw [List.length_append]; omega) ?_
  intro a4 s₂₁ ha4 ha4L S₂₁
  have kp4 := (kp2.mono fun a vs e => sub₁₃ _ _ e).app kp3
  have up₅ : ∀ b P, H₁₃ b = some P → upd H₁₃ a4 (listO (v1 ++ vp ++ v3)) b = some P := fun b P e => upd_of (led_ne ha4 e) e
  have hfin : ∀ b P, b ≠ c2 → H₁ b = some P → upd H₁₃ a4 (listO (v1 ++ vp ++ v3)) b = some P := fun b P hb e => up₅ _ _ (sub₁₃ _ _ (up₄ _ _ (kB₂ b P hb e)))
  have kLf := hfin L _ hc2L.symm (hk₁ _ _ (upd_same _ _ _))
  have e4 : succTo x.length ++ (idxF 41 x.cps.toList).zip (idxF 40 x.cps.toList) ++ ((List.drop (↑vp.length : Int).toNat (idxF 40 x.cps.toList) ++ List.drop (↑vp.length : Int).toNat (idxF 41 x.cps.toList)).map fun k => (k, (x.length : Int))) = needsF x.cps.toList := by
    unfold needsF
    rw [hxl, Int.toNat_natCast, hpl]
  rw [e4] at kp4
  have hLH : H L = none := S.inv.out
  repeat walk_at "py"
  have kL₁₃ := sub₁₃ _ _ (up₄ _ _ (kB₂ L _ hc2L.symm (hk₁ _ _ (upd_same _ _ _))))
  have ha4L' : a4 ≠ L := (led_ne ha4 kL₁₃).symm
  refine h a4 _ _ (v1 ++ vp ++ v3) ((del_ne _ ha4L').trans (upd_same _ _ _)) ?_ ?_ (back _ _ _ _ (by assumption) kLf)
  · exact kp4.keep fun a i j ta tb e => (del_ne _ (kind_ne e kL₁₃ ⟨{ oL' with cls := .none }, rfl, fun ⟨n, q⟩ => absurd (congrArg Obj.cls q) (by simp)⟩)).trans (up₅ _ _ e)
  · intro b P hb
    have hbL : b ≠ L := fun q => by rw [q, hLH] at hb; cases hb
    refine (del_ne _ hbL).trans (hfin b P (fun q => ?_) (hk₁ _ _ (upd_of hbL hb)))
    rw [q, hc2] at hb; cases hb
end

/-! ## Lists compared; pairs sought in a list of pairs -/
section
open PySem.SeqAt
variable {prog : Program} {w : World} {A : Around} {E : Value → Shared → Prop} {s : Shared} {h₀ : Heap} {g : Array GenState} {os : OsState} {L a b l T : Addr} {m : Loc} {H : Led} {vs : List Value} {ps : List (Int × Int)} {ns ms : List Int} {i j : Int} {ti tj : Tok}
theorem r_leq {Q : Value → Shared → Prop} (S : St h₀ g os L m H s) (ea : H a = some (intsO ns)) (eb : H b = some (intsO ms)) (hu : A.units + 64 < cLine) (h : Q (.bool (decide (ns = ms))) s) : wpAny (model prog w) A (compareOp .Eq (.ref a) (.ref b)) Q E s := by
  obtain ⟨o, ho, v1, n1, h1, rfl⟩ := S.inv.own _ _ ea
  obtain ⟨o', ho', v2, n2, h2, rfl⟩ := S.inv.own _ _ eb
  exact eq_intsK ⟨_, ho, rfl, n1, rfl⟩ h1 ⟨_, ho', rfl, n2, rfl⟩ h2 hu h
theorem r_lne {Q : Value → Shared → Prop} (S : St h₀ g os L m H s) (ea : H a = some (intsO ns)) (eb : H b = some (intsO ms)) (hu : A.units + 64 < cLine) (h : Q (.bool (!decide (ns = ms))) s) : wpAny (model prog w) A (compareOp .NotEq (.ref a) (.ref b)) Q E s := by
  obtain ⟨o, ho, v1, n1, h1, rfl⟩ := S.inv.own _ _ ea
  obtain ⟨o', ho', v2, n2, h2, rfl⟩ := S.inv.own _ _ eb
  exact ne_intsK ⟨_, ho, rfl, n1, rfl⟩ h1 ⟨_, ho', rfl, n2, rfl⟩ h2 hu h
theorem St.lints (S : St h₀ g os L m H s) (e : H a = some (listO [])) : St h₀ g os L m (upd H a (intsO [])) s := S.imp e (listO.ints .nil)
open Classical in
noncomputable def pairIs (H : Led) (i j : Int) (y : Value) : Bool := decide (∃ t ta tb, y = .ref t ∧ H t = some (tupO [.int i ta, .int j tb]))
theorem tupO_inj {i j i' j' : Int} {ta tb ta' tb' : Tok} (h : tupO [.int i ta, .int j tb] = tupO [.int i' ta', .int j' tb']) : i = i' ∧ j = j' := by
  have := (congrFun h { cls := .type "tuple", data := .seq [Value.int i ta, .int j tb].toArray 0 }).mp ⟨0, rfl⟩
  obtain ⟨n, q⟩ := this
  have := congrArg Obj.data q
  simp at this
  exact ⟨this.1.1.1, this.1.2.1⟩
theorem pairIs_of {t : Addr} (e : H t = some (tupO [.int i ti, .int j tj])) (i' j' : Int) : pairIs H i' j' (.ref t) = (i == i' && j == j') := by
  classical
  unfold pairIs
  by_cases q : i = i' ∧ j = j'
  · obtain ⟨rfl, rfl⟩ := q
    rw [decide_eq_true ⟨t, ti, tj, rfl, e⟩]; simp
  · rw [decide_eq_false]
    · rcases Decidable.not_and_iff_or_not.mp q with q | q <;> simp [q]
    · rintro ⟨t', ta, tb, q1, q2⟩
      cases q1
      rw [e] at q2
      exact q (tupO_inj (Option.some.inj q2))
theorem any_pairs : ∀ {vs ps}, PairsAre H vs ps → vs.any (pairIs H i j) = ps.contains (i, j)
  | [], [], _ => rfl
  | _ :: _, p :: _, ⟨⟨t, ta, tb, e, ht⟩, r⟩ => by
    subst e
    rw [List.any_cons, any_pairs r, pairIs_of ht, List.contains_cons]
    congr 1
    show _ = ((i, j) == p)
    rw [Bool.eq_iff_iff]
    simp only [Bool.and_eq_true, beq_iff_eq]
    constructor
    · rintro ⟨h1, h2⟩; rw [← h1, ← h2]
    · rintro rfl; exact ⟨rfl, rfl⟩
  | [], _ :: _, x => x.elim
  | _ :: _, [], x => x.elim
theorem mem_pairs : ∀ {vs ps}, PairsAre H vs ps → ∀ y ∈ vs, ∃ t p q ta tb, y = .ref t ∧ H t = some (tupO [.int p ta, .int q tb])
  | [], [], _, y, hy => by cases hy
  | _ :: _, p :: _, ⟨⟨t, ta, tb, e, ht⟩, r⟩, y, hy => by
    rcases List.mem_cons.mp hy with rfl | hy
    · exact ⟨t, p.1, p.2, ta, tb, e, ht⟩
    · exact mem_pairs r y hy
  | [], _ :: _, x, _, _ => x.elim
  | _ :: _, [], x, _, _ => x.elim
theorem r_notin_pairs {Q : Value → Shared → Prop} (S : St h₀ g os L m H s) (el : H l = some (listO vs)) (hp : PairsAre H vs ps) (eT : H T = some (tupO [.int i ti, .int j tj])) (hu : A.units + 64 < cLine) (h : Q (.bool (!ps.contains (i, j))) s) :
    wpAny (model prog w) A (compareOp .NotIn (.ref T) (.ref l)) Q E s := by
  refine notIn_listAt (pairIs H i j) (S.isList el) (fun y hy => ?_) (by rw [List.any_toArray, any_pairs hp]; exact h)
  obtain ⟨t, p, q, ta, tb, rfl, et⟩ := mem_pairs hp y (by simpa using hy)
  rw [pairIs_of et]
  by_cases hT : t = T
  · subst hT
    rw [et] at eT
    obtain ⟨rfl, rfl⟩ := tupO_inj (Option.some.inj eT)
    simp only [beq_self_eq_true, Bool.and_self]
    exact EqAt.same _
  · refine EqAt.of_refs hT ?_
    have hx := RcAt.tuples (A := A.in1) (s := s) (e := fun k => if k = 0 then p == i else q == j) (S.isTup et) (S.isTup eT) (by show A.units + 1 < cLine; omega) (fun k h1 h2 => ?_)
    · have e : ((List.range (min [Value.int p ta, Value.int q tb].toArray.size [Value.int i ti, Value.int j tj].toArray.size)).all (fun k => if k = 0 then p == i else q == j) && [Value.int p ta, Value.int q tb].toArray.size == [Value.int i ti, Value.int j tj].toArray.size) = (p == i && q == j) := by
        simp [List.range, List.range.loop]
      rw [e] at hx
      exact hx
    · match k, h1 with
      | 0, _ => exact (MeetsSeq.EqGives.int p i ta ti).at _ _
      | 1, _ => exact (MeetsSeq.EqGives.int q j tb tj).at _ _
      | k + 2, h1 => exact absurd h1 (by simp)
end

/-! a step that keeps all there was -/
section
open PySem.SeqAt
variable {prog : Program} {w : World} {A : Around} {E : Value → Shared → Prop} {s u : Shared} {env : Env}
theorem k_cs {x : Str} {k : Nat} {pos : Pos} {Q : Value → Shared → Prop} (K : PySem.Keeps u s) (h : ∀ t s', PySem.Keeps u s' → Q (.str x t) s') : wpAny (model prog w) A (eval (.Constant (.str x) k pos) env) Q E s := by
  obtain ⟨h', tk, rfl, hk⟩ := K
  exact wpAny_Constant_str (h _ _ ⟨h', tk + 1, rfl, hk⟩)
theorem k_ci {x : Int} {k : Nat} {pos : Pos} {Q : Value → Shared → Prop} (K : PySem.Keeps u s) (h : ∀ t s', PySem.Keeps u s' → Q (.int x t) s') : wpAny (model prog w) A (eval (.Constant (.int x) k pos) env) Q E s := by
  obtain ⟨h', tk, rfl, hk⟩ := K
  exact wpAny_Constant_int (h _ _ ⟨h', tk + 1, rfl, hk⟩)
theorem k_mod {a b : Int} {t v : Tok} {Q : Value → Shared → Prop} (K : PySem.Keeps u s) (h0 : ¬ (b == 0) = true) (h : ∀ t s', PySem.Keeps u s' → Q (.int (a.fmod b) t) s') : wpAny (model prog w) A (binaryOp .Mod (.int a t) (.int b v)) Q E s := by
  obtain ⟨h', tk, rfl, hk⟩ := K
  exact PySem.AutoIntOps.mod_1 h0 (h _ _ ⟨h', tk + 1, rfl, hk⟩)
theorem k_newList {vs : List Value} {Q : Value → Shared → Prop} (K : PySem.Keeps u s) (hz : vs.length ≤ 16777216) (h : ∀ a s', s'.heap.IsList a vs.toArray → PySem.Keeps u s' → Q (.ref a) s') : wpAny (model prog w) A (newList vs) Q E s := by
  obtain ⟨h', tk, rfl, hk⟩ := K
  exact wpAny_newObj_type (h _ _ ⟨_, Heap.get?_push_size _ rfl, rfl, 0, rfl⟩ ⟨h'.push _, tk, rfl, fun b o e => Heap.get?_push_of_some _ (hk b o e)⟩) (by show vs.toArray.size ≤ sizeLine; rw [List.size_toArray]; exact hz)
theorem k_nl {cs : Scope} {C : Addr} {cl : List (Str × Addr)} {qn x : Str} {fo : Option Addr} {ccd v : Value} {fr : Option Addr} {px : Pos} {m : Loc} {Q : Value → Shared → Prop} (K : PySem.Keeps u s) (hn : u.heap.Ns C m) (hv : m x = some v) (h : Q v s) (hk : cs.kind = .function) (hx : (envE cs C cl qn fo ccd fr).kindOf x = some .local) (hd : (x == ("__debug__" : Str)) = false) :
    wpAny (model prog w) A (eval (.Name x px) (envE cs C cl qn fo ccd fr)) Q E s := by
  obtain ⟨h', tk, rfl, kk⟩ := K
  exact wpAny_Name (wpAny_loadName_local hk hx (hn.keeps kk) hv h) hd
set_option maxHeartbeats 2000000 in
theorem leaf9 {cs : Scope} {C : Addr} {cl : List (Str × Addr)} {qn x : Str} {fo : Option Addr} {ccd : Value} {fr : Option Addr} {px p0 pb pl pos p1 p2 p3 p4 p5 p6 p7 p8 p9 : Pos} {m : Loc} {a : Int} {t : Tok} {y1 y2 y3 y4 y5 y6 y7 y8 y9 : Str} {k1 k2 k3 k4 k5 k6 k7 k8 k9 k0 : Nat} (hn : u.heap.Ns C m) (hv : m x = some (.int a t)) (hk : cs.kind = .function) (hx : (envE cs C cl qn fo ccd fr).kindOf x = some .local) (hd : (x == ("__debug__" : Str)) = false) :
    wpAny (model prog w) A (eval (.Subscript (.List [.Constant (.str y1) k1 p1, .Constant (.str y2) k2 p2, .Constant (.str y3) k3 p3, .Constant (.str y4) k4 p4, .Constant (.str y5) k5 p5, .Constant (.str y6) k6 p6, .Constant (.str y7) k7 p7, .Constant (.str y8) k8 p8, .Constant (.str y9) k9 p9] pl) (.BinOp (.Name x px) .Mod (.Constant (.int 9) k0 p0) pb) pos) (envE cs C cl qn fo ccd fr)) (fun y s₃ => Carried y (.str ([y1, y2, y3, y4, y5, y6, y7, y8, y9].getD (a.fmod 9).toNat ⟨#[]⟩)) ∧ PySem.Keeps u s₃) E u := by
  have K : PySem.Keeps u u := ⟨u.heap, u.toks, rfl, fun _ _ e => e⟩
  with_reducible refine Subscript_ ?_
  with_reducible refine List_ ?_
  iterate 9 ((with_reducible refine' spliced_more ?_ ?he); (case he => rfl); refine k_cs (by assumption) ?_; intro _ _ _)
  with_reducible refine spliced_none ?_
  rename_i t1 s1 K1 t2 s2 K2 t3 s3 K3 t4 s4 K4 t5 s5 K5 t6 s6 K6 t7 s7 K7 t8 s8 K8 t9 s9 K9
  refine k_newList K9 (by show 9 ≤ 16777216; decide) ?_
  intro l s10 hl K10
  with_reducible refine wpAny_BinOp ?_
  refine k_nl K10 hn hv ?_ hk hx hd
  refine k_ci (u := s10) ⟨s10.heap, s10.toks, rfl, fun _ _ e => e⟩ ?_
  intro u1 s11 K11
  refine k_mod K11 (by decide) ?_
  intro u2 s12 K12
  have hl12 : s12.heap.IsList l [Value.str y1 t1, .str y2 t2, .str y3 t3, .str y4 t4, .str y5 t5, .str y6 t6, .str y7 t7, .str y8 t8, .str y9 t9].toArray := by
    obtain ⟨h', tk, rfl, kk⟩ := K12
    exact hl.at fun o e => kk l o e
  have h0 : 0 ≤ a.fmod 9 := Int.fmod_nonneg_of_pos a (by decide)
  have h1 : a.fmod 9 < 9 := Int.fmod_lt_of_pos a (by decide)
  have hlt : (a.fmod 9).toNat < 9 := by omega
  have hv9 : ∃ t, [Value.str y1 t1, .str y2 t2, .str y3 t3, .str y4 t4, .str y5 t5, .str y6 t6, .str y7 t7, .str y8 t8, .str y9 t9][(a.fmod 9).toNat]? = some (.str ([y1, y2, y3, y4, y5, y6, y7, y8, y9].getD (a.fmod 9).toNat ⟨#[]⟩) t) := by
    generalize (a.fmod 9).toNat = n at hlt
    match n, hlt with
    | 0, _ => exact ⟨_, rfl⟩
    | 1, _ => exact ⟨_, rfl⟩
    | 2, _ => exact ⟨_, rfl⟩
    | 3, _ => exact ⟨_, rfl⟩
    | 4, _ => exact ⟨_, rfl⟩
    | 5, _ => exact ⟨_, rfl⟩
    | 6, _ => exact ⟨_, rfl⟩
    | 7, _ => exact ⟨_, rfl⟩
    | 8, _ => exact ⟨_, rfl⟩
    | n + 9, h => exact absurd h (by omega)
  obtain ⟨t, ht⟩ := hv9
  refine tail_any hl12.typeIs slot_list_getitem.lookup (wpAny_getItem_list hl12 h0 (by omega) (by rw [List.getElem?_toArray]; exact ht) ⟨.str _ _, ?_⟩) (by rfl)
  obtain ⟨h', tk, rfl, kk⟩ := K12
  obtain ⟨h'', tk', rfl, kk'⟩ := K10
  exact ⟨h', tk, rfl, fun b o e => kk b o (kk' b o e)⟩
end

section
variable {prog : Program} {w : World} {A : Around} {E : Value → Shared → Prop} {s : Shared} {h₀ : Heap} {g : Array GenState} {os : OsState} {L c1 l1 l2 nl : Addr} {m : Loc} {H₀ : Led} {cs scope : Scope} {cl cl' : List (Str × Addr)} {qn : Str} {fo : Option Addr} {ccd : Value} {fr : Option Addr} {xs ys vs : List Value} {as bs : List Int} {ps : List (Int × Int)}
set_option maxHeartbeats 2000000 in
theorem loop_zip {acc D z TI TO i1 i2 : Addr} {iter : PySem.Expr} {p1 p2 p3 p4 p5 pos : Pos} {R : Result → Shared → Prop} (hh : A.handled = none) (hu : A.units + 64 < cLine) (hxs : IntsAre xs as) (hys : IntsAre ys bs)
    (hk : cs.kind = .function) (hloc : (envE cs D cl qn none ccd fr).kindOf (Str.ofString "pair") = some .local) (hnd : (envE cs D cl qn none ccd fr).kindOf (Str.ofString "needs") = some .cell) (hl1 : cl.lookup (Str.ofString "needs") = some c1)
    (k1 : H₀ c1 = some (cellO (some (.ref nl)))) (kn : H₀ nl = some (listO vs)) (kp : PairsAre H₀ vs ps) (e1 : H₀ l1 = some (listO xs)) (e2 : H₀ l2 = some (listO ys)) (hall : ∀ p ∈ as.zip bs, ps.contains p = true) (na : H₀ acc = none) (hac : acc ≠ z ∧ acc ≠ TO ∧ acc ≠ i1 ∧ acc ≠ i2) :
    ∀ (n k : Nat) (m : Loc) (H₁ : Led) (s : Shared) (f0 : Value) (b : Bool), n + k = (as.zip bs).length → Zp H₀ H₁ l1 l2 z TI TO i1 i2 k f0 b → ZpF H₁ f0 b → H₁ acc = some (listO []) → Sub H₀ H₁ → St h₀ g os D m H₁ s →
      (∀ m' H' s', H' acc = some (listO []) → Sub H₀ H' → St h₀ g os D m' H' s' → R (.ok .next) s') →
    codeAny (model prog w) A (.compLoop (.ListComp (.Name (Str.ofString "pair") p1) [⟨.Name (Str.ofString "pair") p2, iter, [.Compare (.Name (Str.ofString "pair") p3) [.NotIn] [.Name (Str.ofString "needs") p4] p5], 0⟩] scope pos) 0 (.ref z) (.ref acc) (envE cs D cl qn none ccd fr)) R s
  | 0, k, m, H₁, s, f0, b, hn, Z, F, ka, kk, S, h => by
    have h1 := ints_len hxs
    have h2 := ints_len hys
    rw [List.length_zip] at hn
    refine r_comp1 ?_
    refine r_end_zip hh S Z (kk _ _ e1) (kk _ _ e2) ?_ F fun H' s' kp' S' => ?_
    · rcases Nat.le_total as.length bs.length with q | q
      · exact .inl (List.getElem?_eq_none (by omega))
      · exact .inr (List.getElem?_eq_none (by omega))
    · exact h _ H' s' (kp' acc _ ka hac.1 hac.2.1 hac.2.2.1 hac.2.2.2) (fun t P ht => kp' t P (kk t P ht) (led_ne Z.nz ht) (led_ne Z.nTO ht) (led_ne Z.n1 ht) (led_ne Z.n2 ht)) S'
  | n + 1, k, m, H₁, s, f0, b, hn, Z, F, ka, kk, S, h => by
    have hkl : k < (as.zip bs).length := by omega
    have hkl' := hkl
    rw [List.length_zip] at hkl'
    obtain ⟨a, ta, ha, hxa⟩ : ∃ a ta, as[k]? = some a ∧ xs[k]? = some (.int a ta) := by
      rcases ints_at hxs k with ⟨n, t, q1, q2⟩ | ⟨q1, _⟩
      · exact ⟨n, t, q1, q2⟩
      · rw [List.getElem?_eq_getElem (by omega)] at q1; cases q1
    obtain ⟨d, td, hd, hyd⟩ : ∃ a ta, bs[k]? = some a ∧ ys[k]? = some (.int a ta) := by
      rcases ints_at hys k with ⟨n, t, q1, q2⟩ | ⟨q1, _⟩
      · exact ⟨n, t, q1, q2⟩
      · rw [List.getElem?_eq_getElem (by omega)] at q1; cases q1
    have hzip : (as.zip bs)[k]? = some (a, d) := by simp [List.getElem?_zip_eq_some, ha, hd]
    refine r_comp1 ?_
    refine r_next_zip S Z (kk _ _ e1) (kk _ _ e2) hxa hyd F ?_
    intro T f1 b' H' s' hT hTL kT kpp kn' Z' F' S'
    have kk' : Sub H₀ H' := fun t P ht => kpp t P (kk t P ht) (led_ne Z.nz ht) (led_ne Z.nTO ht) (led_ne Z.n1 ht) (led_ne Z.n2 ht)
    have ka' := kpp acc _ ka hac.1 hac.2.1 hac.2.2.1 hac.2.2.2
    repeat walk_at "py"
    refine e_st S' ?_ hk hloc
    intro s₂ S₂
    repeat walk_at "py"
    refine e_nl S₂ (put_same _ _ _) ?_ hk hloc (by decide)
    repeat walk_at "py"
    refine e_nc S₂ hl1 (kk' _ _ k1) ?_ hk hnd (by decide)
    refine r_notin_pairs S₂ (kk' _ _ kn) (kp.mono fun a vs e => kk' _ _ e) kT hu ?_
    rw [hall _ (List.mem_of_getElem? hzip)]
    repeat walk_at "py"
    exact loop_zip hh hu hxs hys hk hloc hnd hl1 k1 kn kp e1 e2 hall na hac n (k + 1) _ _ _ f1 b' (by omega) Z' F' ka' kk' S₂ h
theorem comp_zip {z TI TO i1 i2 : Addr} {H : Led} {iter : PySem.Expr} {p1 p2 p3 p4 p5 pos : Pos} {Q : Value → Shared → Prop} (hh : A.handled = none) (hu : A.units + 64 < cLine) (S : St h₀ g os L m H s) (Z : Zp H₀ H l1 l2 z TI TO i1 i2 0 .none false) (sub : Sub H₀ H) (hxs : IntsAre xs as) (hys : IntsAre ys bs)
    (hcell : ∀ y ∈ scope.names, y.2 ≠ .cell) (hkind : scope.kind = .function) (hK : (relabel scope (envE cs L cl qn fo ccd fr)).kind = .function)
    (hloc : ∀ D, (envE (relabel scope (envE cs L cl qn fo ccd fr)) D cl' qn none ccd fr).kindOf (Str.ofString "pair") = some .local) (hnd : ∀ D, (envE (relabel scope (envE cs L cl qn fo ccd fr)) D cl' qn none ccd fr).kindOf (Str.ofString "needs") = some .cell) (hl1 : cl'.lookup (Str.ofString "needs") = some c1)
    (k1 : H₀ c1 = some (cellO (some (.ref nl)))) (kn : H₀ nl = some (listO vs)) (kp : PairsAre H₀ vs ps) (e1 : H₀ l1 = some (listO xs)) (e2 : H₀ l2 = some (listO ys)) (hall : ∀ p ∈ as.zip bs, ps.contains p = true)
    (h : ∀ acc H' s', acc ≠ L → H' acc = some (listO []) → Sub H₀ H' → St h₀ g os L m H' s' → Q (.ref acc) s') :
    wpAny (model prog w) A (pyIter (.ref z)) (fun it s₂ => CompGo prog w A E (.Name (Str.ofString "pair") p1) (.Name (Str.ofString "pair") p2) iter [.Compare (.Name (Str.ofString "pair") p3) [.NotIn] [.Name (Str.ofString "needs") p4] p5] scope pos cl' (envE cs L cl qn fo ccd fr) Q it s₂) E s := by
  refine r_iter_zip S Z.hz ?_
  refine r_compGo (P := zipO TI TO .none false) S Z.hz hcell hkind ?_ ?_
  · intro D m' H' s' Q' E' S' e hq
    exact r_iter_zip S' e hq
  intro acc D oD s₅ hacc haccL hDL haccD hD S₅
  have hLH : H L = none := S.inv.out
  have hL0 : H₀ L = none := by
    cases q : H₀ L with
    | none => rfl
    | some P => rw [sub _ _ q] at hLH; cases hLH
  have na0 : H₀ acc = none := by
    cases q : H₀ acc with
    | none => rfl
    | some P => rw [sub _ _ q] at hacc; cases hacc
  have up : ∀ b P, H b = some P → upd (upd H acc (listO [])) L (frO oD) b = some P := fun b P e => upd_of (fun q => by rw [q, hLH] at e; cases e) (upd_of (led_ne hacc e) e)
  have ne0 : ∀ {b P}, H₀ b = some P → b ≠ L := fun e q => by rw [q, hL0] at e; cases e
  have nz : z ≠ L := S.inv.neL Z.hz
  have nTI := S.inv.neL Z.hTI
  have nTO := S.inv.neL Z.hTO
  have n1 := S.inv.neL Z.h1
  have n2 := S.inv.neL Z.h2
  have Z' : Zp (upd H₀ L (frO oD)) (upd (upd H acc (listO [])) L (frO oD)) l1 l2 z TI TO i1 i2 0 .none false :=
    ⟨Z.D, up _ _ Z.hz, up _ _ Z.hTI, up _ _ Z.hTO, up _ _ Z.h1, up _ _ Z.h2, (upd_ne _ _ nz).trans Z.nz, (upd_ne _ _ nTI).trans Z.nTI, (upd_ne _ _ nTO).trans Z.nTO, (upd_ne _ _ n1).trans Z.n1, (upd_ne _ _ n2).trans Z.n2⟩
  refine loop_zip (H₀ := upd H₀ L (frO oD)) (c1 := c1) (nl := nl) hh hu hxs hys hK (hloc D) (hnd D) hl1 (upd_of (ne0 k1) k1) (upd_of (ne0 kn) kn) (kp.mono fun a vs e => upd_of (ne0 e) e) (upd_of (ne0 e1) e1) (upd_of (ne0 e2) e2) hall ((upd_ne _ _ haccL).trans na0) ⟨(led_ne hacc Z.hz).symm, (led_ne hacc Z.hTO).symm, (led_ne hacc Z.h1).symm, (led_ne hacc Z.h2).symm⟩ _ 0 _ _ s₅ .none false (Nat.add_zero _) Z' (.inl ⟨rfl, rfl⟩) (upd_of haccL (upd_same _ _ _)) ?_ S₅ ?_
  · intro b P hb
    by_cases q : b = L
    · rw [q, upd_same] at hb; rw [q]; exact (upd_same _ _ _).trans hb
    · rw [upd_ne _ _ q] at hb; exact up b P (sub b P hb)
  intro m' H' s' ka kk S'
  refine ⟨⟨_, rfl⟩, m', H', S', kk _ _ (upd_same _ _ _), ?_⟩
  intro s'' S''
  exact h acc _ s'' haccL ((del_ne _ haccL).trans ka) (fun b P hb => (del_ne _ (ne0 hb)).trans (kk b P (upd_of (ne0 hb) hb))) S''
end

/-! ## The start of `law` -/
open PySem.Spec in
theorem envOfC_eq (name : Str) (scope : Scope) (L a : Addr) (cd : Value) : envOfC name scope L a cd = envX name scope L a cd (cellsFrom (L + 1) scope.names []) := rfl
def led1 (c : Addr) (v : Option Value) : Led := upd (fun _ => none) c (cellO v)
theorem led1_start {h₀ : Heap} {L c : Addr} {m : Loc} {s : Shared} {v : Option Value} (F : Fr h₀ L s.heap m) (hc : ∃ o, s.heap.get? c = some o ∧ o.data = .cell v) (h0 : h₀.get? c = none) (hL : c ≠ L) : St h₀ s.gens s.os L m (led1 c v) s := by
  refine ⟨⟨F.ns, F.keep, fun a P e => ?_, fun a P e => ?_, F.above, ?_⟩, rfl, rfl⟩
  · by_cases q : a = c
    · subst q; rw [led1, upd_same] at e; cases e; exact hc
    · rw [led1, upd_ne _ _ q] at e; cases e
  · by_cases q : a = c
    · subst q; exact h0
    · rw [led1, upd_ne _ _ q] at e; cases e
  · rw [led1, upd_ne _ _ (Ne.symm hL)]
def pieceF (a : Int) : Str := ([Str.ofString "(", Str.ofString ")", Str.ofString "(", Str.ofString ")", Str.ofString "a", Str.ofString "\"", Str.ofString "\\", Str.ofString "\"(", Str.ofString ")\\)"] : List Str).getD (a.fmod 9).toNat ⟨#[]⟩
def textF (ns : List Int) : Str := Txt.join (Str.ofString "") ((ns.take 7).map pieceF) ++ Str.ofString "()"
theorem get_regrown_none {h₀ : Heap} {P a : Addr} {ps : Array Value} (h : h₀.objs.size ≤ a) : (regrown h₀ P ps).get? a = none :=
  get_none_of_le (by unfold regrown; rw [(Heap.SameBut.update ..).1]; exact h)
theorem law_in {α : Type} {M : Model} {A : Around} {tree : Sem α} {Q : α → Shared → Prop} {E : Value → Shared → Prop} {s : Shared} {h₀ : Heap} {L c : Addr} {m : Loc} {o : Obj} {v : Option Value} {g : Array GenState} {os : OsState} (F : Fr h₀ L s.heap m) (N : News h₀ L s.heap [(c, o)]) (hd : o.data = .cell v) (hg : s.gens = g) (hos : s.os = os)
    (k : ∀ s', St h₀ g os L m (led1 c v) s' → wpAny M A tree Q E s') : wpAny M A tree Q E s := by
  have S := led1_start F ⟨o, (N _ (List.mem_singleton.mpr rfl)).1, hd⟩ (N _ (List.mem_singleton.mpr rfl)).2.2 (N _ (List.mem_singleton.mpr rfl)).2.1
  rw [hg, hos] at S
  exact k s S
theorem law_names {P : Prop} {l : Addr} {us : List Value} {ks : List Int} {s : Shared} (_ : s.heap.IsList l us.toArray) (_ : IntsAre us ks) (k : ∀ (s₀ : Shared) (sl : Addr) (vs : List Value) (ns : List Int), s₀ = s → sl = l → vs = us → ns = ks → P) : P := k _ _ _ _ rfl rfl rfl rfl
theorem piece_mem (a : Int) : pieceF a ∈ [Str.ofString "(", Str.ofString ")", Str.ofString "a", Str.ofString "\"", Str.ofString "\\", Str.ofString "\"(", Str.ofString ")\\)"] := by
  have h0 : 0 ≤ a.fmod 9 := Int.fmod_nonneg_of_pos a (by decide)
  have h1 : a.fmod 9 < 9 := Int.fmod_lt_of_pos a (by decide)
  unfold pieceF
  have hlt : (a.fmod 9).toNat < 9 := by omega
  generalize (a.fmod 9).toNat = n at hlt
  match n, hlt with
  | 0, _ => simp
  | 1, _ => simp
  | 2, _ => simp
  | 3, _ => simp
  | 4, _ => simp
  | 5, _ => simp
  | 6, _ => simp
  | 7, _ => simp
  | 8, _ => simp
  | n + 9, h => exact absurd h (by omega)
theorem piece_len (a : Int) : (pieceF a).length ≤ 3 := by
  have h : ∀ y ∈ [Str.ofString "(", Str.ofString ")", Str.ofString "a", Str.ofString "\"", Str.ofString "\\", Str.ofString "\"(", Str.ofString ")\\)"], y.length ≤ 3 := by decide
  exact h _ (piece_mem a)
theorem join_few (ns : List Int) : JoinOk (Str.ofString "") (((ns.take 7).filter fun _ => true).map pieceF) = true := by
  refine joinOk_of_weight ?_ (by decide)
  have h1 : ∀ l : List Int, ((l.map pieceF).map (·.length)).sum ≤ 3 * l.length := by
    intro l
    induction l with
    | nil => simp
    | cons a l ih => have := piece_len a; simp only [List.map_cons, List.sum_cons, List.length_cons]; omega
  have h2 := h1 ((ns.take 7).filter fun _ => true)
  have h3 : ((ns.take 7).filter fun _ => true).length ≤ 7 := Nat.le_trans (List.length_filter_le _ _) (by simp; omega)
  simp only [List.length_map] at *
  omega
/-- what is to be known of each front of the text -/
structure OkT (t : Str) : Prop where
  asc : t.cps.all (· < 128) = true
  len : t.length ≤ 900
  sasc : (stripF t).cps.all (· < 128) = true
  slen : (stripF t).length ≤ 900
  zlen : (seenF t).length ≤ 200
  run : ∃ ring order, sortedF 60 (seenF t).length (needsF (seenF t).cps.toList) = some (ring, order) ∧ checkLoop (chopF false 0 (stripF t).cps.toList) 0 = ring.isEmpty ∧ (ring = [] → order = rangeL ((seenF t).length + 1)) ∧
    (ring ≠ [] → ∃ a r, ring = a :: (r ++ [a]) ∧ ring.length ≤ 900 ∧ ∀ p ∈ ring.tail.zip ring, (needsF (seenF t).cps.toList).contains p = true)
theorem needs_len (cs : List Nat) : (needsF cs).length ≤ 4 * cs.length := by
  have h1 := idxTo_len 40 cs cs.length
  have h2 := idxTo_len 41 cs cs.length
  have h3 : (idxF 40 cs).length ≤ cs.length := h1
  have h4 : (idxF 41 cs).length ≤ cs.length := h2
  unfold needsF
  simp only [List.length_append, List.length_map, List.length_zip, List.length_drop, succTo_len]
  omega

/-! ## The plain law: bracket words -/
/-- the round brackets balance -/
def balF : List Nat → Int → Bool
  | [], o => o == 0
  | c :: cs, o => if c == 40 then balF cs (o + 1) else if c == 41 then (if o - 1 < 0 then false else balF cs (o - 1)) else balF cs o
/-- the last and the first, and all between -/
def ringOk (ring : List Int) (needs : List (Int × Int)) : Bool := match ring with
  | [] => false
  | a :: t => t.getLast? == some a && (t.zip (a :: t)).all fun p => needs.contains p
def okF (cs : List Nat) : Bool := match sortedF 60 cs.length (needsF cs) with
  | none => false
  | some (ring, order) => balF cs 0 == ring.isEmpty && (if ring.isEmpty then order == rangeL (cs.length + 1) else decide (ring.length ≤ 900) && ringOk ring (needsF cs))
def wordsF : Nat → List (List Nat)
  | 0 => [[]]
  | n + 1 => (wordsF n).flatMap fun w => [40 :: w, 41 :: w]
theorem mem_words : ∀ (cs : List Nat), (∀ c ∈ cs, c = 40 ∨ c = 41) → cs ∈ wordsF cs.length
  | [], _ => List.mem_singleton.mpr rfl
  | c :: cs, h => by
    refine List.mem_flatMap.mpr ⟨cs, mem_words cs fun c' hc => h c' (.tail _ hc), ?_⟩
    rcases h c (.head _) with rfl | rfl <;> simp
/-! ### units -/
theorem chop_cases {P : Nat → List Nat → List (Int × Str) → Prop} (h0 : ∀ b, P b [] []) (h1 : ∀ b, P b [92] [((b : Int), ⟨#[92]⟩)]) (h2 : ∀ b c cs, P (b + 2) cs (chopF false (b + 2) cs) → P b (92 :: c :: cs) (((b : Int) + 1, ⟨#[92, c]⟩) :: chopF false (b + 2) cs))
    (h3 : ∀ b c cs, c ≠ 92 → P (b + 1) cs (chopF false (b + 1) cs) → P b (c :: cs) (((b : Int), ⟨#[c]⟩) :: chopF false (b + 1) cs)) : ∀ (b : Nat) (cs : List Nat), P b cs (chopF false b cs)
  | b, [] => h0 b
  | b, [c] => by
    show P b [c] (if c = 92 then chopF true (b + 1) [] else ((b : Int), ⟨#[c]⟩) :: chopF false (b + 1) [])
    by_cases hc : c = 92
    · subst hc
      rw [if_pos rfl]
      have : chopF true (b + 1) [] = [((b : Int), (⟨#[92]⟩ : Str))] := by
        show [(((b + 1 : Nat) : Int) - 1, (⟨#[92]⟩ : Str))] = _
        rw [show (((b + 1 : Nat) : Int) - 1) = (b : Int) from by omega]
      rw [this]; exact h1 b
    · rw [if_neg hc]; exact h3 b c [] hc (h0 _)
  | b, c :: d :: cs => by
    show P b (c :: d :: cs) (if c = 92 then chopF true (b + 1) (d :: cs) else ((b : Int), ⟨#[c]⟩) :: chopF false (b + 1) (d :: cs))
    by_cases hc : c = 92
    · subst hc
      rw [if_pos rfl]
      exact h2 b d cs (chop_cases h0 h1 h2 h3 (b + 2) cs)
    · rw [if_neg hc]; exact h3 b c (d :: cs) hc (chop_cases h0 h1 h2 h3 (b + 1) (d :: cs))
def uc (us : List (Int × Str)) : List (List Nat) := us.map fun u => u.2.cps.toList
/-- the units of a row of code points -/
def unitL (cs : List Nat) : List (List Nat) := uc (chopF false 0 cs)
theorem uc_at (b : Nat) (cs : List Nat) : uc (chopF false b cs) = unitL cs := by
  have key : ∀ (b : Nat) (cs : List Nat), (fun b cs us => ∀ b' : Nat, uc us = uc (chopF false b' cs)) b cs (chopF false b cs) := by
    refine chop_cases (P := fun b cs us => ∀ b' : Nat, uc us = uc (chopF false b' cs)) (fun b b' => rfl) (fun b b' => rfl) (fun b c cs h b' => ?_) (fun b c cs hc h b' => ?_)
    · show _ = uc (chopF false b' (92 :: c :: cs))
      have : chopF false b' (92 :: c :: cs) = (((b' + 1 : Nat) : Int), ⟨#[92, c]⟩) :: chopF false (b' + 2) cs := rfl
      rw [this]
      show [92, c] :: uc _ = [92, c] :: uc _
      rw [h (b' + 2)]
    · have : chopF false b' (c :: cs) = ((b' : Int), ⟨#[c]⟩) :: chopF false (b' + 1) cs := by
        show (if c = 92 then _ else _) = _
        rw [if_neg hc]
      rw [this]
      show [c] :: uc _ = [c] :: uc _
      rw [h (b' + 1)]
  exact key b cs 0
theorem unitL_nil : unitL [] = [] := rfl
theorem unitL_last : unitL [92] = [[92]] := rfl
theorem unitL_esc (c : Nat) (cs : List Nat) : unitL (92 :: c :: cs) = [92, c] :: unitL cs := by
  show [92, c] :: uc (chopF false 2 cs) = _
  rw [uc_at]
theorem unitL_plain {c : Nat} (hc : c ≠ 92) (cs : List Nat) : unitL (c :: cs) = [c] :: unitL cs := by
  have : chopF false 0 (c :: cs) = (((0 : Nat) : Int), (⟨#[c]⟩ : Str)) :: chopF false 1 cs := by
    show (if c = 92 then _ else _) = _
    rw [if_neg hc]
  unfold unitL
  rw [this]
  show [c] :: uc (chopF false 1 cs) = _
  rw [uc_at]; rfl
theorem unitL_flat : ∀ cs : List Nat, (unitL cs).flatten = cs
  | [] => rfl
  | [c] => by
    by_cases hc : c = 92
    · subst hc; rfl
    · rw [unitL_plain hc, unitL_nil]; rfl
  | c :: d :: cs => by
    by_cases hc : c = 92
    · subst hc; rw [unitL_esc, List.flatten_cons, unitL_flat cs]; rfl
    · rw [unitL_plain hc, List.flatten_cons, unitL_flat (d :: cs)]; rfl
/-- a row of units, each whole but perhaps the last -/
def Units : List (List Nat) → Prop
  | [] => True
  | u :: us => ((∃ c, c ≠ 92 ∧ u = [c]) ∨ (∃ c, u = [92, c]) ∨ (u = [92] ∧ us = [])) ∧ Units us
theorem unitL_units : ∀ cs : List Nat, Units (unitL cs)
  | [] => trivial
  | [c] => by
    by_cases hc : c = 92
    · subst hc; exact ⟨.inr (.inr ⟨rfl, rfl⟩), trivial⟩
    · rw [unitL_plain hc]; exact ⟨.inl ⟨c, hc, rfl⟩, trivial⟩
  | c :: d :: cs => by
    by_cases hc : c = 92
    · subst hc; rw [unitL_esc]; exact ⟨.inr (.inl ⟨d, rfl⟩), unitL_units cs⟩
    · rw [unitL_plain hc]; exact ⟨.inl ⟨c, hc, rfl⟩, unitL_units (d :: cs)⟩
theorem units_chop : ∀ us : List (List Nat), Units us → unitL us.flatten = us
  | [], _ => rfl
  | u :: us, ⟨h, r⟩ => by
    have ih := units_chop us r
    rcases h with ⟨c, hc, rfl⟩ | ⟨c, rfl⟩ | ⟨rfl, rfl⟩
    · show unitL (c :: us.flatten) = _
      rw [unitL_plain hc, ih]
    · show unitL (92 :: c :: us.flatten) = _
      rw [unitL_esc, ih]
    · rfl
/-! ### what is seen -/
def outL : Nat → Bool → List (List Nat) → List Nat
  | _, _, [] => []
  | n, ins, u :: us => if u = [34] ∧ 0 < n then outL (n - 1) (!ins) us else if (u = [40] ∨ u = [41]) ∧ ins = false then u ++ outL n ins us else outL n ins us
/-- the units outside of quotation marks; a mark without a partner stays -/
def keepL : List (List Nat) → Option (List (List Nat)) → List (List Nat)
  | [], none => []
  | [], some q => q
  | u :: us, none => if u = [34] then keepL us (some [u]) else u :: keepL us none
  | u :: us, some q => if u = [34] then keepL us none else keepL us (some (q ++ [u]))
def brL : List (List Nat) → List Nat
  | [] => []
  | u :: us => if u = [40] ∨ u = [41] then u ++ brL us else brL us
theorem brL_pos {u : List Nat} (h : u = [40] ∨ u = [41]) (us : List (List Nat)) : brL (u :: us) = u ++ brL us := if_pos h
theorem brL_neg {u : List Nat} (h : ¬(u = [40] ∨ u = [41])) (us : List (List Nat)) : brL (u :: us) = brL us := if_neg h
theorem br_ne {u : List Nat} (h : u = [40] ∨ u = [41]) : u ≠ [34] := by rcases h with rfl | rfl <;> decide
theorem outL_q {n : Nat} (h : 0 < n) (ins : Bool) (us : List (List Nat)) : outL n ins ([34] :: us) = outL (n - 1) (!ins) us := if_pos ⟨rfl, h⟩
theorem outL_b {n : Nat} {u : List Nat} (h : u = [40] ∨ u = [41]) (us : List (List Nat)) : outL n false (u :: us) = u ++ outL n false us := (if_neg fun q => br_ne h q.1).trans (if_pos ⟨h, rfl⟩)
theorem outL_t {n : Nat} {u : List Nat} (h : u ≠ [34]) (us : List (List Nat)) : outL n true (u :: us) = outL n true us := (if_neg fun q => h q.1).trans (if_neg fun q => by cases q.2)
theorem outL_o {n : Nat} {u : List Nat} (h : ¬(u = [34] ∧ 0 < n)) (hb : ¬(u = [40] ∨ u = [41])) (ins : Bool) (us : List (List Nat)) : outL n ins (u :: us) = outL n ins us := (if_neg h).trans (if_neg fun q => hb q.1)
theorem brL_app (us vs : List (List Nat)) : brL (us ++ vs) = brL us ++ brL vs := by
  induction us with
  | nil => rfl
  | cons u us ih =>
    rw [List.cons_append]
    by_cases h : u = [40] ∨ u = [41]
    · rw [brL_pos h, brL_pos h, ih, List.append_assoc]
    · rw [brL_neg h, brL_neg h, ih]
theorem outL_zero (us : List (List Nat)) : outL 0 false us = brL us := by
  induction us with
  | nil => rfl
  | cons u us ih =>
    by_cases h : u = [40] ∨ u = [41]
    · rw [brL_pos h, outL_b h, ih]
    · rw [brL_neg h, outL_o (fun q => absurd q.2 (Nat.lt_irrefl 0)) h, ih]
theorem keep_out : ∀ us : List (List Nat), brL (keepL us none) = outL (us.count [34] / 2 * 2) false us ∧
    ∀ q, brL (keepL us (some q)) = if us.count [34] = 0 then brL q ++ brL us else outL ((us.count [34] - 1) / 2 * 2 + 1) true us
  | [] => ⟨rfl, fun q => by simp [keepL, brL]⟩
  | u :: us => by
    have ih := keep_out us
    by_cases h : u = [34]
    · subst h
      have hc : (([34] : List Nat) :: us).count [34] = us.count [34] + 1 := by simp
      have hk : keepL (([34] : List Nat) :: us) none = keepL us (some [[34]]) := if_pos rfl
      have hk2 : ∀ q, keepL (([34] : List Nat) :: us) (some q) = keepL us none := fun q => if_pos rfl
      refine ⟨?_, fun q => ?_⟩
      · rw [hk, ih.2, hc]
        by_cases h0 : us.count [34] = 0
        · rw [if_pos h0, h0]
          show brL [[34]] ++ brL us = outL 0 false ([34] :: us)
          rw [outL_zero]; rfl
        · rw [if_neg h0]
          have e : (us.count [34] + 1) / 2 * 2 = (us.count [34] - 1) / 2 * 2 + 1 + 1 := by omega
          rw [e, outL_q (Nat.succ_pos _)]; rfl
      · rw [hk2, ih.1, hc, if_neg (Nat.succ_ne_zero _), outL_q (Nat.succ_pos _)]; rfl
    · have hc : (u :: us).count [34] = us.count [34] := by rw [List.count_cons]; simp [h]
      have hk : keepL (u :: us) none = u :: keepL us none := if_neg h
      have hk2 : ∀ q, keepL (u :: us) (some q) = keepL us (some (q ++ [u])) := fun q => if_neg h
      refine ⟨?_, fun q => ?_⟩
      · rw [hk, hc]
        by_cases hb : u = [40] ∨ u = [41]
        · rw [brL_pos hb, outL_b hb, ih.1]
        · rw [brL_neg hb, outL_o (fun q => h q.1) hb, ih.1]
      · rw [hk2, ih.2, hc]
        by_cases h0 : us.count [34] = 0
        · rw [if_pos h0, if_pos h0, brL_app, List.append_assoc]
          congr 1
          by_cases hb : u = [40] ∨ u = [41]
          · rw [brL_pos hb, brL_pos hb]; simp [brL]
          · rw [brL_neg hb, brL_neg hb]; rfl
        · rw [if_neg h0, if_neg h0, outL_t h]
theorem check_bal (us : List (Int × Str)) (o : Int) : checkLoop us o = balF (brL (uc us)) o := by
  induction us generalizing o with
  | nil => rfl
  | cons u us ih =>
    obtain ⟨p, ch⟩ := u
    have e0 : checkLoop ((p, ch) :: us) o = if (ch.cps.toList == [40]) = true then checkLoop us (o + 1) else if (ch.cps.toList == [41]) = true then (if o - 1 < 0 then false else checkLoop us (o - 1)) else checkLoop us o := rfl
    have e1 : uc ((p, ch) :: us) = ch.cps.toList :: uc us := rfl
    rw [e0, e1]
    by_cases h1 : ch.cps.toList = [40]
    · rw [if_pos (by simp [h1]), brL_pos (.inl h1), h1, ih]; rfl
    · by_cases h2 : ch.cps.toList = [41]
      · rw [if_neg (by simpa using h1), if_pos (by simp [h2]), brL_pos (.inr h2), h2]
        have e2 : balF ([41] ++ brL (uc us)) o = if o - 1 < 0 then false else balF (brL (uc us)) (o - 1) := rfl
        rw [e2, ih]
      · rw [if_neg (by simpa using h1), if_neg (by simpa using h2), brL_neg (fun q => q.elim h1 h2), ih]
theorem outL_sub (us : List (List Nat)) : ∀ n ins, (outL n ins us).length ≤ (brL us).length ∧ ∀ c ∈ outL n ins us, c = 40 ∨ c = 41 := by
  induction us with
  | nil => intro n ins; exact ⟨Nat.le_refl _, fun c hc => by cases hc⟩
  | cons u us ih =>
    intro n ins
    have hb : (brL us).length ≤ (brL (u :: us)).length := by
      by_cases h : u = [40] ∨ u = [41]
      · rw [brL_pos h, List.length_append]; omega
      · rw [brL_neg h]; exact Nat.le_refl _
    by_cases h : u = [34] ∧ 0 < n
    · obtain ⟨rfl, hn⟩ := h
      rw [outL_q hn]; exact ⟨Nat.le_trans (ih _ _).1 hb, (ih _ _).2⟩
    · by_cases h2 : u = [40] ∨ u = [41]
      · cases ins with
        | true => rw [outL_t (br_ne h2)]; exact ⟨Nat.le_trans (ih _ _).1 hb, (ih _ _).2⟩
        | false =>
          rw [outL_b h2, brL_pos h2]
          refine ⟨by rw [List.length_append, List.length_append]; have := (ih n false).1; omega, fun c hc => ?_⟩
          rcases List.mem_append.mp hc with hc | hc
          · rcases h2 with rfl | rfl
            · exact .inl (List.mem_singleton.mp hc)
            · exact .inr (List.mem_singleton.mp hc)
          · exact (ih n false).2 c hc
      · rw [outL_o h h2]; exact ⟨Nat.le_trans (ih _ _).1 hb, (ih _ _).2⟩
/-! how many brackets a text can show -/
theorem sb1 {c : Nat} (h : c = 40 ∨ c = 41) : ([c] : List Nat) = [40] ∨ ([c] : List Nat) = [41] := h.imp (fun e => by rw [e]) (fun e => by rw [e])
theorem sb2 {c : Nat} (h : ([c] : List Nat) = [40] ∨ ([c] : List Nat) = [41]) : c = 40 ∨ c = 41 := h.imp (fun e => by simpa using e) (fun e => by simpa using e)
def nB : Bool → List Nat → Nat
  | _, [] => 0
  | true, _ :: cs => nB false cs
  | false, c :: cs => if c = 92 then nB true cs else (if c = 40 ∨ c = 41 then 1 else 0) + nB false cs
theorem brL_nB : ∀ cs : List Nat, (brL (unitL cs)).length = nB false cs
  | [] => rfl
  | [c] => by
    by_cases hc : c = 92
    · subst hc; rfl
    · rw [unitL_plain hc, unitL_nil]
      show _ = if c = 92 then _ else _
      rw [if_neg hc]
      by_cases hb : c = 40 ∨ c = 41
      · rw [brL_pos (sb1 hb), if_pos hb]; rfl
      · rw [brL_neg (fun q => hb (sb2 q)), if_neg hb]; rfl
  | c :: d :: cs => by
    by_cases hc : c = 92
    · subst hc
      rw [unitL_esc, brL_neg (by rintro (q | q) <;> simp at q), brL_nB cs]; rfl
    · rw [unitL_plain hc]
      show _ = if c = 92 then _ else _
      rw [if_neg hc]
      by_cases hb : c = 40 ∨ c = 41
      · rw [brL_pos (sb1 hb), if_pos hb, List.length_append, brL_nB (d :: cs)]; rfl
      · rw [brL_neg (fun q => hb (sb2 q)), if_neg hb, brL_nB (d :: cs)]; simp
def mB (cs : List Nat) : Nat := max (nB false cs) (nB true cs)
theorem nB_le (e : Bool) (cs : List Nat) : nB e cs ≤ mB cs := by
  unfold mB
  cases e
  · exact Nat.le_max_left _ _
  · exact Nat.le_max_right _ _
theorem nB_app : ∀ (e : Bool) (xs ys : List Nat), nB e (xs ++ ys) ≤ nB e xs + mB ys
  | e, [], ys => by rw [List.nil_append]; have := nB_le e ys; omega
  | true, x :: xs, ys => nB_app false xs ys
  | false, x :: xs, ys => by
    show (if x = 92 then nB true (xs ++ ys) else _ + nB false (xs ++ ys)) ≤ (if x = 92 then nB true xs else _ + nB false xs) + mB ys
    split
    · exact nB_app true xs ys
    · have := nB_app false xs ys; omega
theorem mB_app (xs ys : List Nat) : mB (xs ++ ys) ≤ mB xs + mB ys := by
  have h1 := nB_app false xs ys
  have h2 := nB_app true xs ys
  have h3 := nB_le false xs
  have h4 := nB_le true xs
  show max (nB false (xs ++ ys)) (nB true (xs ++ ys)) ≤ _
  omega
theorem nB_take : ∀ (n : Nat) (e : Bool) (xs : List Nat), nB e (xs.take n) ≤ nB e xs
  | 0, e, xs => by rw [List.take_zero]; exact Nat.zero_le _
  | n + 1, e, [] => Nat.le_refl _
  | n + 1, true, x :: xs => nB_take n false xs
  | n + 1, false, x :: xs => by
    rw [List.take_succ_cons]
    show (if x = 92 then nB true (xs.take n) else _ + nB false (xs.take n)) ≤ (if x = 92 then nB true xs else _ + nB false xs)
    split
    · exact nB_take n true xs
    · have := nB_take n false xs; omega

/-! ### the stripped text -/
def flatS (ys : List Str) : List Nat := (ys.map fun y => y.cps.toList).flatten
theorem join_flat : ∀ ys : List Str, (Str.join (Str.ofString "") ys).cps.toList = flatS ys
  | [] => rfl
  | [y] => by simp [flatS, Str.join]
  | y :: z :: ys => by
    show (y ++ Str.ofString "" ++ Str.join (Str.ofString "") (z :: ys)).cps.toList = _
    simp only [Str.cps_append, Array.toList_append]
    rw [join_flat (z :: ys)]
    have : (Str.ofString "").cps.toList = [] := rfl
    rw [this]
    simp [flatS]
theorem txtjoin_flat (ys : List Str) : (Txt.join (Str.ofString "") ys).cps.toList = flatS ys := by
  unfold Txt.join
  rw [StrLaws.glued_eq_join, join_flat]
def segL (l : List Nat) (a b : Nat) : List Nat := (l.drop a).take (b - a)
theorem seg_add (l : List Nat) {a b : Nat} (h : a ≤ b) (k : Nat) : segL l a (b + k) = segL l a b ++ (l.drop b).take k := by
  unfold segL
  rw [show b + k - a = (b - a) + k from by omega, List.take_add, List.drop_drop, show a + (b - a) = b from by omega]
theorem seg_cat (l : List Nat) {a b c : Nat} (h1 : a ≤ b) (h2 : b ≤ c) : segL l a c = segL l a b ++ segL l b c := by
  have := seg_add l h1 (c - b)
  rw [show b + (c - b) = c from by omega] at this
  exact this
theorem seg_self (l : List Nat) (a : Nat) : segL l a a = [] := by simp [segL]
theorem cut_seg (x : Str) (a b : Nat) : (cut x a b).cps.toList = segL x.cps.toList a b := rfl
/-- what the loop of the strip leaves, once its end is joined -/
def endF (x : Str) (z : Option Int × Int × List Str) : List Nat := flatS (if z.2.1 < x.length then z.2.2 ++ [cut x z.2.1.toNat x.length] else z.2.2)
theorem flatS_app (ys zs : List Str) : flatS (ys ++ zs) = flatS ys ++ flatS zs := by simp [flatS]
theorem flatS_one (y : Str) : flatS [y] = y.cps.toList := by simp [flatS]
theorem strip_key (x : Str) : ∀ (b : Nat) (cs : List Nat), (fun (b : Nat) (cs : List Nat) (us : List (Int × Str)) => x.cps.toList.drop b = cs → b ≤ x.cps.toList.length →
    (∀ (st : Nat) r, st ≤ b → endF x (stripLoop x us st none r) = flatS r ++ segL x.cps.toList st b ++ (keepL (uc us) none).flatten) ∧
    (∀ (st o : Nat) q r, st ≤ o → o ≤ b → q.flatten = segL x.cps.toList o b → endF x (stripLoop x us st (some (o : Int)) r) = flatS r ++ segL x.cps.toList st o ++ (keepL (uc us) (some q)).flatten)) b cs (chopF false b cs) := by
  have hxl : x.length = x.cps.toList.length := by simp [Str.length]
  have endN : ∀ (op : Option Int) (st : Nat) r, st ≤ x.cps.toList.length → endF x (op, (st : Int), r) = flatS r ++ segL x.cps.toList st x.cps.toList.length := by
    intro op st r hst
    unfold endF
    by_cases h : st < x.cps.toList.length
    · rw [if_pos (by show (st : Int) < _; rw [hxl]; omega)]
      show flatS (r ++ [cut x (st : Int).toNat x.length]) = _
      rw [flatS_app, flatS_one, cut_seg, Int.toNat_natCast, hxl]
    · rw [if_neg (by show ¬ (st : Int) < _; rw [hxl]; omega), show x.cps.toList.length = st from by omega, seg_self, List.append_nil]
  have hnil : ∀ b : Nat, x.cps.toList.drop b = [] → b ≤ x.cps.toList.length → b = x.cps.toList.length := fun b h1 h2 => by
    have := List.drop_eq_nil_iff.mp h1; omega
  refine chop_cases (P := fun (b : Nat) (cs : List Nat) (us : List (Int × Str)) => x.cps.toList.drop b = cs → b ≤ x.cps.toList.length →
    (∀ (st : Nat) r, st ≤ b → endF x (stripLoop x us st none r) = flatS r ++ segL x.cps.toList st b ++ (keepL (uc us) none).flatten) ∧
    (∀ (st o : Nat) q r, st ≤ o → o ≤ b → q.flatten = segL x.cps.toList o b → endF x (stripLoop x us st (some (o : Int)) r) = flatS r ++ segL x.cps.toList st o ++ (keepL (uc us) (some q)).flatten)) ?_ ?_ ?_ ?_
  · intro b hd hb
    have hbl := hnil b hd hb
    subst hbl
    refine ⟨fun st r hst => ?_, fun st o q r h1 h2 hq => ?_⟩
    · show endF x (none, (st : Int), r) = flatS r ++ segL x.cps.toList st x.cps.toList.length ++ []
      rw [List.append_nil]; exact endN _ _ _ hst
    · show endF x (some (o : Int), (st : Int), r) = flatS r ++ segL x.cps.toList st o ++ q.flatten
      rw [endN _ _ _ (by omega), hq, List.append_assoc, ← seg_cat _ h1 h2]
  · intro b hd hb
    have hlen : x.cps.toList.length = b + 1 := by have := congrArg List.length hd; simp at this; simp; omega
    have hs : segL x.cps.toList b (b + 1) = [92] := by unfold segL; rw [hd]; simp
    refine ⟨fun st r hst => ?_, fun st o q r h1 h2 hq => ?_⟩
    · show endF x (none, (st : Int), r) = flatS r ++ segL x.cps.toList st b ++ [92]
      rw [endN _ _ _ (by omega), hlen, List.append_assoc, seg_cat _ hst (Nat.le_succ b), hs]
    · show endF x (some (o : Int), (st : Int), r) = flatS r ++ segL x.cps.toList st o ++ (q ++ [[92]]).flatten
      rw [endN _ _ _ (by omega), hlen, List.flatten_append, hq, List.append_assoc, seg_cat _ h1 (Nat.le_succ_of_le h2), seg_cat _ h2 (Nat.le_succ b), hs]; simp
  · intro b c cs ih hd hb
    have hd2 : x.cps.toList.drop (b + 2) = cs := by rw [← List.drop_drop, hd]; rfl
    have hlen : b + 2 ≤ x.cps.toList.length := by have := congrArg List.length hd; simp at this; simp; omega
    have ih := ih hd2 hlen
    have hs : segL x.cps.toList b (b + 2) = [92, c] := by unfold segL; rw [hd, show b + 2 - b = 2 from by omega]; rfl
    have hne : ¬ ([92, c] : List Nat) = [34] := by simp
    refine ⟨fun st r hst => ?_, fun st o q r h1 h2 hq => ?_⟩
    · show endF x (stripLoop x (chopF false (b + 2) cs) st none r) = flatS r ++ segL x.cps.toList st b ++ (if ([92, c] : List Nat) = [34] then _ else [92, c] :: keepL (uc (chopF false (b + 2) cs)) none).flatten
      rw [if_neg hne, ih.1 st r (by omega), seg_cat _ hst (show b ≤ b + 2 by omega), hs, List.flatten_cons]; simp
    · show endF x (stripLoop x (chopF false (b + 2) cs) st (some (o : Int)) r) = flatS r ++ segL x.cps.toList st o ++ (if ([92, c] : List Nat) = [34] then _ else keepL (uc (chopF false (b + 2) cs)) (some (q ++ [[92, c]]))).flatten
      rw [if_neg hne, ih.2 st o (q ++ [[92, c]]) r h1 (by omega) (by rw [List.flatten_append, hq, seg_cat _ h2 (show b ≤ b + 2 by omega), hs]; simp)]
  · intro b c cs hc92 ih hd hb
    have hd2 : x.cps.toList.drop (b + 1) = cs := by rw [← List.drop_drop, hd]; rfl
    have hlen : b + 1 ≤ x.cps.toList.length := by have := congrArg List.length hd; simp at this; simp; omega
    have ih := ih hd2 hlen
    have hs : segL x.cps.toList b (b + 1) = [c] := by unfold segL; rw [hd, show b + 1 - b = 1 from by omega]; rfl
    by_cases hq34 : c = 34
    · subst hq34
      refine ⟨fun st r hst => ?_, fun st o q r h1 h2 hq => ?_⟩
      · show endF x (stripLoop x (chopF false (b + 1) cs) st (some (b : Int)) r) = flatS r ++ segL x.cps.toList st b ++ (keepL (uc (chopF false (b + 1) cs)) (some [[34]])).flatten
        rw [ih.2 st b [[34]] r hst (Nat.le_succ b) (by rw [hs]; rfl)]
      · show endF x (stripLoop x (chopF false (b + 1) cs) ((b : Int) + 1) none (if ((st : Int) != (o : Int)) = true then r ++ [cut x (st : Int).toNat (o : Int).toNat] else r)) = flatS r ++ segL x.cps.toList st o ++ (keepL (uc (chopF false (b + 1) cs)) none).flatten
        have hf : flatS (if ((st : Int) != (o : Int)) = true then r ++ [cut x (st : Int).toNat (o : Int).toNat] else r) = flatS r ++ segL x.cps.toList st o := by
          by_cases h : st = o
          · subst h; rw [if_neg (by simp), seg_self, List.append_nil]
          · rw [if_pos (by simp; omega), flatS_app, flatS_one, cut_seg, Int.toNat_natCast, Int.toNat_natCast]
        have := ih.1 (b + 1) (if ((st : Int) != (o : Int)) = true then r ++ [cut x (st : Int).toNat (o : Int).toNat] else r) (Nat.le_refl _)
        rw [hf, seg_self, List.append_nil] at this
        exact this
    · have hne : ¬ ([c] : List Nat) = [34] := by simpa using hq34
      have hne' : ¬ (([c] : List Nat) == [34]) = true := by simpa using hq34
      refine ⟨fun st r hst => ?_, fun st o q r h1 h2 hq => ?_⟩
      · show endF x (if (([c] : List Nat) == [34]) = true then _ else stripLoop x (chopF false (b + 1) cs) st none r) = flatS r ++ segL x.cps.toList st b ++ (if ([c] : List Nat) = [34] then _ else [c] :: keepL (uc (chopF false (b + 1) cs)) none).flatten
        rw [if_neg hne', if_neg hne, ih.1 st r (by omega), seg_cat _ hst (Nat.le_succ b), hs, List.flatten_cons]; simp
      · show endF x (if (([c] : List Nat) == [34]) = true then _ else stripLoop x (chopF false (b + 1) cs) st (some (o : Int)) r) = flatS r ++ segL x.cps.toList st o ++ (if ([c] : List Nat) = [34] then _ else keepL (uc (chopF false (b + 1) cs)) (some (q ++ [[c]]))).flatten
        rw [if_neg hne', if_neg hne, ih.2 st o (q ++ [[c]]) r h1 (by omega) (by rw [List.flatten_append, hq, seg_cat _ h2 (Nat.le_succ b), hs]; simp)]

theorem quote_str : Str.ofString "\"" = ⟨#[34]⟩ := rfl
theorem keepL_none {us : List (List Nat)} (h : ([34] : List Nat) ∉ us) : keepL us none = us := by
  induction us with
  | nil => rfl
  | cons u us ih =>
    show (if u = [34] then _ else _) = _
    rw [if_neg (fun q => h (by rw [q]; exact .head _)), ih fun q => h (.tail _ q)]
theorem strip_flat (x : Str) : (stripF x).cps.toList = (keepL (unitL x.cps.toList) none).flatten := by
  unfold stripF
  by_cases hc : Txt.contains x (Str.ofString "\"") = true
  · rw [if_pos hc]
    have key := (strip_key x 0 x.cps.toList rfl (Nat.zero_le _)).1 0 [] (Nat.le_refl _)
    rw [seg_self] at key
    show (Txt.join (Str.ofString "") _).cps.toList = _
    rw [txtjoin_flat]
    exact key
  · rw [if_neg hc]
    have hn : (34 : Nat) ∉ x.cps.toList := by
      intro hm
      apply hc
      have := StrLaws.found_one x 34
      rw [decide_eq_true hm] at this
      exact this
    have hq : ([34] : List Nat) ∉ unitL x.cps.toList := fun hm => hn (by
      rw [← unitL_flat x.cps.toList]
      exact List.mem_flatten.mpr ⟨_, hm, .head _⟩)
    rw [keepL_none hq, unitL_flat]
theorem cnt_count (c : Nat) (l : List Nat) : cnt c l = (l.count c : Nat) := by
  induction l with
  | nil => rfl
  | cons n l ih =>
    rw [cnt_cons, ih, List.count_cons]
    by_cases h : n = c
    · simp [h]; omega
    · simp [h]
theorem seen_loop (us : List Str) : ∀ (n : Nat) (a : Str), (seenLoop us (n : Int) a).cps.toList.filter (· != 34) = a.cps.toList.filter (· != 34) ++ outL n (decide (a.cps.toList.count 34 % 2 = 1)) (us.map fun u => u.cps.toList) := by
  induction us with
  | nil => intro n a; simp [seenLoop, outL]
  | cons u us ih =>
    intro n a
    have e0 : seenLoop (u :: us) (n : Int) a = if (u.cps.toList == [34]) = true ∧ (n : Int) > 0 then seenLoop us ((n : Int) - 1) (a ++ u)
      else if ([Str.ofString "(", Str.ofString ")"].any (· == u)) = true ∧ ((Txt.count a (Str.ofString "\"")).fmod 2 == 0) = true then seenLoop us n (a ++ u) else seenLoop us n a := rfl
    have hcat : ∀ v : Str, (a ++ v).cps.toList = a.cps.toList ++ v.cps.toList := fun v => by simp [Str.cps_append]
    have hany : ([Str.ofString "(", Str.ofString ")"].any (· == u)) = true ↔ u.cps.toList = [40] ∨ u.cps.toList = [41] := by
      simp only [List.any_cons, List.any_nil, Bool.or_false, Bool.or_eq_true, beq_iff_eq]
      constructor
      · rintro (h | h)
        · left; rw [← h]; rfl
        · right; rw [← h]; rfl
      · rintro (h | h)
        · left; exact Str.ext' (Array.toList_inj.mp h.symm)
        · right; exact Str.ext' (Array.toList_inj.mp h.symm)
    have hpar : ((Txt.count a (Str.ofString "\"")).fmod 2 == 0) = true ↔ a.cps.toList.count 34 % 2 = 0 := by
      rw [quote_str, count_cnt, cnt_count, beq_iff_eq, Int.fmod_eq_emod_of_nonneg _ (by decide)]
      omega
    rw [e0, List.map_cons]
    by_cases hq : u.cps.toList = [34]
    · by_cases hn : 0 < n
      · rw [if_pos ⟨by simp [hq], by omega⟩, show (n : Int) - 1 = ((n - 1 : Nat) : Int) from by omega, ih, hq, outL_q hn, hcat, hq, List.filter_append, List.count_append]
        have : decide ((a.cps.toList.count 34 + ([34] : List Nat).count 34) % 2 = 1) = !decide (a.cps.toList.count 34 % 2 = 1) := by
          rw [show ([34] : List Nat).count 34 = 1 from rfl]
          by_cases h : a.cps.toList.count 34 % 2 = 1
          · rw [decide_eq_true h, decide_eq_false (by omega)]; rfl
          · rw [decide_eq_false h, decide_eq_true (by omega)]; rfl
        rw [this]
        simp
      · rw [if_neg (fun q => hn (by omega)), if_neg (fun q => by rcases hany.mp q.1 with h | h <;> rw [hq] at h <;> simp at h), ih, outL_o (fun q => hn q.2) (by rw [hq]; simp)]
    · rw [if_neg (fun q => hq (by simpa using q.1))]
      by_cases hb : u.cps.toList = [40] ∨ u.cps.toList = [41]
      · by_cases hp : a.cps.toList.count 34 % 2 = 0
        · rw [if_pos ⟨hany.mpr hb, hpar.mpr hp⟩, ih, hcat, List.filter_append, List.count_append]
          have h0 : u.cps.toList.count 34 = 0 := by rcases hb with h | h <;> rw [h] <;> rfl
          have hf : u.cps.toList.filter (· != 34) = u.cps.toList := by rcases hb with h | h <;> rw [h] <;> rfl
          rw [h0, hf, Nat.add_zero, decide_eq_false (by omega), outL_b hb, List.append_assoc]
        · rw [if_neg (fun q => hp (hpar.mp q.2)), ih, decide_eq_true (by omega), outL_t hq]
      · rw [if_neg (fun q => hb (hany.mp q.1)), ih, outL_o (fun q => hq q.1) hb]
theorem units_uc (x : Str) : (unitsOf x).map (fun u => u.cps.toList) = unitL x.cps.toList := by
  unfold unitsOf unitL uc
  rw [List.map_map]; rfl
theorem seen_out (x : Str) : (seenF x).cps.toList = outL ((unitL x.cps.toList).count [34] / 2 * 2) false (unitL x.cps.toList) := by
  unfold seenF
  rw [quote_str, show Str.ofString "" = ⟨#[]⟩ from rfl, replace_strikes]
  have hm : marksOf (unitsOf x) = (((unitL x.cps.toList).count [34] / 2 * 2 : Nat) : Int) := by
    unfold marksOf
    have : (unitsOf x).countP (· == Str.ofString "\"") = (unitL x.cps.toList).count [34] := by
      rw [← units_uc, List.count_eq_countP, List.countP_map]
      apply List.countP_congr
      intro u _
      simp only [Function.comp, beq_iff_eq]
      constructor
      · rintro rfl; rfl
      · intro h; exact Str.ext' (Array.toList_inj.mp h)
    rw [this, Int.fdiv_eq_ediv_of_nonneg _ (by decide)]
    omega
  rw [hm, seen_loop, units_uc]
  rfl
theorem keepL_len (us : List (List Nat)) : (keepL us none).flatten.length ≤ us.flatten.length ∧ ∀ q, (keepL us (some q)).flatten.length ≤ q.flatten.length + us.flatten.length := by
  induction us with
  | nil => exact ⟨Nat.le_refl _, fun q => Nat.le_refl _⟩
  | cons u us ih =>
    refine ⟨?_, fun q => ?_⟩
    · show (if u = [34] then keepL us (some [u]) else u :: keepL us none).flatten.length ≤ _
      split
      · have := ih.2 [u]; simp only [List.flatten_cons, List.flatten_nil, List.append_nil, List.length_append] at *; omega
      · have := ih.1; simp only [List.flatten_cons, List.length_append] at *; omega
    · show (if u = [34] then keepL us none else keepL us (some (q ++ [u]))).flatten.length ≤ _
      split
      · have := ih.1; simp only [List.flatten_cons, List.length_append] at *; omega
      · have := ih.2 (q ++ [u]); simp only [List.flatten_append, List.flatten_cons, List.flatten_nil, List.append_nil, List.length_append] at *; omega
theorem keepL_mem (us : List (List Nat)) : (∀ c ∈ (keepL us none).flatten, c ∈ us.flatten) ∧ ∀ q, ∀ c ∈ (keepL us (some q)).flatten, c ∈ q.flatten ∨ c ∈ us.flatten := by
  induction us with
  | nil => exact ⟨fun c h => h, fun q c h => .inl h⟩
  | cons u us ih =>
    refine ⟨fun c => ?_, fun q c => ?_⟩
    · show c ∈ (if u = [34] then keepL us (some [u]) else u :: keepL us none).flatten → _
      split
      · intro h
        have := ih.2 [u] c h
        simp only [List.flatten_cons, List.flatten_nil, List.append_nil, List.mem_append] at *
        exact this
      · intro h
        simp only [List.flatten_cons, List.mem_append] at *
        exact h.imp id (ih.1 c)
    · show c ∈ (if u = [34] then keepL us none else keepL us (some (q ++ [u]))).flatten → _
      split
      · intro h
        have := ih.1 c h
        simp only [List.flatten_cons, List.mem_append] at *
        exact .inr (.inr this)
      · intro h
        have := ih.2 (q ++ [u]) c h
        simp only [List.flatten_append, List.flatten_cons, List.flatten_nil, List.append_nil, List.mem_append] at *
        rcases this with (h | h) | h
        · exact .inl h
        · exact .inr (.inl h)
        · exact .inr (.inr h)
def Whole (u : List Nat) : Prop := (∃ c, c ≠ 92 ∧ u = [c]) ∨ (∃ c, u = [92, c])
theorem units_app {q us : List (List Nat)} (hq : ∀ u ∈ q, Whole u) (h : Units us) : Units (q ++ us) := by
  induction q with
  | nil => exact h
  | cons u q ih =>
    refine ⟨?_, ih fun v hv => hq v (.tail _ hv)⟩
    rcases hq u (.head _) with w | w
    · exact .inl w
    · exact .inr (.inl w)
theorem keepL_units (us : List (List Nat)) (h : Units us) : Units (keepL us none) ∧ ∀ q, (∀ u ∈ q, Whole u) → Units (keepL us (some q)) := by
  induction us with
  | nil => exact ⟨trivial, fun q hq => by have := units_app hq (us := []) trivial; rwa [List.append_nil] at this⟩
  | cons u us ih =>
    obtain ⟨hu, hr⟩ := h
    have ih := ih hr
    refine ⟨?_, fun q hq => ?_⟩
    · show Units (if u = [34] then keepL us (some [u]) else u :: keepL us none)
      split
      · rename_i e
        exact ih.2 [u] fun v hv => by cases List.mem_singleton.mp hv; exact .inl ⟨34, by decide, e⟩
      · refine ⟨?_, ih.1⟩
        rcases hu with w | w | ⟨w, rfl⟩
        · exact .inl w
        · exact .inr (.inl w)
        · exact .inr (.inr ⟨w, rfl⟩)
    · show Units (if u = [34] then keepL us none else keepL us (some (q ++ [u])))
      split
      · exact ih.1
      · rcases hu with w | w | ⟨w, rfl⟩
        · exact ih.2 _ fun v hv => by
            rcases List.mem_append.mp hv with hv | hv
            · exact hq v hv
            · cases List.mem_singleton.mp hv; exact .inl w
        · exact ih.2 _ fun v hv => by
            rcases List.mem_append.mp hv with hv | hv
            · exact hq v hv
            · cases List.mem_singleton.mp hv; exact .inr w
        · subst w
          exact units_app hq ⟨.inr (.inr ⟨rfl, rfl⟩), trivial⟩
/-- the call's answer is told by what is seen -/
theorem check_seen (x : Str) : checkLoop (chopF false 0 (stripF x).cps.toList) 0 = balF (seenF x).cps.toList 0 := by
  rw [check_bal, seen_out, ← (keep_out _).1]
  show balF (brL (unitL (stripF x).cps.toList)) 0 = _
  rw [strip_flat, units_chop _ (keepL_units _ (unitL_units _)).1]

/-! ### the sorter, over all short words -/
set_option maxHeartbeats 0
theorem ok0 : (wordsF 0).all okF = true := by decide +kernel
theorem ok1 : (wordsF 1).all okF = true := by decide +kernel
theorem ok2 : (wordsF 2).all okF = true := by decide +kernel
theorem ok3 : (wordsF 3).all okF = true := by decide +kernel
theorem ok4 : (wordsF 4).all okF = true := by decide +kernel
theorem ok5 : (wordsF 5).all okF = true := by decide +kernel
theorem ok6 : (wordsF 6).all okF = true := by decide +kernel
theorem ok70 : (wordsF 6).all (fun w => okF (40 :: w)) = true := by decide +kernel
theorem ok71 : (wordsF 6).all (fun w => okF (41 :: w)) = true := by decide +kernel
theorem ok800 : (wordsF 6).all (fun w => okF (40 :: 40 :: w)) = true := by decide +kernel
theorem ok801 : (wordsF 6).all (fun w => okF (40 :: 41 :: w)) = true := by decide +kernel
theorem ok810 : (wordsF 6).all (fun w => okF (41 :: 40 :: w)) = true := by decide +kernel
theorem ok811 : (wordsF 6).all (fun w => okF (41 :: 41 :: w)) = true := by decide +kernel
theorem ok9000 : (wordsF 6).all (fun w => okF (40 :: 40 :: 40 :: w)) = true := by decide +kernel
theorem ok9001 : (wordsF 6).all (fun w => okF (40 :: 40 :: 41 :: w)) = true := by decide +kernel
theorem ok9010 : (wordsF 6).all (fun w => okF (40 :: 41 :: 40 :: w)) = true := by decide +kernel
theorem ok9011 : (wordsF 6).all (fun w => okF (40 :: 41 :: 41 :: w)) = true := by decide +kernel
theorem ok9100 : (wordsF 6).all (fun w => okF (41 :: 40 :: 40 :: w)) = true := by decide +kernel
theorem ok9101 : (wordsF 6).all (fun w => okF (41 :: 40 :: 41 :: w)) = true := by decide +kernel
theorem ok9110 : (wordsF 6).all (fun w => okF (41 :: 41 :: 40 :: w)) = true := by decide +kernel
theorem ok9111 : (wordsF 6).all (fun w => okF (41 :: 41 :: 41 :: w)) = true := by decide +kernel
theorem ok_all (cs : List Nat) (h : ∀ c ∈ cs, c = 40 ∨ c = 41) (hl : cs.length ≤ 9) : okF cs = true := by
  have use : ∀ (n : Nat) (f : List Nat → Bool), (wordsF n).all f = true → ∀ w : List Nat, (∀ c ∈ w, c = 40 ∨ c = 41) → w.length = n → f w = true := fun n f hf w hw hn => by
    subst hn
    exact List.all_eq_true.mp hf _ (mem_words w hw)
  by_cases h6 : cs.length ≤ 6
  · match hn : cs.length, h6 with
    | 0, _ => exact use 0 _ ok0 cs h hn
    | 1, _ => exact use 1 _ ok1 cs h hn
    | 2, _ => exact use 2 _ ok2 cs h hn
    | 3, _ => exact use 3 _ ok3 cs h hn
    | 4, _ => exact use 4 _ ok4 cs h hn
    | 5, _ => exact use 5 _ ok5 cs h hn
    | 6, _ => exact use 6 _ ok6 cs h hn
    | n + 7, q => exact absurd q (by omega)
  match cs, h, hl, h6 with
  | [], _, _, h6 => exact absurd (Nat.zero_le _) h6
  | a :: cs, h, hl, h6 =>
    have ha := h a (.head _)
    have h1 : ∀ c ∈ cs, c = 40 ∨ c = 41 := fun c hc => h c (.tail _ hc)
    simp only [List.length_cons] at hl h6
    by_cases h7 : cs.length = 6
    · rcases ha with rfl | rfl
      · exact use 6 _ ok70 cs h1 h7
      · exact use 6 _ ok71 cs h1 h7
    match cs, h1, hl, h6, h7 with
    | [], _, _, h6, _ => exact absurd h6 (by simp)
    | b :: cs, h1, hl, h6, h7 =>
      have hb := h1 b (.head _)
      have h2 : ∀ c ∈ cs, c = 40 ∨ c = 41 := fun c hc => h1 c (.tail _ hc)
      simp only [List.length_cons] at hl h6 h7
      by_cases h8 : cs.length = 6
      · rcases ha with rfl | rfl <;> rcases hb with rfl | rfl
        · exact use 6 _ ok800 cs h2 h8
        · exact use 6 _ ok801 cs h2 h8
        · exact use 6 _ ok810 cs h2 h8
        · exact use 6 _ ok811 cs h2 h8
      match cs, h2, hl, h6, h7, h8 with
      | [], _, _, h6, _, _ => exact absurd h6 (by simp)
      | c :: cs, h2, hl, h6, h7, h8 =>
        have hc := h2 c (.head _)
        have h3 : ∀ c ∈ cs, c = 40 ∨ c = 41 := fun d hd => h2 d (.tail _ hd)
        simp only [List.length_cons] at hl h6 h7 h8
        have h9 : cs.length = 6 := by omega
        rcases ha with rfl | rfl <;> rcases hb with rfl | rfl <;> rcases hc with rfl | rfl
        · exact use 6 _ ok9000 cs h3 h9
        · exact use 6 _ ok9001 cs h3 h9
        · exact use 6 _ ok9010 cs h3 h9
        · exact use 6 _ ok9011 cs h3 h9
        · exact use 6 _ ok9100 cs h3 h9
        · exact use 6 _ ok9101 cs h3 h9
        · exact use 6 _ ok9110 cs h3 h9
        · exact use 6 _ ok9111 cs h3 h9

/-! ### the text of the law -/
theorem text_flat (ns : List Int) : (textF ns).cps.toList = ((ns.take 7).map fun a => (pieceF a).cps.toList).flatten ++ [40, 41] := by
  unfold textF
  rw [Str.cps_append, Array.toList_append, txtjoin_flat]
  unfold flatS
  rw [List.map_map]
  rfl
theorem text_facts (ns : List Int) : mB (textF ns).cps.toList ≤ 9 ∧ (∀ c ∈ (textF ns).cps.toList, c < 128) ∧ (textF ns).length ≤ 23 := by
  have hp : ∀ a : Int, mB (pieceF a).cps.toList ≤ 1 ∧ (∀ c ∈ (pieceF a).cps.toList, c < 128) ∧ (pieceF a).cps.toList.length ≤ 3 := fun a => by
    have h : ∀ y ∈ [Str.ofString "(", Str.ofString ")", Str.ofString "a", Str.ofString "\"", Str.ofString "\\", Str.ofString "\"(", Str.ofString ")\\)"], mB y.cps.toList ≤ 1 ∧ (∀ c ∈ y.cps.toList, c < 128) ∧ y.cps.toList.length ≤ 3 := by decide
    exact h _ (piece_mem a)
  have hj : ∀ l : List Int, mB ((l.map fun a => (pieceF a).cps.toList).flatten) ≤ l.length ∧ (∀ c ∈ (l.map fun a => (pieceF a).cps.toList).flatten, c < 128) ∧ ((l.map fun a => (pieceF a).cps.toList).flatten).length ≤ 3 * l.length := by
    intro l
    induction l with
    | nil => exact ⟨Nat.le_refl _, fun c hc => by simp at hc, Nat.le_refl _⟩
    | cons a l ih =>
      obtain ⟨p1, p2, p3⟩ := hp a
      obtain ⟨i1, i2, i3⟩ := ih
      rw [List.map_cons, List.flatten_cons]
      refine ⟨?_, fun c hc => ?_, ?_⟩
      · have := mB_app (pieceF a).cps.toList ((l.map fun a => (pieceF a).cps.toList).flatten)
        rw [List.length_cons]; omega
      · rcases List.mem_append.mp hc with hc | hc
        · exact p2 c hc
        · exact i2 c hc
      · rw [List.length_append, List.length_cons]; omega
  obtain ⟨j1, j2, j3⟩ := hj (ns.take 7)
  have h7 : (ns.take 7).length ≤ 7 := by rw [List.length_take]; omega
  have hl : (textF ns).length = (textF ns).cps.toList.length := by simp [Str.length]
  rw [hl, text_flat]
  refine ⟨?_, fun c hc => ?_, ?_⟩
  · have := mB_app (((ns.take 7).map fun a => (pieceF a).cps.toList).flatten) [40, 41]
    have e : mB [40, 41] = 2 := by decide
    omega
  · rcases List.mem_append.mp hc with hc | hc
    · exact j2 c hc
    · simp at hc; omega
  · rw [List.length_append]
    show _ + 2 ≤ 23
    omega
theorem all_ascii {x : Str} (h : ∀ c ∈ x.cps.toList, c < 128) : x.cps.all (· < 128) = true := by
  rw [← Array.all_toList, List.all_eq_true]
  intro c hc
  exact decide_eq_true (h c hc)
theorem law_pure (ns : List Int) (n : Nat) : OkT (cut (textF ns) 0 n) := by
  obtain ⟨f1, f2, f3⟩ := text_facts ns
  have hcut : (cut (textF ns) 0 n).cps.toList = (textF ns).cps.toList.take n := by
    rw [cut_seg]; unfold segL; simp
  have hmem : ∀ c ∈ (cut (textF ns) 0 n).cps.toList, c < 128 := fun c hc => by
    rw [hcut] at hc; exact f2 c (List.mem_of_mem_take hc)
  have hlen : (cut (textF ns) 0 n).length ≤ 23 := Nat.le_trans (cut_len _ _ _) f3
  generalize hX : cut (textF ns) 0 n = x at *
  have hxl : x.length = x.cps.toList.length := by simp [Str.length]
  have hsl : (stripF x).length = (stripF x).cps.toList.length := by simp [Str.length]
  have hul : (unitL x.cps.toList).flatten = x.cps.toList := unitL_flat _
  have hzl : (seenF x).length = (seenF x).cps.toList.length := by simp [Str.length]
  have sub := outL_sub (unitL x.cps.toList) ((unitL x.cps.toList).count [34] / 2 * 2) false
  rw [← seen_out] at sub
  have h9 : (seenF x).cps.toList.length ≤ 9 := by
    have h1 := sub.1
    rw [brL_nB, hcut] at h1
    have h2 := nB_take n false (textF ns).cps.toList
    have h3 := nB_le false (textF ns).cps.toList
    omega
  have hok := ok_all _ sub.2 h9
  refine ⟨all_ascii hmem, by omega, all_ascii fun c hc => ?_, ?_, by omega, ?_⟩
  · rw [strip_flat] at hc
    have := (keepL_mem (unitL x.cps.toList)).1 c hc
    rw [hul] at this
    exact hmem c this
  · rw [hsl, strip_flat]
    have := (keepL_len (unitL x.cps.toList)).1
    rw [hul] at this
    omega
  · unfold okF at hok
    rw [hzl]
    cases hs : sortedF 60 (seenF x).cps.toList.length (needsF (seenF x).cps.toList) with
    | none => rw [hs] at hok; cases hok
    | some p =>
      obtain ⟨ring, order⟩ := p
      rw [hs] at hok
      simp only [Bool.and_eq_true, beq_iff_eq] at hok
      obtain ⟨hb, hr⟩ := hok
      refine ⟨ring, order, rfl, by rw [check_seen, hb], fun h0 => ?_, fun h0 => ?_⟩
      · subst h0
        simpa using hr
      · cases ring with
        | nil => exact absurd rfl h0
        | cons a t =>
          simp only [List.isEmpty_cons, Bool.false_eq_true, if_false, Bool.and_eq_true, decide_eq_true_eq] at hr
          obtain ⟨hr1, hr2⟩ := hr
          unfold ringOk at hr2
          simp only [Bool.and_eq_true, beq_iff_eq] at hr2
          obtain ⟨hl, ha⟩ := hr2
          obtain ⟨r, hr⟩ := List.getLast?_eq_some_iff.mp hl
          refine ⟨a, r, by rw [hr], hr1, fun p hp => ?_⟩
          exact List.all_eq_true.mp ha p hp
theorem St.lints' {h₀ : Heap} {g : Array GenState} {os : OsState} {L a : Addr} {m : Loc} {H : Led} {s : Shared} (S : St h₀ g os L m (upd H a (listO [])) s) : St h₀ g os L m (upd (upd H a (listO [])) a (intsO [])) s := S.lints (upd_same _ _ _)
theorem ints_ex : ∀ ns : List Int, IntsAre (ns.map fun k => Value.int k 0) ns
  | [] => .nil
  | k :: ns => .cons k 0 (ints_ex ns)
theorem ints_wit (ns : List Int) {P : OP} (h : ∀ o : Obj, o.cls = .type "list" → (∃ xs n, o.data = .seq xs n) → ¬ P o) : ∃ o, intsO ns o ∧ ¬ P o :=
  ⟨_, ⟨_, 0, ints_ex ns, rfl⟩, h _ rfl ⟨_, _, rfl⟩⟩
theorem wit_cell {v : Option Value} (o : Obj) (_ : o.cls = .type "list") (h : ∃ xs n, o.data = .seq xs n) : ¬ cellO v o := fun q => by
  obtain ⟨xs, n, e⟩ := h
  have q' : o.data = .cell v := q
  rw [e] at q'; cases q'
theorem wit_range {x left : Int} (o : Obj) (h : o.cls = .type "list") (_ : ∃ xs n, o.data = .seq xs n) : ¬ rangeIterO x left o := fun q => by
  have q' : o = _ := q
  rw [q'] at h; simp at h
theorem wit_tup {vs : List Value} (o : Obj) (h : o.cls = .type "list") (_ : ∃ xs n, o.data = .seq xs n) : ¬ tupO vs o := fun ⟨n, q⟩ => by
  rw [q] at h; simp at h
theorem pairs_ints_ne {H : Led} {vn : List Value} {ps : List (Int × Int)} {a : Int} {t : List Int} (hp : PairsAre H vn ps) : ∃ o, intsO (a :: t) o ∧ ¬ listO vn o := by
  refine ⟨_, ⟨_, 0, ints_ex _, rfl⟩, fun ⟨n, q⟩ => ?_⟩
  have e := congrArg Obj.data q
  simp only [W.listOf, List.map_cons] at e
  have e' : (Value.int a 0 :: t.map fun k => Value.int k 0) = vn := by simpa using (Data.seq.inj e).1
  subst e'
  cases ps with
  | nil => exact hp
  | cons p ps =>
    obtain ⟨⟨t', ta, tb, h, _⟩, _⟩ := hp
    cases h

set_option maxHeartbeats 8000000 in
theorem law_holds : PySem.Challenge.rw_mq0348_01.Holds := hd (by
  lge_go0
  rename Fr _ _ _ _ => F0
  rename News _ _ _ _ => N0
  rename Based _ _ _ _ _ => B0
  rename BMod _ _ _ _ _ => M0
  rename IntsAre _ _ => I0
  rename Heap.IsList _ _ _ => L0
  rename Top _ _ _ _ _ _ => T0
  rename Frag.In _ _ => KX
  rename (_ = #[]) => hg
  rename (_ = Data.cell _) => hcell
  rename (¬ _ < _) => h63
  refine law_names L0 I0 fun sb sl vs ns e1 e2 e3 e4 => ?_
  subst e1; subst e2; subst e3; subst e4
  have hc1 := hcell.trans (show _ = Data.cell none from rfl)
  clear hcell
  refine law_in F0 N0 hc1 hg rfl ?_
  intro s0 S0
  clear N0 hc1
  generalize hm0 : bindL _ _ _ = m0 at F0 S0
  have hm : m0 (Str.ofString "script") = some (.ref sl) := by rw [← hm0]; rfl
  clear hm0 F0
  dsimp only at S0
  dsimp only
  simp only [envOfC_eq]
  generalize hce : cellsFrom _ _ _ = ce
  have hce' : ce = [(Str.ofString "needs", sb.heap.objs.size + 1)] := by rw [← hce]; rfl
  subst hce'
  clear hce
  have Bs0 : Bs _ sb.heap := ⟨KX, ⟨_, _, _, _, topRead_of T0⟩⟩
  refine wpAny_execs_cons ?_
  refine wpAny_Assign_Name ?_ (by rfl)
  repeat walk_at "tx"
  rename_i t1 s1 S1
  refine GeneratorExp_intsF (L := sb.heap.objs.size) (m := m0) (pz := fun _ => true) (d := fun a => .str (pieceF a)) B0 M0 (by rfl) (by rfl) rfl rfl (by rfl) (by decide) (by rfl) (by rfl) rfl (by simp only [depth_deeper]; decide) ?_ (by intro _; rfl)
  refine r_slice ?_
  refine r_nl S1 hm ?_ rfl (by rfl) (by decide)
  refine r_part_none ?_
  refine r_part_some ?_
  refine r_ci S1 ?_
  intro t2 s2 S2
  have hvl := ints_len I0
  have hn63 : ns.length ≤ 63 := by omega
  refine ⟨sl, vs.toArray, none, some 7, rfl, L0.at fun o e => S2.inv.keep _ _ e, by rw [List.size_toArray, sizeLine_eq]; omega, .none, .int _ _, ?_⟩
  have I1 := S2.inv.grow (h' := s2.heap.push { cls := .type "slice", data := .fields #[.none, .int 7 t2, .none] }) fun _ _ q => Heap.get?_push_of_some _ q
  have I2 := I1.push { cls := .type "list", data := .seq (slicePick vs.toArray none (some 7) none) } (P := listO (slicePick vs.toArray none (some 7) none).toList) ⟨0, by simp [W.listOf]⟩
  have q1 := I1.fresh
  rw [Heap.size_push] at I2 q1
  have S3 : St _ _ _ _ _ _ { s2 with heap := (s2.heap.push { cls := .type "slice", data := .fields #[.none, .int 7 t2, .none] }).push { cls := .type "list", data := .seq (slicePick vs.toArray none (some 7) none) } } := ⟨I2, S2.gens, S2.os⟩
  have kc3 : ∃ o, _ ∧ _ := S3.inv.own (sb.heap.objs.size + 1) (cellO none) (upd_of (led_ne q1 (upd_same _ _ _)) (upd_same _ _ _))
  obtain ⟨oc, hoc, hdc⟩ := kc3
  have hcP : ∀ {c P : Addr} {ps : Array Value}, Based sb.heap sb.heap c P ps → P < sb.heap.objs.size := fun B => Heap.lt_size B.tab.2
  have hPlt := hcP B0
  refine ⟨_, _, ns.take 7, sb.heap.objs.size + 1, rfl, S3.isList (upd_same _ _ _), slice_ints_uptoW I0 (by decide), S3.inv.fr, by rw [S3.gens]; intro y hy; simp at hy, (topRead_of T0).nolimit.keeps S3.inv.keep, Nat.le_succ _, Heap.lt_size hoc, ?_, ?_, ?_⟩
  · intro c' C A' E' a t u m₂ hA hD hU ha hF hmx hLC hk
    exact wpAny_tests_nil ⟨rfl, u.heap, u.toks, rfl, fun _ _ e => e⟩
  · intro c' C A' E' a t u m₂ hA hD hU ha _ hF hmx hLC hk
    exact leaf9 hF.ns hmx rfl (by rfl) (by decide)
  intro c' ga s₅ B5 F5 G5 hos5 hk5 X5
  have hcne : sb.heap.objs.size + 1 ≠ _ := Nat.ne_of_gt (Nat.lt_succ_of_lt hPlt)
  have S5 := led1_start F5 ⟨oc, hk5 _ _ hcne hoc, hdc⟩ (get_regrown_none (Nat.le_succ _)) (Nat.succ_ne_self _)
  repeat walk_at "tx"
  refine join_genK F5 G5 X5 (Nat.le_succ _) (join_few ns) ?_ (by rw [List.length_take, sizeLine_eq]; omega)
  intro s₆ t₆ F6 G6 hos6 hk6
  have S6 := led1_start F6 ⟨oc, hk6 _ _ (Nat.le_refl _) (hk5 _ _ hcne hoc), hdc⟩ (get_regrown_none (Nat.le_succ _)) (Nat.succ_ne_self _)
  have T1 := PyProof.Rows.LGe.top_regrown F6 (topRead_of T0) B0
  have K1 := LGeL.in_regrown F6 KX (topRead_of T0) B0 (by kernel_rfl)
  have hos := hos6.trans (hos5.trans S2.os)
  rw [hos] at S6
  have hnf : (List.take 7 ns).filter (fun _ => true) = List.take 7 ns := by simp
  rw [hnf]
  have Bs1 : Bs _ _ := ⟨K1, ⟨_, _, _, _, T1⟩⟩
  generalize regrown sb.heap _ _ = hb at *
  clear S0 S1 S2 S3 S5 I1 I2 q1 hoc hdc hk5 hk6 F5 F6 X5 T1 K1 hos5 hos6 G5 hos hcne hcP hPlt
  repeat walk_at "tx"
  rename_i t7 s7 S7
  have hjl : (Txt.join (Str.ofString "") ((List.take 7 ns).map pieceF)).length ≤ 800 := by
    have h := (text_facts ns).2.2
    unfold textF at h
    rw [str_len_add] at h
    omega
  refine r_tadd S7 (by show _ + 2 ≤ _; omega) ?_
  intro t8 s8 S8
  generalize hX : Txt.join (Str.ofString "") ((List.take 7 ns).map pieceF) ++ Str.ofString "()" = X at *
  have hXt : X = textF ns := hX.symm
  have HP : ∀ n : Nat, n ≤ X.length → OkT (cut X 0 n) := fun n _ => by rw [hXt]; exact law_pure ns n
  have hXl : X.length ≤ 900 := by
    have h := (text_facts ns).2.2
    rw [hXt]; omega
  clear hX S7 S6 hjl
  repeat walk_at "tx"
  rename_i t9 s9 S9
  generalize sb.heap.objs.size + 1 = c at S9 ⊢
  refine r_range S9 ?_
  intro rg s10 hrg hrgL S10
  refine r_iter_range S10 (upd_same _ _ _) (by omega) (by omega) ?_
  intro it s11 hit hitL S11
  obtain ⟨hitr, hit⟩ := upd_none hit
  obtain ⟨n, i, v, g₁, H₁, m₁, tx, hn, hbare, ki, kc, hx1, S12⟩ : ∃ (n i : Nat) (v : Option Value) (g₁ : Array GenState) (H₁ : Led) (m₁ : Loc) (tx : Tok), n + i = X.length + 1 ∧ Bare g₁ ∧ H₁ it = some (rangeIterO i n) ∧ H₁ c = some (cellO v) ∧ m₁ (Str.ofString "text") = some (.str X tx) ∧ St hb g₁ sb.os sb.heap.objs.size m₁ H₁ s11 := by
    refine ⟨X.length + 1, 0, none, _, _, _, t8, rfl, G6, upd_same _ _ _, ?_, ?_, S11⟩
    · exact upd_of (led_ne hit (upd_same _ _ _)) (upd_of (led_ne hrg (upd_same _ _ _)) (upd_same _ _ _))
    · walk_at "lk"
  clear S9 S10 S11 hrg hit G6
  induction n generalizing i v g₁ H₁ m₁ tx s11 with
  | zero =>
    refine r_for1 ?_
    refine r_end_range rfl S12 ki (by simp) ?_
    intro s13 S13
    repeat walk_at "tx"
    exact goodWG_reads B5 S13.inv.fr (by rw [S13.gens]; exact hbare) (raisesW_false (by wrow_none_raised)) (.bool true) unshared_nil (postW_of (by wrow_shape) (by wtm_val) (by rfl)) S13.os
  | succ n ih =>
    have hin : i ≤ X.length := by omega
    obtain ⟨pa, pl, psa, psl, pz, ring, order, hrun, hchk, hr0, hr1⟩ := HP i hin
    have hcit : c ≠ it := kind_ne kc ki ⟨_, rfl, fun q => by cases q⟩
    refine r_for1 ?_
    refine r_next_range S12 ki (by omega) ?_
    intro ti s13 S13
    have kc' : upd H₁ it (rangeIterO (i + 1) ((n + 1 : Nat) - 1)) c = some (cellO v) := upd_of hcit kc
    have ki' : upd H₁ it (rangeIterO (i + 1) ((n + 1 : Nat) - 1)) it = some (rangeIterO ((i + 1 : Nat) : Int) n) := by
      rw [show ((n + 1 : Nat) : Int) - 1 = (n : Int) from by omega]; exact upd_same _ _ _
    generalize upd H₁ it (rangeIterO (i + 1) ((n + 1 : Nat) - 1)) = H₂ at *
    repeat walk_at "tx"
    refine r_tslice_ns (by assumption) (by omega) (by omega) (by omega) ?_
    intro t14 s14 S14
    rw [Int.toNat_natCast]
    repeat walk_at "tx"
    refine r_call (law_seen Bs1 S14 (by simp only [depth_deeper]; decide) rfl pa pl ?_)
    intro H₃ t15 s15 hk15 S15
    show wpAny _ _ _ _ _ _
    have kc15 := hk15 _ _ kc'
    have ki15 := hk15 _ _ ki'
    repeat walk_at "tx"
    refine r_call (law_needs Bs1 (by assumption) (by simp only [depth_deeper]; decide) rfl (by omega) ?_)
    intro nl H₄ s16 vn hnl hnp hk16 S16
    show wpAny _ _ _ _ _ _
    have kc16 := hk16 _ _ kc15
    have ki16 := hk16 _ _ ki15
    refine e_stc S16 (by rfl) kc16 ?_ rfl (by rfl)
    intro s17 S17
    have hnlc : nl ≠ c := kind_ne hnl kc16 ⟨{ cls := .none, data := .cell v }, rfl, fun ⟨n, q⟩ => by cases q⟩
    have kn17 := upd_of (P := cellO (some (.ref nl))) hnlc hnl
    have kc17 := upd_same H₄ c (cellO (some (.ref nl)))
    have ki17 := upd_of (P := cellO (some (.ref nl))) (Ne.symm hcit) ki16
    have hnp17 : PairsAre (upd H₄ c (cellO (some (.ref nl)))) vn (needsF (seenF (cut X 0 i)).cps.toList) := hnp.keep fun a p q ta tb e => upd_of (kind_ne e kc16 ⟨{ cls := .none, data := .cell v }, rfl, fun ⟨n, q⟩ => by cases q⟩) e
    have hnlen := needs_len (seenF (cut X 0 i)).cps.toList
    have hslen : (seenF (cut X 0 i)).cps.toList.length = (seenF (cut X 0 i)).length := by simp [Str.length]
    generalize upd H₄ c (cellO (some (.ref nl))) = H₅ at *
    repeat walk_at "tx"
    refine Assign_Tuple ?_ (by rfl) (by rfl)
    repeat walk_at "tx"
    refine e_nc (by assumption) (by rfl) kc17 ?_ rfl (by rfl) (by decide)
    repeat walk_at "tx"
    refine r_call (law_sorted (outer := [_]) Bs1 (by assumption) (by simp only [depth_deeper]; decide) rfl (by rfl) (fun env he => by cases List.mem_singleton.mp he; exact ⟨(fun q => by cases q), _, rfl, .inl rfl⟩) kn17 hnp17 (by rw [hslen] at hnlen; omega) hrun ?_)
    intro H₆ ct rl ol s18 kct krl kol hk18 S18
    show wpAny _ _ _ _ _ _
    have kc18 := hk18 _ _ kc17
    have ki18 := hk18 _ _ ki17
    have kn18 := hk18 _ _ kn17
    have hnp18 := hnp17.mono fun a vs e => hk18 _ _ e
    refine r_unpack2 rfl S18 (v1 := .ref rl) (v2 := .ref ol) kct (by rfl) ?_
    intro s19 S19
    repeat walk_at "tx"
    refine r_tslice_ns (by assumption) (by omega) (by omega) (by omega) ?_
    intro t20 s20 S20
    rw [Int.toNat_natCast]
    repeat walk_at "tx"
    refine r_call (check_parenthesis Bs1 S20 (by simp only [depth_deeper]; decide) rfl pa pl psa psl (fun S h1 h2 h => strip_names Bs1 S h1 h2 pa pl h) ?_)
    intro g₂ H₇ s21 hb21 hk21 S21
    show wpAny _ _ _ _ _ _
    have kc21 := hk21 _ _ kc18
    have ki21 := hk21 _ _ ki18
    have kn21 := hk21 _ _ kn18
    have krl21 := hk21 _ _ krl
    have kol21 := hk21 _ _ kol
    have hnp21 := hnp18.mono fun a vs e => hk21 _ _ e
    have hbare2 := hb21 hbare
    rw [hchk]
    clear hk21 hk18 hk16 hk15 S20 S19 S18 S17 S16 S15 S14 S13 hnp18 hnp17 hnp kn18 kn17 hnl kc18 kc17 kc16 kc15 kc' ki18 ki17 ki16 ki15 ki' kct krl kol
    repeat walk_at "tx"
    rename_i le s22 hle hleL S22
    have hu : (4 + 3 : Nat) + 64 < cLine := by decide
    have eR : decide (ring = []) = ring.isEmpty := by cases ring <;> simp
    have S22' := S22.lints (upd_same _ _ _)
    have up1 : ∀ b P, H₇ b = some P → upd (upd H₇ le (listO [])) le (intsO []) b = some P := fun b P e => upd_of (led_ne hle e) (upd_of (led_ne hle e) e)
    refine r_leq S22' (up1 _ _ krl21) (upd_same _ _ _) hu ?_
    rw [eR]
    refine wpAny_isNot_self rfl ?_
    have kc22 := up1 _ _ kc21
    have ki22 := up1 _ _ ki21
    have kn22 := up1 _ _ kn21
    have krl22 := up1 _ _ krl21
    have kol22 := up1 _ _ kol21
    have hnp22 := hnp21.mono fun a vs e => up1 _ _ e
    generalize upd (upd H₇ le (listO [])) le (intsO []) = H₈ at *
    clear S21 S22 up1 hnp21 kc21 ki21 kn21 krl21 kol21 hle hleL
    repeat walk_at "tx"
    rename_i le2 s23 hle2 hle2L S23
    have S23' := S23.lints (upd_same _ _ _)
    have up2 : ∀ b P, H₈ b = some P → upd (upd H₈ le2 (listO [])) le2 (intsO []) b = some P := fun b P e => upd_of (led_ne hle2 e) (upd_of (led_ne hle2 e) e)
    refine r_leq S23' (up2 _ _ krl22) (upd_same _ _ _) hu ?_
    have kc23 := up2 _ _ kc22
    have ki23 := up2 _ _ ki22
    have kn23 := up2 _ _ kn22
    have krl23 := up2 _ _ krl22
    have kol23 := up2 _ _ kol22
    have hnp23 := hnp22.mono fun a vs e => up2 _ _ e
    generalize upd (upd H₈ le2 (listO [])) le2 (intsO []) = H₉ at *
    clear S23 up2 hnp22 kc22 ki22 kn22 krl22 kol22 hle2 hle2L S22'
    rcases ring with _ | ⟨a, rs⟩
    · have h0 := hr0 rfl
      subst h0
      rw [show decide (([] : List Int) = []) = true from rfl]
      repeat walk_at "tx"
      refine r_range (by assumption) ?_
      intro rg2 s24 hrg2 hrg2L S24
      repeat walk_at "tx"
      refine r_list_range (n := (seenF (cut X 0 i)).length + 1) rfl S24 (upd_same _ _ _) (by omega) ?_
      intro lr s25 hlr hlrL S25
      have up3 : ∀ b P, H₉ b = some P → upd (upd H₉ rg2 (rangeO ((seenF (cut X 0 i)).length + 1))) lr (intsO (rangeL ((seenF (cut X 0 i)).length + 1))) b = some P := fun b P e => by
        have e' := upd_of (P := rangeO ((seenF (cut X 0 i)).length + 1)) (led_ne hrg2 e) e
        exact upd_of (led_ne hlr e') e'
      have klr := upd_same (upd H₉ rg2 (rangeO ((seenF (cut X 0 i)).length + 1))) lr (intsO (rangeL ((seenF (cut X 0 i)).length + 1)))
      have kc24 := up3 _ _ kc23
      have ki24 := up3 _ _ ki23
      have krl24 := up3 _ _ krl23
      have kol24 := up3 _ _ kol23
      generalize upd (upd H₉ rg2 (rangeO ((seenF (cut X 0 i)).length + 1))) lr (intsO (rangeL ((seenF (cut X 0 i)).length + 1))) = H₁₀ at *
      clear S24 S23' up3
      repeat walk_at "tx"
      refine r_lne S25 kol24 klr hu ?_
      rw [show (!decide (rangeL ((seenF (cut X 0 i)).length + 1) = rangeL ((seenF (cut X 0 i)).length + 1))) = false from by simp]
      repeat walk_at "tx"
      rename_i le3 s26 hle3 hle3L S26
      refine r_lne S26.lints' (upd_of (led_ne hle3 krl24) (upd_of (led_ne hle3 krl24) krl24)) (upd_same _ _ _) hu ?_
      rw [show (!decide (([] : List Int) = [])) = false from rfl]
      repeat walk_at "tx"
      exact ih (S12 := S26) (i := i + 1) (hn := by omega) (hbare := hbare2) (ki := upd_of (led_ne hle3 ki24) ki24) (kc := upd_of (led_ne hle3 kc24) kc24) (hx1 := by walk_at "lk")
    · obtain ⟨a', r, hra, hrl, hall⟩ := hr1 (by simp)
      obtain ⟨rfl, rfl⟩ := List.cons.inj hra
      rw [show decide ((a :: (r ++ [a]) : List Int) = []) = false from rfl]
      repeat walk_at "tx"
      rename_i le3 s24 hle3 hle3L S24
      have up3 : ∀ b P, H₉ b = some P → upd (upd H₉ le3 (listO [])) le3 (intsO []) b = some P := fun b P e => upd_of (led_ne hle3 e) (upd_of (led_ne hle3 e) e)
      have S24' := S24.lints'
      refine r_lne S24' (up3 _ _ krl23) (upd_same _ _ _) hu ?_
      rw [show (!decide ((a :: (r ++ [a]) : List Int) = [])) = true from rfl]
      have kc24 := up3 _ _ kc23
      have ki24 := up3 _ _ ki23
      have kn24 := up3 _ _ kn23
      have krl24 := up3 _ _ krl23
      have hnp24 := hnp23.mono fun a vs e => up3 _ _ e
      generalize upd (upd H₉ le3 (listO [])) le3 (intsO []) = H₁₀ at *
      clear S24 S23' up3 hle3 hle3L
      obtain ⟨vr, hvr, S25⟩ := S24'.ints krl24
      obtain ⟨vt, ta, rfl, hvt⟩ : ∃ vt ta, vr = .int a ta :: vt ∧ IntsAre vt (r ++ [a]) := by
        cases hvr with
        | cons _ t h => exact ⟨_, t, rfl, h⟩
      obtain ⟨us, tb, rfl, hus⟩ := ints_split hvt
      have hrlc : c ≠ rl := kind_ne kc24 krl24 (ints_wit _ wit_cell)
      have hrli : it ≠ rl := kind_ne ki24 krl24 (ints_wit _ wit_range)
      have kc25 := upd_of (P := listO (.int a ta :: (us ++ [.int a tb]))) hrlc kc24
      have ki25 := upd_of (P := listO (.int a ta :: (us ++ [.int a tb]))) hrli ki24
      have krl25 := upd_same H₁₀ rl (listO (.int a ta :: (us ++ [.int a tb])))
      have hnrl : nl ≠ rl := kind_ne kn24 krl24 (pairs_ints_ne hnp24)
      have kn25 := upd_of (P := listO (.int a ta :: (us ++ [.int a tb]))) hnrl kn24
      have hnp25 : PairsAre (upd H₁₀ rl (listO (.int a ta :: (us ++ [.int a tb])))) vn (needsF (seenF (cut X 0 i)).cps.toList) := hnp24.keep fun a p q ta tb e => upd_of (kind_ne e krl24 (ints_wit _ wit_tup)) e
      generalize upd H₁₀ rl (listO (.int a ta :: (us ++ [.int a tb]))) = H₁₁ at *
      clear S24' hnp24 kn24 krl24 ki24 kc24
      have hl25 := S25.isList krl25
      have husl := ints_len hus
      simp only [List.length_cons, List.length_append, List.length_nil] at hrl
      repeat walk_at "py"
      rename_i t26 s26 S26
      refine tail_any (S26.isList krl25).typeIs slot_list_getitem.lookup (wpAny_getItem_list (x := .int a ta) (S26.isList krl25) (by decide) (by decide) (by rfl) ?_) (by rfl)
      repeat walk_at "py"
      rename_i t27 s27 S27
      refine r_last (vs := .int a ta :: us) (v := .int a tb) S27 krl25 (by simp only [List.length_cons]; omega) ?_ (by rfl)
      repeat walk_at "py"
      rw [if_neg (by simp)]
      repeat walk_at "py"
      refine r_len_list S27 krl25 (by simp only [List.length_cons, List.length_append, List.length_nil]; omega) ?_
      intro t28 s28 S28
      repeat walk_at "py"
      rw [if_neg (by simp only [List.length_cons, List.length_append, List.length_nil, decide_eq_true_eq]; omega)]
      repeat walk_at "py"
      rename_i t29 s29 S29
      refine r_comp (fun _ => rfl) (by rfl) rfl (by decide) ?_
      repeat walk_at "py"
      rename_i sl1 s30 hsl1 hsl1L S30
      have hvr : IntsAre (Value.int a ta :: (us ++ [Value.int a tb])) (a :: (r ++ [a])) := .cons a ta (ints_snoc hus a tb)
      have hsl := slice_ints_fromW hvr (x := 1) (by decide)
      generalize (slicePick (Value.int a ta :: (us ++ [Value.int a tb])).toArray (some 1) none none).toList = vsl at *
      have hupS : ∀ b P, H₁₁ b = some P → upd H₁₁ sl1 (listO vsl) b = some P := fun b P e => upd_of (led_ne hsl1 e) e
      refine r_zip S30 (upd_same _ _ _) (hupS _ _ krl25) ?_
      intro z TI TO i1 i2 H₁₂ s31 sub31 none31 hzL Z S31
      refine comp_zip (H₀ := upd H₁₁ sl1 (listO vsl)) (c1 := c) (nl := nl) (ps := needsF (seenF (cut X 0 i)).cps.toList) rfl hu S31 Z sub31 hsl hvr (by decide) rfl (by rfl) (by intro D; rfl) (by intro D; rfl) (by rfl) (hupS _ _ kc25) (hupS _ _ kn25) (hnp25.mono fun a vs e => hupS _ _ e) (upd_same _ _ _) (hupS _ _ krl25) (fun p hp => hall p hp) ?_
      intro acc H₁₃ s32 haccL kacc sub32 S32
      have upz : ∀ b P, H₁₁ b = some P → H₁₃ b = some P := fun b P e => sub32 _ _ (hupS _ _ e)
      have ki32 := upz _ _ ki25
      have kc32 := upz _ _ kc25
      repeat walk_at "py"
      rename_i le4 s33 hle4 hle4L S33
      have e1 : upd (upd H₁₃ le4 (listO [])) le4 (intsO []) acc = some (listO []) := upd_of (led_ne hle4 kacc) (upd_of (led_ne hle4 kacc) kacc)
      have S34 := S33.lints'.lints e1
      refine r_lne S34 (upd_same _ _ _) (upd_of (led_ne hle4 kacc).symm (upd_same _ _ _)) hu ?_
      rw [show (!decide (([] : List Int) = [])) = false from rfl]
      repeat walk_at "py"
      exact ih (S12 := S33) (i := i + 1) (hn := by omega) (hbare := hbare2) (ki := upd_of (led_ne hle4 ki32) ki32) (kc := upd_of (led_ne hle4 kc32) kc32) (hx1 := by walk_at "lk"))

end Mine
theorem PySem.Challenge.cw_mq0348_01_holds : PySem.Challenge.rw_mq0348_01.Holds :=
  Mine.law_holds
